import JvmDerived
import JvmDerived.Pilot.@@N@@Statement
import JvmDerived.Pilot.@@N@@Code
set_option linter.unusedVariables false
set_option linter.unusedSimpArgs false
namespace Jvm.RoadKit
open Sem ClassFile Op Lib Jvm.Stand Jvm.Free Jvm.LawKit
section New
variable {p : Program} {l : Launch} {e : Env} {R : Room} {s : State} {m : MethodId} {args : Array Value} {below : List Frame} {meth : Method} {c : Code} {T : State} {locs : List Loc} {cells slots : Nat}
theorem retI (X : Stand p l e R s m args below meth c T locs cells slots) (hx : p.tables.exec = Jvm.exec) {pc : Nat} {Ls : Array Slot} {z : Int32} {rest : List Value} (hret : meth.sig.returnType = some .int) (hd : decode c.code pc = .ok (.ireturn, 1)) {fs : List Frame}
    (hl : ∀ (f : JFrame) (acts : List Action), f.method = m → f.locked = none → f.entered = [] → (doReturn e (T.setTop f) acts (some (.int z))).1 = T.setFrames fs) : Steps p.tables e below (T.setTop (mkF m pc Ls (.int z :: rest))) (T.setFrames fs) :=
  retOut X hx hret rfl (Or.inl ⟨rfl, Or.inl rfl, z, rfl⟩) hd hl
end New
end Jvm.RoadKit
namespace Jvm.Pilot.@@N@@
open Jvm Jvm.ClassFile Sem Op Lib Jvm.Free Jvm.Stand Jvm.LawKit Jvm.RoadKit Bundle Jvm.Pilot.@@N@@.Jvm.D
theorem own_selpriv {s : State} {args : Array Value} {y : MethodName} {n : Nat} (hins : (Jvm.Cond.instantiable y.cls n).before args s = true) (hpriv : (Jvm.Cond.privateMethod y).before args s = true) (hinst : (Jvm.Cond.instanceMethod y).before args s = true) (hy : y.cls ≠ "java/lang/invoke/MethodHandle" ∧ y.cls ≠ "java/lang/invoke/VarHandle") :
    (Jvm.Cond.selects y.cls y y).before args s = true := by
  obtain ⟨c, k, hc, hk, -, hniab, -, -⟩ := Cond.instantiable_spec hins
  have hni : k.isInterface = false := (Bool.or_eq_false_iff.mp hniab).1
  obtain ⟨mk, methM, hnamed, hmethM, -, -⟩ := Cond.instanceMethod_spec hinst
  have hfound : s.methodFound? y.cls y.name y.desc = some mk := State.methodFound?_of_named hnamed hy
  have hcls : mk.cls = c := Option.some.inj ((findClass_of_methodNamed hnamed).symm.trans hc)
  have hsel : selectMethod {} s.vm c mk = .method mk := selectMethod_private hmethM (Cond.privateMethod_at hpriv mk methM hnamed hmethM)
  simp only [Cond.before, Cond.holds, Cond.value, hc, hfound, hnamed, hsel, hcls, hk]
  simp; exact hni
theorem own_nsE {Z : State} {h : Heap} {a : Addr} {C : String} (F : Exa Z h a C) : ∀ c : Cell, h[a]? = some c → c.vm.isStatics = false := by
  obtain ⟨c, k, h1, -, -, h4, -⟩ := F
  intro c' hc; cases h1.symm.trans hc; exact h4
theorem own_nsV {Z : State} {h : Heap} {a : Addr} {k : ClassId} {ty : FieldType} {z : Int32} {vs : List Value} {dv : Value} (F : Arv Z h a k ty z vs dv) : ∀ c : Cell, h[a]? = some c → c.vm.isStatics = false := by
  obtain ⟨c, A, -⟩ := F
  intro c' hc; cases A.1.symm.trans hc; exact A.plain
theorem own_stakeep {Z : State} {h h' : Heap} {C n d : String} {v : Value} {ws : List Addr} (F : Sta Z h C n d v) (K : Keep h h' ws) (q : ∀ x ∈ ws, ∀ c : Cell, h[x]? = some c → c.vm.isStatics = false) : Sta Z h' C n d v := by
  obtain ⟨cf, i, k, f, st, cell, h1, h2, h3, h4, h5, h6, h7⟩ := F
  refine ⟨cf, i, k, f, st, cell, h1, h2, h3, h4, K.2.1 _ _ h5 (fun hm => ?_), h6, h7⟩
  rw [q st hm cell h5] at h6; cases h6
theorem own_ex {args : Array Value} {s : State} {t : Term} {C : String} (h : (Jvm.Cond.exactly t C).value args s none s [] = some true) : ∃ a, t.eval args s none [] s = some (.ref a) ∧ Exa s s.heap a C := by
  obtain ⟨a, e1⟩ := exa_v h; exact ⟨a, e1, Exa.start e1 h⟩
theorem own_evI {args : Array Value} {s : State} {t : Term} {z : Int32} (h : (Jvm.Cond.eq t (.int z)).value args s none s [] = some true) : t.eval args s none [] s = some (.int z) := by
  cases hv : t.eval args s none [] s with
  | none => simp [Cond.value, hv] at h
  | some x => cases x <;> simp [Cond.value, Term.eval, hv] at h ⊢; exact h
theorem own_evJ {args : Array Value} {s : State} {t : Term} {z : Int64} (h : (Jvm.Cond.eq t (.long z)).value args s none s [] = some true) : t.eval args s none [] s = some (.long z) := by
  cases hv : t.eval args s none [] s with
  | none => simp [Cond.value, hv] at h
  | some x => cases x <;> simp [Cond.value, Term.eval, hv] at h ⊢; exact h
theorem own_fldV {args : Array Value} {s : State} {t : Term} {a : Addr} {C n d : String} {v : Value} (ev : t.eval args s none [] s = some (.ref a)) (h : (Term.field t C n d).eval args s none [] s = some v) : Fld s s.heap a C n d v := by
  refine Fld.start ?_
  rw [← fld_at (args := args) (first := s) (o := none) (idx := []) ev]; exact h
theorem own_lt (a b : Int32) : a < b ↔ a.toInt < b.toInt := Int32.lt_iff_toInt_lt
theorem own_le (a b : Int32) : a ≤ b ↔ a.toInt ≤ b.toInt := Int32.le_iff_toInt_le
theorem own_eqi (a b : Int32) : a = b ↔ a.toInt = b.toInt := Int32.toInt_inj.symm
theorem own_ltL (a b : Int64) : a < b ↔ a.toInt < b.toInt := Int64.lt_iff_toInt_lt
theorem own_eqL (a b : Int64) : a = b ↔ a.toInt = b.toInt := Int64.toInt_inj.symm
theorem own_evR {args : Array Value} {s : State} {t u : Term} {a : Addr} (h : (Jvm.Cond.eq t u).value args s none s [] = some true) (hu : u.eval args s none [] s = some (.ref a)) : t.eval args s none [] s = some (.ref a) := by
  cases hv : t.eval args s none [] s with
  | none => simp [Cond.value, hv] at h
  | some x => cases x <;> simp [Cond.value, hu, hv] at h ⊢; exact h
theorem own_len {args : Array Value} {s : State} {t : Term} {a : Addr} {cl : Cell} {z : Int32} (ev : t.eval args s none [] s = some (.ref a)) (hc : s.arrayAt? a = some cl) (h : (Term.length t).eval args s none [] s = some (.int z)) : cl.slots.size < 2 ^ 31 ∧ cl.slots.size.toInt32 = z := by
  by_cases q : cl.slots.size < 2147483648
  · simp [Term.eval, ev, hc, q] at h; exact ⟨q, h⟩
  · simp [Term.eval, ev, hc, q] at h
theorem own_ten (p : Int32) : ((p &&& (15 : Int32)) % (10 : Int32)) = (0 : Int32) ∨ ((p &&& (15 : Int32)) % (10 : Int32)) = (1 : Int32) ∨ ((p &&& (15 : Int32)) % (10 : Int32)) = (2 : Int32) ∨ ((p &&& (15 : Int32)) % (10 : Int32)) = (3 : Int32) ∨ ((p &&& (15 : Int32)) % (10 : Int32)) = (4 : Int32) ∨ ((p &&& (15 : Int32)) % (10 : Int32)) = (5 : Int32) ∨ ((p &&& (15 : Int32)) % (10 : Int32)) = (6 : Int32) ∨ ((p &&& (15 : Int32)) % (10 : Int32)) = (7 : Int32) ∨ ((p &&& (15 : Int32)) % (10 : Int32)) = (8 : Int32) ∨ ((p &&& (15 : Int32)) % (10 : Int32)) = (9 : Int32) := by
  have h := c_mask p 15 4 (by decide) (by decide)
  have q := (c_irem (p &&& (15 : Int32)) (10 : Int32) 10 rfl).1 (by rw [h]; omega)
  simp only [own_eqi]
  rw [q, h]
  rw [show (0 : Int32).toInt = 0 from rfl, show (1 : Int32).toInt = 1 from rfl, show (2 : Int32).toInt = 2 from rfl, show (3 : Int32).toInt = 3 from rfl, show (4 : Int32).toInt = 4 from rfl, show (5 : Int32).toInt = 5 from rfl, show (6 : Int32).toInt = 6 from rfl, show (7 : Int32).toInt = 7 from rfl, show (8 : Int32).toInt = 8 from rfl, show (9 : Int32).toInt = 9 from rfl]
  omega
def own_tab (p : Int32) : Int32 := if ((48 : Int32) + ((p &&& (15 : Int32)) % (10 : Int32))) = p then (1 : Int32) else (0 : Int32)
theorem pn_0 : plainName "com/example/oyster/oyster/engine/LiteralsIsDigitPinLaw" = true := by first | (simp [plainName, overriddenIn]; done) | decide +kernel
theorem pn_1 : plainName "java/lang/String" = true := by first | (simp [plainName, overriddenIn]; done) | decide +kernel
theorem ds1_0 : decode jdk_42_method_154_code 0 = .ok (.getstatic 38, 3) := by decide +kernel
theorem ds1_3 : decode jdk_42_method_154_code 3 = .ok (.ifCond .eq 14, 3) := by decide +kernel
theorem ds1_6 : decode jdk_42_method_154_code 6 = .ok (.aload_n 0, 1) := by decide +kernel
theorem ds1_7 : decode jdk_42_method_154_code 7 = .ok (.getfield 15, 3) := by decide +kernel
theorem ds1_10 : decode jdk_42_method_154_code 10 = .ok (.ifCond .ne 7, 3) := by decide +kernel
theorem ds1_13 : decode jdk_42_method_154_code 13 = .ok (.iconst 1, 1) := by decide +kernel
theorem ds1_14 : decode jdk_42_method_154_code 14 = .ok (.goto 4, 3) := by decide +kernel
theorem ds1_18 : decode jdk_42_method_154_code 18 = .ok (.ireturn, 1) := by decide +kernel
theorem ef_s1 (m : MethodId) (as1_0 : Addr) : entryFrame m #[(.ref as1_0)] 1 = mkF m 0 #[.val (.ref as1_0)] [] := by first | (simp [entryFrame, mkF, argsToLocals, Value.category]; done) | rfl
def Qs1 (Z : State) (as1_0 : Addr) (cs : Int32) (h0 : Heap) (n0 : Nat) (v : Option Value) (h : Heap) (L : List Loc) : Prop := v = some (.int (1 : Int32)) ∧ Fr n0 L ∧ h = h0
set_option maxRecDepth 65536 in
set_option maxHeartbeats 40000000 in
theorem rms1 (l : Launch) (Z : State) (a0 : Array Value) (hw : ∀ d ∈ tables_1, d.before a0 Z = true) (ws : List Jvm.Cond) (as1_0 : Addr) (cs : Int32) (h0 : Heap) (n0 : Nat) (Z0 : n0 ≤ h0.size) (Sc : Sta Z h0 "java/lang/String" "COMPACT_STRINGS" "Z" (.int cs)) (Fc : Fld Z h0 as1_0 "java/lang/String" "coder" "B" (.int (0 : Int32))) (hcs : ¬ (cs = (0 : Int32))) :
    MetFree l (⟨"java/lang/String", "isLatin1", "()Z"⟩ : MethodName) (head1 (Jvm.Cond.code (⟨"java/lang/String", "isLatin1", "()Z"⟩ : MethodName) jdk_42_method_154_code 1 (some .boolean) :: ws) ({ frames := 0, cells := 0, slots := 0, locals := 0 } : Room)) (fun a U => a = #[(.ref as1_0)] ∧ Z.Warmed39 U.vm ∧ U.heap = h0) (fun _ _ _ _ _ => True) (fun _ U o U' => ∃ v L, o = .returned v ∧ Qs1 Z as1_0 cs h0 n0 v U'.heap L ∧ FrameEnd U o U' L ({ frames := 0, cells := 0, slots := 0, locals := 0 } : Room).cells ({ frames := 0, cells := 0, slots := 0, locals := 0 } : Room).slots) := by
  refine MetFree.of_bodySF (plainFor_of_name pn_1) hisR ?_
  intro p e s m args below meth c s₁ Bd hml0 hP hK
  obtain ⟨rfl, hZ, hh⟩ := hP
  have hx := Bd.exec
  have hby := Bd.bytes
  have hml : c.maxLocals = 1 := hml0
  have hown : s.vm.findClass "java/lang/String" = some m.cls := findClass_of_methodNamed Bd.named
  have hnm := (name_of_methodNamed Bd.named Bd.method).1
  have X0 : Stand p l e ({ frames := 0, cells := 0, slots := 0, locals := 0 } : Room) s m #[(.ref as1_0)] below meth c s₁ [] 0 0 := Stand.of_body Bd
  have e0 : s₁.heap = h0 := by rw [← hh, Bd.state]; rfl
  have N0 := Fr.nil n0
  have pre0 : ∀ t, Steps p.tables e below (s₁.setTop (mkF m 0 #[.val (.ref as1_0)] [])) t → Steps p.tables e below (s₁.setTop (entryFrame m #[(.ref as1_0)] 1)) t := fun t k => castTop (ef_s1 m as1_0) k
  obtain ⟨T1, X1, e1, st1⟩ := getS2 X0 hx hZ hown (host := "") (Or.inl (hw _ (List.mem_of_getElem? (i := 23) rfl))) Via.refl e0 Sc (g := (mkF m 0 #[.val (.ref as1_0)] [])) rfl (hb hby ds1_0)
  obtain ⟨T2, X2, e2, st2⟩ := getF X1 hx hZ hown (host := "") (Or.inl (hw _ (List.mem_of_getElem? (i := 24) rfl))) Via.refl e1 Fc (g := (mkF m 7 #[.val (.ref as1_0)] [(.ref as1_0)])) rfl rfl (hb hby ds1_7)
  have k3 : ∀ t, Steps p.tables e below (T2.setTop (mkF m 18 #[.val (.ref as1_0)] [(.int (1 : Int32))])) t → Steps p.tables e below (s₁.setTop (entryFrame m #[(.ref as1_0)] 1)) t := by
    intro t k
    refine pre0 t ?_
    show Steps p.tables e below (s₁.setTop (mkF m 0 #[.val (.ref as1_0)] [])) _
    refine st1 _ ?_
    show Steps p.tables e below (T1.setTop (mkF m 3 #[.val (.ref as1_0)] [(.int cs)])) _
    refine XS.ifNo X1.here hx rfl (hb hby ds1_3) rfl ((if0 _ _).trans (feq hcs).1) ?_
    show Steps p.tables e below (T1.setTop (mkF m 6 #[.val (.ref as1_0)] [])) _
    refine XS.aloadN X1.here hx rfl (hb hby ds1_6) rfl rfl ?_
    show Steps p.tables e below (T1.setTop (mkF m 7 #[.val (.ref as1_0)] [(.ref as1_0)])) _
    refine st2 _ ?_
    show Steps p.tables e below (T2.setTop (mkF m 10 #[.val (.ref as1_0)] [(.int (0 : Int32))])) _
    refine XS.ifNo X2.here hx rfl (hb hby ds1_10) rfl ((if0 _ _).trans (teq (by decide : (0 : Int32) = (0 : Int32))).2) ?_
    show Steps p.tables e below (T2.setTop (mkF m 13 #[.val (.ref as1_0)] [])) _
    refine XS.iconst X2.here hx rfl (hb hby ds1_13) ?_
    show Steps p.tables e below (T2.setTop (mkF m 14 #[.val (.ref as1_0)] [(.int (1 : Int32))])) _
    refine XS.goto X2.here hx rfl (pc0 := 14) (pc' := 18) rfl (hb hby ds1_14) (by decide) (by decide) ?_
    exact k
  obtain ⟨fs, hr, hrun, hended, hW, hsame⟩ := X2.leave (v := some (.int (1 : Int32))) (fun h => by rw [Bd.returns] at h; cases h)
  refine ⟨_, _, k3 _ ?_, hrun, hended, _, _, rfl, ?_, ⟨_, rfl⟩, hW, hsame.mono (by decide) (by decide)⟩
  · exact retN X2 hx (t := .boolean) Bd.returns (by simp) (hb hby ds1_18) hr
  · show Qs1 Z as1_0 cs h0 n0 _ T2.heap _
    rw [e2]
    exact ⟨rfl, N0, rfl⟩
theorem pn_2 : plainName "jdk/internal/util/Preconditions" = true := by first | (simp [plainName, overriddenIn]; done) | decide +kernel
theorem ds2_0 : decode jdk_41_method_11_code 0 = .ok (.iload_n 0, 1) := by decide +kernel
theorem ds2_1 : decode jdk_41_method_11_code 1 = .ok (.ifCond .lt 8, 3) := by decide +kernel
theorem ds2_4 : decode jdk_41_method_11_code 4 = .ok (.iload_n 0, 1) := by decide +kernel
theorem ds2_5 : decode jdk_41_method_11_code 5 = .ok (.iload_n 1, 1) := by decide +kernel
theorem ds2_6 : decode jdk_41_method_11_code 6 = .ok (.if_icmp .lt 10, 3) := by decide +kernel
theorem ds2_16 : decode jdk_41_method_11_code 16 = .ok (.iload_n 0, 1) := by decide +kernel
theorem ds2_17 : decode jdk_41_method_11_code 17 = .ok (.ireturn, 1) := by decide +kernel
theorem ef_s2 (m : MethodId) (ps2_0 : Int32) (ps2_1 : Int32) : entryFrame m #[(.int ps2_0), (.int ps2_1), .null] 3 = mkF m 0 #[.val (.int ps2_0), .val (.int ps2_1), .val .null] [] := by first | (simp [entryFrame, mkF, argsToLocals, Value.category]; done) | rfl
def Qs2 (Z : State) (ps2_0 : Int32) (ps2_1 : Int32) (h0 : Heap) (n0 : Nat) (v : Option Value) (h : Heap) (L : List Loc) : Prop := v = some (.int ps2_0) ∧ Fr n0 L ∧ h = h0
set_option maxRecDepth 65536 in
set_option maxHeartbeats 40000000 in
theorem rms2 (l : Launch) (Z : State) (a0 : Array Value) (hw : ∀ d ∈ tables_1, d.before a0 Z = true) (ws : List Jvm.Cond) (ps2_0 : Int32) (ps2_1 : Int32) (h0 : Heap) (n0 : Nat) (Z0 : n0 ≤ h0.size) (hq0 : ¬ (ps2_0 < (0 : Int32))) (hq1 : ps2_0 < ps2_1) :
    MetFree l (⟨"jdk/internal/util/Preconditions", "checkIndex", "(IILjava/util/function/BiFunction;)I"⟩ : MethodName) (head1 (Jvm.Cond.code (⟨"jdk/internal/util/Preconditions", "checkIndex", "(IILjava/util/function/BiFunction;)I"⟩ : MethodName) jdk_41_method_11_code 3 (some .int) :: ws) ({ frames := 0, cells := 0, slots := 0, locals := 0 } : Room)) (fun a U => a = #[(.int ps2_0), (.int ps2_1), .null] ∧ Z.Warmed39 U.vm ∧ U.heap = h0) (fun _ _ _ _ _ => True) (fun _ U o U' => ∃ v L, o = .returned v ∧ Qs2 Z ps2_0 ps2_1 h0 n0 v U'.heap L ∧ FrameEnd U o U' L ({ frames := 0, cells := 0, slots := 0, locals := 0 } : Room).cells ({ frames := 0, cells := 0, slots := 0, locals := 0 } : Room).slots) := by
  refine MetFree.of_bodySF (plainFor_of_name pn_2) hisR ?_
  intro p e s m args below meth c s₁ Bd hml0 hP hK
  obtain ⟨rfl, hZ, hh⟩ := hP
  have hx := Bd.exec
  have hby := Bd.bytes
  have hml : c.maxLocals = 3 := hml0
  have hown : s.vm.findClass "jdk/internal/util/Preconditions" = some m.cls := findClass_of_methodNamed Bd.named
  have hnm := (name_of_methodNamed Bd.named Bd.method).1
  have X0 : Stand p l e ({ frames := 0, cells := 0, slots := 0, locals := 0 } : Room) s m #[(.int ps2_0), (.int ps2_1), .null] below meth c s₁ [] 0 0 := Stand.of_body Bd
  have e0 : s₁.heap = h0 := by rw [← hh, Bd.state]; rfl
  have N0 := Fr.nil n0
  have pre0 : ∀ t, Steps p.tables e below (s₁.setTop (mkF m 0 #[.val (.int ps2_0), .val (.int ps2_1), .val .null] [])) t → Steps p.tables e below (s₁.setTop (entryFrame m #[(.int ps2_0), (.int ps2_1), .null] 3)) t := fun t k => castTop (ef_s2 m ps2_0 ps2_1) k
  have k1 : ∀ t, Steps p.tables e below (s₁.setTop (mkF m 17 #[.val (.int ps2_0), .val (.int ps2_1), .val .null] [(.int ps2_0)])) t → Steps p.tables e below (s₁.setTop (entryFrame m #[(.int ps2_0), (.int ps2_1), .null] 3)) t := by
    intro t k
    refine pre0 t ?_
    show Steps p.tables e below (s₁.setTop (mkF m 0 #[.val (.int ps2_0), .val (.int ps2_1), .val .null] [])) _
    refine XS.iloadN X0.here hx rfl (hb hby ds2_0) rfl ?_
    show Steps p.tables e below (s₁.setTop (mkF m 1 #[.val (.int ps2_0), .val (.int ps2_1), .val .null] [(.int ps2_0)])) _
    refine XS.ifNo X0.here hx rfl (hb hby ds2_1) rfl ((if0 _ _).trans (flt hq0).1) ?_
    show Steps p.tables e below (s₁.setTop (mkF m 4 #[.val (.int ps2_0), .val (.int ps2_1), .val .null] [])) _
    refine XS.iloadN X0.here hx rfl (hb hby ds2_4) rfl ?_
    show Steps p.tables e below (s₁.setTop (mkF m 5 #[.val (.int ps2_0), .val (.int ps2_1), .val .null] [(.int ps2_0)])) _
    refine XS.iloadN X0.here hx rfl (hb hby ds2_5) rfl ?_
    show Steps p.tables e below (s₁.setTop (mkF m 6 #[.val (.int ps2_0), .val (.int ps2_1), .val .null] [(.int ps2_1), (.int ps2_0)])) _
    refine XS.icmpYes X0.here hx rfl (pc0 := 6) (pc' := 16) rfl (hb hby ds2_6) rfl (tlt hq1).1 (by decide) (by decide) ?_
    show Steps p.tables e below (s₁.setTop (mkF m 16 #[.val (.int ps2_0), .val (.int ps2_1), .val .null] [])) _
    refine XS.iloadN X0.here hx rfl (hb hby ds2_16) rfl ?_
    exact k
  obtain ⟨fs, hr, hrun, hended, hW, hsame⟩ := X0.leave (v := some (.int ps2_0)) (fun h => by rw [Bd.returns] at h; cases h)
  refine ⟨_, _, k1 _ ?_, hrun, hended, _, _, rfl, ?_, ⟨_, rfl⟩, hW, hsame.mono (by decide) (by decide)⟩
  · exact retI X0 hx Bd.returns (hb hby ds2_17) hr
  · show Qs2 Z ps2_0 ps2_1 h0 n0 _ s₁.heap _
    rw [e0]
    exact ⟨rfl, N0, rfl⟩
theorem ds3_0 : decode jdk_41_method_11_code 0 = .ok (.iload_n 0, 1) := by decide +kernel
theorem ds3_1 : decode jdk_41_method_11_code 1 = .ok (.ifCond .lt 8, 3) := by decide +kernel
theorem ds3_4 : decode jdk_41_method_11_code 4 = .ok (.iload_n 0, 1) := by decide +kernel
theorem ds3_5 : decode jdk_41_method_11_code 5 = .ok (.iload_n 1, 1) := by decide +kernel
theorem ds3_6 : decode jdk_41_method_11_code 6 = .ok (.if_icmp .lt 10, 3) := by decide +kernel
theorem ds3_16 : decode jdk_41_method_11_code 16 = .ok (.iload_n 0, 1) := by decide +kernel
theorem ds3_17 : decode jdk_41_method_11_code 17 = .ok (.ireturn, 1) := by decide +kernel
theorem ef_s3 (m : MethodId) (ps3_0 : Int32) (ps3_1 : Int32) (as3_2 : Addr) : entryFrame m #[(.int ps3_0), (.int ps3_1), (.ref as3_2)] 3 = mkF m 0 #[.val (.int ps3_0), .val (.int ps3_1), .val (.ref as3_2)] [] := by first | (simp [entryFrame, mkF, argsToLocals, Value.category]; done) | rfl
def Qs3 (Z : State) (ps3_0 : Int32) (ps3_1 : Int32) (as3_2 : Addr) (h0 : Heap) (n0 : Nat) (v : Option Value) (h : Heap) (L : List Loc) : Prop := v = some (.int ps3_0) ∧ Fr n0 L ∧ h = h0
set_option maxRecDepth 65536 in
set_option maxHeartbeats 40000000 in
theorem rms3 (l : Launch) (Z : State) (a0 : Array Value) (hw : ∀ d ∈ tables_1, d.before a0 Z = true) (ws : List Jvm.Cond) (ps3_0 : Int32) (ps3_1 : Int32) (as3_2 : Addr) (h0 : Heap) (n0 : Nat) (Z0 : n0 ≤ h0.size) (hq0 : ¬ (ps3_0 < (0 : Int32))) (hq1 : ps3_0 < ps3_1) :
    MetFree l (⟨"jdk/internal/util/Preconditions", "checkIndex", "(IILjava/util/function/BiFunction;)I"⟩ : MethodName) (head1 (Jvm.Cond.code (⟨"jdk/internal/util/Preconditions", "checkIndex", "(IILjava/util/function/BiFunction;)I"⟩ : MethodName) jdk_41_method_11_code 3 (some .int) :: ws) ({ frames := 0, cells := 0, slots := 0, locals := 0 } : Room)) (fun a U => a = #[(.int ps3_0), (.int ps3_1), (.ref as3_2)] ∧ Z.Warmed39 U.vm ∧ U.heap = h0) (fun _ _ _ _ _ => True) (fun _ U o U' => ∃ v L, o = .returned v ∧ Qs3 Z ps3_0 ps3_1 as3_2 h0 n0 v U'.heap L ∧ FrameEnd U o U' L ({ frames := 0, cells := 0, slots := 0, locals := 0 } : Room).cells ({ frames := 0, cells := 0, slots := 0, locals := 0 } : Room).slots) := by
  refine MetFree.of_bodySF (plainFor_of_name pn_2) hisR ?_
  intro p e s m args below meth c s₁ Bd hml0 hP hK
  obtain ⟨rfl, hZ, hh⟩ := hP
  have hx := Bd.exec
  have hby := Bd.bytes
  have hml : c.maxLocals = 3 := hml0
  have hown : s.vm.findClass "jdk/internal/util/Preconditions" = some m.cls := findClass_of_methodNamed Bd.named
  have hnm := (name_of_methodNamed Bd.named Bd.method).1
  have X0 : Stand p l e ({ frames := 0, cells := 0, slots := 0, locals := 0 } : Room) s m #[(.int ps3_0), (.int ps3_1), (.ref as3_2)] below meth c s₁ [] 0 0 := Stand.of_body Bd
  have e0 : s₁.heap = h0 := by rw [← hh, Bd.state]; rfl
  have N0 := Fr.nil n0
  have pre0 : ∀ t, Steps p.tables e below (s₁.setTop (mkF m 0 #[.val (.int ps3_0), .val (.int ps3_1), .val (.ref as3_2)] [])) t → Steps p.tables e below (s₁.setTop (entryFrame m #[(.int ps3_0), (.int ps3_1), (.ref as3_2)] 3)) t := fun t k => castTop (ef_s3 m ps3_0 ps3_1 as3_2) k
  have k1 : ∀ t, Steps p.tables e below (s₁.setTop (mkF m 17 #[.val (.int ps3_0), .val (.int ps3_1), .val (.ref as3_2)] [(.int ps3_0)])) t → Steps p.tables e below (s₁.setTop (entryFrame m #[(.int ps3_0), (.int ps3_1), (.ref as3_2)] 3)) t := by
    intro t k
    refine pre0 t ?_
    show Steps p.tables e below (s₁.setTop (mkF m 0 #[.val (.int ps3_0), .val (.int ps3_1), .val (.ref as3_2)] [])) _
    refine XS.iloadN X0.here hx rfl (hb hby ds3_0) rfl ?_
    show Steps p.tables e below (s₁.setTop (mkF m 1 #[.val (.int ps3_0), .val (.int ps3_1), .val (.ref as3_2)] [(.int ps3_0)])) _
    refine XS.ifNo X0.here hx rfl (hb hby ds3_1) rfl ((if0 _ _).trans (flt hq0).1) ?_
    show Steps p.tables e below (s₁.setTop (mkF m 4 #[.val (.int ps3_0), .val (.int ps3_1), .val (.ref as3_2)] [])) _
    refine XS.iloadN X0.here hx rfl (hb hby ds3_4) rfl ?_
    show Steps p.tables e below (s₁.setTop (mkF m 5 #[.val (.int ps3_0), .val (.int ps3_1), .val (.ref as3_2)] [(.int ps3_0)])) _
    refine XS.iloadN X0.here hx rfl (hb hby ds3_5) rfl ?_
    show Steps p.tables e below (s₁.setTop (mkF m 6 #[.val (.int ps3_0), .val (.int ps3_1), .val (.ref as3_2)] [(.int ps3_1), (.int ps3_0)])) _
    refine XS.icmpYes X0.here hx rfl (pc0 := 6) (pc' := 16) rfl (hb hby ds3_6) rfl (tlt hq1).1 (by decide) (by decide) ?_
    show Steps p.tables e below (s₁.setTop (mkF m 16 #[.val (.int ps3_0), .val (.int ps3_1), .val (.ref as3_2)] [])) _
    refine XS.iloadN X0.here hx rfl (hb hby ds3_16) rfl ?_
    exact k
  obtain ⟨fs, hr, hrun, hended, hW, hsame⟩ := X0.leave (v := some (.int ps3_0)) (fun h => by rw [Bd.returns] at h; cases h)
  refine ⟨_, _, k1 _ ?_, hrun, hended, _, _, rfl, ?_, ⟨_, rfl⟩, hW, hsame.mono (by decide) (by decide)⟩
  · exact retI X0 hx Bd.returns (hb hby ds3_17) hr
  · show Qs3 Z ps3_0 ps3_1 as3_2 h0 n0 _ s₁.heap _
    rw [e0]
    exact ⟨rfl, N0, rfl⟩
theorem pd_0 : parseMethodDescriptor "(IILjava/util/function/BiFunction;)I" = some ⟨[.int, .int, (.object "java/util/function/BiFunction")], some .int⟩ := by decide +kernel
theorem ds4_0 : decode jdk_42_method_155_code 0 = .ok (.iload_n 0, 1) := by decide +kernel
theorem ds4_1 : decode jdk_42_method_155_code 1 = .ok (.iload_n 1, 1) := by decide +kernel
theorem ds4_2 : decode jdk_42_method_155_code 2 = .ok (.getstatic 1053, 3) := by decide +kernel
theorem ds4_5 : decode jdk_42_method_155_code 5 = .ok (.invokestatic 1059, 3) := by decide +kernel
theorem ds4_8 : decode jdk_42_method_155_code 8 = .ok (.pop, 1) := by decide +kernel
theorem ds4_9 : decode jdk_42_method_155_code 9 = .ok (.return_, 1) := by decide +kernel
theorem ef_s4 (m : MethodId) (ps4_0 : Int32) (ps4_1 : Int32) : entryFrame m #[(.int ps4_0), (.int ps4_1)] 2 = mkF m 0 #[.val (.int ps4_0), .val (.int ps4_1)] [] := by first | (simp [entryFrame, mkF, argsToLocals, Value.category]; done) | rfl
def Qs4 (Z : State) (ps4_0 : Int32) (ps4_1 : Int32) (fm : Value) (h0 : Heap) (n0 : Nat) (v : Option Value) (h : Heap) (L : List Loc) : Prop := v = none ∧ Fr n0 L ∧ h = h0
set_option maxRecDepth 65536 in
set_option maxHeartbeats 40000000 in
theorem rms4 (l : Launch) (Z : State) (a0 : Array Value) (hw : ∀ d ∈ tables_1, d.before a0 Z = true) (ws : List Jvm.Cond) (ps4_0 : Int32) (ps4_1 : Int32) (fm : Value) (h0 : Heap) (n0 : Nat) (Z0 : n0 ≤ h0.size) (Sf : Sta Z h0 "jdk/internal/util/Preconditions" "SIOOBE_FORMATTER" "Ljava/util/function/BiFunction;" fm) (hq0 : ¬ (ps4_0 < (0 : Int32))) (hq1 : ps4_0 < ps4_1) (hfm : fm.isRef = true) :
    MetFree l (⟨"java/lang/String", "checkIndex", "(II)V"⟩ : MethodName) (head1 (Jvm.Cond.code (⟨"java/lang/String", "checkIndex", "(II)V"⟩ : MethodName) jdk_42_method_155_code 2 none :: ws) ({ frames := 1, cells := 0, slots := 0, locals := 14 } : Room)) (fun a U => a = #[(.int ps4_0), (.int ps4_1)] ∧ Z.Warmed39 U.vm ∧ U.heap = h0) (fun _ _ _ _ _ => True) (fun _ U o U' => ∃ v L, o = .returned v ∧ Qs4 Z ps4_0 ps4_1 fm h0 n0 v U'.heap L ∧ FrameEnd U o U' L ({ frames := 1, cells := 0, slots := 0, locals := 14 } : Room).cells ({ frames := 1, cells := 0, slots := 0, locals := 14 } : Room).slots) := by
  refine MetFree.of_bodySF (plainFor_of_name pn_1) hisR ?_
  intro p e s m args below meth c s₁ Bd hml0 hP hK
  obtain ⟨rfl, hZ, hh⟩ := hP
  have hx := Bd.exec
  have hby := Bd.bytes
  have hml : c.maxLocals = 2 := hml0
  have hown : s.vm.findClass "java/lang/String" = some m.cls := findClass_of_methodNamed Bd.named
  have hnm := (name_of_methodNamed Bd.named Bd.method).1
  have X0 : Stand p l e ({ frames := 1, cells := 0, slots := 0, locals := 14 } : Room) s m #[(.int ps4_0), (.int ps4_1)] below meth c s₁ [] 0 0 := Stand.of_body Bd
  have e0 : s₁.heap = h0 := by rw [← hh, Bd.state]; rfl
  have N0 := Fr.nil n0
  have pre0 : ∀ t, Steps p.tables e below (s₁.setTop (mkF m 0 #[.val (.int ps4_0), .val (.int ps4_1)] [])) t → Steps p.tables e below (s₁.setTop (entryFrame m #[(.int ps4_0), (.int ps4_1)] 2)) t := fun t k => castTop (ef_s4 m ps4_0 ps4_1) k
  rcases ref_cases hfm with rfl | ⟨fa, rfl⟩
  · skip
    obtain ⟨T1, X1, e1, st1⟩ := getS2 X0 hx hZ hown (host := "") (Or.inl (hw _ (List.mem_of_getElem? (i := 33) rfl))) Via.refl e0 Sf (g := (mkF m 2 #[.val (.int ps4_0), .val (.int ps4_1)] [(.int ps4_1), (.int ps4_0)])) rfl (hb hby ds4_2)
    obtain ⟨_, _, ⟨T2, L2, k2, n2⟩, -, X2, ⟨Lc2, hQ2, l2, y2, z2⟩, st2⟩ := Jvm.LawKit.callS X1 hx (y := (⟨"jdk/internal/util/Preconditions", "checkIndex", "(IILjava/util/function/BiFunction;)I"⟩ : MethodName)) hown (mvT hZ (hw _ (List.mem_of_getElem? (i := 35) rfl))) (mvT hZ (hw _ (List.mem_of_getElem? (i := 36) rfl))) (mvT hZ (hw _ (List.mem_of_getElem? (i := 34) rfl))) (mvT hZ (hw _ (List.mem_of_getElem? (i := 37) rfl))) (by decide) (backOf (W := 0) (rms2 l Z a0 hw [] ps4_0 ps4_1 h0 n0 Z0 hq0 hq1) hZ (hw _ (List.mem_of_getElem? (i := 37) rfl)) (hw _ (List.mem_of_getElem? (i := 34) rfl)) (by decide) (by decide)) (g := (mkF m 5 #[.val (.int ps4_0), .val (.int ps4_1)] [.null, (.int ps4_1), (.int ps4_0)])) rfl (by rw [hml]; rfl) (argsL := [(.int ps4_0), (.int ps4_1), .null]) (rest := []) (lenOf pd_0 rfl) rfl (by show 2 * 0 + _ ≤ _; exact Nat.le_of_eq rfl) (hb hby ds4_5) (fun _ _ => ⟨rfl, e1, (by decide : 0 + 0 ≤ _), (by decide : 0 + 0 ≤ _)⟩)
    dsimp only [Pt.U, Pt.locs, Pt.cells, Pt.slots] at X2 l2 y2 z2 st2 hQ2
    subst l2 y2 z2
    obtain ⟨rfl, N2q, eh2⟩ := hQ2
    have N2 := Fr.app N0 N2q
    have k3 : ∀ t, Steps p.tables e below (T2.setTop (mkF m 9 #[.val (.int ps4_0), .val (.int ps4_1)] [])) t → Steps p.tables e below (s₁.setTop (entryFrame m #[(.int ps4_0), (.int ps4_1)] 2)) t := by
      intro t k
      refine pre0 t ?_
      show Steps p.tables e below (s₁.setTop (mkF m 0 #[.val (.int ps4_0), .val (.int ps4_1)] [])) _
      refine XS.iloadN X0.here hx rfl (hb hby ds4_0) rfl ?_
      show Steps p.tables e below (s₁.setTop (mkF m 1 #[.val (.int ps4_0), .val (.int ps4_1)] [(.int ps4_0)])) _
      refine XS.iloadN X0.here hx rfl (hb hby ds4_1) rfl ?_
      show Steps p.tables e below (s₁.setTop (mkF m 2 #[.val (.int ps4_0), .val (.int ps4_1)] [(.int ps4_1), (.int ps4_0)])) _
      refine st1 _ ?_
      show Steps p.tables e below (T1.setTop (mkF m 5 #[.val (.int ps4_0), .val (.int ps4_1)] [.null, (.int ps4_1), (.int ps4_0)])) _
      refine st2 _ ?_
      show Steps p.tables e below (T2.setTop (mkF m 8 #[.val (.int ps4_0), .val (.int ps4_1)] [(.int ps4_0)])) _
      refine XS.pop X2.here hx rfl (hb hby ds4_8) rfl rfl ?_
      exact k
    obtain ⟨fs, hr, hrun, hended, hW, hsame⟩ := X2.leave (v := none) (fun _ => rfl)
    refine ⟨_, _, k3 _ ?_, hrun, hended, _, _, rfl, ?_, ⟨_, rfl⟩, hW, hsame.mono (by decide) (by decide)⟩
    · exact X2.returnOut hx Bd.returns (hb hby ds4_9) hr
    · show Qs4 Z ps4_0 ps4_1 .null h0 n0 _ T2.heap _
      rw [eh2]
      exact ⟨rfl, N2, rfl⟩
  · skip
    obtain ⟨T4, X4, e4, st4⟩ := getS2 X0 hx hZ hown (host := "") (Or.inl (hw _ (List.mem_of_getElem? (i := 33) rfl))) Via.refl e0 Sf (g := (mkF m 2 #[.val (.int ps4_0), .val (.int ps4_1)] [(.int ps4_1), (.int ps4_0)])) rfl (hb hby ds4_2)
    obtain ⟨_, _, ⟨T5, L5, k5, n5⟩, -, X5, ⟨Lc5, hQ5, l5, y5, z5⟩, st5⟩ := Jvm.LawKit.callS X4 hx (y := (⟨"jdk/internal/util/Preconditions", "checkIndex", "(IILjava/util/function/BiFunction;)I"⟩ : MethodName)) hown (mvT hZ (hw _ (List.mem_of_getElem? (i := 35) rfl))) (mvT hZ (hw _ (List.mem_of_getElem? (i := 36) rfl))) (mvT hZ (hw _ (List.mem_of_getElem? (i := 34) rfl))) (mvT hZ (hw _ (List.mem_of_getElem? (i := 37) rfl))) (by decide) (backOf (W := 0) (rms3 l Z a0 hw [] ps4_0 ps4_1 fa h0 n0 Z0 hq0 hq1) hZ (hw _ (List.mem_of_getElem? (i := 37) rfl)) (hw _ (List.mem_of_getElem? (i := 34) rfl)) (by decide) (by decide)) (g := (mkF m 5 #[.val (.int ps4_0), .val (.int ps4_1)] [(.ref fa), (.int ps4_1), (.int ps4_0)])) rfl (by rw [hml]; rfl) (argsL := [(.int ps4_0), (.int ps4_1), (.ref fa)]) (rest := []) (lenOf pd_0 rfl) rfl (by show 2 * 0 + _ ≤ _; exact Nat.le_of_eq rfl) (hb hby ds4_5) (fun _ _ => ⟨rfl, e4, (by decide : 0 + 0 ≤ _), (by decide : 0 + 0 ≤ _)⟩)
    dsimp only [Pt.U, Pt.locs, Pt.cells, Pt.slots] at X5 l5 y5 z5 st5 hQ5
    subst l5 y5 z5
    obtain ⟨rfl, N5q, eh5⟩ := hQ5
    have N5 := Fr.app N0 N5q
    have k6 : ∀ t, Steps p.tables e below (T5.setTop (mkF m 9 #[.val (.int ps4_0), .val (.int ps4_1)] [])) t → Steps p.tables e below (s₁.setTop (entryFrame m #[(.int ps4_0), (.int ps4_1)] 2)) t := by
      intro t k
      refine pre0 t ?_
      show Steps p.tables e below (s₁.setTop (mkF m 0 #[.val (.int ps4_0), .val (.int ps4_1)] [])) _
      refine XS.iloadN X0.here hx rfl (hb hby ds4_0) rfl ?_
      show Steps p.tables e below (s₁.setTop (mkF m 1 #[.val (.int ps4_0), .val (.int ps4_1)] [(.int ps4_0)])) _
      refine XS.iloadN X0.here hx rfl (hb hby ds4_1) rfl ?_
      show Steps p.tables e below (s₁.setTop (mkF m 2 #[.val (.int ps4_0), .val (.int ps4_1)] [(.int ps4_1), (.int ps4_0)])) _
      refine st4 _ ?_
      show Steps p.tables e below (T4.setTop (mkF m 5 #[.val (.int ps4_0), .val (.int ps4_1)] [(.ref fa), (.int ps4_1), (.int ps4_0)])) _
      refine st5 _ ?_
      show Steps p.tables e below (T5.setTop (mkF m 8 #[.val (.int ps4_0), .val (.int ps4_1)] [(.int ps4_0)])) _
      refine XS.pop X5.here hx rfl (hb hby ds4_8) rfl rfl ?_
      exact k
    obtain ⟨fs, hr, hrun, hended, hW, hsame⟩ := X5.leave (v := none) (fun _ => rfl)
    refine ⟨_, _, k6 _ ?_, hrun, hended, _, _, rfl, ?_, ⟨_, rfl⟩, hW, hsame.mono (by decide) (by decide)⟩
    · exact X5.returnOut hx Bd.returns (hb hby ds4_9) hr
    · show Qs4 Z ps4_0 ps4_1 (.ref fa) h0 n0 _ T5.heap _
      rw [eh5]
      exact ⟨rfl, N5, rfl⟩
theorem pn_3 : plainName "java/lang/StringLatin1" = true := by first | (simp [plainName, overriddenIn]; done) | decide +kernel
theorem pd_1 : parseMethodDescriptor "(II)V" = some ⟨[.int, .int], none⟩ := by decide +kernel
theorem ds5_0 : decode jdk_43_method_2_code 0 = .ok (.iload_n 1, 1) := by decide +kernel
theorem ds5_1 : decode jdk_43_method_2_code 1 = .ok (.aload_n 0, 1) := by decide +kernel
theorem ds5_2 : decode jdk_43_method_2_code 2 = .ok (.arraylength, 1) := by decide +kernel
theorem ds5_3 : decode jdk_43_method_2_code 3 = .ok (.invokestatic 9, 3) := by decide +kernel
theorem ds5_6 : decode jdk_43_method_2_code 6 = .ok (.aload_n 0, 1) := by decide +kernel
theorem ds5_7 : decode jdk_43_method_2_code 7 = .ok (.iload_n 1, 1) := by decide +kernel
theorem ds5_8 : decode jdk_43_method_2_code 8 = .ok (.baload, 1) := by decide +kernel
theorem ds5_9 : decode jdk_43_method_2_code 9 = .ok (.sipush 255, 3) := by decide +kernel
theorem ds5_12 : decode jdk_43_method_2_code 12 = .ok (.iand, 1) := by decide +kernel
theorem ds5_13 : decode jdk_43_method_2_code 13 = .ok (.i2c, 1) := by decide +kernel
theorem ds5_14 : decode jdk_43_method_2_code 14 = .ok (.ireturn, 1) := by decide +kernel
theorem ef_s5 (m : MethodId) (as5_0 : Addr) : entryFrame m #[(.ref as5_0), (.int (0 : Int32))] 2 = mkF m 0 #[.val (.ref as5_0), .val (.int (0 : Int32))] [] := by first | (simp [entryFrame, mkF, argsToLocals, Value.category]; done) | rfl
def Qs5 (Z : State) (as5_0 : Addr) (kk : ClassId) (fm : Value) (h0 : Heap) (n0 : Nat) (v : Option Value) (h : Heap) (L : List Loc) : Prop := v = some (.int (48 : Int32)) ∧ Fr n0 L ∧ h = h0
set_option maxRecDepth 65536 in
set_option maxHeartbeats 40000000 in
theorem rms5 (l : Launch) (Z : State) (a0 : Array Value) (hw : ∀ d ∈ tables_1, d.before a0 Z = true) (ws : List Jvm.Cond) (as5_0 : Addr) (kk : ClassId) (fm : Value) (h0 : Heap) (n0 : Nat) (Z0 : n0 ≤ h0.size) (Vb : Arv Z h0 as5_0 kk .byte (10 : Int32) [(.int (48 : Int32)), (.int (49 : Int32)), (.int (50 : Int32)), (.int (51 : Int32)), (.int (52 : Int32)), (.int (53 : Int32)), (.int (54 : Int32)), (.int (55 : Int32)), (.int (56 : Int32)), (.int (57 : Int32))] (.int (0 : Int32))) (Sf : Sta Z h0 "jdk/internal/util/Preconditions" "SIOOBE_FORMATTER" "Ljava/util/function/BiFunction;" fm) (hfm : fm.isRef = true) :
    MetFree l (⟨"java/lang/StringLatin1", "charAt", "([BI)C"⟩ : MethodName) (head1 (Jvm.Cond.code (⟨"java/lang/StringLatin1", "charAt", "([BI)C"⟩ : MethodName) jdk_43_method_2_code 2 (some .char) :: ws) ({ frames := 2, cells := 0, slots := 0, locals := 27 } : Room)) (fun a U => a = #[(.ref as5_0), (.int (0 : Int32))] ∧ Z.Warmed39 U.vm ∧ U.heap = h0) (fun _ _ _ _ _ => True) (fun _ U o U' => ∃ v L, o = .returned v ∧ Qs5 Z as5_0 kk fm h0 n0 v U'.heap L ∧ FrameEnd U o U' L ({ frames := 2, cells := 0, slots := 0, locals := 27 } : Room).cells ({ frames := 2, cells := 0, slots := 0, locals := 27 } : Room).slots) := by
  refine MetFree.of_bodySF (plainFor_of_name pn_3) hisR ?_
  intro p e s m args below meth c s₁ Bd hml0 hP hK
  obtain ⟨rfl, hZ, hh⟩ := hP
  have hx := Bd.exec
  have hby := Bd.bytes
  have hml : c.maxLocals = 2 := hml0
  have hown : s.vm.findClass "java/lang/StringLatin1" = some m.cls := findClass_of_methodNamed Bd.named
  have hnm := (name_of_methodNamed Bd.named Bd.method).1
  have X0 : Stand p l e ({ frames := 2, cells := 0, slots := 0, locals := 27 } : Room) s m #[(.ref as5_0), (.int (0 : Int32))] below meth c s₁ [] 0 0 := Stand.of_body Bd
  have e0 : s₁.heap = h0 := by rw [← hh, Bd.state]; rfl
  have N0 := Fr.nil n0
  have pre0 : ∀ t, Steps p.tables e below (s₁.setTop (mkF m 0 #[.val (.ref as5_0), .val (.int (0 : Int32))] [])) t → Steps p.tables e below (s₁.setTop (entryFrame m #[(.ref as5_0), (.int (0 : Int32))] 2)) t := fun t k => castTop (ef_s5 m as5_0) k
  obtain ⟨cl1, Ar1, qc1, Sz1, Nn1, Hh1, Gg1⟩ := (id Vb)
  obtain ⟨_, _, ⟨T2, L2, k2, n2⟩, -, X2, ⟨Lc2, hQ2, l2, y2, z2⟩, st2⟩ := Jvm.LawKit.callS X0 hx (y := (⟨"java/lang/String", "checkIndex", "(II)V"⟩ : MethodName)) hown (mvT hZ (hw _ (List.mem_of_getElem? (i := 30) rfl))) (mvT hZ (hw _ (List.mem_of_getElem? (i := 31) rfl))) (mvT hZ (hw _ (List.mem_of_getElem? (i := 6) rfl))) (mvT hZ (hw _ (List.mem_of_getElem? (i := 32) rfl))) (by decide) (backOf (W := 0) (rms4 l Z a0 hw [] (0 : Int32) (10 : Int32) fm h0 n0 Z0 Sf (by decide : ¬ ((0 : Int32) < (0 : Int32))) (by decide : (0 : Int32) < (10 : Int32)) hfm) hZ (hw _ (List.mem_of_getElem? (i := 32) rfl)) (hw _ (List.mem_of_getElem? (i := 6) rfl)) (by decide) (by decide)) (g := (mkF m 3 #[.val (.ref as5_0), .val (.int (0 : Int32))] [(.int (10 : Int32)), (.int (0 : Int32))])) rfl (by rw [hml]; rfl) (argsL := [(.int (0 : Int32)), (.int (10 : Int32))]) (rest := []) (lenOf pd_1 rfl) rfl (by show 2 * 0 + _ ≤ _; exact Nat.le_of_eq rfl) (hb hby ds5_3) (fun _ _ => ⟨rfl, e0, (by decide : 0 + 0 ≤ _), (by decide : 0 + 0 ≤ _)⟩)
  dsimp only [Pt.U, Pt.locs, Pt.cells, Pt.slots] at X2 l2 y2 z2 st2 hQ2
  subst l2 y2 z2
  obtain ⟨rfl, N2q, eh2⟩ := hQ2
  have N2 := Fr.app N0 N2q
  obtain ⟨cl3, Ar3, qc3, Sz3, Nn3, Hh3, Gg3⟩ := (id Vb)
  have hin3 : ¬ ((0 : Int32) < 0 ∨ cl3.slots.size ≤ ((0 : Int32)).toNatClampNeg) := inb_of Sz3 ⟨by decide, by decide⟩
  have k4 : ∀ t, Steps p.tables e below (T2.setTop (mkF m 14 #[.val (.ref as5_0), .val (.int (0 : Int32))] [(.int (48 : Int32))])) t → Steps p.tables e below (s₁.setTop (entryFrame m #[(.ref as5_0), (.int (0 : Int32))] 2)) t := by
    intro t k
    refine pre0 t ?_
    show Steps p.tables e below (s₁.setTop (mkF m 0 #[.val (.ref as5_0), .val (.int (0 : Int32))] [])) _
    refine XS.iloadN X0.here hx rfl (hb hby ds5_0) rfl ?_
    show Steps p.tables e below (s₁.setTop (mkF m 1 #[.val (.ref as5_0), .val (.int (0 : Int32))] [(.int (0 : Int32))])) _
    refine XS.aloadN X0.here hx rfl (hb hby ds5_1) rfl rfl ?_
    show Steps p.tables e below (s₁.setTop (mkF m 2 #[.val (.ref as5_0), .val (.int (0 : Int32))] [(.ref as5_0), (.int (0 : Int32))])) _
    refine X0.arraylength hx (by rw [e0]; exact Ar1.1) (State.isArrayOf_alike hZ.alike Ar1.2.1) (g := (mkF m 2 #[.val (.ref as5_0), .val (.int (0 : Int32))] [(.ref as5_0), (.int (0 : Int32))])) rfl rfl (hb hby ds5_2) _ ?_
    rw [len_of Sz1 Nn1]
    show Steps p.tables e below (s₁.setTop (mkF m 3 #[.val (.ref as5_0), .val (.int (0 : Int32))] [(.int (10 : Int32)), (.int (0 : Int32))])) _
    refine st2 _ ?_
    show Steps p.tables e below (T2.setTop (mkF m 6 #[.val (.ref as5_0), .val (.int (0 : Int32))] [])) _
    refine XS.aloadN X2.here hx rfl (hb hby ds5_6) rfl rfl ?_
    show Steps p.tables e below (T2.setTop (mkF m 7 #[.val (.ref as5_0), .val (.int (0 : Int32))] [(.ref as5_0)])) _
    refine XS.iloadN X2.here hx rfl (hb hby ds5_7) rfl ?_
    show Steps p.tables e below (T2.setTop (mkF m 8 #[.val (.ref as5_0), .val (.int (0 : Int32))] [(.int (0 : Int32)), (.ref as5_0)])) _
    refine X2.baloadBytes hx (j := (0 : Int32)) (v := (.int (48 : Int32))) (by rw [eh2]; exact Ar3.1) (State.isArrayOf_alike hZ.alike Ar3.2.1) Ar3.2.2 hin3 (Hh3.at hin3 rfl) (g := (mkF m 8 #[.val (.ref as5_0), .val (.int (0 : Int32))] [(.int (0 : Int32)), (.ref as5_0)])) rfl rfl (hb hby ds5_8) _ ?_
    show Steps p.tables e below (T2.setTop (mkF m 9 #[.val (.ref as5_0), .val (.int (0 : Int32))] [(.int (48 : Int32))])) _
    refine XS.sipush X2.here hx rfl (hb hby ds5_9) ?_
    show Steps p.tables e below (T2.setTop (mkF m 12 #[.val (.ref as5_0), .val (.int (0 : Int32))] [(.int (255 : Int32)), (.int (48 : Int32))])) _
    refine XS.iand X2.here hx rfl (hb hby ds5_12) rfl ?_
    show Steps p.tables e below (T2.setTop (mkF m 13 #[.val (.ref as5_0), .val (.int (0 : Int32))] [(.int (48 : Int32))])) _
    refine XS.i2c X2.here hx rfl (hb hby ds5_13) rfl ?_
    exact k
  obtain ⟨fs, hr, hrun, hended, hW, hsame⟩ := X2.leave (v := some (.int (48 : Int32))) (fun h => by rw [Bd.returns] at h; cases h)
  refine ⟨_, _, k4 _ ?_, hrun, hended, _, _, rfl, ?_, ⟨_, rfl⟩, hW, hsame.mono (by decide) (by decide)⟩
  · exact retN X2 hx (t := .char) Bd.returns (by simp) (hb hby ds5_14) hr
  · show Qs5 Z as5_0 kk fm h0 n0 _ T2.heap _
    rw [eh2]
    exact ⟨rfl, N2, rfl⟩
theorem pd_2 : parseMethodDescriptor "()Z" = some ⟨[], some .boolean⟩ := by decide +kernel
theorem pd_3 : parseMethodDescriptor "([BI)C" = some ⟨[(.array .byte), .int], some .char⟩ := by decide +kernel
theorem ds6_0 : decode jdk_42_method_56_code 0 = .ok (.aload_n 0, 1) := by decide +kernel
theorem ds6_1 : decode jdk_42_method_56_code 1 = .ok (.invokevirtual 492, 3) := by decide +kernel
theorem ds6_4 : decode jdk_42_method_56_code 4 = .ok (.ifCond .eq 12, 3) := by decide +kernel
theorem ds6_7 : decode jdk_42_method_56_code 7 = .ok (.aload_n 0, 1) := by decide +kernel
theorem ds6_8 : decode jdk_42_method_56_code 8 = .ok (.getfield 9, 3) := by decide +kernel
theorem ds6_11 : decode jdk_42_method_56_code 11 = .ok (.iload_n 1, 1) := by decide +kernel
theorem ds6_12 : decode jdk_42_method_56_code 12 = .ok (.invokestatic 495, 3) := by decide +kernel
theorem ds6_15 : decode jdk_42_method_56_code 15 = .ok (.ireturn, 1) := by decide +kernel
theorem ef_s6 (m : MethodId) (as6_0 : Addr) : entryFrame m #[(.ref as6_0), (.int (0 : Int32))] 2 = mkF m 0 #[.val (.ref as6_0), .val (.int (0 : Int32))] [] := by first | (simp [entryFrame, mkF, argsToLocals, Value.category]; done) | rfl
def Qs6 (Z : State) (as6_0 : Addr) (tt : Addr) (kk : ClassId) (cs : Int32) (fm : Value) (h0 : Heap) (n0 : Nat) (v : Option Value) (h : Heap) (L : List Loc) : Prop := v = some (.int (48 : Int32)) ∧ Fr n0 L ∧ h = h0
set_option maxRecDepth 65536 in
set_option maxHeartbeats 40000000 in
theorem rms6 (l : Launch) (Z : State) (a0 : Array Value) (hw : ∀ d ∈ tables_1, d.before a0 Z = true) (ws : List Jvm.Cond) (as6_0 : Addr) (tt : Addr) (kk : ClassId) (cs : Int32) (fm : Value) (h0 : Heap) (n0 : Nat) (Z0 : n0 ≤ h0.size) (Es : Exa Z h0 as6_0 "java/lang/String") (Fv : Fld Z h0 as6_0 "java/lang/String" "value" "[B" (.ref tt)) (Fc : Fld Z h0 as6_0 "java/lang/String" "coder" "B" (.int (0 : Int32))) (Vb : Arv Z h0 tt kk .byte (10 : Int32) [(.int (48 : Int32)), (.int (49 : Int32)), (.int (50 : Int32)), (.int (51 : Int32)), (.int (52 : Int32)), (.int (53 : Int32)), (.int (54 : Int32)), (.int (55 : Int32)), (.int (56 : Int32)), (.int (57 : Int32))] (.int (0 : Int32))) (Sc : Sta Z h0 "java/lang/String" "COMPACT_STRINGS" "Z" (.int cs)) (Sf : Sta Z h0 "jdk/internal/util/Preconditions" "SIOOBE_FORMATTER" "Ljava/util/function/BiFunction;" fm) (hcs : ¬ (cs = (0 : Int32))) (hfm : fm.isRef = true) :
    MetFree l (⟨"java/lang/String", "charAt", "(I)C"⟩ : MethodName) (head1 (Jvm.Cond.code (⟨"java/lang/String", "charAt", "(I)C"⟩ : MethodName) jdk_42_method_56_code 2 (some .char) :: ws) ({ frames := 3, cells := 0, slots := 0, locals := 40 } : Room)) (fun a U => a = #[(.ref as6_0), (.int (0 : Int32))] ∧ Z.Warmed39 U.vm ∧ U.heap = h0) (fun _ _ _ _ _ => True) (fun _ U o U' => ∃ v L, o = .returned v ∧ Qs6 Z as6_0 tt kk cs fm h0 n0 v U'.heap L ∧ FrameEnd U o U' L ({ frames := 3, cells := 0, slots := 0, locals := 40 } : Room).cells ({ frames := 3, cells := 0, slots := 0, locals := 40 } : Room).slots) := by
  refine MetFree.of_bodySF (plainFor_of_name pn_1) hisR ?_
  intro p e s m args below meth c s₁ Bd hml0 hP hK
  obtain ⟨rfl, hZ, hh⟩ := hP
  have hx := Bd.exec
  have hby := Bd.bytes
  have hml : c.maxLocals = 2 := hml0
  have hown : s.vm.findClass "java/lang/String" = some m.cls := findClass_of_methodNamed Bd.named
  have hnm := (name_of_methodNamed Bd.named Bd.method).1
  have X0 : Stand p l e ({ frames := 3, cells := 0, slots := 0, locals := 40 } : Room) s m #[(.ref as6_0), (.int (0 : Int32))] below meth c s₁ [] 0 0 := Stand.of_body Bd
  have e0 : s₁.heap = h0 := by rw [← hh, Bd.state]; rfl
  have N0 := Fr.nil n0
  have pre0 : ∀ t, Steps p.tables e below (s₁.setTop (mkF m 0 #[.val (.ref as6_0), .val (.int (0 : Int32))] [])) t → Steps p.tables e below (s₁.setTop (entryFrame m #[(.ref as6_0), (.int (0 : Int32))] 2)) t := fun t k => castTop (ef_s6 m as6_0) k
  obtain ⟨cq1, kq1, q1a, q1b, q1c⟩ := isOf hZ e0 Es
  obtain ⟨_, _, ⟨T1, L1, k1, n1⟩, -, X1, ⟨Lc1, hQ1, l1, y1, z1⟩, st1⟩ := X0.virtualBack hx (y := (⟨"java/lang/String", "isLatin1", "()Z"⟩ : MethodName)) (z := (⟨"java/lang/String", "isLatin1", "()Z"⟩ : MethodName)) hown (mvT hZ (hw _ (List.mem_of_getElem? (i := 18) rfl))) (mvT hZ (hw _ (List.mem_of_getElem? (i := 19) rfl))) (notFace_of_selects (args := #[]) (mvT hZ (hw _ (List.mem_of_getElem? (i := 21) rfl)))) (mvT hZ (hw _ (List.mem_of_getElem? (i := 21) rfl))) (mvT hZ (hw _ (List.mem_of_getElem? (i := 20) rfl))) (by decide) (backOf (W := 0) (rms1 l Z a0 hw [] as6_0 cs h0 n0 Z0 Sc Fc hcs) hZ (hw _ (List.mem_of_getElem? (i := 22) rfl)) (hw _ (List.mem_of_getElem? (i := 6) rfl)) (by decide) (by decide)) q1a q1c (g := (mkF m 1 #[.val (.ref as6_0), .val (.int (0 : Int32))] [(.ref as6_0)])) rfl (by rw [hml]; rfl) (Steps.refl _) (argsL := []) (rest := []) (lenOf pd_2 rfl) rfl (by show 2 * 0 + _ ≤ _; exact Nat.le_of_eq rfl) (hb hby ds6_1) (fun _ _ => ⟨rfl, e0, (by decide : 0 + 0 ≤ _), (by decide : 0 + 0 ≤ _)⟩)
  dsimp only [Pt.U, Pt.locs, Pt.cells, Pt.slots] at X1 l1 y1 z1 st1 hQ1
  subst l1 y1 z1
  obtain ⟨rfl, N1q, eh1⟩ := hQ1
  have N1 := Fr.app N0 N1q
  obtain ⟨T2, X2, e2, st2⟩ := getF X1 hx hZ hown (host := "") (Or.inl (hw _ (List.mem_of_getElem? (i := 25) rfl))) Via.refl eh1 Fv (g := (mkF m 8 #[.val (.ref as6_0), .val (.int (0 : Int32))] [(.ref as6_0)])) rfl rfl (hb hby ds6_8)
  obtain ⟨_, _, ⟨T3, L3, k3, n3⟩, -, X3, ⟨Lc3, hQ3, l3, y3, z3⟩, st3⟩ := Jvm.LawKit.callS X2 hx (y := (⟨"java/lang/StringLatin1", "charAt", "([BI)C"⟩ : MethodName)) hown (mvT hZ (hw _ (List.mem_of_getElem? (i := 26) rfl))) (mvT hZ (hw _ (List.mem_of_getElem? (i := 27) rfl))) (mvT hZ (hw _ (List.mem_of_getElem? (i := 28) rfl))) (mvT hZ (hw _ (List.mem_of_getElem? (i := 29) rfl))) (by decide) (backOf (W := 0) (rms5 l Z a0 hw [] tt kk fm h0 n0 Z0 Vb Sf hfm) hZ (hw _ (List.mem_of_getElem? (i := 29) rfl)) (hw _ (List.mem_of_getElem? (i := 28) rfl)) (by decide) (by decide)) (g := (mkF m 12 #[.val (.ref as6_0), .val (.int (0 : Int32))] [(.int (0 : Int32)), (.ref tt)])) rfl (by rw [hml]; rfl) (argsL := [(.ref tt), (.int (0 : Int32))]) (rest := []) (lenOf pd_3 rfl) rfl (by show 2 * 0 + _ ≤ _; exact Nat.le_of_eq rfl) (hb hby ds6_12) (fun _ _ => ⟨rfl, e2, (by decide : 0 + 0 ≤ _), (by decide : 0 + 0 ≤ _)⟩)
  dsimp only [Pt.U, Pt.locs, Pt.cells, Pt.slots] at X3 l3 y3 z3 st3 hQ3
  subst l3 y3 z3
  obtain ⟨rfl, N3q, eh3⟩ := hQ3
  have N3 := Fr.app N1 N3q
  have k4 : ∀ t, Steps p.tables e below (T3.setTop (mkF m 15 #[.val (.ref as6_0), .val (.int (0 : Int32))] [(.int (48 : Int32))])) t → Steps p.tables e below (s₁.setTop (entryFrame m #[(.ref as6_0), (.int (0 : Int32))] 2)) t := by
    intro t k
    refine pre0 t ?_
    show Steps p.tables e below (s₁.setTop (mkF m 0 #[.val (.ref as6_0), .val (.int (0 : Int32))] [])) _
    refine XS.aloadN X0.here hx rfl (hb hby ds6_0) rfl rfl ?_
    show Steps p.tables e below (s₁.setTop (mkF m 1 #[.val (.ref as6_0), .val (.int (0 : Int32))] [(.ref as6_0)])) _
    refine st1.trans ?_
    show Steps p.tables e below (T1.setTop (mkF m 4 #[.val (.ref as6_0), .val (.int (0 : Int32))] [(.int (1 : Int32))])) _
    refine XS.ifNo X1.here hx rfl (hb hby ds6_4) rfl ((if0 _ _).trans (feq (by decide : ¬ ((1 : Int32) = (0 : Int32)))).1) ?_
    show Steps p.tables e below (T1.setTop (mkF m 7 #[.val (.ref as6_0), .val (.int (0 : Int32))] [])) _
    refine XS.aloadN X1.here hx rfl (hb hby ds6_7) rfl rfl ?_
    show Steps p.tables e below (T1.setTop (mkF m 8 #[.val (.ref as6_0), .val (.int (0 : Int32))] [(.ref as6_0)])) _
    refine st2 _ ?_
    show Steps p.tables e below (T2.setTop (mkF m 11 #[.val (.ref as6_0), .val (.int (0 : Int32))] [(.ref tt)])) _
    refine XS.iloadN X2.here hx rfl (hb hby ds6_11) rfl ?_
    show Steps p.tables e below (T2.setTop (mkF m 12 #[.val (.ref as6_0), .val (.int (0 : Int32))] [(.int (0 : Int32)), (.ref tt)])) _
    refine st3 _ ?_
    exact k
  obtain ⟨fs, hr, hrun, hended, hW, hsame⟩ := X3.leave (v := some (.int (48 : Int32))) (fun h => by rw [Bd.returns] at h; cases h)
  refine ⟨_, _, k4 _ ?_, hrun, hended, _, _, rfl, ?_, ⟨_, rfl⟩, hW, hsame.mono (by decide) (by decide)⟩
  · exact retN X3 hx (t := .char) Bd.returns (by simp) (hb hby ds6_15) hr
  · show Qs6 Z as6_0 tt kk cs fm h0 n0 _ T3.heap _
    rw [eh3]
    exact ⟨rfl, N3, rfl⟩
theorem pd_4 : parseMethodDescriptor "(I)C" = some ⟨[.int], some .char⟩ := by decide +kernel
theorem ds7_0 : decode jdk_43_method_2_code 0 = .ok (.iload_n 1, 1) := by decide +kernel
theorem ds7_1 : decode jdk_43_method_2_code 1 = .ok (.aload_n 0, 1) := by decide +kernel
theorem ds7_2 : decode jdk_43_method_2_code 2 = .ok (.arraylength, 1) := by decide +kernel
theorem ds7_3 : decode jdk_43_method_2_code 3 = .ok (.invokestatic 9, 3) := by decide +kernel
theorem ds7_6 : decode jdk_43_method_2_code 6 = .ok (.aload_n 0, 1) := by decide +kernel
theorem ds7_7 : decode jdk_43_method_2_code 7 = .ok (.iload_n 1, 1) := by decide +kernel
theorem ds7_8 : decode jdk_43_method_2_code 8 = .ok (.baload, 1) := by decide +kernel
theorem ds7_9 : decode jdk_43_method_2_code 9 = .ok (.sipush 255, 3) := by decide +kernel
theorem ds7_12 : decode jdk_43_method_2_code 12 = .ok (.iand, 1) := by decide +kernel
theorem ds7_13 : decode jdk_43_method_2_code 13 = .ok (.i2c, 1) := by decide +kernel
theorem ds7_14 : decode jdk_43_method_2_code 14 = .ok (.ireturn, 1) := by decide +kernel
theorem ef_s7 (m : MethodId) (as7_0 : Addr) : entryFrame m #[(.ref as7_0), (.int (1 : Int32))] 2 = mkF m 0 #[.val (.ref as7_0), .val (.int (1 : Int32))] [] := by first | (simp [entryFrame, mkF, argsToLocals, Value.category]; done) | rfl
def Qs7 (Z : State) (as7_0 : Addr) (kk : ClassId) (fm : Value) (h0 : Heap) (n0 : Nat) (v : Option Value) (h : Heap) (L : List Loc) : Prop := v = some (.int (49 : Int32)) ∧ Fr n0 L ∧ h = h0
set_option maxRecDepth 65536 in
set_option maxHeartbeats 40000000 in
theorem rms7 (l : Launch) (Z : State) (a0 : Array Value) (hw : ∀ d ∈ tables_1, d.before a0 Z = true) (ws : List Jvm.Cond) (as7_0 : Addr) (kk : ClassId) (fm : Value) (h0 : Heap) (n0 : Nat) (Z0 : n0 ≤ h0.size) (Vb : Arv Z h0 as7_0 kk .byte (10 : Int32) [(.int (48 : Int32)), (.int (49 : Int32)), (.int (50 : Int32)), (.int (51 : Int32)), (.int (52 : Int32)), (.int (53 : Int32)), (.int (54 : Int32)), (.int (55 : Int32)), (.int (56 : Int32)), (.int (57 : Int32))] (.int (0 : Int32))) (Sf : Sta Z h0 "jdk/internal/util/Preconditions" "SIOOBE_FORMATTER" "Ljava/util/function/BiFunction;" fm) (hfm : fm.isRef = true) :
    MetFree l (⟨"java/lang/StringLatin1", "charAt", "([BI)C"⟩ : MethodName) (head1 (Jvm.Cond.code (⟨"java/lang/StringLatin1", "charAt", "([BI)C"⟩ : MethodName) jdk_43_method_2_code 2 (some .char) :: ws) ({ frames := 2, cells := 0, slots := 0, locals := 27 } : Room)) (fun a U => a = #[(.ref as7_0), (.int (1 : Int32))] ∧ Z.Warmed39 U.vm ∧ U.heap = h0) (fun _ _ _ _ _ => True) (fun _ U o U' => ∃ v L, o = .returned v ∧ Qs7 Z as7_0 kk fm h0 n0 v U'.heap L ∧ FrameEnd U o U' L ({ frames := 2, cells := 0, slots := 0, locals := 27 } : Room).cells ({ frames := 2, cells := 0, slots := 0, locals := 27 } : Room).slots) := by
  refine MetFree.of_bodySF (plainFor_of_name pn_3) hisR ?_
  intro p e s m args below meth c s₁ Bd hml0 hP hK
  obtain ⟨rfl, hZ, hh⟩ := hP
  have hx := Bd.exec
  have hby := Bd.bytes
  have hml : c.maxLocals = 2 := hml0
  have hown : s.vm.findClass "java/lang/StringLatin1" = some m.cls := findClass_of_methodNamed Bd.named
  have hnm := (name_of_methodNamed Bd.named Bd.method).1
  have X0 : Stand p l e ({ frames := 2, cells := 0, slots := 0, locals := 27 } : Room) s m #[(.ref as7_0), (.int (1 : Int32))] below meth c s₁ [] 0 0 := Stand.of_body Bd
  have e0 : s₁.heap = h0 := by rw [← hh, Bd.state]; rfl
  have N0 := Fr.nil n0
  have pre0 : ∀ t, Steps p.tables e below (s₁.setTop (mkF m 0 #[.val (.ref as7_0), .val (.int (1 : Int32))] [])) t → Steps p.tables e below (s₁.setTop (entryFrame m #[(.ref as7_0), (.int (1 : Int32))] 2)) t := fun t k => castTop (ef_s7 m as7_0) k
  obtain ⟨cl1, Ar1, qc1, Sz1, Nn1, Hh1, Gg1⟩ := (id Vb)
  obtain ⟨_, _, ⟨T2, L2, k2, n2⟩, -, X2, ⟨Lc2, hQ2, l2, y2, z2⟩, st2⟩ := Jvm.LawKit.callS X0 hx (y := (⟨"java/lang/String", "checkIndex", "(II)V"⟩ : MethodName)) hown (mvT hZ (hw _ (List.mem_of_getElem? (i := 30) rfl))) (mvT hZ (hw _ (List.mem_of_getElem? (i := 31) rfl))) (mvT hZ (hw _ (List.mem_of_getElem? (i := 6) rfl))) (mvT hZ (hw _ (List.mem_of_getElem? (i := 32) rfl))) (by decide) (backOf (W := 0) (rms4 l Z a0 hw [] (1 : Int32) (10 : Int32) fm h0 n0 Z0 Sf (by decide : ¬ ((1 : Int32) < (0 : Int32))) (by decide : (1 : Int32) < (10 : Int32)) hfm) hZ (hw _ (List.mem_of_getElem? (i := 32) rfl)) (hw _ (List.mem_of_getElem? (i := 6) rfl)) (by decide) (by decide)) (g := (mkF m 3 #[.val (.ref as7_0), .val (.int (1 : Int32))] [(.int (10 : Int32)), (.int (1 : Int32))])) rfl (by rw [hml]; rfl) (argsL := [(.int (1 : Int32)), (.int (10 : Int32))]) (rest := []) (lenOf pd_1 rfl) rfl (by show 2 * 0 + _ ≤ _; exact Nat.le_of_eq rfl) (hb hby ds7_3) (fun _ _ => ⟨rfl, e0, (by decide : 0 + 0 ≤ _), (by decide : 0 + 0 ≤ _)⟩)
  dsimp only [Pt.U, Pt.locs, Pt.cells, Pt.slots] at X2 l2 y2 z2 st2 hQ2
  subst l2 y2 z2
  obtain ⟨rfl, N2q, eh2⟩ := hQ2
  have N2 := Fr.app N0 N2q
  obtain ⟨cl3, Ar3, qc3, Sz3, Nn3, Hh3, Gg3⟩ := (id Vb)
  have hin3 : ¬ ((1 : Int32) < 0 ∨ cl3.slots.size ≤ ((1 : Int32)).toNatClampNeg) := inb_of Sz3 ⟨by decide, by decide⟩
  have k4 : ∀ t, Steps p.tables e below (T2.setTop (mkF m 14 #[.val (.ref as7_0), .val (.int (1 : Int32))] [(.int (49 : Int32))])) t → Steps p.tables e below (s₁.setTop (entryFrame m #[(.ref as7_0), (.int (1 : Int32))] 2)) t := by
    intro t k
    refine pre0 t ?_
    show Steps p.tables e below (s₁.setTop (mkF m 0 #[.val (.ref as7_0), .val (.int (1 : Int32))] [])) _
    refine XS.iloadN X0.here hx rfl (hb hby ds7_0) rfl ?_
    show Steps p.tables e below (s₁.setTop (mkF m 1 #[.val (.ref as7_0), .val (.int (1 : Int32))] [(.int (1 : Int32))])) _
    refine XS.aloadN X0.here hx rfl (hb hby ds7_1) rfl rfl ?_
    show Steps p.tables e below (s₁.setTop (mkF m 2 #[.val (.ref as7_0), .val (.int (1 : Int32))] [(.ref as7_0), (.int (1 : Int32))])) _
    refine X0.arraylength hx (by rw [e0]; exact Ar1.1) (State.isArrayOf_alike hZ.alike Ar1.2.1) (g := (mkF m 2 #[.val (.ref as7_0), .val (.int (1 : Int32))] [(.ref as7_0), (.int (1 : Int32))])) rfl rfl (hb hby ds7_2) _ ?_
    rw [len_of Sz1 Nn1]
    show Steps p.tables e below (s₁.setTop (mkF m 3 #[.val (.ref as7_0), .val (.int (1 : Int32))] [(.int (10 : Int32)), (.int (1 : Int32))])) _
    refine st2 _ ?_
    show Steps p.tables e below (T2.setTop (mkF m 6 #[.val (.ref as7_0), .val (.int (1 : Int32))] [])) _
    refine XS.aloadN X2.here hx rfl (hb hby ds7_6) rfl rfl ?_
    show Steps p.tables e below (T2.setTop (mkF m 7 #[.val (.ref as7_0), .val (.int (1 : Int32))] [(.ref as7_0)])) _
    refine XS.iloadN X2.here hx rfl (hb hby ds7_7) rfl ?_
    show Steps p.tables e below (T2.setTop (mkF m 8 #[.val (.ref as7_0), .val (.int (1 : Int32))] [(.int (1 : Int32)), (.ref as7_0)])) _
    refine X2.baloadBytes hx (j := (1 : Int32)) (v := (.int (49 : Int32))) (by rw [eh2]; exact Ar3.1) (State.isArrayOf_alike hZ.alike Ar3.2.1) Ar3.2.2 hin3 (Hh3.at hin3 rfl) (g := (mkF m 8 #[.val (.ref as7_0), .val (.int (1 : Int32))] [(.int (1 : Int32)), (.ref as7_0)])) rfl rfl (hb hby ds7_8) _ ?_
    show Steps p.tables e below (T2.setTop (mkF m 9 #[.val (.ref as7_0), .val (.int (1 : Int32))] [(.int (49 : Int32))])) _
    refine XS.sipush X2.here hx rfl (hb hby ds7_9) ?_
    show Steps p.tables e below (T2.setTop (mkF m 12 #[.val (.ref as7_0), .val (.int (1 : Int32))] [(.int (255 : Int32)), (.int (49 : Int32))])) _
    refine XS.iand X2.here hx rfl (hb hby ds7_12) rfl ?_
    show Steps p.tables e below (T2.setTop (mkF m 13 #[.val (.ref as7_0), .val (.int (1 : Int32))] [(.int (49 : Int32))])) _
    refine XS.i2c X2.here hx rfl (hb hby ds7_13) rfl ?_
    exact k
  obtain ⟨fs, hr, hrun, hended, hW, hsame⟩ := X2.leave (v := some (.int (49 : Int32))) (fun h => by rw [Bd.returns] at h; cases h)
  refine ⟨_, _, k4 _ ?_, hrun, hended, _, _, rfl, ?_, ⟨_, rfl⟩, hW, hsame.mono (by decide) (by decide)⟩
  · exact retN X2 hx (t := .char) Bd.returns (by simp) (hb hby ds7_14) hr
  · show Qs7 Z as7_0 kk fm h0 n0 _ T2.heap _
    rw [eh2]
    exact ⟨rfl, N2, rfl⟩
theorem ds8_0 : decode jdk_42_method_56_code 0 = .ok (.aload_n 0, 1) := by decide +kernel
theorem ds8_1 : decode jdk_42_method_56_code 1 = .ok (.invokevirtual 492, 3) := by decide +kernel
theorem ds8_4 : decode jdk_42_method_56_code 4 = .ok (.ifCond .eq 12, 3) := by decide +kernel
theorem ds8_7 : decode jdk_42_method_56_code 7 = .ok (.aload_n 0, 1) := by decide +kernel
theorem ds8_8 : decode jdk_42_method_56_code 8 = .ok (.getfield 9, 3) := by decide +kernel
theorem ds8_11 : decode jdk_42_method_56_code 11 = .ok (.iload_n 1, 1) := by decide +kernel
theorem ds8_12 : decode jdk_42_method_56_code 12 = .ok (.invokestatic 495, 3) := by decide +kernel
theorem ds8_15 : decode jdk_42_method_56_code 15 = .ok (.ireturn, 1) := by decide +kernel
theorem ef_s8 (m : MethodId) (as8_0 : Addr) : entryFrame m #[(.ref as8_0), (.int (1 : Int32))] 2 = mkF m 0 #[.val (.ref as8_0), .val (.int (1 : Int32))] [] := by first | (simp [entryFrame, mkF, argsToLocals, Value.category]; done) | rfl
def Qs8 (Z : State) (as8_0 : Addr) (tt : Addr) (kk : ClassId) (cs : Int32) (fm : Value) (h0 : Heap) (n0 : Nat) (v : Option Value) (h : Heap) (L : List Loc) : Prop := v = some (.int (49 : Int32)) ∧ Fr n0 L ∧ h = h0
set_option maxRecDepth 65536 in
set_option maxHeartbeats 40000000 in
theorem rms8 (l : Launch) (Z : State) (a0 : Array Value) (hw : ∀ d ∈ tables_1, d.before a0 Z = true) (ws : List Jvm.Cond) (as8_0 : Addr) (tt : Addr) (kk : ClassId) (cs : Int32) (fm : Value) (h0 : Heap) (n0 : Nat) (Z0 : n0 ≤ h0.size) (Es : Exa Z h0 as8_0 "java/lang/String") (Fv : Fld Z h0 as8_0 "java/lang/String" "value" "[B" (.ref tt)) (Fc : Fld Z h0 as8_0 "java/lang/String" "coder" "B" (.int (0 : Int32))) (Vb : Arv Z h0 tt kk .byte (10 : Int32) [(.int (48 : Int32)), (.int (49 : Int32)), (.int (50 : Int32)), (.int (51 : Int32)), (.int (52 : Int32)), (.int (53 : Int32)), (.int (54 : Int32)), (.int (55 : Int32)), (.int (56 : Int32)), (.int (57 : Int32))] (.int (0 : Int32))) (Sc : Sta Z h0 "java/lang/String" "COMPACT_STRINGS" "Z" (.int cs)) (Sf : Sta Z h0 "jdk/internal/util/Preconditions" "SIOOBE_FORMATTER" "Ljava/util/function/BiFunction;" fm) (hcs : ¬ (cs = (0 : Int32))) (hfm : fm.isRef = true) :
    MetFree l (⟨"java/lang/String", "charAt", "(I)C"⟩ : MethodName) (head1 (Jvm.Cond.code (⟨"java/lang/String", "charAt", "(I)C"⟩ : MethodName) jdk_42_method_56_code 2 (some .char) :: ws) ({ frames := 3, cells := 0, slots := 0, locals := 40 } : Room)) (fun a U => a = #[(.ref as8_0), (.int (1 : Int32))] ∧ Z.Warmed39 U.vm ∧ U.heap = h0) (fun _ _ _ _ _ => True) (fun _ U o U' => ∃ v L, o = .returned v ∧ Qs8 Z as8_0 tt kk cs fm h0 n0 v U'.heap L ∧ FrameEnd U o U' L ({ frames := 3, cells := 0, slots := 0, locals := 40 } : Room).cells ({ frames := 3, cells := 0, slots := 0, locals := 40 } : Room).slots) := by
  refine MetFree.of_bodySF (plainFor_of_name pn_1) hisR ?_
  intro p e s m args below meth c s₁ Bd hml0 hP hK
  obtain ⟨rfl, hZ, hh⟩ := hP
  have hx := Bd.exec
  have hby := Bd.bytes
  have hml : c.maxLocals = 2 := hml0
  have hown : s.vm.findClass "java/lang/String" = some m.cls := findClass_of_methodNamed Bd.named
  have hnm := (name_of_methodNamed Bd.named Bd.method).1
  have X0 : Stand p l e ({ frames := 3, cells := 0, slots := 0, locals := 40 } : Room) s m #[(.ref as8_0), (.int (1 : Int32))] below meth c s₁ [] 0 0 := Stand.of_body Bd
  have e0 : s₁.heap = h0 := by rw [← hh, Bd.state]; rfl
  have N0 := Fr.nil n0
  have pre0 : ∀ t, Steps p.tables e below (s₁.setTop (mkF m 0 #[.val (.ref as8_0), .val (.int (1 : Int32))] [])) t → Steps p.tables e below (s₁.setTop (entryFrame m #[(.ref as8_0), (.int (1 : Int32))] 2)) t := fun t k => castTop (ef_s8 m as8_0) k
  obtain ⟨cq1, kq1, q1a, q1b, q1c⟩ := isOf hZ e0 Es
  obtain ⟨_, _, ⟨T1, L1, k1, n1⟩, -, X1, ⟨Lc1, hQ1, l1, y1, z1⟩, st1⟩ := X0.virtualBack hx (y := (⟨"java/lang/String", "isLatin1", "()Z"⟩ : MethodName)) (z := (⟨"java/lang/String", "isLatin1", "()Z"⟩ : MethodName)) hown (mvT hZ (hw _ (List.mem_of_getElem? (i := 18) rfl))) (mvT hZ (hw _ (List.mem_of_getElem? (i := 19) rfl))) (notFace_of_selects (args := #[]) (mvT hZ (hw _ (List.mem_of_getElem? (i := 21) rfl)))) (mvT hZ (hw _ (List.mem_of_getElem? (i := 21) rfl))) (mvT hZ (hw _ (List.mem_of_getElem? (i := 20) rfl))) (by decide) (backOf (W := 0) (rms1 l Z a0 hw [] as8_0 cs h0 n0 Z0 Sc Fc hcs) hZ (hw _ (List.mem_of_getElem? (i := 22) rfl)) (hw _ (List.mem_of_getElem? (i := 6) rfl)) (by decide) (by decide)) q1a q1c (g := (mkF m 1 #[.val (.ref as8_0), .val (.int (1 : Int32))] [(.ref as8_0)])) rfl (by rw [hml]; rfl) (Steps.refl _) (argsL := []) (rest := []) (lenOf pd_2 rfl) rfl (by show 2 * 0 + _ ≤ _; exact Nat.le_of_eq rfl) (hb hby ds8_1) (fun _ _ => ⟨rfl, e0, (by decide : 0 + 0 ≤ _), (by decide : 0 + 0 ≤ _)⟩)
  dsimp only [Pt.U, Pt.locs, Pt.cells, Pt.slots] at X1 l1 y1 z1 st1 hQ1
  subst l1 y1 z1
  obtain ⟨rfl, N1q, eh1⟩ := hQ1
  have N1 := Fr.app N0 N1q
  obtain ⟨T2, X2, e2, st2⟩ := getF X1 hx hZ hown (host := "") (Or.inl (hw _ (List.mem_of_getElem? (i := 25) rfl))) Via.refl eh1 Fv (g := (mkF m 8 #[.val (.ref as8_0), .val (.int (1 : Int32))] [(.ref as8_0)])) rfl rfl (hb hby ds8_8)
  obtain ⟨_, _, ⟨T3, L3, k3, n3⟩, -, X3, ⟨Lc3, hQ3, l3, y3, z3⟩, st3⟩ := Jvm.LawKit.callS X2 hx (y := (⟨"java/lang/StringLatin1", "charAt", "([BI)C"⟩ : MethodName)) hown (mvT hZ (hw _ (List.mem_of_getElem? (i := 26) rfl))) (mvT hZ (hw _ (List.mem_of_getElem? (i := 27) rfl))) (mvT hZ (hw _ (List.mem_of_getElem? (i := 28) rfl))) (mvT hZ (hw _ (List.mem_of_getElem? (i := 29) rfl))) (by decide) (backOf (W := 0) (rms7 l Z a0 hw [] tt kk fm h0 n0 Z0 Vb Sf hfm) hZ (hw _ (List.mem_of_getElem? (i := 29) rfl)) (hw _ (List.mem_of_getElem? (i := 28) rfl)) (by decide) (by decide)) (g := (mkF m 12 #[.val (.ref as8_0), .val (.int (1 : Int32))] [(.int (1 : Int32)), (.ref tt)])) rfl (by rw [hml]; rfl) (argsL := [(.ref tt), (.int (1 : Int32))]) (rest := []) (lenOf pd_3 rfl) rfl (by show 2 * 0 + _ ≤ _; exact Nat.le_of_eq rfl) (hb hby ds8_12) (fun _ _ => ⟨rfl, e2, (by decide : 0 + 0 ≤ _), (by decide : 0 + 0 ≤ _)⟩)
  dsimp only [Pt.U, Pt.locs, Pt.cells, Pt.slots] at X3 l3 y3 z3 st3 hQ3
  subst l3 y3 z3
  obtain ⟨rfl, N3q, eh3⟩ := hQ3
  have N3 := Fr.app N1 N3q
  have k4 : ∀ t, Steps p.tables e below (T3.setTop (mkF m 15 #[.val (.ref as8_0), .val (.int (1 : Int32))] [(.int (49 : Int32))])) t → Steps p.tables e below (s₁.setTop (entryFrame m #[(.ref as8_0), (.int (1 : Int32))] 2)) t := by
    intro t k
    refine pre0 t ?_
    show Steps p.tables e below (s₁.setTop (mkF m 0 #[.val (.ref as8_0), .val (.int (1 : Int32))] [])) _
    refine XS.aloadN X0.here hx rfl (hb hby ds8_0) rfl rfl ?_
    show Steps p.tables e below (s₁.setTop (mkF m 1 #[.val (.ref as8_0), .val (.int (1 : Int32))] [(.ref as8_0)])) _
    refine st1.trans ?_
    show Steps p.tables e below (T1.setTop (mkF m 4 #[.val (.ref as8_0), .val (.int (1 : Int32))] [(.int (1 : Int32))])) _
    refine XS.ifNo X1.here hx rfl (hb hby ds8_4) rfl ((if0 _ _).trans (feq (by decide : ¬ ((1 : Int32) = (0 : Int32)))).1) ?_
    show Steps p.tables e below (T1.setTop (mkF m 7 #[.val (.ref as8_0), .val (.int (1 : Int32))] [])) _
    refine XS.aloadN X1.here hx rfl (hb hby ds8_7) rfl rfl ?_
    show Steps p.tables e below (T1.setTop (mkF m 8 #[.val (.ref as8_0), .val (.int (1 : Int32))] [(.ref as8_0)])) _
    refine st2 _ ?_
    show Steps p.tables e below (T2.setTop (mkF m 11 #[.val (.ref as8_0), .val (.int (1 : Int32))] [(.ref tt)])) _
    refine XS.iloadN X2.here hx rfl (hb hby ds8_11) rfl ?_
    show Steps p.tables e below (T2.setTop (mkF m 12 #[.val (.ref as8_0), .val (.int (1 : Int32))] [(.int (1 : Int32)), (.ref tt)])) _
    refine st3 _ ?_
    exact k
  obtain ⟨fs, hr, hrun, hended, hW, hsame⟩ := X3.leave (v := some (.int (49 : Int32))) (fun h => by rw [Bd.returns] at h; cases h)
  refine ⟨_, _, k4 _ ?_, hrun, hended, _, _, rfl, ?_, ⟨_, rfl⟩, hW, hsame.mono (by decide) (by decide)⟩
  · exact retN X3 hx (t := .char) Bd.returns (by simp) (hb hby ds8_15) hr
  · show Qs8 Z as8_0 tt kk cs fm h0 n0 _ T3.heap _
    rw [eh3]
    exact ⟨rfl, N3, rfl⟩
theorem ds9_0 : decode jdk_43_method_2_code 0 = .ok (.iload_n 1, 1) := by decide +kernel
theorem ds9_1 : decode jdk_43_method_2_code 1 = .ok (.aload_n 0, 1) := by decide +kernel
theorem ds9_2 : decode jdk_43_method_2_code 2 = .ok (.arraylength, 1) := by decide +kernel
theorem ds9_3 : decode jdk_43_method_2_code 3 = .ok (.invokestatic 9, 3) := by decide +kernel
theorem ds9_6 : decode jdk_43_method_2_code 6 = .ok (.aload_n 0, 1) := by decide +kernel
theorem ds9_7 : decode jdk_43_method_2_code 7 = .ok (.iload_n 1, 1) := by decide +kernel
theorem ds9_8 : decode jdk_43_method_2_code 8 = .ok (.baload, 1) := by decide +kernel
theorem ds9_9 : decode jdk_43_method_2_code 9 = .ok (.sipush 255, 3) := by decide +kernel
theorem ds9_12 : decode jdk_43_method_2_code 12 = .ok (.iand, 1) := by decide +kernel
theorem ds9_13 : decode jdk_43_method_2_code 13 = .ok (.i2c, 1) := by decide +kernel
theorem ds9_14 : decode jdk_43_method_2_code 14 = .ok (.ireturn, 1) := by decide +kernel
theorem ef_s9 (m : MethodId) (as9_0 : Addr) : entryFrame m #[(.ref as9_0), (.int (2 : Int32))] 2 = mkF m 0 #[.val (.ref as9_0), .val (.int (2 : Int32))] [] := by first | (simp [entryFrame, mkF, argsToLocals, Value.category]; done) | rfl
def Qs9 (Z : State) (as9_0 : Addr) (kk : ClassId) (fm : Value) (h0 : Heap) (n0 : Nat) (v : Option Value) (h : Heap) (L : List Loc) : Prop := v = some (.int (50 : Int32)) ∧ Fr n0 L ∧ h = h0
set_option maxRecDepth 65536 in
set_option maxHeartbeats 40000000 in
theorem rms9 (l : Launch) (Z : State) (a0 : Array Value) (hw : ∀ d ∈ tables_1, d.before a0 Z = true) (ws : List Jvm.Cond) (as9_0 : Addr) (kk : ClassId) (fm : Value) (h0 : Heap) (n0 : Nat) (Z0 : n0 ≤ h0.size) (Vb : Arv Z h0 as9_0 kk .byte (10 : Int32) [(.int (48 : Int32)), (.int (49 : Int32)), (.int (50 : Int32)), (.int (51 : Int32)), (.int (52 : Int32)), (.int (53 : Int32)), (.int (54 : Int32)), (.int (55 : Int32)), (.int (56 : Int32)), (.int (57 : Int32))] (.int (0 : Int32))) (Sf : Sta Z h0 "jdk/internal/util/Preconditions" "SIOOBE_FORMATTER" "Ljava/util/function/BiFunction;" fm) (hfm : fm.isRef = true) :
    MetFree l (⟨"java/lang/StringLatin1", "charAt", "([BI)C"⟩ : MethodName) (head1 (Jvm.Cond.code (⟨"java/lang/StringLatin1", "charAt", "([BI)C"⟩ : MethodName) jdk_43_method_2_code 2 (some .char) :: ws) ({ frames := 2, cells := 0, slots := 0, locals := 27 } : Room)) (fun a U => a = #[(.ref as9_0), (.int (2 : Int32))] ∧ Z.Warmed39 U.vm ∧ U.heap = h0) (fun _ _ _ _ _ => True) (fun _ U o U' => ∃ v L, o = .returned v ∧ Qs9 Z as9_0 kk fm h0 n0 v U'.heap L ∧ FrameEnd U o U' L ({ frames := 2, cells := 0, slots := 0, locals := 27 } : Room).cells ({ frames := 2, cells := 0, slots := 0, locals := 27 } : Room).slots) := by
  refine MetFree.of_bodySF (plainFor_of_name pn_3) hisR ?_
  intro p e s m args below meth c s₁ Bd hml0 hP hK
  obtain ⟨rfl, hZ, hh⟩ := hP
  have hx := Bd.exec
  have hby := Bd.bytes
  have hml : c.maxLocals = 2 := hml0
  have hown : s.vm.findClass "java/lang/StringLatin1" = some m.cls := findClass_of_methodNamed Bd.named
  have hnm := (name_of_methodNamed Bd.named Bd.method).1
  have X0 : Stand p l e ({ frames := 2, cells := 0, slots := 0, locals := 27 } : Room) s m #[(.ref as9_0), (.int (2 : Int32))] below meth c s₁ [] 0 0 := Stand.of_body Bd
  have e0 : s₁.heap = h0 := by rw [← hh, Bd.state]; rfl
  have N0 := Fr.nil n0
  have pre0 : ∀ t, Steps p.tables e below (s₁.setTop (mkF m 0 #[.val (.ref as9_0), .val (.int (2 : Int32))] [])) t → Steps p.tables e below (s₁.setTop (entryFrame m #[(.ref as9_0), (.int (2 : Int32))] 2)) t := fun t k => castTop (ef_s9 m as9_0) k
  obtain ⟨cl1, Ar1, qc1, Sz1, Nn1, Hh1, Gg1⟩ := (id Vb)
  obtain ⟨_, _, ⟨T2, L2, k2, n2⟩, -, X2, ⟨Lc2, hQ2, l2, y2, z2⟩, st2⟩ := Jvm.LawKit.callS X0 hx (y := (⟨"java/lang/String", "checkIndex", "(II)V"⟩ : MethodName)) hown (mvT hZ (hw _ (List.mem_of_getElem? (i := 30) rfl))) (mvT hZ (hw _ (List.mem_of_getElem? (i := 31) rfl))) (mvT hZ (hw _ (List.mem_of_getElem? (i := 6) rfl))) (mvT hZ (hw _ (List.mem_of_getElem? (i := 32) rfl))) (by decide) (backOf (W := 0) (rms4 l Z a0 hw [] (2 : Int32) (10 : Int32) fm h0 n0 Z0 Sf (by decide : ¬ ((2 : Int32) < (0 : Int32))) (by decide : (2 : Int32) < (10 : Int32)) hfm) hZ (hw _ (List.mem_of_getElem? (i := 32) rfl)) (hw _ (List.mem_of_getElem? (i := 6) rfl)) (by decide) (by decide)) (g := (mkF m 3 #[.val (.ref as9_0), .val (.int (2 : Int32))] [(.int (10 : Int32)), (.int (2 : Int32))])) rfl (by rw [hml]; rfl) (argsL := [(.int (2 : Int32)), (.int (10 : Int32))]) (rest := []) (lenOf pd_1 rfl) rfl (by show 2 * 0 + _ ≤ _; exact Nat.le_of_eq rfl) (hb hby ds9_3) (fun _ _ => ⟨rfl, e0, (by decide : 0 + 0 ≤ _), (by decide : 0 + 0 ≤ _)⟩)
  dsimp only [Pt.U, Pt.locs, Pt.cells, Pt.slots] at X2 l2 y2 z2 st2 hQ2
  subst l2 y2 z2
  obtain ⟨rfl, N2q, eh2⟩ := hQ2
  have N2 := Fr.app N0 N2q
  obtain ⟨cl3, Ar3, qc3, Sz3, Nn3, Hh3, Gg3⟩ := (id Vb)
  have hin3 : ¬ ((2 : Int32) < 0 ∨ cl3.slots.size ≤ ((2 : Int32)).toNatClampNeg) := inb_of Sz3 ⟨by decide, by decide⟩
  have k4 : ∀ t, Steps p.tables e below (T2.setTop (mkF m 14 #[.val (.ref as9_0), .val (.int (2 : Int32))] [(.int (50 : Int32))])) t → Steps p.tables e below (s₁.setTop (entryFrame m #[(.ref as9_0), (.int (2 : Int32))] 2)) t := by
    intro t k
    refine pre0 t ?_
    show Steps p.tables e below (s₁.setTop (mkF m 0 #[.val (.ref as9_0), .val (.int (2 : Int32))] [])) _
    refine XS.iloadN X0.here hx rfl (hb hby ds9_0) rfl ?_
    show Steps p.tables e below (s₁.setTop (mkF m 1 #[.val (.ref as9_0), .val (.int (2 : Int32))] [(.int (2 : Int32))])) _
    refine XS.aloadN X0.here hx rfl (hb hby ds9_1) rfl rfl ?_
    show Steps p.tables e below (s₁.setTop (mkF m 2 #[.val (.ref as9_0), .val (.int (2 : Int32))] [(.ref as9_0), (.int (2 : Int32))])) _
    refine X0.arraylength hx (by rw [e0]; exact Ar1.1) (State.isArrayOf_alike hZ.alike Ar1.2.1) (g := (mkF m 2 #[.val (.ref as9_0), .val (.int (2 : Int32))] [(.ref as9_0), (.int (2 : Int32))])) rfl rfl (hb hby ds9_2) _ ?_
    rw [len_of Sz1 Nn1]
    show Steps p.tables e below (s₁.setTop (mkF m 3 #[.val (.ref as9_0), .val (.int (2 : Int32))] [(.int (10 : Int32)), (.int (2 : Int32))])) _
    refine st2 _ ?_
    show Steps p.tables e below (T2.setTop (mkF m 6 #[.val (.ref as9_0), .val (.int (2 : Int32))] [])) _
    refine XS.aloadN X2.here hx rfl (hb hby ds9_6) rfl rfl ?_
    show Steps p.tables e below (T2.setTop (mkF m 7 #[.val (.ref as9_0), .val (.int (2 : Int32))] [(.ref as9_0)])) _
    refine XS.iloadN X2.here hx rfl (hb hby ds9_7) rfl ?_
    show Steps p.tables e below (T2.setTop (mkF m 8 #[.val (.ref as9_0), .val (.int (2 : Int32))] [(.int (2 : Int32)), (.ref as9_0)])) _
    refine X2.baloadBytes hx (j := (2 : Int32)) (v := (.int (50 : Int32))) (by rw [eh2]; exact Ar3.1) (State.isArrayOf_alike hZ.alike Ar3.2.1) Ar3.2.2 hin3 (Hh3.at hin3 rfl) (g := (mkF m 8 #[.val (.ref as9_0), .val (.int (2 : Int32))] [(.int (2 : Int32)), (.ref as9_0)])) rfl rfl (hb hby ds9_8) _ ?_
    show Steps p.tables e below (T2.setTop (mkF m 9 #[.val (.ref as9_0), .val (.int (2 : Int32))] [(.int (50 : Int32))])) _
    refine XS.sipush X2.here hx rfl (hb hby ds9_9) ?_
    show Steps p.tables e below (T2.setTop (mkF m 12 #[.val (.ref as9_0), .val (.int (2 : Int32))] [(.int (255 : Int32)), (.int (50 : Int32))])) _
    refine XS.iand X2.here hx rfl (hb hby ds9_12) rfl ?_
    show Steps p.tables e below (T2.setTop (mkF m 13 #[.val (.ref as9_0), .val (.int (2 : Int32))] [(.int (50 : Int32))])) _
    refine XS.i2c X2.here hx rfl (hb hby ds9_13) rfl ?_
    exact k
  obtain ⟨fs, hr, hrun, hended, hW, hsame⟩ := X2.leave (v := some (.int (50 : Int32))) (fun h => by rw [Bd.returns] at h; cases h)
  refine ⟨_, _, k4 _ ?_, hrun, hended, _, _, rfl, ?_, ⟨_, rfl⟩, hW, hsame.mono (by decide) (by decide)⟩
  · exact retN X2 hx (t := .char) Bd.returns (by simp) (hb hby ds9_14) hr
  · show Qs9 Z as9_0 kk fm h0 n0 _ T2.heap _
    rw [eh2]
    exact ⟨rfl, N2, rfl⟩
theorem ds10_0 : decode jdk_42_method_56_code 0 = .ok (.aload_n 0, 1) := by decide +kernel
theorem ds10_1 : decode jdk_42_method_56_code 1 = .ok (.invokevirtual 492, 3) := by decide +kernel
theorem ds10_4 : decode jdk_42_method_56_code 4 = .ok (.ifCond .eq 12, 3) := by decide +kernel
theorem ds10_7 : decode jdk_42_method_56_code 7 = .ok (.aload_n 0, 1) := by decide +kernel
theorem ds10_8 : decode jdk_42_method_56_code 8 = .ok (.getfield 9, 3) := by decide +kernel
theorem ds10_11 : decode jdk_42_method_56_code 11 = .ok (.iload_n 1, 1) := by decide +kernel
theorem ds10_12 : decode jdk_42_method_56_code 12 = .ok (.invokestatic 495, 3) := by decide +kernel
theorem ds10_15 : decode jdk_42_method_56_code 15 = .ok (.ireturn, 1) := by decide +kernel
theorem ef_s10 (m : MethodId) (as10_0 : Addr) : entryFrame m #[(.ref as10_0), (.int (2 : Int32))] 2 = mkF m 0 #[.val (.ref as10_0), .val (.int (2 : Int32))] [] := by first | (simp [entryFrame, mkF, argsToLocals, Value.category]; done) | rfl
def Qs10 (Z : State) (as10_0 : Addr) (tt : Addr) (kk : ClassId) (cs : Int32) (fm : Value) (h0 : Heap) (n0 : Nat) (v : Option Value) (h : Heap) (L : List Loc) : Prop := v = some (.int (50 : Int32)) ∧ Fr n0 L ∧ h = h0
set_option maxRecDepth 65536 in
set_option maxHeartbeats 40000000 in
theorem rms10 (l : Launch) (Z : State) (a0 : Array Value) (hw : ∀ d ∈ tables_1, d.before a0 Z = true) (ws : List Jvm.Cond) (as10_0 : Addr) (tt : Addr) (kk : ClassId) (cs : Int32) (fm : Value) (h0 : Heap) (n0 : Nat) (Z0 : n0 ≤ h0.size) (Es : Exa Z h0 as10_0 "java/lang/String") (Fv : Fld Z h0 as10_0 "java/lang/String" "value" "[B" (.ref tt)) (Fc : Fld Z h0 as10_0 "java/lang/String" "coder" "B" (.int (0 : Int32))) (Vb : Arv Z h0 tt kk .byte (10 : Int32) [(.int (48 : Int32)), (.int (49 : Int32)), (.int (50 : Int32)), (.int (51 : Int32)), (.int (52 : Int32)), (.int (53 : Int32)), (.int (54 : Int32)), (.int (55 : Int32)), (.int (56 : Int32)), (.int (57 : Int32))] (.int (0 : Int32))) (Sc : Sta Z h0 "java/lang/String" "COMPACT_STRINGS" "Z" (.int cs)) (Sf : Sta Z h0 "jdk/internal/util/Preconditions" "SIOOBE_FORMATTER" "Ljava/util/function/BiFunction;" fm) (hcs : ¬ (cs = (0 : Int32))) (hfm : fm.isRef = true) :
    MetFree l (⟨"java/lang/String", "charAt", "(I)C"⟩ : MethodName) (head1 (Jvm.Cond.code (⟨"java/lang/String", "charAt", "(I)C"⟩ : MethodName) jdk_42_method_56_code 2 (some .char) :: ws) ({ frames := 3, cells := 0, slots := 0, locals := 40 } : Room)) (fun a U => a = #[(.ref as10_0), (.int (2 : Int32))] ∧ Z.Warmed39 U.vm ∧ U.heap = h0) (fun _ _ _ _ _ => True) (fun _ U o U' => ∃ v L, o = .returned v ∧ Qs10 Z as10_0 tt kk cs fm h0 n0 v U'.heap L ∧ FrameEnd U o U' L ({ frames := 3, cells := 0, slots := 0, locals := 40 } : Room).cells ({ frames := 3, cells := 0, slots := 0, locals := 40 } : Room).slots) := by
  refine MetFree.of_bodySF (plainFor_of_name pn_1) hisR ?_
  intro p e s m args below meth c s₁ Bd hml0 hP hK
  obtain ⟨rfl, hZ, hh⟩ := hP
  have hx := Bd.exec
  have hby := Bd.bytes
  have hml : c.maxLocals = 2 := hml0
  have hown : s.vm.findClass "java/lang/String" = some m.cls := findClass_of_methodNamed Bd.named
  have hnm := (name_of_methodNamed Bd.named Bd.method).1
  have X0 : Stand p l e ({ frames := 3, cells := 0, slots := 0, locals := 40 } : Room) s m #[(.ref as10_0), (.int (2 : Int32))] below meth c s₁ [] 0 0 := Stand.of_body Bd
  have e0 : s₁.heap = h0 := by rw [← hh, Bd.state]; rfl
  have N0 := Fr.nil n0
  have pre0 : ∀ t, Steps p.tables e below (s₁.setTop (mkF m 0 #[.val (.ref as10_0), .val (.int (2 : Int32))] [])) t → Steps p.tables e below (s₁.setTop (entryFrame m #[(.ref as10_0), (.int (2 : Int32))] 2)) t := fun t k => castTop (ef_s10 m as10_0) k
  obtain ⟨cq1, kq1, q1a, q1b, q1c⟩ := isOf hZ e0 Es
  obtain ⟨_, _, ⟨T1, L1, k1, n1⟩, -, X1, ⟨Lc1, hQ1, l1, y1, z1⟩, st1⟩ := X0.virtualBack hx (y := (⟨"java/lang/String", "isLatin1", "()Z"⟩ : MethodName)) (z := (⟨"java/lang/String", "isLatin1", "()Z"⟩ : MethodName)) hown (mvT hZ (hw _ (List.mem_of_getElem? (i := 18) rfl))) (mvT hZ (hw _ (List.mem_of_getElem? (i := 19) rfl))) (notFace_of_selects (args := #[]) (mvT hZ (hw _ (List.mem_of_getElem? (i := 21) rfl)))) (mvT hZ (hw _ (List.mem_of_getElem? (i := 21) rfl))) (mvT hZ (hw _ (List.mem_of_getElem? (i := 20) rfl))) (by decide) (backOf (W := 0) (rms1 l Z a0 hw [] as10_0 cs h0 n0 Z0 Sc Fc hcs) hZ (hw _ (List.mem_of_getElem? (i := 22) rfl)) (hw _ (List.mem_of_getElem? (i := 6) rfl)) (by decide) (by decide)) q1a q1c (g := (mkF m 1 #[.val (.ref as10_0), .val (.int (2 : Int32))] [(.ref as10_0)])) rfl (by rw [hml]; rfl) (Steps.refl _) (argsL := []) (rest := []) (lenOf pd_2 rfl) rfl (by show 2 * 0 + _ ≤ _; exact Nat.le_of_eq rfl) (hb hby ds10_1) (fun _ _ => ⟨rfl, e0, (by decide : 0 + 0 ≤ _), (by decide : 0 + 0 ≤ _)⟩)
  dsimp only [Pt.U, Pt.locs, Pt.cells, Pt.slots] at X1 l1 y1 z1 st1 hQ1
  subst l1 y1 z1
  obtain ⟨rfl, N1q, eh1⟩ := hQ1
  have N1 := Fr.app N0 N1q
  obtain ⟨T2, X2, e2, st2⟩ := getF X1 hx hZ hown (host := "") (Or.inl (hw _ (List.mem_of_getElem? (i := 25) rfl))) Via.refl eh1 Fv (g := (mkF m 8 #[.val (.ref as10_0), .val (.int (2 : Int32))] [(.ref as10_0)])) rfl rfl (hb hby ds10_8)
  obtain ⟨_, _, ⟨T3, L3, k3, n3⟩, -, X3, ⟨Lc3, hQ3, l3, y3, z3⟩, st3⟩ := Jvm.LawKit.callS X2 hx (y := (⟨"java/lang/StringLatin1", "charAt", "([BI)C"⟩ : MethodName)) hown (mvT hZ (hw _ (List.mem_of_getElem? (i := 26) rfl))) (mvT hZ (hw _ (List.mem_of_getElem? (i := 27) rfl))) (mvT hZ (hw _ (List.mem_of_getElem? (i := 28) rfl))) (mvT hZ (hw _ (List.mem_of_getElem? (i := 29) rfl))) (by decide) (backOf (W := 0) (rms9 l Z a0 hw [] tt kk fm h0 n0 Z0 Vb Sf hfm) hZ (hw _ (List.mem_of_getElem? (i := 29) rfl)) (hw _ (List.mem_of_getElem? (i := 28) rfl)) (by decide) (by decide)) (g := (mkF m 12 #[.val (.ref as10_0), .val (.int (2 : Int32))] [(.int (2 : Int32)), (.ref tt)])) rfl (by rw [hml]; rfl) (argsL := [(.ref tt), (.int (2 : Int32))]) (rest := []) (lenOf pd_3 rfl) rfl (by show 2 * 0 + _ ≤ _; exact Nat.le_of_eq rfl) (hb hby ds10_12) (fun _ _ => ⟨rfl, e2, (by decide : 0 + 0 ≤ _), (by decide : 0 + 0 ≤ _)⟩)
  dsimp only [Pt.U, Pt.locs, Pt.cells, Pt.slots] at X3 l3 y3 z3 st3 hQ3
  subst l3 y3 z3
  obtain ⟨rfl, N3q, eh3⟩ := hQ3
  have N3 := Fr.app N1 N3q
  have k4 : ∀ t, Steps p.tables e below (T3.setTop (mkF m 15 #[.val (.ref as10_0), .val (.int (2 : Int32))] [(.int (50 : Int32))])) t → Steps p.tables e below (s₁.setTop (entryFrame m #[(.ref as10_0), (.int (2 : Int32))] 2)) t := by
    intro t k
    refine pre0 t ?_
    show Steps p.tables e below (s₁.setTop (mkF m 0 #[.val (.ref as10_0), .val (.int (2 : Int32))] [])) _
    refine XS.aloadN X0.here hx rfl (hb hby ds10_0) rfl rfl ?_
    show Steps p.tables e below (s₁.setTop (mkF m 1 #[.val (.ref as10_0), .val (.int (2 : Int32))] [(.ref as10_0)])) _
    refine st1.trans ?_
    show Steps p.tables e below (T1.setTop (mkF m 4 #[.val (.ref as10_0), .val (.int (2 : Int32))] [(.int (1 : Int32))])) _
    refine XS.ifNo X1.here hx rfl (hb hby ds10_4) rfl ((if0 _ _).trans (feq (by decide : ¬ ((1 : Int32) = (0 : Int32)))).1) ?_
    show Steps p.tables e below (T1.setTop (mkF m 7 #[.val (.ref as10_0), .val (.int (2 : Int32))] [])) _
    refine XS.aloadN X1.here hx rfl (hb hby ds10_7) rfl rfl ?_
    show Steps p.tables e below (T1.setTop (mkF m 8 #[.val (.ref as10_0), .val (.int (2 : Int32))] [(.ref as10_0)])) _
    refine st2 _ ?_
    show Steps p.tables e below (T2.setTop (mkF m 11 #[.val (.ref as10_0), .val (.int (2 : Int32))] [(.ref tt)])) _
    refine XS.iloadN X2.here hx rfl (hb hby ds10_11) rfl ?_
    show Steps p.tables e below (T2.setTop (mkF m 12 #[.val (.ref as10_0), .val (.int (2 : Int32))] [(.int (2 : Int32)), (.ref tt)])) _
    refine st3 _ ?_
    exact k
  obtain ⟨fs, hr, hrun, hended, hW, hsame⟩ := X3.leave (v := some (.int (50 : Int32))) (fun h => by rw [Bd.returns] at h; cases h)
  refine ⟨_, _, k4 _ ?_, hrun, hended, _, _, rfl, ?_, ⟨_, rfl⟩, hW, hsame.mono (by decide) (by decide)⟩
  · exact retN X3 hx (t := .char) Bd.returns (by simp) (hb hby ds10_15) hr
  · show Qs10 Z as10_0 tt kk cs fm h0 n0 _ T3.heap _
    rw [eh3]
    exact ⟨rfl, N3, rfl⟩
theorem ds11_0 : decode jdk_43_method_2_code 0 = .ok (.iload_n 1, 1) := by decide +kernel
theorem ds11_1 : decode jdk_43_method_2_code 1 = .ok (.aload_n 0, 1) := by decide +kernel
theorem ds11_2 : decode jdk_43_method_2_code 2 = .ok (.arraylength, 1) := by decide +kernel
theorem ds11_3 : decode jdk_43_method_2_code 3 = .ok (.invokestatic 9, 3) := by decide +kernel
theorem ds11_6 : decode jdk_43_method_2_code 6 = .ok (.aload_n 0, 1) := by decide +kernel
theorem ds11_7 : decode jdk_43_method_2_code 7 = .ok (.iload_n 1, 1) := by decide +kernel
theorem ds11_8 : decode jdk_43_method_2_code 8 = .ok (.baload, 1) := by decide +kernel
theorem ds11_9 : decode jdk_43_method_2_code 9 = .ok (.sipush 255, 3) := by decide +kernel
theorem ds11_12 : decode jdk_43_method_2_code 12 = .ok (.iand, 1) := by decide +kernel
theorem ds11_13 : decode jdk_43_method_2_code 13 = .ok (.i2c, 1) := by decide +kernel
theorem ds11_14 : decode jdk_43_method_2_code 14 = .ok (.ireturn, 1) := by decide +kernel
theorem ef_s11 (m : MethodId) (as11_0 : Addr) : entryFrame m #[(.ref as11_0), (.int (3 : Int32))] 2 = mkF m 0 #[.val (.ref as11_0), .val (.int (3 : Int32))] [] := by first | (simp [entryFrame, mkF, argsToLocals, Value.category]; done) | rfl
def Qs11 (Z : State) (as11_0 : Addr) (kk : ClassId) (fm : Value) (h0 : Heap) (n0 : Nat) (v : Option Value) (h : Heap) (L : List Loc) : Prop := v = some (.int (51 : Int32)) ∧ Fr n0 L ∧ h = h0
set_option maxRecDepth 65536 in
set_option maxHeartbeats 40000000 in
theorem rms11 (l : Launch) (Z : State) (a0 : Array Value) (hw : ∀ d ∈ tables_1, d.before a0 Z = true) (ws : List Jvm.Cond) (as11_0 : Addr) (kk : ClassId) (fm : Value) (h0 : Heap) (n0 : Nat) (Z0 : n0 ≤ h0.size) (Vb : Arv Z h0 as11_0 kk .byte (10 : Int32) [(.int (48 : Int32)), (.int (49 : Int32)), (.int (50 : Int32)), (.int (51 : Int32)), (.int (52 : Int32)), (.int (53 : Int32)), (.int (54 : Int32)), (.int (55 : Int32)), (.int (56 : Int32)), (.int (57 : Int32))] (.int (0 : Int32))) (Sf : Sta Z h0 "jdk/internal/util/Preconditions" "SIOOBE_FORMATTER" "Ljava/util/function/BiFunction;" fm) (hfm : fm.isRef = true) :
    MetFree l (⟨"java/lang/StringLatin1", "charAt", "([BI)C"⟩ : MethodName) (head1 (Jvm.Cond.code (⟨"java/lang/StringLatin1", "charAt", "([BI)C"⟩ : MethodName) jdk_43_method_2_code 2 (some .char) :: ws) ({ frames := 2, cells := 0, slots := 0, locals := 27 } : Room)) (fun a U => a = #[(.ref as11_0), (.int (3 : Int32))] ∧ Z.Warmed39 U.vm ∧ U.heap = h0) (fun _ _ _ _ _ => True) (fun _ U o U' => ∃ v L, o = .returned v ∧ Qs11 Z as11_0 kk fm h0 n0 v U'.heap L ∧ FrameEnd U o U' L ({ frames := 2, cells := 0, slots := 0, locals := 27 } : Room).cells ({ frames := 2, cells := 0, slots := 0, locals := 27 } : Room).slots) := by
  refine MetFree.of_bodySF (plainFor_of_name pn_3) hisR ?_
  intro p e s m args below meth c s₁ Bd hml0 hP hK
  obtain ⟨rfl, hZ, hh⟩ := hP
  have hx := Bd.exec
  have hby := Bd.bytes
  have hml : c.maxLocals = 2 := hml0
  have hown : s.vm.findClass "java/lang/StringLatin1" = some m.cls := findClass_of_methodNamed Bd.named
  have hnm := (name_of_methodNamed Bd.named Bd.method).1
  have X0 : Stand p l e ({ frames := 2, cells := 0, slots := 0, locals := 27 } : Room) s m #[(.ref as11_0), (.int (3 : Int32))] below meth c s₁ [] 0 0 := Stand.of_body Bd
  have e0 : s₁.heap = h0 := by rw [← hh, Bd.state]; rfl
  have N0 := Fr.nil n0
  have pre0 : ∀ t, Steps p.tables e below (s₁.setTop (mkF m 0 #[.val (.ref as11_0), .val (.int (3 : Int32))] [])) t → Steps p.tables e below (s₁.setTop (entryFrame m #[(.ref as11_0), (.int (3 : Int32))] 2)) t := fun t k => castTop (ef_s11 m as11_0) k
  obtain ⟨cl1, Ar1, qc1, Sz1, Nn1, Hh1, Gg1⟩ := (id Vb)
  obtain ⟨_, _, ⟨T2, L2, k2, n2⟩, -, X2, ⟨Lc2, hQ2, l2, y2, z2⟩, st2⟩ := Jvm.LawKit.callS X0 hx (y := (⟨"java/lang/String", "checkIndex", "(II)V"⟩ : MethodName)) hown (mvT hZ (hw _ (List.mem_of_getElem? (i := 30) rfl))) (mvT hZ (hw _ (List.mem_of_getElem? (i := 31) rfl))) (mvT hZ (hw _ (List.mem_of_getElem? (i := 6) rfl))) (mvT hZ (hw _ (List.mem_of_getElem? (i := 32) rfl))) (by decide) (backOf (W := 0) (rms4 l Z a0 hw [] (3 : Int32) (10 : Int32) fm h0 n0 Z0 Sf (by decide : ¬ ((3 : Int32) < (0 : Int32))) (by decide : (3 : Int32) < (10 : Int32)) hfm) hZ (hw _ (List.mem_of_getElem? (i := 32) rfl)) (hw _ (List.mem_of_getElem? (i := 6) rfl)) (by decide) (by decide)) (g := (mkF m 3 #[.val (.ref as11_0), .val (.int (3 : Int32))] [(.int (10 : Int32)), (.int (3 : Int32))])) rfl (by rw [hml]; rfl) (argsL := [(.int (3 : Int32)), (.int (10 : Int32))]) (rest := []) (lenOf pd_1 rfl) rfl (by show 2 * 0 + _ ≤ _; exact Nat.le_of_eq rfl) (hb hby ds11_3) (fun _ _ => ⟨rfl, e0, (by decide : 0 + 0 ≤ _), (by decide : 0 + 0 ≤ _)⟩)
  dsimp only [Pt.U, Pt.locs, Pt.cells, Pt.slots] at X2 l2 y2 z2 st2 hQ2
  subst l2 y2 z2
  obtain ⟨rfl, N2q, eh2⟩ := hQ2
  have N2 := Fr.app N0 N2q
  obtain ⟨cl3, Ar3, qc3, Sz3, Nn3, Hh3, Gg3⟩ := (id Vb)
  have hin3 : ¬ ((3 : Int32) < 0 ∨ cl3.slots.size ≤ ((3 : Int32)).toNatClampNeg) := inb_of Sz3 ⟨by decide, by decide⟩
  have k4 : ∀ t, Steps p.tables e below (T2.setTop (mkF m 14 #[.val (.ref as11_0), .val (.int (3 : Int32))] [(.int (51 : Int32))])) t → Steps p.tables e below (s₁.setTop (entryFrame m #[(.ref as11_0), (.int (3 : Int32))] 2)) t := by
    intro t k
    refine pre0 t ?_
    show Steps p.tables e below (s₁.setTop (mkF m 0 #[.val (.ref as11_0), .val (.int (3 : Int32))] [])) _
    refine XS.iloadN X0.here hx rfl (hb hby ds11_0) rfl ?_
    show Steps p.tables e below (s₁.setTop (mkF m 1 #[.val (.ref as11_0), .val (.int (3 : Int32))] [(.int (3 : Int32))])) _
    refine XS.aloadN X0.here hx rfl (hb hby ds11_1) rfl rfl ?_
    show Steps p.tables e below (s₁.setTop (mkF m 2 #[.val (.ref as11_0), .val (.int (3 : Int32))] [(.ref as11_0), (.int (3 : Int32))])) _
    refine X0.arraylength hx (by rw [e0]; exact Ar1.1) (State.isArrayOf_alike hZ.alike Ar1.2.1) (g := (mkF m 2 #[.val (.ref as11_0), .val (.int (3 : Int32))] [(.ref as11_0), (.int (3 : Int32))])) rfl rfl (hb hby ds11_2) _ ?_
    rw [len_of Sz1 Nn1]
    show Steps p.tables e below (s₁.setTop (mkF m 3 #[.val (.ref as11_0), .val (.int (3 : Int32))] [(.int (10 : Int32)), (.int (3 : Int32))])) _
    refine st2 _ ?_
    show Steps p.tables e below (T2.setTop (mkF m 6 #[.val (.ref as11_0), .val (.int (3 : Int32))] [])) _
    refine XS.aloadN X2.here hx rfl (hb hby ds11_6) rfl rfl ?_
    show Steps p.tables e below (T2.setTop (mkF m 7 #[.val (.ref as11_0), .val (.int (3 : Int32))] [(.ref as11_0)])) _
    refine XS.iloadN X2.here hx rfl (hb hby ds11_7) rfl ?_
    show Steps p.tables e below (T2.setTop (mkF m 8 #[.val (.ref as11_0), .val (.int (3 : Int32))] [(.int (3 : Int32)), (.ref as11_0)])) _
    refine X2.baloadBytes hx (j := (3 : Int32)) (v := (.int (51 : Int32))) (by rw [eh2]; exact Ar3.1) (State.isArrayOf_alike hZ.alike Ar3.2.1) Ar3.2.2 hin3 (Hh3.at hin3 rfl) (g := (mkF m 8 #[.val (.ref as11_0), .val (.int (3 : Int32))] [(.int (3 : Int32)), (.ref as11_0)])) rfl rfl (hb hby ds11_8) _ ?_
    show Steps p.tables e below (T2.setTop (mkF m 9 #[.val (.ref as11_0), .val (.int (3 : Int32))] [(.int (51 : Int32))])) _
    refine XS.sipush X2.here hx rfl (hb hby ds11_9) ?_
    show Steps p.tables e below (T2.setTop (mkF m 12 #[.val (.ref as11_0), .val (.int (3 : Int32))] [(.int (255 : Int32)), (.int (51 : Int32))])) _
    refine XS.iand X2.here hx rfl (hb hby ds11_12) rfl ?_
    show Steps p.tables e below (T2.setTop (mkF m 13 #[.val (.ref as11_0), .val (.int (3 : Int32))] [(.int (51 : Int32))])) _
    refine XS.i2c X2.here hx rfl (hb hby ds11_13) rfl ?_
    exact k
  obtain ⟨fs, hr, hrun, hended, hW, hsame⟩ := X2.leave (v := some (.int (51 : Int32))) (fun h => by rw [Bd.returns] at h; cases h)
  refine ⟨_, _, k4 _ ?_, hrun, hended, _, _, rfl, ?_, ⟨_, rfl⟩, hW, hsame.mono (by decide) (by decide)⟩
  · exact retN X2 hx (t := .char) Bd.returns (by simp) (hb hby ds11_14) hr
  · show Qs11 Z as11_0 kk fm h0 n0 _ T2.heap _
    rw [eh2]
    exact ⟨rfl, N2, rfl⟩
theorem ds12_0 : decode jdk_42_method_56_code 0 = .ok (.aload_n 0, 1) := by decide +kernel
theorem ds12_1 : decode jdk_42_method_56_code 1 = .ok (.invokevirtual 492, 3) := by decide +kernel
theorem ds12_4 : decode jdk_42_method_56_code 4 = .ok (.ifCond .eq 12, 3) := by decide +kernel
theorem ds12_7 : decode jdk_42_method_56_code 7 = .ok (.aload_n 0, 1) := by decide +kernel
theorem ds12_8 : decode jdk_42_method_56_code 8 = .ok (.getfield 9, 3) := by decide +kernel
theorem ds12_11 : decode jdk_42_method_56_code 11 = .ok (.iload_n 1, 1) := by decide +kernel
theorem ds12_12 : decode jdk_42_method_56_code 12 = .ok (.invokestatic 495, 3) := by decide +kernel
theorem ds12_15 : decode jdk_42_method_56_code 15 = .ok (.ireturn, 1) := by decide +kernel
theorem ef_s12 (m : MethodId) (as12_0 : Addr) : entryFrame m #[(.ref as12_0), (.int (3 : Int32))] 2 = mkF m 0 #[.val (.ref as12_0), .val (.int (3 : Int32))] [] := by first | (simp [entryFrame, mkF, argsToLocals, Value.category]; done) | rfl
def Qs12 (Z : State) (as12_0 : Addr) (tt : Addr) (kk : ClassId) (cs : Int32) (fm : Value) (h0 : Heap) (n0 : Nat) (v : Option Value) (h : Heap) (L : List Loc) : Prop := v = some (.int (51 : Int32)) ∧ Fr n0 L ∧ h = h0
set_option maxRecDepth 65536 in
set_option maxHeartbeats 40000000 in
theorem rms12 (l : Launch) (Z : State) (a0 : Array Value) (hw : ∀ d ∈ tables_1, d.before a0 Z = true) (ws : List Jvm.Cond) (as12_0 : Addr) (tt : Addr) (kk : ClassId) (cs : Int32) (fm : Value) (h0 : Heap) (n0 : Nat) (Z0 : n0 ≤ h0.size) (Es : Exa Z h0 as12_0 "java/lang/String") (Fv : Fld Z h0 as12_0 "java/lang/String" "value" "[B" (.ref tt)) (Fc : Fld Z h0 as12_0 "java/lang/String" "coder" "B" (.int (0 : Int32))) (Vb : Arv Z h0 tt kk .byte (10 : Int32) [(.int (48 : Int32)), (.int (49 : Int32)), (.int (50 : Int32)), (.int (51 : Int32)), (.int (52 : Int32)), (.int (53 : Int32)), (.int (54 : Int32)), (.int (55 : Int32)), (.int (56 : Int32)), (.int (57 : Int32))] (.int (0 : Int32))) (Sc : Sta Z h0 "java/lang/String" "COMPACT_STRINGS" "Z" (.int cs)) (Sf : Sta Z h0 "jdk/internal/util/Preconditions" "SIOOBE_FORMATTER" "Ljava/util/function/BiFunction;" fm) (hcs : ¬ (cs = (0 : Int32))) (hfm : fm.isRef = true) :
    MetFree l (⟨"java/lang/String", "charAt", "(I)C"⟩ : MethodName) (head1 (Jvm.Cond.code (⟨"java/lang/String", "charAt", "(I)C"⟩ : MethodName) jdk_42_method_56_code 2 (some .char) :: ws) ({ frames := 3, cells := 0, slots := 0, locals := 40 } : Room)) (fun a U => a = #[(.ref as12_0), (.int (3 : Int32))] ∧ Z.Warmed39 U.vm ∧ U.heap = h0) (fun _ _ _ _ _ => True) (fun _ U o U' => ∃ v L, o = .returned v ∧ Qs12 Z as12_0 tt kk cs fm h0 n0 v U'.heap L ∧ FrameEnd U o U' L ({ frames := 3, cells := 0, slots := 0, locals := 40 } : Room).cells ({ frames := 3, cells := 0, slots := 0, locals := 40 } : Room).slots) := by
  refine MetFree.of_bodySF (plainFor_of_name pn_1) hisR ?_
  intro p e s m args below meth c s₁ Bd hml0 hP hK
  obtain ⟨rfl, hZ, hh⟩ := hP
  have hx := Bd.exec
  have hby := Bd.bytes
  have hml : c.maxLocals = 2 := hml0
  have hown : s.vm.findClass "java/lang/String" = some m.cls := findClass_of_methodNamed Bd.named
  have hnm := (name_of_methodNamed Bd.named Bd.method).1
  have X0 : Stand p l e ({ frames := 3, cells := 0, slots := 0, locals := 40 } : Room) s m #[(.ref as12_0), (.int (3 : Int32))] below meth c s₁ [] 0 0 := Stand.of_body Bd
  have e0 : s₁.heap = h0 := by rw [← hh, Bd.state]; rfl
  have N0 := Fr.nil n0
  have pre0 : ∀ t, Steps p.tables e below (s₁.setTop (mkF m 0 #[.val (.ref as12_0), .val (.int (3 : Int32))] [])) t → Steps p.tables e below (s₁.setTop (entryFrame m #[(.ref as12_0), (.int (3 : Int32))] 2)) t := fun t k => castTop (ef_s12 m as12_0) k
  obtain ⟨cq1, kq1, q1a, q1b, q1c⟩ := isOf hZ e0 Es
  obtain ⟨_, _, ⟨T1, L1, k1, n1⟩, -, X1, ⟨Lc1, hQ1, l1, y1, z1⟩, st1⟩ := X0.virtualBack hx (y := (⟨"java/lang/String", "isLatin1", "()Z"⟩ : MethodName)) (z := (⟨"java/lang/String", "isLatin1", "()Z"⟩ : MethodName)) hown (mvT hZ (hw _ (List.mem_of_getElem? (i := 18) rfl))) (mvT hZ (hw _ (List.mem_of_getElem? (i := 19) rfl))) (notFace_of_selects (args := #[]) (mvT hZ (hw _ (List.mem_of_getElem? (i := 21) rfl)))) (mvT hZ (hw _ (List.mem_of_getElem? (i := 21) rfl))) (mvT hZ (hw _ (List.mem_of_getElem? (i := 20) rfl))) (by decide) (backOf (W := 0) (rms1 l Z a0 hw [] as12_0 cs h0 n0 Z0 Sc Fc hcs) hZ (hw _ (List.mem_of_getElem? (i := 22) rfl)) (hw _ (List.mem_of_getElem? (i := 6) rfl)) (by decide) (by decide)) q1a q1c (g := (mkF m 1 #[.val (.ref as12_0), .val (.int (3 : Int32))] [(.ref as12_0)])) rfl (by rw [hml]; rfl) (Steps.refl _) (argsL := []) (rest := []) (lenOf pd_2 rfl) rfl (by show 2 * 0 + _ ≤ _; exact Nat.le_of_eq rfl) (hb hby ds12_1) (fun _ _ => ⟨rfl, e0, (by decide : 0 + 0 ≤ _), (by decide : 0 + 0 ≤ _)⟩)
  dsimp only [Pt.U, Pt.locs, Pt.cells, Pt.slots] at X1 l1 y1 z1 st1 hQ1
  subst l1 y1 z1
  obtain ⟨rfl, N1q, eh1⟩ := hQ1
  have N1 := Fr.app N0 N1q
  obtain ⟨T2, X2, e2, st2⟩ := getF X1 hx hZ hown (host := "") (Or.inl (hw _ (List.mem_of_getElem? (i := 25) rfl))) Via.refl eh1 Fv (g := (mkF m 8 #[.val (.ref as12_0), .val (.int (3 : Int32))] [(.ref as12_0)])) rfl rfl (hb hby ds12_8)
  obtain ⟨_, _, ⟨T3, L3, k3, n3⟩, -, X3, ⟨Lc3, hQ3, l3, y3, z3⟩, st3⟩ := Jvm.LawKit.callS X2 hx (y := (⟨"java/lang/StringLatin1", "charAt", "([BI)C"⟩ : MethodName)) hown (mvT hZ (hw _ (List.mem_of_getElem? (i := 26) rfl))) (mvT hZ (hw _ (List.mem_of_getElem? (i := 27) rfl))) (mvT hZ (hw _ (List.mem_of_getElem? (i := 28) rfl))) (mvT hZ (hw _ (List.mem_of_getElem? (i := 29) rfl))) (by decide) (backOf (W := 0) (rms11 l Z a0 hw [] tt kk fm h0 n0 Z0 Vb Sf hfm) hZ (hw _ (List.mem_of_getElem? (i := 29) rfl)) (hw _ (List.mem_of_getElem? (i := 28) rfl)) (by decide) (by decide)) (g := (mkF m 12 #[.val (.ref as12_0), .val (.int (3 : Int32))] [(.int (3 : Int32)), (.ref tt)])) rfl (by rw [hml]; rfl) (argsL := [(.ref tt), (.int (3 : Int32))]) (rest := []) (lenOf pd_3 rfl) rfl (by show 2 * 0 + _ ≤ _; exact Nat.le_of_eq rfl) (hb hby ds12_12) (fun _ _ => ⟨rfl, e2, (by decide : 0 + 0 ≤ _), (by decide : 0 + 0 ≤ _)⟩)
  dsimp only [Pt.U, Pt.locs, Pt.cells, Pt.slots] at X3 l3 y3 z3 st3 hQ3
  subst l3 y3 z3
  obtain ⟨rfl, N3q, eh3⟩ := hQ3
  have N3 := Fr.app N1 N3q
  have k4 : ∀ t, Steps p.tables e below (T3.setTop (mkF m 15 #[.val (.ref as12_0), .val (.int (3 : Int32))] [(.int (51 : Int32))])) t → Steps p.tables e below (s₁.setTop (entryFrame m #[(.ref as12_0), (.int (3 : Int32))] 2)) t := by
    intro t k
    refine pre0 t ?_
    show Steps p.tables e below (s₁.setTop (mkF m 0 #[.val (.ref as12_0), .val (.int (3 : Int32))] [])) _
    refine XS.aloadN X0.here hx rfl (hb hby ds12_0) rfl rfl ?_
    show Steps p.tables e below (s₁.setTop (mkF m 1 #[.val (.ref as12_0), .val (.int (3 : Int32))] [(.ref as12_0)])) _
    refine st1.trans ?_
    show Steps p.tables e below (T1.setTop (mkF m 4 #[.val (.ref as12_0), .val (.int (3 : Int32))] [(.int (1 : Int32))])) _
    refine XS.ifNo X1.here hx rfl (hb hby ds12_4) rfl ((if0 _ _).trans (feq (by decide : ¬ ((1 : Int32) = (0 : Int32)))).1) ?_
    show Steps p.tables e below (T1.setTop (mkF m 7 #[.val (.ref as12_0), .val (.int (3 : Int32))] [])) _
    refine XS.aloadN X1.here hx rfl (hb hby ds12_7) rfl rfl ?_
    show Steps p.tables e below (T1.setTop (mkF m 8 #[.val (.ref as12_0), .val (.int (3 : Int32))] [(.ref as12_0)])) _
    refine st2 _ ?_
    show Steps p.tables e below (T2.setTop (mkF m 11 #[.val (.ref as12_0), .val (.int (3 : Int32))] [(.ref tt)])) _
    refine XS.iloadN X2.here hx rfl (hb hby ds12_11) rfl ?_
    show Steps p.tables e below (T2.setTop (mkF m 12 #[.val (.ref as12_0), .val (.int (3 : Int32))] [(.int (3 : Int32)), (.ref tt)])) _
    refine st3 _ ?_
    exact k
  obtain ⟨fs, hr, hrun, hended, hW, hsame⟩ := X3.leave (v := some (.int (51 : Int32))) (fun h => by rw [Bd.returns] at h; cases h)
  refine ⟨_, _, k4 _ ?_, hrun, hended, _, _, rfl, ?_, ⟨_, rfl⟩, hW, hsame.mono (by decide) (by decide)⟩
  · exact retN X3 hx (t := .char) Bd.returns (by simp) (hb hby ds12_15) hr
  · show Qs12 Z as12_0 tt kk cs fm h0 n0 _ T3.heap _
    rw [eh3]
    exact ⟨rfl, N3, rfl⟩
theorem ds13_0 : decode jdk_43_method_2_code 0 = .ok (.iload_n 1, 1) := by decide +kernel
theorem ds13_1 : decode jdk_43_method_2_code 1 = .ok (.aload_n 0, 1) := by decide +kernel
theorem ds13_2 : decode jdk_43_method_2_code 2 = .ok (.arraylength, 1) := by decide +kernel
theorem ds13_3 : decode jdk_43_method_2_code 3 = .ok (.invokestatic 9, 3) := by decide +kernel
theorem ds13_6 : decode jdk_43_method_2_code 6 = .ok (.aload_n 0, 1) := by decide +kernel
theorem ds13_7 : decode jdk_43_method_2_code 7 = .ok (.iload_n 1, 1) := by decide +kernel
theorem ds13_8 : decode jdk_43_method_2_code 8 = .ok (.baload, 1) := by decide +kernel
theorem ds13_9 : decode jdk_43_method_2_code 9 = .ok (.sipush 255, 3) := by decide +kernel
theorem ds13_12 : decode jdk_43_method_2_code 12 = .ok (.iand, 1) := by decide +kernel
theorem ds13_13 : decode jdk_43_method_2_code 13 = .ok (.i2c, 1) := by decide +kernel
theorem ds13_14 : decode jdk_43_method_2_code 14 = .ok (.ireturn, 1) := by decide +kernel
theorem ef_s13 (m : MethodId) (as13_0 : Addr) : entryFrame m #[(.ref as13_0), (.int (4 : Int32))] 2 = mkF m 0 #[.val (.ref as13_0), .val (.int (4 : Int32))] [] := by first | (simp [entryFrame, mkF, argsToLocals, Value.category]; done) | rfl
def Qs13 (Z : State) (as13_0 : Addr) (kk : ClassId) (fm : Value) (h0 : Heap) (n0 : Nat) (v : Option Value) (h : Heap) (L : List Loc) : Prop := v = some (.int (52 : Int32)) ∧ Fr n0 L ∧ h = h0
set_option maxRecDepth 65536 in
set_option maxHeartbeats 40000000 in
theorem rms13 (l : Launch) (Z : State) (a0 : Array Value) (hw : ∀ d ∈ tables_1, d.before a0 Z = true) (ws : List Jvm.Cond) (as13_0 : Addr) (kk : ClassId) (fm : Value) (h0 : Heap) (n0 : Nat) (Z0 : n0 ≤ h0.size) (Vb : Arv Z h0 as13_0 kk .byte (10 : Int32) [(.int (48 : Int32)), (.int (49 : Int32)), (.int (50 : Int32)), (.int (51 : Int32)), (.int (52 : Int32)), (.int (53 : Int32)), (.int (54 : Int32)), (.int (55 : Int32)), (.int (56 : Int32)), (.int (57 : Int32))] (.int (0 : Int32))) (Sf : Sta Z h0 "jdk/internal/util/Preconditions" "SIOOBE_FORMATTER" "Ljava/util/function/BiFunction;" fm) (hfm : fm.isRef = true) :
    MetFree l (⟨"java/lang/StringLatin1", "charAt", "([BI)C"⟩ : MethodName) (head1 (Jvm.Cond.code (⟨"java/lang/StringLatin1", "charAt", "([BI)C"⟩ : MethodName) jdk_43_method_2_code 2 (some .char) :: ws) ({ frames := 2, cells := 0, slots := 0, locals := 27 } : Room)) (fun a U => a = #[(.ref as13_0), (.int (4 : Int32))] ∧ Z.Warmed39 U.vm ∧ U.heap = h0) (fun _ _ _ _ _ => True) (fun _ U o U' => ∃ v L, o = .returned v ∧ Qs13 Z as13_0 kk fm h0 n0 v U'.heap L ∧ FrameEnd U o U' L ({ frames := 2, cells := 0, slots := 0, locals := 27 } : Room).cells ({ frames := 2, cells := 0, slots := 0, locals := 27 } : Room).slots) := by
  refine MetFree.of_bodySF (plainFor_of_name pn_3) hisR ?_
  intro p e s m args below meth c s₁ Bd hml0 hP hK
  obtain ⟨rfl, hZ, hh⟩ := hP
  have hx := Bd.exec
  have hby := Bd.bytes
  have hml : c.maxLocals = 2 := hml0
  have hown : s.vm.findClass "java/lang/StringLatin1" = some m.cls := findClass_of_methodNamed Bd.named
  have hnm := (name_of_methodNamed Bd.named Bd.method).1
  have X0 : Stand p l e ({ frames := 2, cells := 0, slots := 0, locals := 27 } : Room) s m #[(.ref as13_0), (.int (4 : Int32))] below meth c s₁ [] 0 0 := Stand.of_body Bd
  have e0 : s₁.heap = h0 := by rw [← hh, Bd.state]; rfl
  have N0 := Fr.nil n0
  have pre0 : ∀ t, Steps p.tables e below (s₁.setTop (mkF m 0 #[.val (.ref as13_0), .val (.int (4 : Int32))] [])) t → Steps p.tables e below (s₁.setTop (entryFrame m #[(.ref as13_0), (.int (4 : Int32))] 2)) t := fun t k => castTop (ef_s13 m as13_0) k
  obtain ⟨cl1, Ar1, qc1, Sz1, Nn1, Hh1, Gg1⟩ := (id Vb)
  obtain ⟨_, _, ⟨T2, L2, k2, n2⟩, -, X2, ⟨Lc2, hQ2, l2, y2, z2⟩, st2⟩ := Jvm.LawKit.callS X0 hx (y := (⟨"java/lang/String", "checkIndex", "(II)V"⟩ : MethodName)) hown (mvT hZ (hw _ (List.mem_of_getElem? (i := 30) rfl))) (mvT hZ (hw _ (List.mem_of_getElem? (i := 31) rfl))) (mvT hZ (hw _ (List.mem_of_getElem? (i := 6) rfl))) (mvT hZ (hw _ (List.mem_of_getElem? (i := 32) rfl))) (by decide) (backOf (W := 0) (rms4 l Z a0 hw [] (4 : Int32) (10 : Int32) fm h0 n0 Z0 Sf (by decide : ¬ ((4 : Int32) < (0 : Int32))) (by decide : (4 : Int32) < (10 : Int32)) hfm) hZ (hw _ (List.mem_of_getElem? (i := 32) rfl)) (hw _ (List.mem_of_getElem? (i := 6) rfl)) (by decide) (by decide)) (g := (mkF m 3 #[.val (.ref as13_0), .val (.int (4 : Int32))] [(.int (10 : Int32)), (.int (4 : Int32))])) rfl (by rw [hml]; rfl) (argsL := [(.int (4 : Int32)), (.int (10 : Int32))]) (rest := []) (lenOf pd_1 rfl) rfl (by show 2 * 0 + _ ≤ _; exact Nat.le_of_eq rfl) (hb hby ds13_3) (fun _ _ => ⟨rfl, e0, (by decide : 0 + 0 ≤ _), (by decide : 0 + 0 ≤ _)⟩)
  dsimp only [Pt.U, Pt.locs, Pt.cells, Pt.slots] at X2 l2 y2 z2 st2 hQ2
  subst l2 y2 z2
  obtain ⟨rfl, N2q, eh2⟩ := hQ2
  have N2 := Fr.app N0 N2q
  obtain ⟨cl3, Ar3, qc3, Sz3, Nn3, Hh3, Gg3⟩ := (id Vb)
  have hin3 : ¬ ((4 : Int32) < 0 ∨ cl3.slots.size ≤ ((4 : Int32)).toNatClampNeg) := inb_of Sz3 ⟨by decide, by decide⟩
  have k4 : ∀ t, Steps p.tables e below (T2.setTop (mkF m 14 #[.val (.ref as13_0), .val (.int (4 : Int32))] [(.int (52 : Int32))])) t → Steps p.tables e below (s₁.setTop (entryFrame m #[(.ref as13_0), (.int (4 : Int32))] 2)) t := by
    intro t k
    refine pre0 t ?_
    show Steps p.tables e below (s₁.setTop (mkF m 0 #[.val (.ref as13_0), .val (.int (4 : Int32))] [])) _
    refine XS.iloadN X0.here hx rfl (hb hby ds13_0) rfl ?_
    show Steps p.tables e below (s₁.setTop (mkF m 1 #[.val (.ref as13_0), .val (.int (4 : Int32))] [(.int (4 : Int32))])) _
    refine XS.aloadN X0.here hx rfl (hb hby ds13_1) rfl rfl ?_
    show Steps p.tables e below (s₁.setTop (mkF m 2 #[.val (.ref as13_0), .val (.int (4 : Int32))] [(.ref as13_0), (.int (4 : Int32))])) _
    refine X0.arraylength hx (by rw [e0]; exact Ar1.1) (State.isArrayOf_alike hZ.alike Ar1.2.1) (g := (mkF m 2 #[.val (.ref as13_0), .val (.int (4 : Int32))] [(.ref as13_0), (.int (4 : Int32))])) rfl rfl (hb hby ds13_2) _ ?_
    rw [len_of Sz1 Nn1]
    show Steps p.tables e below (s₁.setTop (mkF m 3 #[.val (.ref as13_0), .val (.int (4 : Int32))] [(.int (10 : Int32)), (.int (4 : Int32))])) _
    refine st2 _ ?_
    show Steps p.tables e below (T2.setTop (mkF m 6 #[.val (.ref as13_0), .val (.int (4 : Int32))] [])) _
    refine XS.aloadN X2.here hx rfl (hb hby ds13_6) rfl rfl ?_
    show Steps p.tables e below (T2.setTop (mkF m 7 #[.val (.ref as13_0), .val (.int (4 : Int32))] [(.ref as13_0)])) _
    refine XS.iloadN X2.here hx rfl (hb hby ds13_7) rfl ?_
    show Steps p.tables e below (T2.setTop (mkF m 8 #[.val (.ref as13_0), .val (.int (4 : Int32))] [(.int (4 : Int32)), (.ref as13_0)])) _
    refine X2.baloadBytes hx (j := (4 : Int32)) (v := (.int (52 : Int32))) (by rw [eh2]; exact Ar3.1) (State.isArrayOf_alike hZ.alike Ar3.2.1) Ar3.2.2 hin3 (Hh3.at hin3 rfl) (g := (mkF m 8 #[.val (.ref as13_0), .val (.int (4 : Int32))] [(.int (4 : Int32)), (.ref as13_0)])) rfl rfl (hb hby ds13_8) _ ?_
    show Steps p.tables e below (T2.setTop (mkF m 9 #[.val (.ref as13_0), .val (.int (4 : Int32))] [(.int (52 : Int32))])) _
    refine XS.sipush X2.here hx rfl (hb hby ds13_9) ?_
    show Steps p.tables e below (T2.setTop (mkF m 12 #[.val (.ref as13_0), .val (.int (4 : Int32))] [(.int (255 : Int32)), (.int (52 : Int32))])) _
    refine XS.iand X2.here hx rfl (hb hby ds13_12) rfl ?_
    show Steps p.tables e below (T2.setTop (mkF m 13 #[.val (.ref as13_0), .val (.int (4 : Int32))] [(.int (52 : Int32))])) _
    refine XS.i2c X2.here hx rfl (hb hby ds13_13) rfl ?_
    exact k
  obtain ⟨fs, hr, hrun, hended, hW, hsame⟩ := X2.leave (v := some (.int (52 : Int32))) (fun h => by rw [Bd.returns] at h; cases h)
  refine ⟨_, _, k4 _ ?_, hrun, hended, _, _, rfl, ?_, ⟨_, rfl⟩, hW, hsame.mono (by decide) (by decide)⟩
  · exact retN X2 hx (t := .char) Bd.returns (by simp) (hb hby ds13_14) hr
  · show Qs13 Z as13_0 kk fm h0 n0 _ T2.heap _
    rw [eh2]
    exact ⟨rfl, N2, rfl⟩
theorem ds14_0 : decode jdk_42_method_56_code 0 = .ok (.aload_n 0, 1) := by decide +kernel
theorem ds14_1 : decode jdk_42_method_56_code 1 = .ok (.invokevirtual 492, 3) := by decide +kernel
theorem ds14_4 : decode jdk_42_method_56_code 4 = .ok (.ifCond .eq 12, 3) := by decide +kernel
theorem ds14_7 : decode jdk_42_method_56_code 7 = .ok (.aload_n 0, 1) := by decide +kernel
theorem ds14_8 : decode jdk_42_method_56_code 8 = .ok (.getfield 9, 3) := by decide +kernel
theorem ds14_11 : decode jdk_42_method_56_code 11 = .ok (.iload_n 1, 1) := by decide +kernel
theorem ds14_12 : decode jdk_42_method_56_code 12 = .ok (.invokestatic 495, 3) := by decide +kernel
theorem ds14_15 : decode jdk_42_method_56_code 15 = .ok (.ireturn, 1) := by decide +kernel
theorem ef_s14 (m : MethodId) (as14_0 : Addr) : entryFrame m #[(.ref as14_0), (.int (4 : Int32))] 2 = mkF m 0 #[.val (.ref as14_0), .val (.int (4 : Int32))] [] := by first | (simp [entryFrame, mkF, argsToLocals, Value.category]; done) | rfl
def Qs14 (Z : State) (as14_0 : Addr) (tt : Addr) (kk : ClassId) (cs : Int32) (fm : Value) (h0 : Heap) (n0 : Nat) (v : Option Value) (h : Heap) (L : List Loc) : Prop := v = some (.int (52 : Int32)) ∧ Fr n0 L ∧ h = h0
set_option maxRecDepth 65536 in
set_option maxHeartbeats 40000000 in
theorem rms14 (l : Launch) (Z : State) (a0 : Array Value) (hw : ∀ d ∈ tables_1, d.before a0 Z = true) (ws : List Jvm.Cond) (as14_0 : Addr) (tt : Addr) (kk : ClassId) (cs : Int32) (fm : Value) (h0 : Heap) (n0 : Nat) (Z0 : n0 ≤ h0.size) (Es : Exa Z h0 as14_0 "java/lang/String") (Fv : Fld Z h0 as14_0 "java/lang/String" "value" "[B" (.ref tt)) (Fc : Fld Z h0 as14_0 "java/lang/String" "coder" "B" (.int (0 : Int32))) (Vb : Arv Z h0 tt kk .byte (10 : Int32) [(.int (48 : Int32)), (.int (49 : Int32)), (.int (50 : Int32)), (.int (51 : Int32)), (.int (52 : Int32)), (.int (53 : Int32)), (.int (54 : Int32)), (.int (55 : Int32)), (.int (56 : Int32)), (.int (57 : Int32))] (.int (0 : Int32))) (Sc : Sta Z h0 "java/lang/String" "COMPACT_STRINGS" "Z" (.int cs)) (Sf : Sta Z h0 "jdk/internal/util/Preconditions" "SIOOBE_FORMATTER" "Ljava/util/function/BiFunction;" fm) (hcs : ¬ (cs = (0 : Int32))) (hfm : fm.isRef = true) :
    MetFree l (⟨"java/lang/String", "charAt", "(I)C"⟩ : MethodName) (head1 (Jvm.Cond.code (⟨"java/lang/String", "charAt", "(I)C"⟩ : MethodName) jdk_42_method_56_code 2 (some .char) :: ws) ({ frames := 3, cells := 0, slots := 0, locals := 40 } : Room)) (fun a U => a = #[(.ref as14_0), (.int (4 : Int32))] ∧ Z.Warmed39 U.vm ∧ U.heap = h0) (fun _ _ _ _ _ => True) (fun _ U o U' => ∃ v L, o = .returned v ∧ Qs14 Z as14_0 tt kk cs fm h0 n0 v U'.heap L ∧ FrameEnd U o U' L ({ frames := 3, cells := 0, slots := 0, locals := 40 } : Room).cells ({ frames := 3, cells := 0, slots := 0, locals := 40 } : Room).slots) := by
  refine MetFree.of_bodySF (plainFor_of_name pn_1) hisR ?_
  intro p e s m args below meth c s₁ Bd hml0 hP hK
  obtain ⟨rfl, hZ, hh⟩ := hP
  have hx := Bd.exec
  have hby := Bd.bytes
  have hml : c.maxLocals = 2 := hml0
  have hown : s.vm.findClass "java/lang/String" = some m.cls := findClass_of_methodNamed Bd.named
  have hnm := (name_of_methodNamed Bd.named Bd.method).1
  have X0 : Stand p l e ({ frames := 3, cells := 0, slots := 0, locals := 40 } : Room) s m #[(.ref as14_0), (.int (4 : Int32))] below meth c s₁ [] 0 0 := Stand.of_body Bd
  have e0 : s₁.heap = h0 := by rw [← hh, Bd.state]; rfl
  have N0 := Fr.nil n0
  have pre0 : ∀ t, Steps p.tables e below (s₁.setTop (mkF m 0 #[.val (.ref as14_0), .val (.int (4 : Int32))] [])) t → Steps p.tables e below (s₁.setTop (entryFrame m #[(.ref as14_0), (.int (4 : Int32))] 2)) t := fun t k => castTop (ef_s14 m as14_0) k
  obtain ⟨cq1, kq1, q1a, q1b, q1c⟩ := isOf hZ e0 Es
  obtain ⟨_, _, ⟨T1, L1, k1, n1⟩, -, X1, ⟨Lc1, hQ1, l1, y1, z1⟩, st1⟩ := X0.virtualBack hx (y := (⟨"java/lang/String", "isLatin1", "()Z"⟩ : MethodName)) (z := (⟨"java/lang/String", "isLatin1", "()Z"⟩ : MethodName)) hown (mvT hZ (hw _ (List.mem_of_getElem? (i := 18) rfl))) (mvT hZ (hw _ (List.mem_of_getElem? (i := 19) rfl))) (notFace_of_selects (args := #[]) (mvT hZ (hw _ (List.mem_of_getElem? (i := 21) rfl)))) (mvT hZ (hw _ (List.mem_of_getElem? (i := 21) rfl))) (mvT hZ (hw _ (List.mem_of_getElem? (i := 20) rfl))) (by decide) (backOf (W := 0) (rms1 l Z a0 hw [] as14_0 cs h0 n0 Z0 Sc Fc hcs) hZ (hw _ (List.mem_of_getElem? (i := 22) rfl)) (hw _ (List.mem_of_getElem? (i := 6) rfl)) (by decide) (by decide)) q1a q1c (g := (mkF m 1 #[.val (.ref as14_0), .val (.int (4 : Int32))] [(.ref as14_0)])) rfl (by rw [hml]; rfl) (Steps.refl _) (argsL := []) (rest := []) (lenOf pd_2 rfl) rfl (by show 2 * 0 + _ ≤ _; exact Nat.le_of_eq rfl) (hb hby ds14_1) (fun _ _ => ⟨rfl, e0, (by decide : 0 + 0 ≤ _), (by decide : 0 + 0 ≤ _)⟩)
  dsimp only [Pt.U, Pt.locs, Pt.cells, Pt.slots] at X1 l1 y1 z1 st1 hQ1
  subst l1 y1 z1
  obtain ⟨rfl, N1q, eh1⟩ := hQ1
  have N1 := Fr.app N0 N1q
  obtain ⟨T2, X2, e2, st2⟩ := getF X1 hx hZ hown (host := "") (Or.inl (hw _ (List.mem_of_getElem? (i := 25) rfl))) Via.refl eh1 Fv (g := (mkF m 8 #[.val (.ref as14_0), .val (.int (4 : Int32))] [(.ref as14_0)])) rfl rfl (hb hby ds14_8)
  obtain ⟨_, _, ⟨T3, L3, k3, n3⟩, -, X3, ⟨Lc3, hQ3, l3, y3, z3⟩, st3⟩ := Jvm.LawKit.callS X2 hx (y := (⟨"java/lang/StringLatin1", "charAt", "([BI)C"⟩ : MethodName)) hown (mvT hZ (hw _ (List.mem_of_getElem? (i := 26) rfl))) (mvT hZ (hw _ (List.mem_of_getElem? (i := 27) rfl))) (mvT hZ (hw _ (List.mem_of_getElem? (i := 28) rfl))) (mvT hZ (hw _ (List.mem_of_getElem? (i := 29) rfl))) (by decide) (backOf (W := 0) (rms13 l Z a0 hw [] tt kk fm h0 n0 Z0 Vb Sf hfm) hZ (hw _ (List.mem_of_getElem? (i := 29) rfl)) (hw _ (List.mem_of_getElem? (i := 28) rfl)) (by decide) (by decide)) (g := (mkF m 12 #[.val (.ref as14_0), .val (.int (4 : Int32))] [(.int (4 : Int32)), (.ref tt)])) rfl (by rw [hml]; rfl) (argsL := [(.ref tt), (.int (4 : Int32))]) (rest := []) (lenOf pd_3 rfl) rfl (by show 2 * 0 + _ ≤ _; exact Nat.le_of_eq rfl) (hb hby ds14_12) (fun _ _ => ⟨rfl, e2, (by decide : 0 + 0 ≤ _), (by decide : 0 + 0 ≤ _)⟩)
  dsimp only [Pt.U, Pt.locs, Pt.cells, Pt.slots] at X3 l3 y3 z3 st3 hQ3
  subst l3 y3 z3
  obtain ⟨rfl, N3q, eh3⟩ := hQ3
  have N3 := Fr.app N1 N3q
  have k4 : ∀ t, Steps p.tables e below (T3.setTop (mkF m 15 #[.val (.ref as14_0), .val (.int (4 : Int32))] [(.int (52 : Int32))])) t → Steps p.tables e below (s₁.setTop (entryFrame m #[(.ref as14_0), (.int (4 : Int32))] 2)) t := by
    intro t k
    refine pre0 t ?_
    show Steps p.tables e below (s₁.setTop (mkF m 0 #[.val (.ref as14_0), .val (.int (4 : Int32))] [])) _
    refine XS.aloadN X0.here hx rfl (hb hby ds14_0) rfl rfl ?_
    show Steps p.tables e below (s₁.setTop (mkF m 1 #[.val (.ref as14_0), .val (.int (4 : Int32))] [(.ref as14_0)])) _
    refine st1.trans ?_
    show Steps p.tables e below (T1.setTop (mkF m 4 #[.val (.ref as14_0), .val (.int (4 : Int32))] [(.int (1 : Int32))])) _
    refine XS.ifNo X1.here hx rfl (hb hby ds14_4) rfl ((if0 _ _).trans (feq (by decide : ¬ ((1 : Int32) = (0 : Int32)))).1) ?_
    show Steps p.tables e below (T1.setTop (mkF m 7 #[.val (.ref as14_0), .val (.int (4 : Int32))] [])) _
    refine XS.aloadN X1.here hx rfl (hb hby ds14_7) rfl rfl ?_
    show Steps p.tables e below (T1.setTop (mkF m 8 #[.val (.ref as14_0), .val (.int (4 : Int32))] [(.ref as14_0)])) _
    refine st2 _ ?_
    show Steps p.tables e below (T2.setTop (mkF m 11 #[.val (.ref as14_0), .val (.int (4 : Int32))] [(.ref tt)])) _
    refine XS.iloadN X2.here hx rfl (hb hby ds14_11) rfl ?_
    show Steps p.tables e below (T2.setTop (mkF m 12 #[.val (.ref as14_0), .val (.int (4 : Int32))] [(.int (4 : Int32)), (.ref tt)])) _
    refine st3 _ ?_
    exact k
  obtain ⟨fs, hr, hrun, hended, hW, hsame⟩ := X3.leave (v := some (.int (52 : Int32))) (fun h => by rw [Bd.returns] at h; cases h)
  refine ⟨_, _, k4 _ ?_, hrun, hended, _, _, rfl, ?_, ⟨_, rfl⟩, hW, hsame.mono (by decide) (by decide)⟩
  · exact retN X3 hx (t := .char) Bd.returns (by simp) (hb hby ds14_15) hr
  · show Qs14 Z as14_0 tt kk cs fm h0 n0 _ T3.heap _
    rw [eh3]
    exact ⟨rfl, N3, rfl⟩
theorem ds15_0 : decode jdk_43_method_2_code 0 = .ok (.iload_n 1, 1) := by decide +kernel
theorem ds15_1 : decode jdk_43_method_2_code 1 = .ok (.aload_n 0, 1) := by decide +kernel
theorem ds15_2 : decode jdk_43_method_2_code 2 = .ok (.arraylength, 1) := by decide +kernel
theorem ds15_3 : decode jdk_43_method_2_code 3 = .ok (.invokestatic 9, 3) := by decide +kernel
theorem ds15_6 : decode jdk_43_method_2_code 6 = .ok (.aload_n 0, 1) := by decide +kernel
theorem ds15_7 : decode jdk_43_method_2_code 7 = .ok (.iload_n 1, 1) := by decide +kernel
theorem ds15_8 : decode jdk_43_method_2_code 8 = .ok (.baload, 1) := by decide +kernel
theorem ds15_9 : decode jdk_43_method_2_code 9 = .ok (.sipush 255, 3) := by decide +kernel
theorem ds15_12 : decode jdk_43_method_2_code 12 = .ok (.iand, 1) := by decide +kernel
theorem ds15_13 : decode jdk_43_method_2_code 13 = .ok (.i2c, 1) := by decide +kernel
theorem ds15_14 : decode jdk_43_method_2_code 14 = .ok (.ireturn, 1) := by decide +kernel
theorem ef_s15 (m : MethodId) (as15_0 : Addr) : entryFrame m #[(.ref as15_0), (.int (5 : Int32))] 2 = mkF m 0 #[.val (.ref as15_0), .val (.int (5 : Int32))] [] := by first | (simp [entryFrame, mkF, argsToLocals, Value.category]; done) | rfl
def Qs15 (Z : State) (as15_0 : Addr) (kk : ClassId) (fm : Value) (h0 : Heap) (n0 : Nat) (v : Option Value) (h : Heap) (L : List Loc) : Prop := v = some (.int (53 : Int32)) ∧ Fr n0 L ∧ h = h0
set_option maxRecDepth 65536 in
set_option maxHeartbeats 40000000 in
theorem rms15 (l : Launch) (Z : State) (a0 : Array Value) (hw : ∀ d ∈ tables_1, d.before a0 Z = true) (ws : List Jvm.Cond) (as15_0 : Addr) (kk : ClassId) (fm : Value) (h0 : Heap) (n0 : Nat) (Z0 : n0 ≤ h0.size) (Vb : Arv Z h0 as15_0 kk .byte (10 : Int32) [(.int (48 : Int32)), (.int (49 : Int32)), (.int (50 : Int32)), (.int (51 : Int32)), (.int (52 : Int32)), (.int (53 : Int32)), (.int (54 : Int32)), (.int (55 : Int32)), (.int (56 : Int32)), (.int (57 : Int32))] (.int (0 : Int32))) (Sf : Sta Z h0 "jdk/internal/util/Preconditions" "SIOOBE_FORMATTER" "Ljava/util/function/BiFunction;" fm) (hfm : fm.isRef = true) :
    MetFree l (⟨"java/lang/StringLatin1", "charAt", "([BI)C"⟩ : MethodName) (head1 (Jvm.Cond.code (⟨"java/lang/StringLatin1", "charAt", "([BI)C"⟩ : MethodName) jdk_43_method_2_code 2 (some .char) :: ws) ({ frames := 2, cells := 0, slots := 0, locals := 27 } : Room)) (fun a U => a = #[(.ref as15_0), (.int (5 : Int32))] ∧ Z.Warmed39 U.vm ∧ U.heap = h0) (fun _ _ _ _ _ => True) (fun _ U o U' => ∃ v L, o = .returned v ∧ Qs15 Z as15_0 kk fm h0 n0 v U'.heap L ∧ FrameEnd U o U' L ({ frames := 2, cells := 0, slots := 0, locals := 27 } : Room).cells ({ frames := 2, cells := 0, slots := 0, locals := 27 } : Room).slots) := by
  refine MetFree.of_bodySF (plainFor_of_name pn_3) hisR ?_
  intro p e s m args below meth c s₁ Bd hml0 hP hK
  obtain ⟨rfl, hZ, hh⟩ := hP
  have hx := Bd.exec
  have hby := Bd.bytes
  have hml : c.maxLocals = 2 := hml0
  have hown : s.vm.findClass "java/lang/StringLatin1" = some m.cls := findClass_of_methodNamed Bd.named
  have hnm := (name_of_methodNamed Bd.named Bd.method).1
  have X0 : Stand p l e ({ frames := 2, cells := 0, slots := 0, locals := 27 } : Room) s m #[(.ref as15_0), (.int (5 : Int32))] below meth c s₁ [] 0 0 := Stand.of_body Bd
  have e0 : s₁.heap = h0 := by rw [← hh, Bd.state]; rfl
  have N0 := Fr.nil n0
  have pre0 : ∀ t, Steps p.tables e below (s₁.setTop (mkF m 0 #[.val (.ref as15_0), .val (.int (5 : Int32))] [])) t → Steps p.tables e below (s₁.setTop (entryFrame m #[(.ref as15_0), (.int (5 : Int32))] 2)) t := fun t k => castTop (ef_s15 m as15_0) k
  obtain ⟨cl1, Ar1, qc1, Sz1, Nn1, Hh1, Gg1⟩ := (id Vb)
  obtain ⟨_, _, ⟨T2, L2, k2, n2⟩, -, X2, ⟨Lc2, hQ2, l2, y2, z2⟩, st2⟩ := Jvm.LawKit.callS X0 hx (y := (⟨"java/lang/String", "checkIndex", "(II)V"⟩ : MethodName)) hown (mvT hZ (hw _ (List.mem_of_getElem? (i := 30) rfl))) (mvT hZ (hw _ (List.mem_of_getElem? (i := 31) rfl))) (mvT hZ (hw _ (List.mem_of_getElem? (i := 6) rfl))) (mvT hZ (hw _ (List.mem_of_getElem? (i := 32) rfl))) (by decide) (backOf (W := 0) (rms4 l Z a0 hw [] (5 : Int32) (10 : Int32) fm h0 n0 Z0 Sf (by decide : ¬ ((5 : Int32) < (0 : Int32))) (by decide : (5 : Int32) < (10 : Int32)) hfm) hZ (hw _ (List.mem_of_getElem? (i := 32) rfl)) (hw _ (List.mem_of_getElem? (i := 6) rfl)) (by decide) (by decide)) (g := (mkF m 3 #[.val (.ref as15_0), .val (.int (5 : Int32))] [(.int (10 : Int32)), (.int (5 : Int32))])) rfl (by rw [hml]; rfl) (argsL := [(.int (5 : Int32)), (.int (10 : Int32))]) (rest := []) (lenOf pd_1 rfl) rfl (by show 2 * 0 + _ ≤ _; exact Nat.le_of_eq rfl) (hb hby ds15_3) (fun _ _ => ⟨rfl, e0, (by decide : 0 + 0 ≤ _), (by decide : 0 + 0 ≤ _)⟩)
  dsimp only [Pt.U, Pt.locs, Pt.cells, Pt.slots] at X2 l2 y2 z2 st2 hQ2
  subst l2 y2 z2
  obtain ⟨rfl, N2q, eh2⟩ := hQ2
  have N2 := Fr.app N0 N2q
  obtain ⟨cl3, Ar3, qc3, Sz3, Nn3, Hh3, Gg3⟩ := (id Vb)
  have hin3 : ¬ ((5 : Int32) < 0 ∨ cl3.slots.size ≤ ((5 : Int32)).toNatClampNeg) := inb_of Sz3 ⟨by decide, by decide⟩
  have k4 : ∀ t, Steps p.tables e below (T2.setTop (mkF m 14 #[.val (.ref as15_0), .val (.int (5 : Int32))] [(.int (53 : Int32))])) t → Steps p.tables e below (s₁.setTop (entryFrame m #[(.ref as15_0), (.int (5 : Int32))] 2)) t := by
    intro t k
    refine pre0 t ?_
    show Steps p.tables e below (s₁.setTop (mkF m 0 #[.val (.ref as15_0), .val (.int (5 : Int32))] [])) _
    refine XS.iloadN X0.here hx rfl (hb hby ds15_0) rfl ?_
    show Steps p.tables e below (s₁.setTop (mkF m 1 #[.val (.ref as15_0), .val (.int (5 : Int32))] [(.int (5 : Int32))])) _
    refine XS.aloadN X0.here hx rfl (hb hby ds15_1) rfl rfl ?_
    show Steps p.tables e below (s₁.setTop (mkF m 2 #[.val (.ref as15_0), .val (.int (5 : Int32))] [(.ref as15_0), (.int (5 : Int32))])) _
    refine X0.arraylength hx (by rw [e0]; exact Ar1.1) (State.isArrayOf_alike hZ.alike Ar1.2.1) (g := (mkF m 2 #[.val (.ref as15_0), .val (.int (5 : Int32))] [(.ref as15_0), (.int (5 : Int32))])) rfl rfl (hb hby ds15_2) _ ?_
    rw [len_of Sz1 Nn1]
    show Steps p.tables e below (s₁.setTop (mkF m 3 #[.val (.ref as15_0), .val (.int (5 : Int32))] [(.int (10 : Int32)), (.int (5 : Int32))])) _
    refine st2 _ ?_
    show Steps p.tables e below (T2.setTop (mkF m 6 #[.val (.ref as15_0), .val (.int (5 : Int32))] [])) _
    refine XS.aloadN X2.here hx rfl (hb hby ds15_6) rfl rfl ?_
    show Steps p.tables e below (T2.setTop (mkF m 7 #[.val (.ref as15_0), .val (.int (5 : Int32))] [(.ref as15_0)])) _
    refine XS.iloadN X2.here hx rfl (hb hby ds15_7) rfl ?_
    show Steps p.tables e below (T2.setTop (mkF m 8 #[.val (.ref as15_0), .val (.int (5 : Int32))] [(.int (5 : Int32)), (.ref as15_0)])) _
    refine X2.baloadBytes hx (j := (5 : Int32)) (v := (.int (53 : Int32))) (by rw [eh2]; exact Ar3.1) (State.isArrayOf_alike hZ.alike Ar3.2.1) Ar3.2.2 hin3 (Hh3.at hin3 rfl) (g := (mkF m 8 #[.val (.ref as15_0), .val (.int (5 : Int32))] [(.int (5 : Int32)), (.ref as15_0)])) rfl rfl (hb hby ds15_8) _ ?_
    show Steps p.tables e below (T2.setTop (mkF m 9 #[.val (.ref as15_0), .val (.int (5 : Int32))] [(.int (53 : Int32))])) _
    refine XS.sipush X2.here hx rfl (hb hby ds15_9) ?_
    show Steps p.tables e below (T2.setTop (mkF m 12 #[.val (.ref as15_0), .val (.int (5 : Int32))] [(.int (255 : Int32)), (.int (53 : Int32))])) _
    refine XS.iand X2.here hx rfl (hb hby ds15_12) rfl ?_
    show Steps p.tables e below (T2.setTop (mkF m 13 #[.val (.ref as15_0), .val (.int (5 : Int32))] [(.int (53 : Int32))])) _
    refine XS.i2c X2.here hx rfl (hb hby ds15_13) rfl ?_
    exact k
  obtain ⟨fs, hr, hrun, hended, hW, hsame⟩ := X2.leave (v := some (.int (53 : Int32))) (fun h => by rw [Bd.returns] at h; cases h)
  refine ⟨_, _, k4 _ ?_, hrun, hended, _, _, rfl, ?_, ⟨_, rfl⟩, hW, hsame.mono (by decide) (by decide)⟩
  · exact retN X2 hx (t := .char) Bd.returns (by simp) (hb hby ds15_14) hr
  · show Qs15 Z as15_0 kk fm h0 n0 _ T2.heap _
    rw [eh2]
    exact ⟨rfl, N2, rfl⟩
theorem ds16_0 : decode jdk_42_method_56_code 0 = .ok (.aload_n 0, 1) := by decide +kernel
theorem ds16_1 : decode jdk_42_method_56_code 1 = .ok (.invokevirtual 492, 3) := by decide +kernel
theorem ds16_4 : decode jdk_42_method_56_code 4 = .ok (.ifCond .eq 12, 3) := by decide +kernel
theorem ds16_7 : decode jdk_42_method_56_code 7 = .ok (.aload_n 0, 1) := by decide +kernel
theorem ds16_8 : decode jdk_42_method_56_code 8 = .ok (.getfield 9, 3) := by decide +kernel
theorem ds16_11 : decode jdk_42_method_56_code 11 = .ok (.iload_n 1, 1) := by decide +kernel
theorem ds16_12 : decode jdk_42_method_56_code 12 = .ok (.invokestatic 495, 3) := by decide +kernel
theorem ds16_15 : decode jdk_42_method_56_code 15 = .ok (.ireturn, 1) := by decide +kernel
theorem ef_s16 (m : MethodId) (as16_0 : Addr) : entryFrame m #[(.ref as16_0), (.int (5 : Int32))] 2 = mkF m 0 #[.val (.ref as16_0), .val (.int (5 : Int32))] [] := by first | (simp [entryFrame, mkF, argsToLocals, Value.category]; done) | rfl
def Qs16 (Z : State) (as16_0 : Addr) (tt : Addr) (kk : ClassId) (cs : Int32) (fm : Value) (h0 : Heap) (n0 : Nat) (v : Option Value) (h : Heap) (L : List Loc) : Prop := v = some (.int (53 : Int32)) ∧ Fr n0 L ∧ h = h0
set_option maxRecDepth 65536 in
set_option maxHeartbeats 40000000 in
theorem rms16 (l : Launch) (Z : State) (a0 : Array Value) (hw : ∀ d ∈ tables_1, d.before a0 Z = true) (ws : List Jvm.Cond) (as16_0 : Addr) (tt : Addr) (kk : ClassId) (cs : Int32) (fm : Value) (h0 : Heap) (n0 : Nat) (Z0 : n0 ≤ h0.size) (Es : Exa Z h0 as16_0 "java/lang/String") (Fv : Fld Z h0 as16_0 "java/lang/String" "value" "[B" (.ref tt)) (Fc : Fld Z h0 as16_0 "java/lang/String" "coder" "B" (.int (0 : Int32))) (Vb : Arv Z h0 tt kk .byte (10 : Int32) [(.int (48 : Int32)), (.int (49 : Int32)), (.int (50 : Int32)), (.int (51 : Int32)), (.int (52 : Int32)), (.int (53 : Int32)), (.int (54 : Int32)), (.int (55 : Int32)), (.int (56 : Int32)), (.int (57 : Int32))] (.int (0 : Int32))) (Sc : Sta Z h0 "java/lang/String" "COMPACT_STRINGS" "Z" (.int cs)) (Sf : Sta Z h0 "jdk/internal/util/Preconditions" "SIOOBE_FORMATTER" "Ljava/util/function/BiFunction;" fm) (hcs : ¬ (cs = (0 : Int32))) (hfm : fm.isRef = true) :
    MetFree l (⟨"java/lang/String", "charAt", "(I)C"⟩ : MethodName) (head1 (Jvm.Cond.code (⟨"java/lang/String", "charAt", "(I)C"⟩ : MethodName) jdk_42_method_56_code 2 (some .char) :: ws) ({ frames := 3, cells := 0, slots := 0, locals := 40 } : Room)) (fun a U => a = #[(.ref as16_0), (.int (5 : Int32))] ∧ Z.Warmed39 U.vm ∧ U.heap = h0) (fun _ _ _ _ _ => True) (fun _ U o U' => ∃ v L, o = .returned v ∧ Qs16 Z as16_0 tt kk cs fm h0 n0 v U'.heap L ∧ FrameEnd U o U' L ({ frames := 3, cells := 0, slots := 0, locals := 40 } : Room).cells ({ frames := 3, cells := 0, slots := 0, locals := 40 } : Room).slots) := by
  refine MetFree.of_bodySF (plainFor_of_name pn_1) hisR ?_
  intro p e s m args below meth c s₁ Bd hml0 hP hK
  obtain ⟨rfl, hZ, hh⟩ := hP
  have hx := Bd.exec
  have hby := Bd.bytes
  have hml : c.maxLocals = 2 := hml0
  have hown : s.vm.findClass "java/lang/String" = some m.cls := findClass_of_methodNamed Bd.named
  have hnm := (name_of_methodNamed Bd.named Bd.method).1
  have X0 : Stand p l e ({ frames := 3, cells := 0, slots := 0, locals := 40 } : Room) s m #[(.ref as16_0), (.int (5 : Int32))] below meth c s₁ [] 0 0 := Stand.of_body Bd
  have e0 : s₁.heap = h0 := by rw [← hh, Bd.state]; rfl
  have N0 := Fr.nil n0
  have pre0 : ∀ t, Steps p.tables e below (s₁.setTop (mkF m 0 #[.val (.ref as16_0), .val (.int (5 : Int32))] [])) t → Steps p.tables e below (s₁.setTop (entryFrame m #[(.ref as16_0), (.int (5 : Int32))] 2)) t := fun t k => castTop (ef_s16 m as16_0) k
  obtain ⟨cq1, kq1, q1a, q1b, q1c⟩ := isOf hZ e0 Es
  obtain ⟨_, _, ⟨T1, L1, k1, n1⟩, -, X1, ⟨Lc1, hQ1, l1, y1, z1⟩, st1⟩ := X0.virtualBack hx (y := (⟨"java/lang/String", "isLatin1", "()Z"⟩ : MethodName)) (z := (⟨"java/lang/String", "isLatin1", "()Z"⟩ : MethodName)) hown (mvT hZ (hw _ (List.mem_of_getElem? (i := 18) rfl))) (mvT hZ (hw _ (List.mem_of_getElem? (i := 19) rfl))) (notFace_of_selects (args := #[]) (mvT hZ (hw _ (List.mem_of_getElem? (i := 21) rfl)))) (mvT hZ (hw _ (List.mem_of_getElem? (i := 21) rfl))) (mvT hZ (hw _ (List.mem_of_getElem? (i := 20) rfl))) (by decide) (backOf (W := 0) (rms1 l Z a0 hw [] as16_0 cs h0 n0 Z0 Sc Fc hcs) hZ (hw _ (List.mem_of_getElem? (i := 22) rfl)) (hw _ (List.mem_of_getElem? (i := 6) rfl)) (by decide) (by decide)) q1a q1c (g := (mkF m 1 #[.val (.ref as16_0), .val (.int (5 : Int32))] [(.ref as16_0)])) rfl (by rw [hml]; rfl) (Steps.refl _) (argsL := []) (rest := []) (lenOf pd_2 rfl) rfl (by show 2 * 0 + _ ≤ _; exact Nat.le_of_eq rfl) (hb hby ds16_1) (fun _ _ => ⟨rfl, e0, (by decide : 0 + 0 ≤ _), (by decide : 0 + 0 ≤ _)⟩)
  dsimp only [Pt.U, Pt.locs, Pt.cells, Pt.slots] at X1 l1 y1 z1 st1 hQ1
  subst l1 y1 z1
  obtain ⟨rfl, N1q, eh1⟩ := hQ1
  have N1 := Fr.app N0 N1q
  obtain ⟨T2, X2, e2, st2⟩ := getF X1 hx hZ hown (host := "") (Or.inl (hw _ (List.mem_of_getElem? (i := 25) rfl))) Via.refl eh1 Fv (g := (mkF m 8 #[.val (.ref as16_0), .val (.int (5 : Int32))] [(.ref as16_0)])) rfl rfl (hb hby ds16_8)
  obtain ⟨_, _, ⟨T3, L3, k3, n3⟩, -, X3, ⟨Lc3, hQ3, l3, y3, z3⟩, st3⟩ := Jvm.LawKit.callS X2 hx (y := (⟨"java/lang/StringLatin1", "charAt", "([BI)C"⟩ : MethodName)) hown (mvT hZ (hw _ (List.mem_of_getElem? (i := 26) rfl))) (mvT hZ (hw _ (List.mem_of_getElem? (i := 27) rfl))) (mvT hZ (hw _ (List.mem_of_getElem? (i := 28) rfl))) (mvT hZ (hw _ (List.mem_of_getElem? (i := 29) rfl))) (by decide) (backOf (W := 0) (rms15 l Z a0 hw [] tt kk fm h0 n0 Z0 Vb Sf hfm) hZ (hw _ (List.mem_of_getElem? (i := 29) rfl)) (hw _ (List.mem_of_getElem? (i := 28) rfl)) (by decide) (by decide)) (g := (mkF m 12 #[.val (.ref as16_0), .val (.int (5 : Int32))] [(.int (5 : Int32)), (.ref tt)])) rfl (by rw [hml]; rfl) (argsL := [(.ref tt), (.int (5 : Int32))]) (rest := []) (lenOf pd_3 rfl) rfl (by show 2 * 0 + _ ≤ _; exact Nat.le_of_eq rfl) (hb hby ds16_12) (fun _ _ => ⟨rfl, e2, (by decide : 0 + 0 ≤ _), (by decide : 0 + 0 ≤ _)⟩)
  dsimp only [Pt.U, Pt.locs, Pt.cells, Pt.slots] at X3 l3 y3 z3 st3 hQ3
  subst l3 y3 z3
  obtain ⟨rfl, N3q, eh3⟩ := hQ3
  have N3 := Fr.app N1 N3q
  have k4 : ∀ t, Steps p.tables e below (T3.setTop (mkF m 15 #[.val (.ref as16_0), .val (.int (5 : Int32))] [(.int (53 : Int32))])) t → Steps p.tables e below (s₁.setTop (entryFrame m #[(.ref as16_0), (.int (5 : Int32))] 2)) t := by
    intro t k
    refine pre0 t ?_
    show Steps p.tables e below (s₁.setTop (mkF m 0 #[.val (.ref as16_0), .val (.int (5 : Int32))] [])) _
    refine XS.aloadN X0.here hx rfl (hb hby ds16_0) rfl rfl ?_
    show Steps p.tables e below (s₁.setTop (mkF m 1 #[.val (.ref as16_0), .val (.int (5 : Int32))] [(.ref as16_0)])) _
    refine st1.trans ?_
    show Steps p.tables e below (T1.setTop (mkF m 4 #[.val (.ref as16_0), .val (.int (5 : Int32))] [(.int (1 : Int32))])) _
    refine XS.ifNo X1.here hx rfl (hb hby ds16_4) rfl ((if0 _ _).trans (feq (by decide : ¬ ((1 : Int32) = (0 : Int32)))).1) ?_
    show Steps p.tables e below (T1.setTop (mkF m 7 #[.val (.ref as16_0), .val (.int (5 : Int32))] [])) _
    refine XS.aloadN X1.here hx rfl (hb hby ds16_7) rfl rfl ?_
    show Steps p.tables e below (T1.setTop (mkF m 8 #[.val (.ref as16_0), .val (.int (5 : Int32))] [(.ref as16_0)])) _
    refine st2 _ ?_
    show Steps p.tables e below (T2.setTop (mkF m 11 #[.val (.ref as16_0), .val (.int (5 : Int32))] [(.ref tt)])) _
    refine XS.iloadN X2.here hx rfl (hb hby ds16_11) rfl ?_
    show Steps p.tables e below (T2.setTop (mkF m 12 #[.val (.ref as16_0), .val (.int (5 : Int32))] [(.int (5 : Int32)), (.ref tt)])) _
    refine st3 _ ?_
    exact k
  obtain ⟨fs, hr, hrun, hended, hW, hsame⟩ := X3.leave (v := some (.int (53 : Int32))) (fun h => by rw [Bd.returns] at h; cases h)
  refine ⟨_, _, k4 _ ?_, hrun, hended, _, _, rfl, ?_, ⟨_, rfl⟩, hW, hsame.mono (by decide) (by decide)⟩
  · exact retN X3 hx (t := .char) Bd.returns (by simp) (hb hby ds16_15) hr
  · show Qs16 Z as16_0 tt kk cs fm h0 n0 _ T3.heap _
    rw [eh3]
    exact ⟨rfl, N3, rfl⟩
theorem ds17_0 : decode jdk_43_method_2_code 0 = .ok (.iload_n 1, 1) := by decide +kernel
theorem ds17_1 : decode jdk_43_method_2_code 1 = .ok (.aload_n 0, 1) := by decide +kernel
theorem ds17_2 : decode jdk_43_method_2_code 2 = .ok (.arraylength, 1) := by decide +kernel
theorem ds17_3 : decode jdk_43_method_2_code 3 = .ok (.invokestatic 9, 3) := by decide +kernel
theorem ds17_6 : decode jdk_43_method_2_code 6 = .ok (.aload_n 0, 1) := by decide +kernel
theorem ds17_7 : decode jdk_43_method_2_code 7 = .ok (.iload_n 1, 1) := by decide +kernel
theorem ds17_8 : decode jdk_43_method_2_code 8 = .ok (.baload, 1) := by decide +kernel
theorem ds17_9 : decode jdk_43_method_2_code 9 = .ok (.sipush 255, 3) := by decide +kernel
theorem ds17_12 : decode jdk_43_method_2_code 12 = .ok (.iand, 1) := by decide +kernel
theorem ds17_13 : decode jdk_43_method_2_code 13 = .ok (.i2c, 1) := by decide +kernel
theorem ds17_14 : decode jdk_43_method_2_code 14 = .ok (.ireturn, 1) := by decide +kernel
theorem ef_s17 (m : MethodId) (as17_0 : Addr) : entryFrame m #[(.ref as17_0), (.int (6 : Int32))] 2 = mkF m 0 #[.val (.ref as17_0), .val (.int (6 : Int32))] [] := by first | (simp [entryFrame, mkF, argsToLocals, Value.category]; done) | rfl
def Qs17 (Z : State) (as17_0 : Addr) (kk : ClassId) (fm : Value) (h0 : Heap) (n0 : Nat) (v : Option Value) (h : Heap) (L : List Loc) : Prop := v = some (.int (54 : Int32)) ∧ Fr n0 L ∧ h = h0
set_option maxRecDepth 65536 in
set_option maxHeartbeats 40000000 in
theorem rms17 (l : Launch) (Z : State) (a0 : Array Value) (hw : ∀ d ∈ tables_1, d.before a0 Z = true) (ws : List Jvm.Cond) (as17_0 : Addr) (kk : ClassId) (fm : Value) (h0 : Heap) (n0 : Nat) (Z0 : n0 ≤ h0.size) (Vb : Arv Z h0 as17_0 kk .byte (10 : Int32) [(.int (48 : Int32)), (.int (49 : Int32)), (.int (50 : Int32)), (.int (51 : Int32)), (.int (52 : Int32)), (.int (53 : Int32)), (.int (54 : Int32)), (.int (55 : Int32)), (.int (56 : Int32)), (.int (57 : Int32))] (.int (0 : Int32))) (Sf : Sta Z h0 "jdk/internal/util/Preconditions" "SIOOBE_FORMATTER" "Ljava/util/function/BiFunction;" fm) (hfm : fm.isRef = true) :
    MetFree l (⟨"java/lang/StringLatin1", "charAt", "([BI)C"⟩ : MethodName) (head1 (Jvm.Cond.code (⟨"java/lang/StringLatin1", "charAt", "([BI)C"⟩ : MethodName) jdk_43_method_2_code 2 (some .char) :: ws) ({ frames := 2, cells := 0, slots := 0, locals := 27 } : Room)) (fun a U => a = #[(.ref as17_0), (.int (6 : Int32))] ∧ Z.Warmed39 U.vm ∧ U.heap = h0) (fun _ _ _ _ _ => True) (fun _ U o U' => ∃ v L, o = .returned v ∧ Qs17 Z as17_0 kk fm h0 n0 v U'.heap L ∧ FrameEnd U o U' L ({ frames := 2, cells := 0, slots := 0, locals := 27 } : Room).cells ({ frames := 2, cells := 0, slots := 0, locals := 27 } : Room).slots) := by
  refine MetFree.of_bodySF (plainFor_of_name pn_3) hisR ?_
  intro p e s m args below meth c s₁ Bd hml0 hP hK
  obtain ⟨rfl, hZ, hh⟩ := hP
  have hx := Bd.exec
  have hby := Bd.bytes
  have hml : c.maxLocals = 2 := hml0
  have hown : s.vm.findClass "java/lang/StringLatin1" = some m.cls := findClass_of_methodNamed Bd.named
  have hnm := (name_of_methodNamed Bd.named Bd.method).1
  have X0 : Stand p l e ({ frames := 2, cells := 0, slots := 0, locals := 27 } : Room) s m #[(.ref as17_0), (.int (6 : Int32))] below meth c s₁ [] 0 0 := Stand.of_body Bd
  have e0 : s₁.heap = h0 := by rw [← hh, Bd.state]; rfl
  have N0 := Fr.nil n0
  have pre0 : ∀ t, Steps p.tables e below (s₁.setTop (mkF m 0 #[.val (.ref as17_0), .val (.int (6 : Int32))] [])) t → Steps p.tables e below (s₁.setTop (entryFrame m #[(.ref as17_0), (.int (6 : Int32))] 2)) t := fun t k => castTop (ef_s17 m as17_0) k
  obtain ⟨cl1, Ar1, qc1, Sz1, Nn1, Hh1, Gg1⟩ := (id Vb)
  obtain ⟨_, _, ⟨T2, L2, k2, n2⟩, -, X2, ⟨Lc2, hQ2, l2, y2, z2⟩, st2⟩ := Jvm.LawKit.callS X0 hx (y := (⟨"java/lang/String", "checkIndex", "(II)V"⟩ : MethodName)) hown (mvT hZ (hw _ (List.mem_of_getElem? (i := 30) rfl))) (mvT hZ (hw _ (List.mem_of_getElem? (i := 31) rfl))) (mvT hZ (hw _ (List.mem_of_getElem? (i := 6) rfl))) (mvT hZ (hw _ (List.mem_of_getElem? (i := 32) rfl))) (by decide) (backOf (W := 0) (rms4 l Z a0 hw [] (6 : Int32) (10 : Int32) fm h0 n0 Z0 Sf (by decide : ¬ ((6 : Int32) < (0 : Int32))) (by decide : (6 : Int32) < (10 : Int32)) hfm) hZ (hw _ (List.mem_of_getElem? (i := 32) rfl)) (hw _ (List.mem_of_getElem? (i := 6) rfl)) (by decide) (by decide)) (g := (mkF m 3 #[.val (.ref as17_0), .val (.int (6 : Int32))] [(.int (10 : Int32)), (.int (6 : Int32))])) rfl (by rw [hml]; rfl) (argsL := [(.int (6 : Int32)), (.int (10 : Int32))]) (rest := []) (lenOf pd_1 rfl) rfl (by show 2 * 0 + _ ≤ _; exact Nat.le_of_eq rfl) (hb hby ds17_3) (fun _ _ => ⟨rfl, e0, (by decide : 0 + 0 ≤ _), (by decide : 0 + 0 ≤ _)⟩)
  dsimp only [Pt.U, Pt.locs, Pt.cells, Pt.slots] at X2 l2 y2 z2 st2 hQ2
  subst l2 y2 z2
  obtain ⟨rfl, N2q, eh2⟩ := hQ2
  have N2 := Fr.app N0 N2q
  obtain ⟨cl3, Ar3, qc3, Sz3, Nn3, Hh3, Gg3⟩ := (id Vb)
  have hin3 : ¬ ((6 : Int32) < 0 ∨ cl3.slots.size ≤ ((6 : Int32)).toNatClampNeg) := inb_of Sz3 ⟨by decide, by decide⟩
  have k4 : ∀ t, Steps p.tables e below (T2.setTop (mkF m 14 #[.val (.ref as17_0), .val (.int (6 : Int32))] [(.int (54 : Int32))])) t → Steps p.tables e below (s₁.setTop (entryFrame m #[(.ref as17_0), (.int (6 : Int32))] 2)) t := by
    intro t k
    refine pre0 t ?_
    show Steps p.tables e below (s₁.setTop (mkF m 0 #[.val (.ref as17_0), .val (.int (6 : Int32))] [])) _
    refine XS.iloadN X0.here hx rfl (hb hby ds17_0) rfl ?_
    show Steps p.tables e below (s₁.setTop (mkF m 1 #[.val (.ref as17_0), .val (.int (6 : Int32))] [(.int (6 : Int32))])) _
    refine XS.aloadN X0.here hx rfl (hb hby ds17_1) rfl rfl ?_
    show Steps p.tables e below (s₁.setTop (mkF m 2 #[.val (.ref as17_0), .val (.int (6 : Int32))] [(.ref as17_0), (.int (6 : Int32))])) _
    refine X0.arraylength hx (by rw [e0]; exact Ar1.1) (State.isArrayOf_alike hZ.alike Ar1.2.1) (g := (mkF m 2 #[.val (.ref as17_0), .val (.int (6 : Int32))] [(.ref as17_0), (.int (6 : Int32))])) rfl rfl (hb hby ds17_2) _ ?_
    rw [len_of Sz1 Nn1]
    show Steps p.tables e below (s₁.setTop (mkF m 3 #[.val (.ref as17_0), .val (.int (6 : Int32))] [(.int (10 : Int32)), (.int (6 : Int32))])) _
    refine st2 _ ?_
    show Steps p.tables e below (T2.setTop (mkF m 6 #[.val (.ref as17_0), .val (.int (6 : Int32))] [])) _
    refine XS.aloadN X2.here hx rfl (hb hby ds17_6) rfl rfl ?_
    show Steps p.tables e below (T2.setTop (mkF m 7 #[.val (.ref as17_0), .val (.int (6 : Int32))] [(.ref as17_0)])) _
    refine XS.iloadN X2.here hx rfl (hb hby ds17_7) rfl ?_
    show Steps p.tables e below (T2.setTop (mkF m 8 #[.val (.ref as17_0), .val (.int (6 : Int32))] [(.int (6 : Int32)), (.ref as17_0)])) _
    refine X2.baloadBytes hx (j := (6 : Int32)) (v := (.int (54 : Int32))) (by rw [eh2]; exact Ar3.1) (State.isArrayOf_alike hZ.alike Ar3.2.1) Ar3.2.2 hin3 (Hh3.at hin3 rfl) (g := (mkF m 8 #[.val (.ref as17_0), .val (.int (6 : Int32))] [(.int (6 : Int32)), (.ref as17_0)])) rfl rfl (hb hby ds17_8) _ ?_
    show Steps p.tables e below (T2.setTop (mkF m 9 #[.val (.ref as17_0), .val (.int (6 : Int32))] [(.int (54 : Int32))])) _
    refine XS.sipush X2.here hx rfl (hb hby ds17_9) ?_
    show Steps p.tables e below (T2.setTop (mkF m 12 #[.val (.ref as17_0), .val (.int (6 : Int32))] [(.int (255 : Int32)), (.int (54 : Int32))])) _
    refine XS.iand X2.here hx rfl (hb hby ds17_12) rfl ?_
    show Steps p.tables e below (T2.setTop (mkF m 13 #[.val (.ref as17_0), .val (.int (6 : Int32))] [(.int (54 : Int32))])) _
    refine XS.i2c X2.here hx rfl (hb hby ds17_13) rfl ?_
    exact k
  obtain ⟨fs, hr, hrun, hended, hW, hsame⟩ := X2.leave (v := some (.int (54 : Int32))) (fun h => by rw [Bd.returns] at h; cases h)
  refine ⟨_, _, k4 _ ?_, hrun, hended, _, _, rfl, ?_, ⟨_, rfl⟩, hW, hsame.mono (by decide) (by decide)⟩
  · exact retN X2 hx (t := .char) Bd.returns (by simp) (hb hby ds17_14) hr
  · show Qs17 Z as17_0 kk fm h0 n0 _ T2.heap _
    rw [eh2]
    exact ⟨rfl, N2, rfl⟩
theorem ds18_0 : decode jdk_42_method_56_code 0 = .ok (.aload_n 0, 1) := by decide +kernel
theorem ds18_1 : decode jdk_42_method_56_code 1 = .ok (.invokevirtual 492, 3) := by decide +kernel
theorem ds18_4 : decode jdk_42_method_56_code 4 = .ok (.ifCond .eq 12, 3) := by decide +kernel
theorem ds18_7 : decode jdk_42_method_56_code 7 = .ok (.aload_n 0, 1) := by decide +kernel
theorem ds18_8 : decode jdk_42_method_56_code 8 = .ok (.getfield 9, 3) := by decide +kernel
theorem ds18_11 : decode jdk_42_method_56_code 11 = .ok (.iload_n 1, 1) := by decide +kernel
theorem ds18_12 : decode jdk_42_method_56_code 12 = .ok (.invokestatic 495, 3) := by decide +kernel
theorem ds18_15 : decode jdk_42_method_56_code 15 = .ok (.ireturn, 1) := by decide +kernel
theorem ef_s18 (m : MethodId) (as18_0 : Addr) : entryFrame m #[(.ref as18_0), (.int (6 : Int32))] 2 = mkF m 0 #[.val (.ref as18_0), .val (.int (6 : Int32))] [] := by first | (simp [entryFrame, mkF, argsToLocals, Value.category]; done) | rfl
def Qs18 (Z : State) (as18_0 : Addr) (tt : Addr) (kk : ClassId) (cs : Int32) (fm : Value) (h0 : Heap) (n0 : Nat) (v : Option Value) (h : Heap) (L : List Loc) : Prop := v = some (.int (54 : Int32)) ∧ Fr n0 L ∧ h = h0
set_option maxRecDepth 65536 in
set_option maxHeartbeats 40000000 in
theorem rms18 (l : Launch) (Z : State) (a0 : Array Value) (hw : ∀ d ∈ tables_1, d.before a0 Z = true) (ws : List Jvm.Cond) (as18_0 : Addr) (tt : Addr) (kk : ClassId) (cs : Int32) (fm : Value) (h0 : Heap) (n0 : Nat) (Z0 : n0 ≤ h0.size) (Es : Exa Z h0 as18_0 "java/lang/String") (Fv : Fld Z h0 as18_0 "java/lang/String" "value" "[B" (.ref tt)) (Fc : Fld Z h0 as18_0 "java/lang/String" "coder" "B" (.int (0 : Int32))) (Vb : Arv Z h0 tt kk .byte (10 : Int32) [(.int (48 : Int32)), (.int (49 : Int32)), (.int (50 : Int32)), (.int (51 : Int32)), (.int (52 : Int32)), (.int (53 : Int32)), (.int (54 : Int32)), (.int (55 : Int32)), (.int (56 : Int32)), (.int (57 : Int32))] (.int (0 : Int32))) (Sc : Sta Z h0 "java/lang/String" "COMPACT_STRINGS" "Z" (.int cs)) (Sf : Sta Z h0 "jdk/internal/util/Preconditions" "SIOOBE_FORMATTER" "Ljava/util/function/BiFunction;" fm) (hcs : ¬ (cs = (0 : Int32))) (hfm : fm.isRef = true) :
    MetFree l (⟨"java/lang/String", "charAt", "(I)C"⟩ : MethodName) (head1 (Jvm.Cond.code (⟨"java/lang/String", "charAt", "(I)C"⟩ : MethodName) jdk_42_method_56_code 2 (some .char) :: ws) ({ frames := 3, cells := 0, slots := 0, locals := 40 } : Room)) (fun a U => a = #[(.ref as18_0), (.int (6 : Int32))] ∧ Z.Warmed39 U.vm ∧ U.heap = h0) (fun _ _ _ _ _ => True) (fun _ U o U' => ∃ v L, o = .returned v ∧ Qs18 Z as18_0 tt kk cs fm h0 n0 v U'.heap L ∧ FrameEnd U o U' L ({ frames := 3, cells := 0, slots := 0, locals := 40 } : Room).cells ({ frames := 3, cells := 0, slots := 0, locals := 40 } : Room).slots) := by
  refine MetFree.of_bodySF (plainFor_of_name pn_1) hisR ?_
  intro p e s m args below meth c s₁ Bd hml0 hP hK
  obtain ⟨rfl, hZ, hh⟩ := hP
  have hx := Bd.exec
  have hby := Bd.bytes
  have hml : c.maxLocals = 2 := hml0
  have hown : s.vm.findClass "java/lang/String" = some m.cls := findClass_of_methodNamed Bd.named
  have hnm := (name_of_methodNamed Bd.named Bd.method).1
  have X0 : Stand p l e ({ frames := 3, cells := 0, slots := 0, locals := 40 } : Room) s m #[(.ref as18_0), (.int (6 : Int32))] below meth c s₁ [] 0 0 := Stand.of_body Bd
  have e0 : s₁.heap = h0 := by rw [← hh, Bd.state]; rfl
  have N0 := Fr.nil n0
  have pre0 : ∀ t, Steps p.tables e below (s₁.setTop (mkF m 0 #[.val (.ref as18_0), .val (.int (6 : Int32))] [])) t → Steps p.tables e below (s₁.setTop (entryFrame m #[(.ref as18_0), (.int (6 : Int32))] 2)) t := fun t k => castTop (ef_s18 m as18_0) k
  obtain ⟨cq1, kq1, q1a, q1b, q1c⟩ := isOf hZ e0 Es
  obtain ⟨_, _, ⟨T1, L1, k1, n1⟩, -, X1, ⟨Lc1, hQ1, l1, y1, z1⟩, st1⟩ := X0.virtualBack hx (y := (⟨"java/lang/String", "isLatin1", "()Z"⟩ : MethodName)) (z := (⟨"java/lang/String", "isLatin1", "()Z"⟩ : MethodName)) hown (mvT hZ (hw _ (List.mem_of_getElem? (i := 18) rfl))) (mvT hZ (hw _ (List.mem_of_getElem? (i := 19) rfl))) (notFace_of_selects (args := #[]) (mvT hZ (hw _ (List.mem_of_getElem? (i := 21) rfl)))) (mvT hZ (hw _ (List.mem_of_getElem? (i := 21) rfl))) (mvT hZ (hw _ (List.mem_of_getElem? (i := 20) rfl))) (by decide) (backOf (W := 0) (rms1 l Z a0 hw [] as18_0 cs h0 n0 Z0 Sc Fc hcs) hZ (hw _ (List.mem_of_getElem? (i := 22) rfl)) (hw _ (List.mem_of_getElem? (i := 6) rfl)) (by decide) (by decide)) q1a q1c (g := (mkF m 1 #[.val (.ref as18_0), .val (.int (6 : Int32))] [(.ref as18_0)])) rfl (by rw [hml]; rfl) (Steps.refl _) (argsL := []) (rest := []) (lenOf pd_2 rfl) rfl (by show 2 * 0 + _ ≤ _; exact Nat.le_of_eq rfl) (hb hby ds18_1) (fun _ _ => ⟨rfl, e0, (by decide : 0 + 0 ≤ _), (by decide : 0 + 0 ≤ _)⟩)
  dsimp only [Pt.U, Pt.locs, Pt.cells, Pt.slots] at X1 l1 y1 z1 st1 hQ1
  subst l1 y1 z1
  obtain ⟨rfl, N1q, eh1⟩ := hQ1
  have N1 := Fr.app N0 N1q
  obtain ⟨T2, X2, e2, st2⟩ := getF X1 hx hZ hown (host := "") (Or.inl (hw _ (List.mem_of_getElem? (i := 25) rfl))) Via.refl eh1 Fv (g := (mkF m 8 #[.val (.ref as18_0), .val (.int (6 : Int32))] [(.ref as18_0)])) rfl rfl (hb hby ds18_8)
  obtain ⟨_, _, ⟨T3, L3, k3, n3⟩, -, X3, ⟨Lc3, hQ3, l3, y3, z3⟩, st3⟩ := Jvm.LawKit.callS X2 hx (y := (⟨"java/lang/StringLatin1", "charAt", "([BI)C"⟩ : MethodName)) hown (mvT hZ (hw _ (List.mem_of_getElem? (i := 26) rfl))) (mvT hZ (hw _ (List.mem_of_getElem? (i := 27) rfl))) (mvT hZ (hw _ (List.mem_of_getElem? (i := 28) rfl))) (mvT hZ (hw _ (List.mem_of_getElem? (i := 29) rfl))) (by decide) (backOf (W := 0) (rms17 l Z a0 hw [] tt kk fm h0 n0 Z0 Vb Sf hfm) hZ (hw _ (List.mem_of_getElem? (i := 29) rfl)) (hw _ (List.mem_of_getElem? (i := 28) rfl)) (by decide) (by decide)) (g := (mkF m 12 #[.val (.ref as18_0), .val (.int (6 : Int32))] [(.int (6 : Int32)), (.ref tt)])) rfl (by rw [hml]; rfl) (argsL := [(.ref tt), (.int (6 : Int32))]) (rest := []) (lenOf pd_3 rfl) rfl (by show 2 * 0 + _ ≤ _; exact Nat.le_of_eq rfl) (hb hby ds18_12) (fun _ _ => ⟨rfl, e2, (by decide : 0 + 0 ≤ _), (by decide : 0 + 0 ≤ _)⟩)
  dsimp only [Pt.U, Pt.locs, Pt.cells, Pt.slots] at X3 l3 y3 z3 st3 hQ3
  subst l3 y3 z3
  obtain ⟨rfl, N3q, eh3⟩ := hQ3
  have N3 := Fr.app N1 N3q
  have k4 : ∀ t, Steps p.tables e below (T3.setTop (mkF m 15 #[.val (.ref as18_0), .val (.int (6 : Int32))] [(.int (54 : Int32))])) t → Steps p.tables e below (s₁.setTop (entryFrame m #[(.ref as18_0), (.int (6 : Int32))] 2)) t := by
    intro t k
    refine pre0 t ?_
    show Steps p.tables e below (s₁.setTop (mkF m 0 #[.val (.ref as18_0), .val (.int (6 : Int32))] [])) _
    refine XS.aloadN X0.here hx rfl (hb hby ds18_0) rfl rfl ?_
    show Steps p.tables e below (s₁.setTop (mkF m 1 #[.val (.ref as18_0), .val (.int (6 : Int32))] [(.ref as18_0)])) _
    refine st1.trans ?_
    show Steps p.tables e below (T1.setTop (mkF m 4 #[.val (.ref as18_0), .val (.int (6 : Int32))] [(.int (1 : Int32))])) _
    refine XS.ifNo X1.here hx rfl (hb hby ds18_4) rfl ((if0 _ _).trans (feq (by decide : ¬ ((1 : Int32) = (0 : Int32)))).1) ?_
    show Steps p.tables e below (T1.setTop (mkF m 7 #[.val (.ref as18_0), .val (.int (6 : Int32))] [])) _
    refine XS.aloadN X1.here hx rfl (hb hby ds18_7) rfl rfl ?_
    show Steps p.tables e below (T1.setTop (mkF m 8 #[.val (.ref as18_0), .val (.int (6 : Int32))] [(.ref as18_0)])) _
    refine st2 _ ?_
    show Steps p.tables e below (T2.setTop (mkF m 11 #[.val (.ref as18_0), .val (.int (6 : Int32))] [(.ref tt)])) _
    refine XS.iloadN X2.here hx rfl (hb hby ds18_11) rfl ?_
    show Steps p.tables e below (T2.setTop (mkF m 12 #[.val (.ref as18_0), .val (.int (6 : Int32))] [(.int (6 : Int32)), (.ref tt)])) _
    refine st3 _ ?_
    exact k
  obtain ⟨fs, hr, hrun, hended, hW, hsame⟩ := X3.leave (v := some (.int (54 : Int32))) (fun h => by rw [Bd.returns] at h; cases h)
  refine ⟨_, _, k4 _ ?_, hrun, hended, _, _, rfl, ?_, ⟨_, rfl⟩, hW, hsame.mono (by decide) (by decide)⟩
  · exact retN X3 hx (t := .char) Bd.returns (by simp) (hb hby ds18_15) hr
  · show Qs18 Z as18_0 tt kk cs fm h0 n0 _ T3.heap _
    rw [eh3]
    exact ⟨rfl, N3, rfl⟩
theorem ds19_0 : decode jdk_43_method_2_code 0 = .ok (.iload_n 1, 1) := by decide +kernel
theorem ds19_1 : decode jdk_43_method_2_code 1 = .ok (.aload_n 0, 1) := by decide +kernel
theorem ds19_2 : decode jdk_43_method_2_code 2 = .ok (.arraylength, 1) := by decide +kernel
theorem ds19_3 : decode jdk_43_method_2_code 3 = .ok (.invokestatic 9, 3) := by decide +kernel
theorem ds19_6 : decode jdk_43_method_2_code 6 = .ok (.aload_n 0, 1) := by decide +kernel
theorem ds19_7 : decode jdk_43_method_2_code 7 = .ok (.iload_n 1, 1) := by decide +kernel
theorem ds19_8 : decode jdk_43_method_2_code 8 = .ok (.baload, 1) := by decide +kernel
theorem ds19_9 : decode jdk_43_method_2_code 9 = .ok (.sipush 255, 3) := by decide +kernel
theorem ds19_12 : decode jdk_43_method_2_code 12 = .ok (.iand, 1) := by decide +kernel
theorem ds19_13 : decode jdk_43_method_2_code 13 = .ok (.i2c, 1) := by decide +kernel
theorem ds19_14 : decode jdk_43_method_2_code 14 = .ok (.ireturn, 1) := by decide +kernel
theorem ef_s19 (m : MethodId) (as19_0 : Addr) : entryFrame m #[(.ref as19_0), (.int (7 : Int32))] 2 = mkF m 0 #[.val (.ref as19_0), .val (.int (7 : Int32))] [] := by first | (simp [entryFrame, mkF, argsToLocals, Value.category]; done) | rfl
def Qs19 (Z : State) (as19_0 : Addr) (kk : ClassId) (fm : Value) (h0 : Heap) (n0 : Nat) (v : Option Value) (h : Heap) (L : List Loc) : Prop := v = some (.int (55 : Int32)) ∧ Fr n0 L ∧ h = h0
set_option maxRecDepth 65536 in
set_option maxHeartbeats 40000000 in
theorem rms19 (l : Launch) (Z : State) (a0 : Array Value) (hw : ∀ d ∈ tables_1, d.before a0 Z = true) (ws : List Jvm.Cond) (as19_0 : Addr) (kk : ClassId) (fm : Value) (h0 : Heap) (n0 : Nat) (Z0 : n0 ≤ h0.size) (Vb : Arv Z h0 as19_0 kk .byte (10 : Int32) [(.int (48 : Int32)), (.int (49 : Int32)), (.int (50 : Int32)), (.int (51 : Int32)), (.int (52 : Int32)), (.int (53 : Int32)), (.int (54 : Int32)), (.int (55 : Int32)), (.int (56 : Int32)), (.int (57 : Int32))] (.int (0 : Int32))) (Sf : Sta Z h0 "jdk/internal/util/Preconditions" "SIOOBE_FORMATTER" "Ljava/util/function/BiFunction;" fm) (hfm : fm.isRef = true) :
    MetFree l (⟨"java/lang/StringLatin1", "charAt", "([BI)C"⟩ : MethodName) (head1 (Jvm.Cond.code (⟨"java/lang/StringLatin1", "charAt", "([BI)C"⟩ : MethodName) jdk_43_method_2_code 2 (some .char) :: ws) ({ frames := 2, cells := 0, slots := 0, locals := 27 } : Room)) (fun a U => a = #[(.ref as19_0), (.int (7 : Int32))] ∧ Z.Warmed39 U.vm ∧ U.heap = h0) (fun _ _ _ _ _ => True) (fun _ U o U' => ∃ v L, o = .returned v ∧ Qs19 Z as19_0 kk fm h0 n0 v U'.heap L ∧ FrameEnd U o U' L ({ frames := 2, cells := 0, slots := 0, locals := 27 } : Room).cells ({ frames := 2, cells := 0, slots := 0, locals := 27 } : Room).slots) := by
  refine MetFree.of_bodySF (plainFor_of_name pn_3) hisR ?_
  intro p e s m args below meth c s₁ Bd hml0 hP hK
  obtain ⟨rfl, hZ, hh⟩ := hP
  have hx := Bd.exec
  have hby := Bd.bytes
  have hml : c.maxLocals = 2 := hml0
  have hown : s.vm.findClass "java/lang/StringLatin1" = some m.cls := findClass_of_methodNamed Bd.named
  have hnm := (name_of_methodNamed Bd.named Bd.method).1
  have X0 : Stand p l e ({ frames := 2, cells := 0, slots := 0, locals := 27 } : Room) s m #[(.ref as19_0), (.int (7 : Int32))] below meth c s₁ [] 0 0 := Stand.of_body Bd
  have e0 : s₁.heap = h0 := by rw [← hh, Bd.state]; rfl
  have N0 := Fr.nil n0
  have pre0 : ∀ t, Steps p.tables e below (s₁.setTop (mkF m 0 #[.val (.ref as19_0), .val (.int (7 : Int32))] [])) t → Steps p.tables e below (s₁.setTop (entryFrame m #[(.ref as19_0), (.int (7 : Int32))] 2)) t := fun t k => castTop (ef_s19 m as19_0) k
  obtain ⟨cl1, Ar1, qc1, Sz1, Nn1, Hh1, Gg1⟩ := (id Vb)
  obtain ⟨_, _, ⟨T2, L2, k2, n2⟩, -, X2, ⟨Lc2, hQ2, l2, y2, z2⟩, st2⟩ := Jvm.LawKit.callS X0 hx (y := (⟨"java/lang/String", "checkIndex", "(II)V"⟩ : MethodName)) hown (mvT hZ (hw _ (List.mem_of_getElem? (i := 30) rfl))) (mvT hZ (hw _ (List.mem_of_getElem? (i := 31) rfl))) (mvT hZ (hw _ (List.mem_of_getElem? (i := 6) rfl))) (mvT hZ (hw _ (List.mem_of_getElem? (i := 32) rfl))) (by decide) (backOf (W := 0) (rms4 l Z a0 hw [] (7 : Int32) (10 : Int32) fm h0 n0 Z0 Sf (by decide : ¬ ((7 : Int32) < (0 : Int32))) (by decide : (7 : Int32) < (10 : Int32)) hfm) hZ (hw _ (List.mem_of_getElem? (i := 32) rfl)) (hw _ (List.mem_of_getElem? (i := 6) rfl)) (by decide) (by decide)) (g := (mkF m 3 #[.val (.ref as19_0), .val (.int (7 : Int32))] [(.int (10 : Int32)), (.int (7 : Int32))])) rfl (by rw [hml]; rfl) (argsL := [(.int (7 : Int32)), (.int (10 : Int32))]) (rest := []) (lenOf pd_1 rfl) rfl (by show 2 * 0 + _ ≤ _; exact Nat.le_of_eq rfl) (hb hby ds19_3) (fun _ _ => ⟨rfl, e0, (by decide : 0 + 0 ≤ _), (by decide : 0 + 0 ≤ _)⟩)
  dsimp only [Pt.U, Pt.locs, Pt.cells, Pt.slots] at X2 l2 y2 z2 st2 hQ2
  subst l2 y2 z2
  obtain ⟨rfl, N2q, eh2⟩ := hQ2
  have N2 := Fr.app N0 N2q
  obtain ⟨cl3, Ar3, qc3, Sz3, Nn3, Hh3, Gg3⟩ := (id Vb)
  have hin3 : ¬ ((7 : Int32) < 0 ∨ cl3.slots.size ≤ ((7 : Int32)).toNatClampNeg) := inb_of Sz3 ⟨by decide, by decide⟩
  have k4 : ∀ t, Steps p.tables e below (T2.setTop (mkF m 14 #[.val (.ref as19_0), .val (.int (7 : Int32))] [(.int (55 : Int32))])) t → Steps p.tables e below (s₁.setTop (entryFrame m #[(.ref as19_0), (.int (7 : Int32))] 2)) t := by
    intro t k
    refine pre0 t ?_
    show Steps p.tables e below (s₁.setTop (mkF m 0 #[.val (.ref as19_0), .val (.int (7 : Int32))] [])) _
    refine XS.iloadN X0.here hx rfl (hb hby ds19_0) rfl ?_
    show Steps p.tables e below (s₁.setTop (mkF m 1 #[.val (.ref as19_0), .val (.int (7 : Int32))] [(.int (7 : Int32))])) _
    refine XS.aloadN X0.here hx rfl (hb hby ds19_1) rfl rfl ?_
    show Steps p.tables e below (s₁.setTop (mkF m 2 #[.val (.ref as19_0), .val (.int (7 : Int32))] [(.ref as19_0), (.int (7 : Int32))])) _
    refine X0.arraylength hx (by rw [e0]; exact Ar1.1) (State.isArrayOf_alike hZ.alike Ar1.2.1) (g := (mkF m 2 #[.val (.ref as19_0), .val (.int (7 : Int32))] [(.ref as19_0), (.int (7 : Int32))])) rfl rfl (hb hby ds19_2) _ ?_
    rw [len_of Sz1 Nn1]
    show Steps p.tables e below (s₁.setTop (mkF m 3 #[.val (.ref as19_0), .val (.int (7 : Int32))] [(.int (10 : Int32)), (.int (7 : Int32))])) _
    refine st2 _ ?_
    show Steps p.tables e below (T2.setTop (mkF m 6 #[.val (.ref as19_0), .val (.int (7 : Int32))] [])) _
    refine XS.aloadN X2.here hx rfl (hb hby ds19_6) rfl rfl ?_
    show Steps p.tables e below (T2.setTop (mkF m 7 #[.val (.ref as19_0), .val (.int (7 : Int32))] [(.ref as19_0)])) _
    refine XS.iloadN X2.here hx rfl (hb hby ds19_7) rfl ?_
    show Steps p.tables e below (T2.setTop (mkF m 8 #[.val (.ref as19_0), .val (.int (7 : Int32))] [(.int (7 : Int32)), (.ref as19_0)])) _
    refine X2.baloadBytes hx (j := (7 : Int32)) (v := (.int (55 : Int32))) (by rw [eh2]; exact Ar3.1) (State.isArrayOf_alike hZ.alike Ar3.2.1) Ar3.2.2 hin3 (Hh3.at hin3 rfl) (g := (mkF m 8 #[.val (.ref as19_0), .val (.int (7 : Int32))] [(.int (7 : Int32)), (.ref as19_0)])) rfl rfl (hb hby ds19_8) _ ?_
    show Steps p.tables e below (T2.setTop (mkF m 9 #[.val (.ref as19_0), .val (.int (7 : Int32))] [(.int (55 : Int32))])) _
    refine XS.sipush X2.here hx rfl (hb hby ds19_9) ?_
    show Steps p.tables e below (T2.setTop (mkF m 12 #[.val (.ref as19_0), .val (.int (7 : Int32))] [(.int (255 : Int32)), (.int (55 : Int32))])) _
    refine XS.iand X2.here hx rfl (hb hby ds19_12) rfl ?_
    show Steps p.tables e below (T2.setTop (mkF m 13 #[.val (.ref as19_0), .val (.int (7 : Int32))] [(.int (55 : Int32))])) _
    refine XS.i2c X2.here hx rfl (hb hby ds19_13) rfl ?_
    exact k
  obtain ⟨fs, hr, hrun, hended, hW, hsame⟩ := X2.leave (v := some (.int (55 : Int32))) (fun h => by rw [Bd.returns] at h; cases h)
  refine ⟨_, _, k4 _ ?_, hrun, hended, _, _, rfl, ?_, ⟨_, rfl⟩, hW, hsame.mono (by decide) (by decide)⟩
  · exact retN X2 hx (t := .char) Bd.returns (by simp) (hb hby ds19_14) hr
  · show Qs19 Z as19_0 kk fm h0 n0 _ T2.heap _
    rw [eh2]
    exact ⟨rfl, N2, rfl⟩
theorem ds20_0 : decode jdk_42_method_56_code 0 = .ok (.aload_n 0, 1) := by decide +kernel
theorem ds20_1 : decode jdk_42_method_56_code 1 = .ok (.invokevirtual 492, 3) := by decide +kernel
theorem ds20_4 : decode jdk_42_method_56_code 4 = .ok (.ifCond .eq 12, 3) := by decide +kernel
theorem ds20_7 : decode jdk_42_method_56_code 7 = .ok (.aload_n 0, 1) := by decide +kernel
theorem ds20_8 : decode jdk_42_method_56_code 8 = .ok (.getfield 9, 3) := by decide +kernel
theorem ds20_11 : decode jdk_42_method_56_code 11 = .ok (.iload_n 1, 1) := by decide +kernel
theorem ds20_12 : decode jdk_42_method_56_code 12 = .ok (.invokestatic 495, 3) := by decide +kernel
theorem ds20_15 : decode jdk_42_method_56_code 15 = .ok (.ireturn, 1) := by decide +kernel
theorem ef_s20 (m : MethodId) (as20_0 : Addr) : entryFrame m #[(.ref as20_0), (.int (7 : Int32))] 2 = mkF m 0 #[.val (.ref as20_0), .val (.int (7 : Int32))] [] := by first | (simp [entryFrame, mkF, argsToLocals, Value.category]; done) | rfl
def Qs20 (Z : State) (as20_0 : Addr) (tt : Addr) (kk : ClassId) (cs : Int32) (fm : Value) (h0 : Heap) (n0 : Nat) (v : Option Value) (h : Heap) (L : List Loc) : Prop := v = some (.int (55 : Int32)) ∧ Fr n0 L ∧ h = h0
set_option maxRecDepth 65536 in
set_option maxHeartbeats 40000000 in
theorem rms20 (l : Launch) (Z : State) (a0 : Array Value) (hw : ∀ d ∈ tables_1, d.before a0 Z = true) (ws : List Jvm.Cond) (as20_0 : Addr) (tt : Addr) (kk : ClassId) (cs : Int32) (fm : Value) (h0 : Heap) (n0 : Nat) (Z0 : n0 ≤ h0.size) (Es : Exa Z h0 as20_0 "java/lang/String") (Fv : Fld Z h0 as20_0 "java/lang/String" "value" "[B" (.ref tt)) (Fc : Fld Z h0 as20_0 "java/lang/String" "coder" "B" (.int (0 : Int32))) (Vb : Arv Z h0 tt kk .byte (10 : Int32) [(.int (48 : Int32)), (.int (49 : Int32)), (.int (50 : Int32)), (.int (51 : Int32)), (.int (52 : Int32)), (.int (53 : Int32)), (.int (54 : Int32)), (.int (55 : Int32)), (.int (56 : Int32)), (.int (57 : Int32))] (.int (0 : Int32))) (Sc : Sta Z h0 "java/lang/String" "COMPACT_STRINGS" "Z" (.int cs)) (Sf : Sta Z h0 "jdk/internal/util/Preconditions" "SIOOBE_FORMATTER" "Ljava/util/function/BiFunction;" fm) (hcs : ¬ (cs = (0 : Int32))) (hfm : fm.isRef = true) :
    MetFree l (⟨"java/lang/String", "charAt", "(I)C"⟩ : MethodName) (head1 (Jvm.Cond.code (⟨"java/lang/String", "charAt", "(I)C"⟩ : MethodName) jdk_42_method_56_code 2 (some .char) :: ws) ({ frames := 3, cells := 0, slots := 0, locals := 40 } : Room)) (fun a U => a = #[(.ref as20_0), (.int (7 : Int32))] ∧ Z.Warmed39 U.vm ∧ U.heap = h0) (fun _ _ _ _ _ => True) (fun _ U o U' => ∃ v L, o = .returned v ∧ Qs20 Z as20_0 tt kk cs fm h0 n0 v U'.heap L ∧ FrameEnd U o U' L ({ frames := 3, cells := 0, slots := 0, locals := 40 } : Room).cells ({ frames := 3, cells := 0, slots := 0, locals := 40 } : Room).slots) := by
  refine MetFree.of_bodySF (plainFor_of_name pn_1) hisR ?_
  intro p e s m args below meth c s₁ Bd hml0 hP hK
  obtain ⟨rfl, hZ, hh⟩ := hP
  have hx := Bd.exec
  have hby := Bd.bytes
  have hml : c.maxLocals = 2 := hml0
  have hown : s.vm.findClass "java/lang/String" = some m.cls := findClass_of_methodNamed Bd.named
  have hnm := (name_of_methodNamed Bd.named Bd.method).1
  have X0 : Stand p l e ({ frames := 3, cells := 0, slots := 0, locals := 40 } : Room) s m #[(.ref as20_0), (.int (7 : Int32))] below meth c s₁ [] 0 0 := Stand.of_body Bd
  have e0 : s₁.heap = h0 := by rw [← hh, Bd.state]; rfl
  have N0 := Fr.nil n0
  have pre0 : ∀ t, Steps p.tables e below (s₁.setTop (mkF m 0 #[.val (.ref as20_0), .val (.int (7 : Int32))] [])) t → Steps p.tables e below (s₁.setTop (entryFrame m #[(.ref as20_0), (.int (7 : Int32))] 2)) t := fun t k => castTop (ef_s20 m as20_0) k
  obtain ⟨cq1, kq1, q1a, q1b, q1c⟩ := isOf hZ e0 Es
  obtain ⟨_, _, ⟨T1, L1, k1, n1⟩, -, X1, ⟨Lc1, hQ1, l1, y1, z1⟩, st1⟩ := X0.virtualBack hx (y := (⟨"java/lang/String", "isLatin1", "()Z"⟩ : MethodName)) (z := (⟨"java/lang/String", "isLatin1", "()Z"⟩ : MethodName)) hown (mvT hZ (hw _ (List.mem_of_getElem? (i := 18) rfl))) (mvT hZ (hw _ (List.mem_of_getElem? (i := 19) rfl))) (notFace_of_selects (args := #[]) (mvT hZ (hw _ (List.mem_of_getElem? (i := 21) rfl)))) (mvT hZ (hw _ (List.mem_of_getElem? (i := 21) rfl))) (mvT hZ (hw _ (List.mem_of_getElem? (i := 20) rfl))) (by decide) (backOf (W := 0) (rms1 l Z a0 hw [] as20_0 cs h0 n0 Z0 Sc Fc hcs) hZ (hw _ (List.mem_of_getElem? (i := 22) rfl)) (hw _ (List.mem_of_getElem? (i := 6) rfl)) (by decide) (by decide)) q1a q1c (g := (mkF m 1 #[.val (.ref as20_0), .val (.int (7 : Int32))] [(.ref as20_0)])) rfl (by rw [hml]; rfl) (Steps.refl _) (argsL := []) (rest := []) (lenOf pd_2 rfl) rfl (by show 2 * 0 + _ ≤ _; exact Nat.le_of_eq rfl) (hb hby ds20_1) (fun _ _ => ⟨rfl, e0, (by decide : 0 + 0 ≤ _), (by decide : 0 + 0 ≤ _)⟩)
  dsimp only [Pt.U, Pt.locs, Pt.cells, Pt.slots] at X1 l1 y1 z1 st1 hQ1
  subst l1 y1 z1
  obtain ⟨rfl, N1q, eh1⟩ := hQ1
  have N1 := Fr.app N0 N1q
  obtain ⟨T2, X2, e2, st2⟩ := getF X1 hx hZ hown (host := "") (Or.inl (hw _ (List.mem_of_getElem? (i := 25) rfl))) Via.refl eh1 Fv (g := (mkF m 8 #[.val (.ref as20_0), .val (.int (7 : Int32))] [(.ref as20_0)])) rfl rfl (hb hby ds20_8)
  obtain ⟨_, _, ⟨T3, L3, k3, n3⟩, -, X3, ⟨Lc3, hQ3, l3, y3, z3⟩, st3⟩ := Jvm.LawKit.callS X2 hx (y := (⟨"java/lang/StringLatin1", "charAt", "([BI)C"⟩ : MethodName)) hown (mvT hZ (hw _ (List.mem_of_getElem? (i := 26) rfl))) (mvT hZ (hw _ (List.mem_of_getElem? (i := 27) rfl))) (mvT hZ (hw _ (List.mem_of_getElem? (i := 28) rfl))) (mvT hZ (hw _ (List.mem_of_getElem? (i := 29) rfl))) (by decide) (backOf (W := 0) (rms19 l Z a0 hw [] tt kk fm h0 n0 Z0 Vb Sf hfm) hZ (hw _ (List.mem_of_getElem? (i := 29) rfl)) (hw _ (List.mem_of_getElem? (i := 28) rfl)) (by decide) (by decide)) (g := (mkF m 12 #[.val (.ref as20_0), .val (.int (7 : Int32))] [(.int (7 : Int32)), (.ref tt)])) rfl (by rw [hml]; rfl) (argsL := [(.ref tt), (.int (7 : Int32))]) (rest := []) (lenOf pd_3 rfl) rfl (by show 2 * 0 + _ ≤ _; exact Nat.le_of_eq rfl) (hb hby ds20_12) (fun _ _ => ⟨rfl, e2, (by decide : 0 + 0 ≤ _), (by decide : 0 + 0 ≤ _)⟩)
  dsimp only [Pt.U, Pt.locs, Pt.cells, Pt.slots] at X3 l3 y3 z3 st3 hQ3
  subst l3 y3 z3
  obtain ⟨rfl, N3q, eh3⟩ := hQ3
  have N3 := Fr.app N1 N3q
  have k4 : ∀ t, Steps p.tables e below (T3.setTop (mkF m 15 #[.val (.ref as20_0), .val (.int (7 : Int32))] [(.int (55 : Int32))])) t → Steps p.tables e below (s₁.setTop (entryFrame m #[(.ref as20_0), (.int (7 : Int32))] 2)) t := by
    intro t k
    refine pre0 t ?_
    show Steps p.tables e below (s₁.setTop (mkF m 0 #[.val (.ref as20_0), .val (.int (7 : Int32))] [])) _
    refine XS.aloadN X0.here hx rfl (hb hby ds20_0) rfl rfl ?_
    show Steps p.tables e below (s₁.setTop (mkF m 1 #[.val (.ref as20_0), .val (.int (7 : Int32))] [(.ref as20_0)])) _
    refine st1.trans ?_
    show Steps p.tables e below (T1.setTop (mkF m 4 #[.val (.ref as20_0), .val (.int (7 : Int32))] [(.int (1 : Int32))])) _
    refine XS.ifNo X1.here hx rfl (hb hby ds20_4) rfl ((if0 _ _).trans (feq (by decide : ¬ ((1 : Int32) = (0 : Int32)))).1) ?_
    show Steps p.tables e below (T1.setTop (mkF m 7 #[.val (.ref as20_0), .val (.int (7 : Int32))] [])) _
    refine XS.aloadN X1.here hx rfl (hb hby ds20_7) rfl rfl ?_
    show Steps p.tables e below (T1.setTop (mkF m 8 #[.val (.ref as20_0), .val (.int (7 : Int32))] [(.ref as20_0)])) _
    refine st2 _ ?_
    show Steps p.tables e below (T2.setTop (mkF m 11 #[.val (.ref as20_0), .val (.int (7 : Int32))] [(.ref tt)])) _
    refine XS.iloadN X2.here hx rfl (hb hby ds20_11) rfl ?_
    show Steps p.tables e below (T2.setTop (mkF m 12 #[.val (.ref as20_0), .val (.int (7 : Int32))] [(.int (7 : Int32)), (.ref tt)])) _
    refine st3 _ ?_
    exact k
  obtain ⟨fs, hr, hrun, hended, hW, hsame⟩ := X3.leave (v := some (.int (55 : Int32))) (fun h => by rw [Bd.returns] at h; cases h)
  refine ⟨_, _, k4 _ ?_, hrun, hended, _, _, rfl, ?_, ⟨_, rfl⟩, hW, hsame.mono (by decide) (by decide)⟩
  · exact retN X3 hx (t := .char) Bd.returns (by simp) (hb hby ds20_15) hr
  · show Qs20 Z as20_0 tt kk cs fm h0 n0 _ T3.heap _
    rw [eh3]
    exact ⟨rfl, N3, rfl⟩
theorem ds21_0 : decode jdk_43_method_2_code 0 = .ok (.iload_n 1, 1) := by decide +kernel
theorem ds21_1 : decode jdk_43_method_2_code 1 = .ok (.aload_n 0, 1) := by decide +kernel
theorem ds21_2 : decode jdk_43_method_2_code 2 = .ok (.arraylength, 1) := by decide +kernel
theorem ds21_3 : decode jdk_43_method_2_code 3 = .ok (.invokestatic 9, 3) := by decide +kernel
theorem ds21_6 : decode jdk_43_method_2_code 6 = .ok (.aload_n 0, 1) := by decide +kernel
theorem ds21_7 : decode jdk_43_method_2_code 7 = .ok (.iload_n 1, 1) := by decide +kernel
theorem ds21_8 : decode jdk_43_method_2_code 8 = .ok (.baload, 1) := by decide +kernel
theorem ds21_9 : decode jdk_43_method_2_code 9 = .ok (.sipush 255, 3) := by decide +kernel
theorem ds21_12 : decode jdk_43_method_2_code 12 = .ok (.iand, 1) := by decide +kernel
theorem ds21_13 : decode jdk_43_method_2_code 13 = .ok (.i2c, 1) := by decide +kernel
theorem ds21_14 : decode jdk_43_method_2_code 14 = .ok (.ireturn, 1) := by decide +kernel
theorem ef_s21 (m : MethodId) (as21_0 : Addr) : entryFrame m #[(.ref as21_0), (.int (8 : Int32))] 2 = mkF m 0 #[.val (.ref as21_0), .val (.int (8 : Int32))] [] := by first | (simp [entryFrame, mkF, argsToLocals, Value.category]; done) | rfl
def Qs21 (Z : State) (as21_0 : Addr) (kk : ClassId) (fm : Value) (h0 : Heap) (n0 : Nat) (v : Option Value) (h : Heap) (L : List Loc) : Prop := v = some (.int (56 : Int32)) ∧ Fr n0 L ∧ h = h0
set_option maxRecDepth 65536 in
set_option maxHeartbeats 40000000 in
theorem rms21 (l : Launch) (Z : State) (a0 : Array Value) (hw : ∀ d ∈ tables_1, d.before a0 Z = true) (ws : List Jvm.Cond) (as21_0 : Addr) (kk : ClassId) (fm : Value) (h0 : Heap) (n0 : Nat) (Z0 : n0 ≤ h0.size) (Vb : Arv Z h0 as21_0 kk .byte (10 : Int32) [(.int (48 : Int32)), (.int (49 : Int32)), (.int (50 : Int32)), (.int (51 : Int32)), (.int (52 : Int32)), (.int (53 : Int32)), (.int (54 : Int32)), (.int (55 : Int32)), (.int (56 : Int32)), (.int (57 : Int32))] (.int (0 : Int32))) (Sf : Sta Z h0 "jdk/internal/util/Preconditions" "SIOOBE_FORMATTER" "Ljava/util/function/BiFunction;" fm) (hfm : fm.isRef = true) :
    MetFree l (⟨"java/lang/StringLatin1", "charAt", "([BI)C"⟩ : MethodName) (head1 (Jvm.Cond.code (⟨"java/lang/StringLatin1", "charAt", "([BI)C"⟩ : MethodName) jdk_43_method_2_code 2 (some .char) :: ws) ({ frames := 2, cells := 0, slots := 0, locals := 27 } : Room)) (fun a U => a = #[(.ref as21_0), (.int (8 : Int32))] ∧ Z.Warmed39 U.vm ∧ U.heap = h0) (fun _ _ _ _ _ => True) (fun _ U o U' => ∃ v L, o = .returned v ∧ Qs21 Z as21_0 kk fm h0 n0 v U'.heap L ∧ FrameEnd U o U' L ({ frames := 2, cells := 0, slots := 0, locals := 27 } : Room).cells ({ frames := 2, cells := 0, slots := 0, locals := 27 } : Room).slots) := by
  refine MetFree.of_bodySF (plainFor_of_name pn_3) hisR ?_
  intro p e s m args below meth c s₁ Bd hml0 hP hK
  obtain ⟨rfl, hZ, hh⟩ := hP
  have hx := Bd.exec
  have hby := Bd.bytes
  have hml : c.maxLocals = 2 := hml0
  have hown : s.vm.findClass "java/lang/StringLatin1" = some m.cls := findClass_of_methodNamed Bd.named
  have hnm := (name_of_methodNamed Bd.named Bd.method).1
  have X0 : Stand p l e ({ frames := 2, cells := 0, slots := 0, locals := 27 } : Room) s m #[(.ref as21_0), (.int (8 : Int32))] below meth c s₁ [] 0 0 := Stand.of_body Bd
  have e0 : s₁.heap = h0 := by rw [← hh, Bd.state]; rfl
  have N0 := Fr.nil n0
  have pre0 : ∀ t, Steps p.tables e below (s₁.setTop (mkF m 0 #[.val (.ref as21_0), .val (.int (8 : Int32))] [])) t → Steps p.tables e below (s₁.setTop (entryFrame m #[(.ref as21_0), (.int (8 : Int32))] 2)) t := fun t k => castTop (ef_s21 m as21_0) k
  obtain ⟨cl1, Ar1, qc1, Sz1, Nn1, Hh1, Gg1⟩ := (id Vb)
  obtain ⟨_, _, ⟨T2, L2, k2, n2⟩, -, X2, ⟨Lc2, hQ2, l2, y2, z2⟩, st2⟩ := Jvm.LawKit.callS X0 hx (y := (⟨"java/lang/String", "checkIndex", "(II)V"⟩ : MethodName)) hown (mvT hZ (hw _ (List.mem_of_getElem? (i := 30) rfl))) (mvT hZ (hw _ (List.mem_of_getElem? (i := 31) rfl))) (mvT hZ (hw _ (List.mem_of_getElem? (i := 6) rfl))) (mvT hZ (hw _ (List.mem_of_getElem? (i := 32) rfl))) (by decide) (backOf (W := 0) (rms4 l Z a0 hw [] (8 : Int32) (10 : Int32) fm h0 n0 Z0 Sf (by decide : ¬ ((8 : Int32) < (0 : Int32))) (by decide : (8 : Int32) < (10 : Int32)) hfm) hZ (hw _ (List.mem_of_getElem? (i := 32) rfl)) (hw _ (List.mem_of_getElem? (i := 6) rfl)) (by decide) (by decide)) (g := (mkF m 3 #[.val (.ref as21_0), .val (.int (8 : Int32))] [(.int (10 : Int32)), (.int (8 : Int32))])) rfl (by rw [hml]; rfl) (argsL := [(.int (8 : Int32)), (.int (10 : Int32))]) (rest := []) (lenOf pd_1 rfl) rfl (by show 2 * 0 + _ ≤ _; exact Nat.le_of_eq rfl) (hb hby ds21_3) (fun _ _ => ⟨rfl, e0, (by decide : 0 + 0 ≤ _), (by decide : 0 + 0 ≤ _)⟩)
  dsimp only [Pt.U, Pt.locs, Pt.cells, Pt.slots] at X2 l2 y2 z2 st2 hQ2
  subst l2 y2 z2
  obtain ⟨rfl, N2q, eh2⟩ := hQ2
  have N2 := Fr.app N0 N2q
  obtain ⟨cl3, Ar3, qc3, Sz3, Nn3, Hh3, Gg3⟩ := (id Vb)
  have hin3 : ¬ ((8 : Int32) < 0 ∨ cl3.slots.size ≤ ((8 : Int32)).toNatClampNeg) := inb_of Sz3 ⟨by decide, by decide⟩
  have k4 : ∀ t, Steps p.tables e below (T2.setTop (mkF m 14 #[.val (.ref as21_0), .val (.int (8 : Int32))] [(.int (56 : Int32))])) t → Steps p.tables e below (s₁.setTop (entryFrame m #[(.ref as21_0), (.int (8 : Int32))] 2)) t := by
    intro t k
    refine pre0 t ?_
    show Steps p.tables e below (s₁.setTop (mkF m 0 #[.val (.ref as21_0), .val (.int (8 : Int32))] [])) _
    refine XS.iloadN X0.here hx rfl (hb hby ds21_0) rfl ?_
    show Steps p.tables e below (s₁.setTop (mkF m 1 #[.val (.ref as21_0), .val (.int (8 : Int32))] [(.int (8 : Int32))])) _
    refine XS.aloadN X0.here hx rfl (hb hby ds21_1) rfl rfl ?_
    show Steps p.tables e below (s₁.setTop (mkF m 2 #[.val (.ref as21_0), .val (.int (8 : Int32))] [(.ref as21_0), (.int (8 : Int32))])) _
    refine X0.arraylength hx (by rw [e0]; exact Ar1.1) (State.isArrayOf_alike hZ.alike Ar1.2.1) (g := (mkF m 2 #[.val (.ref as21_0), .val (.int (8 : Int32))] [(.ref as21_0), (.int (8 : Int32))])) rfl rfl (hb hby ds21_2) _ ?_
    rw [len_of Sz1 Nn1]
    show Steps p.tables e below (s₁.setTop (mkF m 3 #[.val (.ref as21_0), .val (.int (8 : Int32))] [(.int (10 : Int32)), (.int (8 : Int32))])) _
    refine st2 _ ?_
    show Steps p.tables e below (T2.setTop (mkF m 6 #[.val (.ref as21_0), .val (.int (8 : Int32))] [])) _
    refine XS.aloadN X2.here hx rfl (hb hby ds21_6) rfl rfl ?_
    show Steps p.tables e below (T2.setTop (mkF m 7 #[.val (.ref as21_0), .val (.int (8 : Int32))] [(.ref as21_0)])) _
    refine XS.iloadN X2.here hx rfl (hb hby ds21_7) rfl ?_
    show Steps p.tables e below (T2.setTop (mkF m 8 #[.val (.ref as21_0), .val (.int (8 : Int32))] [(.int (8 : Int32)), (.ref as21_0)])) _
    refine X2.baloadBytes hx (j := (8 : Int32)) (v := (.int (56 : Int32))) (by rw [eh2]; exact Ar3.1) (State.isArrayOf_alike hZ.alike Ar3.2.1) Ar3.2.2 hin3 (Hh3.at hin3 rfl) (g := (mkF m 8 #[.val (.ref as21_0), .val (.int (8 : Int32))] [(.int (8 : Int32)), (.ref as21_0)])) rfl rfl (hb hby ds21_8) _ ?_
    show Steps p.tables e below (T2.setTop (mkF m 9 #[.val (.ref as21_0), .val (.int (8 : Int32))] [(.int (56 : Int32))])) _
    refine XS.sipush X2.here hx rfl (hb hby ds21_9) ?_
    show Steps p.tables e below (T2.setTop (mkF m 12 #[.val (.ref as21_0), .val (.int (8 : Int32))] [(.int (255 : Int32)), (.int (56 : Int32))])) _
    refine XS.iand X2.here hx rfl (hb hby ds21_12) rfl ?_
    show Steps p.tables e below (T2.setTop (mkF m 13 #[.val (.ref as21_0), .val (.int (8 : Int32))] [(.int (56 : Int32))])) _
    refine XS.i2c X2.here hx rfl (hb hby ds21_13) rfl ?_
    exact k
  obtain ⟨fs, hr, hrun, hended, hW, hsame⟩ := X2.leave (v := some (.int (56 : Int32))) (fun h => by rw [Bd.returns] at h; cases h)
  refine ⟨_, _, k4 _ ?_, hrun, hended, _, _, rfl, ?_, ⟨_, rfl⟩, hW, hsame.mono (by decide) (by decide)⟩
  · exact retN X2 hx (t := .char) Bd.returns (by simp) (hb hby ds21_14) hr
  · show Qs21 Z as21_0 kk fm h0 n0 _ T2.heap _
    rw [eh2]
    exact ⟨rfl, N2, rfl⟩
theorem ds22_0 : decode jdk_42_method_56_code 0 = .ok (.aload_n 0, 1) := by decide +kernel
theorem ds22_1 : decode jdk_42_method_56_code 1 = .ok (.invokevirtual 492, 3) := by decide +kernel
theorem ds22_4 : decode jdk_42_method_56_code 4 = .ok (.ifCond .eq 12, 3) := by decide +kernel
theorem ds22_7 : decode jdk_42_method_56_code 7 = .ok (.aload_n 0, 1) := by decide +kernel
theorem ds22_8 : decode jdk_42_method_56_code 8 = .ok (.getfield 9, 3) := by decide +kernel
theorem ds22_11 : decode jdk_42_method_56_code 11 = .ok (.iload_n 1, 1) := by decide +kernel
theorem ds22_12 : decode jdk_42_method_56_code 12 = .ok (.invokestatic 495, 3) := by decide +kernel
theorem ds22_15 : decode jdk_42_method_56_code 15 = .ok (.ireturn, 1) := by decide +kernel
theorem ef_s22 (m : MethodId) (as22_0 : Addr) : entryFrame m #[(.ref as22_0), (.int (8 : Int32))] 2 = mkF m 0 #[.val (.ref as22_0), .val (.int (8 : Int32))] [] := by first | (simp [entryFrame, mkF, argsToLocals, Value.category]; done) | rfl
def Qs22 (Z : State) (as22_0 : Addr) (tt : Addr) (kk : ClassId) (cs : Int32) (fm : Value) (h0 : Heap) (n0 : Nat) (v : Option Value) (h : Heap) (L : List Loc) : Prop := v = some (.int (56 : Int32)) ∧ Fr n0 L ∧ h = h0
set_option maxRecDepth 65536 in
set_option maxHeartbeats 40000000 in
theorem rms22 (l : Launch) (Z : State) (a0 : Array Value) (hw : ∀ d ∈ tables_1, d.before a0 Z = true) (ws : List Jvm.Cond) (as22_0 : Addr) (tt : Addr) (kk : ClassId) (cs : Int32) (fm : Value) (h0 : Heap) (n0 : Nat) (Z0 : n0 ≤ h0.size) (Es : Exa Z h0 as22_0 "java/lang/String") (Fv : Fld Z h0 as22_0 "java/lang/String" "value" "[B" (.ref tt)) (Fc : Fld Z h0 as22_0 "java/lang/String" "coder" "B" (.int (0 : Int32))) (Vb : Arv Z h0 tt kk .byte (10 : Int32) [(.int (48 : Int32)), (.int (49 : Int32)), (.int (50 : Int32)), (.int (51 : Int32)), (.int (52 : Int32)), (.int (53 : Int32)), (.int (54 : Int32)), (.int (55 : Int32)), (.int (56 : Int32)), (.int (57 : Int32))] (.int (0 : Int32))) (Sc : Sta Z h0 "java/lang/String" "COMPACT_STRINGS" "Z" (.int cs)) (Sf : Sta Z h0 "jdk/internal/util/Preconditions" "SIOOBE_FORMATTER" "Ljava/util/function/BiFunction;" fm) (hcs : ¬ (cs = (0 : Int32))) (hfm : fm.isRef = true) :
    MetFree l (⟨"java/lang/String", "charAt", "(I)C"⟩ : MethodName) (head1 (Jvm.Cond.code (⟨"java/lang/String", "charAt", "(I)C"⟩ : MethodName) jdk_42_method_56_code 2 (some .char) :: ws) ({ frames := 3, cells := 0, slots := 0, locals := 40 } : Room)) (fun a U => a = #[(.ref as22_0), (.int (8 : Int32))] ∧ Z.Warmed39 U.vm ∧ U.heap = h0) (fun _ _ _ _ _ => True) (fun _ U o U' => ∃ v L, o = .returned v ∧ Qs22 Z as22_0 tt kk cs fm h0 n0 v U'.heap L ∧ FrameEnd U o U' L ({ frames := 3, cells := 0, slots := 0, locals := 40 } : Room).cells ({ frames := 3, cells := 0, slots := 0, locals := 40 } : Room).slots) := by
  refine MetFree.of_bodySF (plainFor_of_name pn_1) hisR ?_
  intro p e s m args below meth c s₁ Bd hml0 hP hK
  obtain ⟨rfl, hZ, hh⟩ := hP
  have hx := Bd.exec
  have hby := Bd.bytes
  have hml : c.maxLocals = 2 := hml0
  have hown : s.vm.findClass "java/lang/String" = some m.cls := findClass_of_methodNamed Bd.named
  have hnm := (name_of_methodNamed Bd.named Bd.method).1
  have X0 : Stand p l e ({ frames := 3, cells := 0, slots := 0, locals := 40 } : Room) s m #[(.ref as22_0), (.int (8 : Int32))] below meth c s₁ [] 0 0 := Stand.of_body Bd
  have e0 : s₁.heap = h0 := by rw [← hh, Bd.state]; rfl
  have N0 := Fr.nil n0
  have pre0 : ∀ t, Steps p.tables e below (s₁.setTop (mkF m 0 #[.val (.ref as22_0), .val (.int (8 : Int32))] [])) t → Steps p.tables e below (s₁.setTop (entryFrame m #[(.ref as22_0), (.int (8 : Int32))] 2)) t := fun t k => castTop (ef_s22 m as22_0) k
  obtain ⟨cq1, kq1, q1a, q1b, q1c⟩ := isOf hZ e0 Es
  obtain ⟨_, _, ⟨T1, L1, k1, n1⟩, -, X1, ⟨Lc1, hQ1, l1, y1, z1⟩, st1⟩ := X0.virtualBack hx (y := (⟨"java/lang/String", "isLatin1", "()Z"⟩ : MethodName)) (z := (⟨"java/lang/String", "isLatin1", "()Z"⟩ : MethodName)) hown (mvT hZ (hw _ (List.mem_of_getElem? (i := 18) rfl))) (mvT hZ (hw _ (List.mem_of_getElem? (i := 19) rfl))) (notFace_of_selects (args := #[]) (mvT hZ (hw _ (List.mem_of_getElem? (i := 21) rfl)))) (mvT hZ (hw _ (List.mem_of_getElem? (i := 21) rfl))) (mvT hZ (hw _ (List.mem_of_getElem? (i := 20) rfl))) (by decide) (backOf (W := 0) (rms1 l Z a0 hw [] as22_0 cs h0 n0 Z0 Sc Fc hcs) hZ (hw _ (List.mem_of_getElem? (i := 22) rfl)) (hw _ (List.mem_of_getElem? (i := 6) rfl)) (by decide) (by decide)) q1a q1c (g := (mkF m 1 #[.val (.ref as22_0), .val (.int (8 : Int32))] [(.ref as22_0)])) rfl (by rw [hml]; rfl) (Steps.refl _) (argsL := []) (rest := []) (lenOf pd_2 rfl) rfl (by show 2 * 0 + _ ≤ _; exact Nat.le_of_eq rfl) (hb hby ds22_1) (fun _ _ => ⟨rfl, e0, (by decide : 0 + 0 ≤ _), (by decide : 0 + 0 ≤ _)⟩)
  dsimp only [Pt.U, Pt.locs, Pt.cells, Pt.slots] at X1 l1 y1 z1 st1 hQ1
  subst l1 y1 z1
  obtain ⟨rfl, N1q, eh1⟩ := hQ1
  have N1 := Fr.app N0 N1q
  obtain ⟨T2, X2, e2, st2⟩ := getF X1 hx hZ hown (host := "") (Or.inl (hw _ (List.mem_of_getElem? (i := 25) rfl))) Via.refl eh1 Fv (g := (mkF m 8 #[.val (.ref as22_0), .val (.int (8 : Int32))] [(.ref as22_0)])) rfl rfl (hb hby ds22_8)
  obtain ⟨_, _, ⟨T3, L3, k3, n3⟩, -, X3, ⟨Lc3, hQ3, l3, y3, z3⟩, st3⟩ := Jvm.LawKit.callS X2 hx (y := (⟨"java/lang/StringLatin1", "charAt", "([BI)C"⟩ : MethodName)) hown (mvT hZ (hw _ (List.mem_of_getElem? (i := 26) rfl))) (mvT hZ (hw _ (List.mem_of_getElem? (i := 27) rfl))) (mvT hZ (hw _ (List.mem_of_getElem? (i := 28) rfl))) (mvT hZ (hw _ (List.mem_of_getElem? (i := 29) rfl))) (by decide) (backOf (W := 0) (rms21 l Z a0 hw [] tt kk fm h0 n0 Z0 Vb Sf hfm) hZ (hw _ (List.mem_of_getElem? (i := 29) rfl)) (hw _ (List.mem_of_getElem? (i := 28) rfl)) (by decide) (by decide)) (g := (mkF m 12 #[.val (.ref as22_0), .val (.int (8 : Int32))] [(.int (8 : Int32)), (.ref tt)])) rfl (by rw [hml]; rfl) (argsL := [(.ref tt), (.int (8 : Int32))]) (rest := []) (lenOf pd_3 rfl) rfl (by show 2 * 0 + _ ≤ _; exact Nat.le_of_eq rfl) (hb hby ds22_12) (fun _ _ => ⟨rfl, e2, (by decide : 0 + 0 ≤ _), (by decide : 0 + 0 ≤ _)⟩)
  dsimp only [Pt.U, Pt.locs, Pt.cells, Pt.slots] at X3 l3 y3 z3 st3 hQ3
  subst l3 y3 z3
  obtain ⟨rfl, N3q, eh3⟩ := hQ3
  have N3 := Fr.app N1 N3q
  have k4 : ∀ t, Steps p.tables e below (T3.setTop (mkF m 15 #[.val (.ref as22_0), .val (.int (8 : Int32))] [(.int (56 : Int32))])) t → Steps p.tables e below (s₁.setTop (entryFrame m #[(.ref as22_0), (.int (8 : Int32))] 2)) t := by
    intro t k
    refine pre0 t ?_
    show Steps p.tables e below (s₁.setTop (mkF m 0 #[.val (.ref as22_0), .val (.int (8 : Int32))] [])) _
    refine XS.aloadN X0.here hx rfl (hb hby ds22_0) rfl rfl ?_
    show Steps p.tables e below (s₁.setTop (mkF m 1 #[.val (.ref as22_0), .val (.int (8 : Int32))] [(.ref as22_0)])) _
    refine st1.trans ?_
    show Steps p.tables e below (T1.setTop (mkF m 4 #[.val (.ref as22_0), .val (.int (8 : Int32))] [(.int (1 : Int32))])) _
    refine XS.ifNo X1.here hx rfl (hb hby ds22_4) rfl ((if0 _ _).trans (feq (by decide : ¬ ((1 : Int32) = (0 : Int32)))).1) ?_
    show Steps p.tables e below (T1.setTop (mkF m 7 #[.val (.ref as22_0), .val (.int (8 : Int32))] [])) _
    refine XS.aloadN X1.here hx rfl (hb hby ds22_7) rfl rfl ?_
    show Steps p.tables e below (T1.setTop (mkF m 8 #[.val (.ref as22_0), .val (.int (8 : Int32))] [(.ref as22_0)])) _
    refine st2 _ ?_
    show Steps p.tables e below (T2.setTop (mkF m 11 #[.val (.ref as22_0), .val (.int (8 : Int32))] [(.ref tt)])) _
    refine XS.iloadN X2.here hx rfl (hb hby ds22_11) rfl ?_
    show Steps p.tables e below (T2.setTop (mkF m 12 #[.val (.ref as22_0), .val (.int (8 : Int32))] [(.int (8 : Int32)), (.ref tt)])) _
    refine st3 _ ?_
    exact k
  obtain ⟨fs, hr, hrun, hended, hW, hsame⟩ := X3.leave (v := some (.int (56 : Int32))) (fun h => by rw [Bd.returns] at h; cases h)
  refine ⟨_, _, k4 _ ?_, hrun, hended, _, _, rfl, ?_, ⟨_, rfl⟩, hW, hsame.mono (by decide) (by decide)⟩
  · exact retN X3 hx (t := .char) Bd.returns (by simp) (hb hby ds22_15) hr
  · show Qs22 Z as22_0 tt kk cs fm h0 n0 _ T3.heap _
    rw [eh3]
    exact ⟨rfl, N3, rfl⟩
theorem ds23_0 : decode jdk_43_method_2_code 0 = .ok (.iload_n 1, 1) := by decide +kernel
theorem ds23_1 : decode jdk_43_method_2_code 1 = .ok (.aload_n 0, 1) := by decide +kernel
theorem ds23_2 : decode jdk_43_method_2_code 2 = .ok (.arraylength, 1) := by decide +kernel
theorem ds23_3 : decode jdk_43_method_2_code 3 = .ok (.invokestatic 9, 3) := by decide +kernel
theorem ds23_6 : decode jdk_43_method_2_code 6 = .ok (.aload_n 0, 1) := by decide +kernel
theorem ds23_7 : decode jdk_43_method_2_code 7 = .ok (.iload_n 1, 1) := by decide +kernel
theorem ds23_8 : decode jdk_43_method_2_code 8 = .ok (.baload, 1) := by decide +kernel
theorem ds23_9 : decode jdk_43_method_2_code 9 = .ok (.sipush 255, 3) := by decide +kernel
theorem ds23_12 : decode jdk_43_method_2_code 12 = .ok (.iand, 1) := by decide +kernel
theorem ds23_13 : decode jdk_43_method_2_code 13 = .ok (.i2c, 1) := by decide +kernel
theorem ds23_14 : decode jdk_43_method_2_code 14 = .ok (.ireturn, 1) := by decide +kernel
theorem ef_s23 (m : MethodId) (as23_0 : Addr) : entryFrame m #[(.ref as23_0), (.int (9 : Int32))] 2 = mkF m 0 #[.val (.ref as23_0), .val (.int (9 : Int32))] [] := by first | (simp [entryFrame, mkF, argsToLocals, Value.category]; done) | rfl
def Qs23 (Z : State) (as23_0 : Addr) (kk : ClassId) (fm : Value) (h0 : Heap) (n0 : Nat) (v : Option Value) (h : Heap) (L : List Loc) : Prop := v = some (.int (57 : Int32)) ∧ Fr n0 L ∧ h = h0
set_option maxRecDepth 65536 in
set_option maxHeartbeats 40000000 in
theorem rms23 (l : Launch) (Z : State) (a0 : Array Value) (hw : ∀ d ∈ tables_1, d.before a0 Z = true) (ws : List Jvm.Cond) (as23_0 : Addr) (kk : ClassId) (fm : Value) (h0 : Heap) (n0 : Nat) (Z0 : n0 ≤ h0.size) (Vb : Arv Z h0 as23_0 kk .byte (10 : Int32) [(.int (48 : Int32)), (.int (49 : Int32)), (.int (50 : Int32)), (.int (51 : Int32)), (.int (52 : Int32)), (.int (53 : Int32)), (.int (54 : Int32)), (.int (55 : Int32)), (.int (56 : Int32)), (.int (57 : Int32))] (.int (0 : Int32))) (Sf : Sta Z h0 "jdk/internal/util/Preconditions" "SIOOBE_FORMATTER" "Ljava/util/function/BiFunction;" fm) (hfm : fm.isRef = true) :
    MetFree l (⟨"java/lang/StringLatin1", "charAt", "([BI)C"⟩ : MethodName) (head1 (Jvm.Cond.code (⟨"java/lang/StringLatin1", "charAt", "([BI)C"⟩ : MethodName) jdk_43_method_2_code 2 (some .char) :: ws) ({ frames := 2, cells := 0, slots := 0, locals := 27 } : Room)) (fun a U => a = #[(.ref as23_0), (.int (9 : Int32))] ∧ Z.Warmed39 U.vm ∧ U.heap = h0) (fun _ _ _ _ _ => True) (fun _ U o U' => ∃ v L, o = .returned v ∧ Qs23 Z as23_0 kk fm h0 n0 v U'.heap L ∧ FrameEnd U o U' L ({ frames := 2, cells := 0, slots := 0, locals := 27 } : Room).cells ({ frames := 2, cells := 0, slots := 0, locals := 27 } : Room).slots) := by
  refine MetFree.of_bodySF (plainFor_of_name pn_3) hisR ?_
  intro p e s m args below meth c s₁ Bd hml0 hP hK
  obtain ⟨rfl, hZ, hh⟩ := hP
  have hx := Bd.exec
  have hby := Bd.bytes
  have hml : c.maxLocals = 2 := hml0
  have hown : s.vm.findClass "java/lang/StringLatin1" = some m.cls := findClass_of_methodNamed Bd.named
  have hnm := (name_of_methodNamed Bd.named Bd.method).1
  have X0 : Stand p l e ({ frames := 2, cells := 0, slots := 0, locals := 27 } : Room) s m #[(.ref as23_0), (.int (9 : Int32))] below meth c s₁ [] 0 0 := Stand.of_body Bd
  have e0 : s₁.heap = h0 := by rw [← hh, Bd.state]; rfl
  have N0 := Fr.nil n0
  have pre0 : ∀ t, Steps p.tables e below (s₁.setTop (mkF m 0 #[.val (.ref as23_0), .val (.int (9 : Int32))] [])) t → Steps p.tables e below (s₁.setTop (entryFrame m #[(.ref as23_0), (.int (9 : Int32))] 2)) t := fun t k => castTop (ef_s23 m as23_0) k
  obtain ⟨cl1, Ar1, qc1, Sz1, Nn1, Hh1, Gg1⟩ := (id Vb)
  obtain ⟨_, _, ⟨T2, L2, k2, n2⟩, -, X2, ⟨Lc2, hQ2, l2, y2, z2⟩, st2⟩ := Jvm.LawKit.callS X0 hx (y := (⟨"java/lang/String", "checkIndex", "(II)V"⟩ : MethodName)) hown (mvT hZ (hw _ (List.mem_of_getElem? (i := 30) rfl))) (mvT hZ (hw _ (List.mem_of_getElem? (i := 31) rfl))) (mvT hZ (hw _ (List.mem_of_getElem? (i := 6) rfl))) (mvT hZ (hw _ (List.mem_of_getElem? (i := 32) rfl))) (by decide) (backOf (W := 0) (rms4 l Z a0 hw [] (9 : Int32) (10 : Int32) fm h0 n0 Z0 Sf (by decide : ¬ ((9 : Int32) < (0 : Int32))) (by decide : (9 : Int32) < (10 : Int32)) hfm) hZ (hw _ (List.mem_of_getElem? (i := 32) rfl)) (hw _ (List.mem_of_getElem? (i := 6) rfl)) (by decide) (by decide)) (g := (mkF m 3 #[.val (.ref as23_0), .val (.int (9 : Int32))] [(.int (10 : Int32)), (.int (9 : Int32))])) rfl (by rw [hml]; rfl) (argsL := [(.int (9 : Int32)), (.int (10 : Int32))]) (rest := []) (lenOf pd_1 rfl) rfl (by show 2 * 0 + _ ≤ _; exact Nat.le_of_eq rfl) (hb hby ds23_3) (fun _ _ => ⟨rfl, e0, (by decide : 0 + 0 ≤ _), (by decide : 0 + 0 ≤ _)⟩)
  dsimp only [Pt.U, Pt.locs, Pt.cells, Pt.slots] at X2 l2 y2 z2 st2 hQ2
  subst l2 y2 z2
  obtain ⟨rfl, N2q, eh2⟩ := hQ2
  have N2 := Fr.app N0 N2q
  obtain ⟨cl3, Ar3, qc3, Sz3, Nn3, Hh3, Gg3⟩ := (id Vb)
  have hin3 : ¬ ((9 : Int32) < 0 ∨ cl3.slots.size ≤ ((9 : Int32)).toNatClampNeg) := inb_of Sz3 ⟨by decide, by decide⟩
  have k4 : ∀ t, Steps p.tables e below (T2.setTop (mkF m 14 #[.val (.ref as23_0), .val (.int (9 : Int32))] [(.int (57 : Int32))])) t → Steps p.tables e below (s₁.setTop (entryFrame m #[(.ref as23_0), (.int (9 : Int32))] 2)) t := by
    intro t k
    refine pre0 t ?_
    show Steps p.tables e below (s₁.setTop (mkF m 0 #[.val (.ref as23_0), .val (.int (9 : Int32))] [])) _
    refine XS.iloadN X0.here hx rfl (hb hby ds23_0) rfl ?_
    show Steps p.tables e below (s₁.setTop (mkF m 1 #[.val (.ref as23_0), .val (.int (9 : Int32))] [(.int (9 : Int32))])) _
    refine XS.aloadN X0.here hx rfl (hb hby ds23_1) rfl rfl ?_
    show Steps p.tables e below (s₁.setTop (mkF m 2 #[.val (.ref as23_0), .val (.int (9 : Int32))] [(.ref as23_0), (.int (9 : Int32))])) _
    refine X0.arraylength hx (by rw [e0]; exact Ar1.1) (State.isArrayOf_alike hZ.alike Ar1.2.1) (g := (mkF m 2 #[.val (.ref as23_0), .val (.int (9 : Int32))] [(.ref as23_0), (.int (9 : Int32))])) rfl rfl (hb hby ds23_2) _ ?_
    rw [len_of Sz1 Nn1]
    show Steps p.tables e below (s₁.setTop (mkF m 3 #[.val (.ref as23_0), .val (.int (9 : Int32))] [(.int (10 : Int32)), (.int (9 : Int32))])) _
    refine st2 _ ?_
    show Steps p.tables e below (T2.setTop (mkF m 6 #[.val (.ref as23_0), .val (.int (9 : Int32))] [])) _
    refine XS.aloadN X2.here hx rfl (hb hby ds23_6) rfl rfl ?_
    show Steps p.tables e below (T2.setTop (mkF m 7 #[.val (.ref as23_0), .val (.int (9 : Int32))] [(.ref as23_0)])) _
    refine XS.iloadN X2.here hx rfl (hb hby ds23_7) rfl ?_
    show Steps p.tables e below (T2.setTop (mkF m 8 #[.val (.ref as23_0), .val (.int (9 : Int32))] [(.int (9 : Int32)), (.ref as23_0)])) _
    refine X2.baloadBytes hx (j := (9 : Int32)) (v := (.int (57 : Int32))) (by rw [eh2]; exact Ar3.1) (State.isArrayOf_alike hZ.alike Ar3.2.1) Ar3.2.2 hin3 (Hh3.at hin3 rfl) (g := (mkF m 8 #[.val (.ref as23_0), .val (.int (9 : Int32))] [(.int (9 : Int32)), (.ref as23_0)])) rfl rfl (hb hby ds23_8) _ ?_
    show Steps p.tables e below (T2.setTop (mkF m 9 #[.val (.ref as23_0), .val (.int (9 : Int32))] [(.int (57 : Int32))])) _
    refine XS.sipush X2.here hx rfl (hb hby ds23_9) ?_
    show Steps p.tables e below (T2.setTop (mkF m 12 #[.val (.ref as23_0), .val (.int (9 : Int32))] [(.int (255 : Int32)), (.int (57 : Int32))])) _
    refine XS.iand X2.here hx rfl (hb hby ds23_12) rfl ?_
    show Steps p.tables e below (T2.setTop (mkF m 13 #[.val (.ref as23_0), .val (.int (9 : Int32))] [(.int (57 : Int32))])) _
    refine XS.i2c X2.here hx rfl (hb hby ds23_13) rfl ?_
    exact k
  obtain ⟨fs, hr, hrun, hended, hW, hsame⟩ := X2.leave (v := some (.int (57 : Int32))) (fun h => by rw [Bd.returns] at h; cases h)
  refine ⟨_, _, k4 _ ?_, hrun, hended, _, _, rfl, ?_, ⟨_, rfl⟩, hW, hsame.mono (by decide) (by decide)⟩
  · exact retN X2 hx (t := .char) Bd.returns (by simp) (hb hby ds23_14) hr
  · show Qs23 Z as23_0 kk fm h0 n0 _ T2.heap _
    rw [eh2]
    exact ⟨rfl, N2, rfl⟩
theorem ds24_0 : decode jdk_42_method_56_code 0 = .ok (.aload_n 0, 1) := by decide +kernel
theorem ds24_1 : decode jdk_42_method_56_code 1 = .ok (.invokevirtual 492, 3) := by decide +kernel
theorem ds24_4 : decode jdk_42_method_56_code 4 = .ok (.ifCond .eq 12, 3) := by decide +kernel
theorem ds24_7 : decode jdk_42_method_56_code 7 = .ok (.aload_n 0, 1) := by decide +kernel
theorem ds24_8 : decode jdk_42_method_56_code 8 = .ok (.getfield 9, 3) := by decide +kernel
theorem ds24_11 : decode jdk_42_method_56_code 11 = .ok (.iload_n 1, 1) := by decide +kernel
theorem ds24_12 : decode jdk_42_method_56_code 12 = .ok (.invokestatic 495, 3) := by decide +kernel
theorem ds24_15 : decode jdk_42_method_56_code 15 = .ok (.ireturn, 1) := by decide +kernel
theorem ef_s24 (m : MethodId) (as24_0 : Addr) : entryFrame m #[(.ref as24_0), (.int (9 : Int32))] 2 = mkF m 0 #[.val (.ref as24_0), .val (.int (9 : Int32))] [] := by first | (simp [entryFrame, mkF, argsToLocals, Value.category]; done) | rfl
def Qs24 (Z : State) (as24_0 : Addr) (tt : Addr) (kk : ClassId) (cs : Int32) (fm : Value) (h0 : Heap) (n0 : Nat) (v : Option Value) (h : Heap) (L : List Loc) : Prop := v = some (.int (57 : Int32)) ∧ Fr n0 L ∧ h = h0
set_option maxRecDepth 65536 in
set_option maxHeartbeats 40000000 in
theorem rms24 (l : Launch) (Z : State) (a0 : Array Value) (hw : ∀ d ∈ tables_1, d.before a0 Z = true) (ws : List Jvm.Cond) (as24_0 : Addr) (tt : Addr) (kk : ClassId) (cs : Int32) (fm : Value) (h0 : Heap) (n0 : Nat) (Z0 : n0 ≤ h0.size) (Es : Exa Z h0 as24_0 "java/lang/String") (Fv : Fld Z h0 as24_0 "java/lang/String" "value" "[B" (.ref tt)) (Fc : Fld Z h0 as24_0 "java/lang/String" "coder" "B" (.int (0 : Int32))) (Vb : Arv Z h0 tt kk .byte (10 : Int32) [(.int (48 : Int32)), (.int (49 : Int32)), (.int (50 : Int32)), (.int (51 : Int32)), (.int (52 : Int32)), (.int (53 : Int32)), (.int (54 : Int32)), (.int (55 : Int32)), (.int (56 : Int32)), (.int (57 : Int32))] (.int (0 : Int32))) (Sc : Sta Z h0 "java/lang/String" "COMPACT_STRINGS" "Z" (.int cs)) (Sf : Sta Z h0 "jdk/internal/util/Preconditions" "SIOOBE_FORMATTER" "Ljava/util/function/BiFunction;" fm) (hcs : ¬ (cs = (0 : Int32))) (hfm : fm.isRef = true) :
    MetFree l (⟨"java/lang/String", "charAt", "(I)C"⟩ : MethodName) (head1 (Jvm.Cond.code (⟨"java/lang/String", "charAt", "(I)C"⟩ : MethodName) jdk_42_method_56_code 2 (some .char) :: ws) ({ frames := 3, cells := 0, slots := 0, locals := 40 } : Room)) (fun a U => a = #[(.ref as24_0), (.int (9 : Int32))] ∧ Z.Warmed39 U.vm ∧ U.heap = h0) (fun _ _ _ _ _ => True) (fun _ U o U' => ∃ v L, o = .returned v ∧ Qs24 Z as24_0 tt kk cs fm h0 n0 v U'.heap L ∧ FrameEnd U o U' L ({ frames := 3, cells := 0, slots := 0, locals := 40 } : Room).cells ({ frames := 3, cells := 0, slots := 0, locals := 40 } : Room).slots) := by
  refine MetFree.of_bodySF (plainFor_of_name pn_1) hisR ?_
  intro p e s m args below meth c s₁ Bd hml0 hP hK
  obtain ⟨rfl, hZ, hh⟩ := hP
  have hx := Bd.exec
  have hby := Bd.bytes
  have hml : c.maxLocals = 2 := hml0
  have hown : s.vm.findClass "java/lang/String" = some m.cls := findClass_of_methodNamed Bd.named
  have hnm := (name_of_methodNamed Bd.named Bd.method).1
  have X0 : Stand p l e ({ frames := 3, cells := 0, slots := 0, locals := 40 } : Room) s m #[(.ref as24_0), (.int (9 : Int32))] below meth c s₁ [] 0 0 := Stand.of_body Bd
  have e0 : s₁.heap = h0 := by rw [← hh, Bd.state]; rfl
  have N0 := Fr.nil n0
  have pre0 : ∀ t, Steps p.tables e below (s₁.setTop (mkF m 0 #[.val (.ref as24_0), .val (.int (9 : Int32))] [])) t → Steps p.tables e below (s₁.setTop (entryFrame m #[(.ref as24_0), (.int (9 : Int32))] 2)) t := fun t k => castTop (ef_s24 m as24_0) k
  obtain ⟨cq1, kq1, q1a, q1b, q1c⟩ := isOf hZ e0 Es
  obtain ⟨_, _, ⟨T1, L1, k1, n1⟩, -, X1, ⟨Lc1, hQ1, l1, y1, z1⟩, st1⟩ := X0.virtualBack hx (y := (⟨"java/lang/String", "isLatin1", "()Z"⟩ : MethodName)) (z := (⟨"java/lang/String", "isLatin1", "()Z"⟩ : MethodName)) hown (mvT hZ (hw _ (List.mem_of_getElem? (i := 18) rfl))) (mvT hZ (hw _ (List.mem_of_getElem? (i := 19) rfl))) (notFace_of_selects (args := #[]) (mvT hZ (hw _ (List.mem_of_getElem? (i := 21) rfl)))) (mvT hZ (hw _ (List.mem_of_getElem? (i := 21) rfl))) (mvT hZ (hw _ (List.mem_of_getElem? (i := 20) rfl))) (by decide) (backOf (W := 0) (rms1 l Z a0 hw [] as24_0 cs h0 n0 Z0 Sc Fc hcs) hZ (hw _ (List.mem_of_getElem? (i := 22) rfl)) (hw _ (List.mem_of_getElem? (i := 6) rfl)) (by decide) (by decide)) q1a q1c (g := (mkF m 1 #[.val (.ref as24_0), .val (.int (9 : Int32))] [(.ref as24_0)])) rfl (by rw [hml]; rfl) (Steps.refl _) (argsL := []) (rest := []) (lenOf pd_2 rfl) rfl (by show 2 * 0 + _ ≤ _; exact Nat.le_of_eq rfl) (hb hby ds24_1) (fun _ _ => ⟨rfl, e0, (by decide : 0 + 0 ≤ _), (by decide : 0 + 0 ≤ _)⟩)
  dsimp only [Pt.U, Pt.locs, Pt.cells, Pt.slots] at X1 l1 y1 z1 st1 hQ1
  subst l1 y1 z1
  obtain ⟨rfl, N1q, eh1⟩ := hQ1
  have N1 := Fr.app N0 N1q
  obtain ⟨T2, X2, e2, st2⟩ := getF X1 hx hZ hown (host := "") (Or.inl (hw _ (List.mem_of_getElem? (i := 25) rfl))) Via.refl eh1 Fv (g := (mkF m 8 #[.val (.ref as24_0), .val (.int (9 : Int32))] [(.ref as24_0)])) rfl rfl (hb hby ds24_8)
  obtain ⟨_, _, ⟨T3, L3, k3, n3⟩, -, X3, ⟨Lc3, hQ3, l3, y3, z3⟩, st3⟩ := Jvm.LawKit.callS X2 hx (y := (⟨"java/lang/StringLatin1", "charAt", "([BI)C"⟩ : MethodName)) hown (mvT hZ (hw _ (List.mem_of_getElem? (i := 26) rfl))) (mvT hZ (hw _ (List.mem_of_getElem? (i := 27) rfl))) (mvT hZ (hw _ (List.mem_of_getElem? (i := 28) rfl))) (mvT hZ (hw _ (List.mem_of_getElem? (i := 29) rfl))) (by decide) (backOf (W := 0) (rms23 l Z a0 hw [] tt kk fm h0 n0 Z0 Vb Sf hfm) hZ (hw _ (List.mem_of_getElem? (i := 29) rfl)) (hw _ (List.mem_of_getElem? (i := 28) rfl)) (by decide) (by decide)) (g := (mkF m 12 #[.val (.ref as24_0), .val (.int (9 : Int32))] [(.int (9 : Int32)), (.ref tt)])) rfl (by rw [hml]; rfl) (argsL := [(.ref tt), (.int (9 : Int32))]) (rest := []) (lenOf pd_3 rfl) rfl (by show 2 * 0 + _ ≤ _; exact Nat.le_of_eq rfl) (hb hby ds24_12) (fun _ _ => ⟨rfl, e2, (by decide : 0 + 0 ≤ _), (by decide : 0 + 0 ≤ _)⟩)
  dsimp only [Pt.U, Pt.locs, Pt.cells, Pt.slots] at X3 l3 y3 z3 st3 hQ3
  subst l3 y3 z3
  obtain ⟨rfl, N3q, eh3⟩ := hQ3
  have N3 := Fr.app N1 N3q
  have k4 : ∀ t, Steps p.tables e below (T3.setTop (mkF m 15 #[.val (.ref as24_0), .val (.int (9 : Int32))] [(.int (57 : Int32))])) t → Steps p.tables e below (s₁.setTop (entryFrame m #[(.ref as24_0), (.int (9 : Int32))] 2)) t := by
    intro t k
    refine pre0 t ?_
    show Steps p.tables e below (s₁.setTop (mkF m 0 #[.val (.ref as24_0), .val (.int (9 : Int32))] [])) _
    refine XS.aloadN X0.here hx rfl (hb hby ds24_0) rfl rfl ?_
    show Steps p.tables e below (s₁.setTop (mkF m 1 #[.val (.ref as24_0), .val (.int (9 : Int32))] [(.ref as24_0)])) _
    refine st1.trans ?_
    show Steps p.tables e below (T1.setTop (mkF m 4 #[.val (.ref as24_0), .val (.int (9 : Int32))] [(.int (1 : Int32))])) _
    refine XS.ifNo X1.here hx rfl (hb hby ds24_4) rfl ((if0 _ _).trans (feq (by decide : ¬ ((1 : Int32) = (0 : Int32)))).1) ?_
    show Steps p.tables e below (T1.setTop (mkF m 7 #[.val (.ref as24_0), .val (.int (9 : Int32))] [])) _
    refine XS.aloadN X1.here hx rfl (hb hby ds24_7) rfl rfl ?_
    show Steps p.tables e below (T1.setTop (mkF m 8 #[.val (.ref as24_0), .val (.int (9 : Int32))] [(.ref as24_0)])) _
    refine st2 _ ?_
    show Steps p.tables e below (T2.setTop (mkF m 11 #[.val (.ref as24_0), .val (.int (9 : Int32))] [(.ref tt)])) _
    refine XS.iloadN X2.here hx rfl (hb hby ds24_11) rfl ?_
    show Steps p.tables e below (T2.setTop (mkF m 12 #[.val (.ref as24_0), .val (.int (9 : Int32))] [(.int (9 : Int32)), (.ref tt)])) _
    refine st3 _ ?_
    exact k
  obtain ⟨fs, hr, hrun, hended, hW, hsame⟩ := X3.leave (v := some (.int (57 : Int32))) (fun h => by rw [Bd.returns] at h; cases h)
  refine ⟨_, _, k4 _ ?_, hrun, hended, _, _, rfl, ?_, ⟨_, rfl⟩, hW, hsame.mono (by decide) (by decide)⟩
  · exact retN X3 hx (t := .char) Bd.returns (by simp) (hb hby ds24_15) hr
  · show Qs24 Z as24_0 tt kk cs fm h0 n0 _ T3.heap _
    rw [eh3]
    exact ⟨rfl, N3, rfl⟩
theorem d1_0 : decode method_2_code 0 = .ok (.ldc 7, 2) := by decide +kernel
theorem d1_2 : decode method_2_code 2 = .ok (.astore_n 1, 1) := by decide +kernel
theorem d1_3 : decode method_2_code 3 = .ok (.iload_n 0, 1) := by decide +kernel
theorem d1_4 : decode method_2_code 4 = .ok (.bipush 15, 2) := by decide +kernel
theorem d1_6 : decode method_2_code 6 = .ok (.iand, 1) := by decide +kernel
theorem d1_7 : decode method_2_code 7 = .ok (.bipush 10, 2) := by decide +kernel
theorem d1_9 : decode method_2_code 9 = .ok (.irem, 1) := by decide +kernel
theorem d1_10 : decode method_2_code 10 = .ok (.istore_n 2, 1) := by decide +kernel
theorem d1_11 : decode method_2_code 11 = .ok (.aload_n 1, 1) := by decide +kernel
theorem d1_12 : decode method_2_code 12 = .ok (.iload_n 2, 1) := by decide +kernel
theorem d1_13 : decode method_2_code 13 = .ok (.invokevirtual 9, 3) := by decide +kernel
theorem d1_16 : decode method_2_code 16 = .ok (.iload_n 0, 1) := by decide +kernel
theorem d1_17 : decode method_2_code 17 = .ok (.if_icmp .ne 7, 3) := by decide +kernel
theorem d1_20 : decode method_2_code 20 = .ok (.iconst 1, 1) := by decide +kernel
theorem d1_21 : decode method_2_code 21 = .ok (.goto 4, 3) := by decide +kernel
theorem d1_24 : decode method_2_code 24 = .ok (.iconst 0, 1) := by decide +kernel
theorem d1_25 : decode method_2_code 25 = .ok (.ireturn, 1) := by decide +kernel
theorem ef_1 (m : MethodId) (p1_0 : Int32) : entryFrame m #[(.int p1_0)] 3 = mkF m 0 #[.val (.int p1_0), .unset, .unset] [] := by first | (simp [entryFrame, mkF, argsToLocals, Value.category]; done) | rfl
def Q1 (Z : State) (p1_0 : Int32) (cs : Int32) (fm : Value) (h0 : Heap) (n0 : Nat) (v : Option Value) (h : Heap) (L : List Loc) : Prop := v = some (.int (own_tab p1_0)) ∧ Fr n0 L ∧ Keep h0 h []
set_option maxRecDepth 65536 in
set_option maxHeartbeats 40000000 in
theorem rm1 (l : Launch) (Z : State) (a0 : Array Value) (hw : ∀ d ∈ tables_1, d.before a0 Z = true) (ws : List Jvm.Cond) (hEL : EW Z a0 consts_1) (wS : ∀ a ∈ Bundle.stringAtoms, a.before a0 Z = true) (p1_0 : Int32) (cs : Int32) (fm : Value) (h0 : Heap) (n0 : Nat) (Z0 : n0 ≤ h0.size) (Sc : Sta Z h0 "java/lang/String" "COMPACT_STRINGS" "Z" (.int cs)) (Sf : Sta Z h0 "jdk/internal/util/Preconditions" "SIOOBE_FORMATTER" "Ljava/util/function/BiFunction;" fm) (hcs : ¬ (cs = (0 : Int32))) (hfm : fm.isRef = true) :
    MetFree l (⟨"com/example/oyster/oyster/engine/LiteralsIsDigitPinLaw", "inTable", "(C)Z"⟩ : MethodName) (head1 (Jvm.Cond.code (⟨"com/example/oyster/oyster/engine/LiteralsIsDigitPinLaw", "inTable", "(C)Z"⟩ : MethodName) method_2_code 3 (some .boolean) :: ws) ({ frames := 4, cells := 2, slots := 44, locals := 53 } : Room)) (fun a U => a = #[(.int p1_0)] ∧ Z.Warmed39 U.vm ∧ U.heap = h0 ∧ CHv Z consts_1 U.vm h0) (fun _ _ _ _ _ => True) (fun _ U o U' => ∃ v L, o = .returned v ∧ Q1 Z p1_0 cs fm h0 n0 v U'.heap L ∧ CHr Z consts_1 U.vm U.heap U'.vm U'.heap ∧ ReturnedEndW U o U' L ({ frames := 4, cells := 2, slots := 44, locals := 53 } : Room).cells ({ frames := 4, cells := 2, slots := 44, locals := 53 } : Room).slots) := by
  refine MetFree.of_bodySF (plainFor_of_name pn_0) hisR ?_
  intro p e s m args below meth c s₁ Bd hml0 hP hK
  obtain ⟨rfl, hZ, hh, hCH⟩ := hP
  have hx := Bd.exec
  have hby := Bd.bytes
  have hml : c.maxLocals = 3 := hml0
  have hown : s.vm.findClass "com/example/oyster/oyster/engine/LiteralsIsDigitPinLaw" = some m.cls := findClass_of_methodNamed Bd.named
  have hnm := (name_of_methodNamed Bd.named Bd.method).1
  have X0 : Stand p l e ({ frames := 4, cells := 2, slots := 44, locals := 53 } : Room) (s.setVm s.vm) m #[(.int p1_0)] below meth c s₁ [] 0 0 := Stand.of_body Bd
  have e0 : s₁.heap = h0 := by rw [← hh, Bd.state]; rfl
  have N0 := Fr.nil n0
  have hS : s.Since s.vm h0.size := (State.WarmedH.refl s).since _
  have hk : h0.size ≤ h0.size := Nat.le_refl _
  have hCR : CHr Z consts_1 s.vm h0 s.vm h0 := CHr.refl hCH
  have pre0 : ∀ t, Steps p.tables e below (s₁.setTop (mkF m 0 #[.val (.int p1_0), .unset, .unset] [])) t → Steps p.tables e below (s₁.setTop (entryFrame m #[(.int p1_0)] 3)) t := fun t k => castTop (ef_1 m p1_0) k
  obtain ⟨b1, T1, h1, k1, d1, kb1, X1, e1, E1, hS, hk, hZ, hown, Ex1, Fc1, Fv1, V1, lta1, ltb1, hC1, hL1, hsf1, st1⟩ := ldcCH X0 hx hZ hown (hw _ (List.mem_of_getElem? (i := 5) rfl)) wS e0 hS hk hEL (List.mem_of_getElem? (i := 0) rfl) hCR.1 (vs := [(.int (48 : Int32)), (.int (49 : Int32)), (.int (50 : Int32)), (.int (51 : Int32)), (.int (52 : Int32)), (.int (53 : Int32)), (.int (54 : Int32)), (.int (55 : Int32)), (.int (56 : Int32)), (.int (57 : Int32))]) (z := (10 : Int32)) ⟨by decide, rfl⟩ (by decide) rfl (g := (mkF m 0 #[.val (.int p1_0), .unset, .unset] [])) rfl (hb hby d1_0) (n := 40) (by decide) (by decide) (by decide) (by decide)
  have hCR := hCR.trans hC1
  have Zs1 : n0 ≤ h1.size := Nat.le_trans Z0 E1.1
  have K1 : Keep h0 h1 [] := (Keep.refl h0 []).ext E1
  have F2 : Sta Z h1 "java/lang/String" "COMPACT_STRINGS" "Z" (.int cs) := Sc.ext E1
  have F3 : Sta Z h1 "jdk/internal/util/Preconditions" "SIOOBE_FORMATTER" "Ljava/util/function/BiFunction;" fm := Sf.ext E1
  have k4 : ∀ t, Steps p.tables e below (T1.setTop (mkF m 11 #[.val (.int p1_0), .val (.ref b1), .val (.int ((p1_0 &&& (15 : Int32)) % (10 : Int32)))] [])) t → Steps p.tables e below (s₁.setTop (entryFrame m #[(.int p1_0)] 3)) t := by
    intro t k
    refine pre0 t ?_
    show Steps p.tables e below (s₁.setTop (mkF m 0 #[.val (.int p1_0), .unset, .unset] [])) _
    refine st1 _ ?_
    show Steps p.tables e below (T1.setTop (mkF m 2 #[.val (.int p1_0), .unset, .unset] [(.ref b1)])) _
    refine XS.astoreN X1.here hx rfl (hb hby d1_2) rfl rfl (l' := #[.val (.int p1_0), .val (.ref b1), .unset]) rfl ?_
    show Steps p.tables e below (T1.setTop (mkF m 3 #[.val (.int p1_0), .val (.ref b1), .unset] [])) _
    refine XS.iloadN X1.here hx rfl (hb hby d1_3) rfl ?_
    show Steps p.tables e below (T1.setTop (mkF m 4 #[.val (.int p1_0), .val (.ref b1), .unset] [(.int p1_0)])) _
    refine XS.bipush X1.here hx rfl (hb hby d1_4) ?_
    show Steps p.tables e below (T1.setTop (mkF m 6 #[.val (.int p1_0), .val (.ref b1), .unset] [(.int (15 : Int32)), (.int p1_0)])) _
    refine XS.iand X1.here hx rfl (hb hby d1_6) rfl ?_
    show Steps p.tables e below (T1.setTop (mkF m 7 #[.val (.int p1_0), .val (.ref b1), .unset] [(.int (p1_0 &&& (15 : Int32)))])) _
    refine XS.bipush X1.here hx rfl (hb hby d1_7) ?_
    show Steps p.tables e below (T1.setTop (mkF m 9 #[.val (.int p1_0), .val (.ref b1), .unset] [(.int (10 : Int32)), (.int (p1_0 &&& (15 : Int32)))])) _
    refine iremM X1 hx rfl (hb hby d1_9) rfl (by decide) ?_
    show Steps p.tables e below (T1.setTop (mkF m 10 #[.val (.int p1_0), .val (.ref b1), .unset] [(.int ((p1_0 &&& (15 : Int32)) % (10 : Int32)))])) _
    refine XS.istoreN X1.here hx rfl (hb hby d1_10) rfl (l' := #[.val (.int p1_0), .val (.ref b1), .val (.int ((p1_0 &&& (15 : Int32)) % (10 : Int32)))]) rfl ?_
    exact k
  obtain ⟨z5, hz5⟩ : ∃ z, z = ((p1_0 &&& (15 : Int32)) % (10 : Int32)) := ⟨_, rfl⟩
  rw [← hz5] at k4
  have hz5' : z5 = (0 : Int32) ∨ z5 = (1 : Int32) ∨ z5 = (2 : Int32) ∨ z5 = (3 : Int32) ∨ z5 = (4 : Int32) ∨ z5 = (5 : Int32) ∨ z5 = (6 : Int32) ∨ z5 = (7 : Int32) ∨ z5 = (8 : Int32) ∨ z5 = (9 : Int32) := by rw [hz5]; exact own_ten _
  rcases hz5' with rfl | rfl | rfl | rfl | rfl | rfl | rfl | rfl | rfl | rfl
  · skip
    obtain ⟨cq6, kq6, q6a, q6b, q6c⟩ := isOf hZ e1 Ex1
    obtain ⟨_, _, ⟨T6, L6, k6, n6⟩, -, X6, ⟨Lc6, hQ6, l6, y6, z6⟩, st6⟩ := X1.virtualBack hx (y := (⟨"java/lang/String", "charAt", "(I)C"⟩ : MethodName)) (z := (⟨"java/lang/String", "charAt", "(I)C"⟩ : MethodName)) hown (mvT hZ (hw _ (List.mem_of_getElem? (i := 13) rfl))) (mvT hZ (hw _ (List.mem_of_getElem? (i := 14) rfl))) (notFace_of_selects (args := #[]) (mvT hZ (hw _ (List.mem_of_getElem? (i := 16) rfl)))) (mvT hZ (hw _ (List.mem_of_getElem? (i := 16) rfl))) (mvT hZ (hw _ (List.mem_of_getElem? (i := 15) rfl))) (by decide) (backOf (W := 0) (rms6 l Z a0 hw [] b1 d1 kb1 cs fm h1 n0 Zs1 Ex1 Fv1 Fc1 V1 F2 F3 hcs hfm) hZ (hw _ (List.mem_of_getElem? (i := 17) rfl)) (hw _ (List.mem_of_getElem? (i := 6) rfl)) (by decide) (by decide)) q6a q6c (g := (mkF m 13 #[.val (.int p1_0), .val (.ref b1), .val (.int (0 : Int32))] [(.int (0 : Int32)), (.ref b1)])) rfl (by rw [hml]; rfl) (Steps.refl _) (argsL := [(.int (0 : Int32))]) (rest := []) (lenOf pd_4 rfl) rfl (by show 2 * 0 + _ ≤ _; exact Nat.le_of_eq rfl) (hb hby d1_13) (fun _ _ => ⟨rfl, e1, (by decide : 2 + 0 ≤ _), (by decide : 44 + 0 ≤ _)⟩)
    dsimp only [Pt.U, Pt.locs, Pt.cells, Pt.slots] at X6 l6 y6 z6 st6 hQ6
    subst l6 y6 z6
    obtain ⟨rfl, N6q, eh6⟩ := hQ6
    have N6 := Fr.app N0 N6q
    have k7 : ∀ t, Steps p.tables e below (T6.setTop (mkF m 17 #[.val (.int p1_0), .val (.ref b1), .val (.int (0 : Int32))] [(.int p1_0), (.int (48 : Int32))])) t → Steps p.tables e below (s₁.setTop (entryFrame m #[(.int p1_0)] 3)) t := by
      intro t k
      refine k4 t ?_
      show Steps p.tables e below (T1.setTop (mkF m 11 #[.val (.int p1_0), .val (.ref b1), .val (.int (0 : Int32))] [])) _
      refine XS.aloadN X1.here hx rfl (hb hby d1_11) rfl rfl ?_
      show Steps p.tables e below (T1.setTop (mkF m 12 #[.val (.int p1_0), .val (.ref b1), .val (.int (0 : Int32))] [(.ref b1)])) _
      refine XS.iloadN X1.here hx rfl (hb hby d1_12) rfl ?_
      show Steps p.tables e below (T1.setTop (mkF m 13 #[.val (.int p1_0), .val (.ref b1), .val (.int (0 : Int32))] [(.int (0 : Int32)), (.ref b1)])) _
      refine st6.trans ?_
      show Steps p.tables e below (T6.setTop (mkF m 16 #[.val (.int p1_0), .val (.ref b1), .val (.int (0 : Int32))] [(.int (48 : Int32))])) _
      refine XS.iloadN X6.here hx rfl (hb hby d1_16) rfl ?_
      exact k
    by_cases hc17_8 : (48 : Int32) = p1_0
    · skip
      have k9 : ∀ t, Steps p.tables e below (T6.setTop (mkF m 25 #[.val (.int p1_0), .val (.ref b1), .val (.int (0 : Int32))] [(.int (1 : Int32))])) t → Steps p.tables e below (s₁.setTop (entryFrame m #[(.int p1_0)] 3)) t := by
        intro t k
        refine k7 t ?_
        show Steps p.tables e below (T6.setTop (mkF m 17 #[.val (.int p1_0), .val (.ref b1), .val (.int (0 : Int32))] [(.int p1_0), (.int (48 : Int32))])) _
        refine XS.icmpNo X6.here hx rfl (hb hby d1_17) rfl (teq hc17_8).2 ?_
        show Steps p.tables e below (T6.setTop (mkF m 20 #[.val (.int p1_0), .val (.ref b1), .val (.int (0 : Int32))] [])) _
        refine XS.iconst X6.here hx rfl (hb hby d1_20) ?_
        show Steps p.tables e below (T6.setTop (mkF m 21 #[.val (.int p1_0), .val (.ref b1), .val (.int (0 : Int32))] [(.int (1 : Int32))])) _
        refine XS.goto X6.here hx rfl (pc0 := 21) (pc' := 25) rfl (hb hby d1_21) (by decide) (by decide) ?_
        exact k
      obtain ⟨fs, hr, hrun, hended, hE1, hE2, hE3, hE4⟩ := X6.leaveW hS (by rw [eh6]; exact hk) (v := some (.int (1 : Int32))) (fun h => by rw [Bd.returns] at h; cases h)
      have hCE := hCR.trans (CHv.at X6 hZ hEL hCR.1)
      refine ⟨_, _, k9 _ ?_, hrun, hended, _, _, rfl, ?_, (by show CHr Z consts_1 s.vm s.heap T6.vm T6.heap; rw [hh, eh6]; exact hCE), ⟨_, rfl⟩, hE2, hE3, hE4.mono (by decide) (by decide)⟩
      · exact retN X6 hx (t := .boolean) Bd.returns (by simp) (hb hby d1_25) hr
      · show Q1 Z p1_0 cs fm h0 n0 _ T6.heap _
        rw [eh6]
        exact ⟨congrArg (fun z => some (Value.int z)) (show (1 : Int32) = own_tab p1_0 from by unfold own_tab; rw [← hz5]; exact (if_pos hc17_8).symm), N6, K1⟩
    · skip
      have k10 : ∀ t, Steps p.tables e below (T6.setTop (mkF m 25 #[.val (.int p1_0), .val (.ref b1), .val (.int (0 : Int32))] [(.int (0 : Int32))])) t → Steps p.tables e below (s₁.setTop (entryFrame m #[(.int p1_0)] 3)) t := by
        intro t k
        refine k7 t ?_
        show Steps p.tables e below (T6.setTop (mkF m 17 #[.val (.int p1_0), .val (.ref b1), .val (.int (0 : Int32))] [(.int p1_0), (.int (48 : Int32))])) _
        refine XS.icmpYes X6.here hx rfl (pc0 := 17) (pc' := 24) rfl (hb hby d1_17) rfl (feq hc17_8).2 (by decide) (by decide) ?_
        show Steps p.tables e below (T6.setTop (mkF m 24 #[.val (.int p1_0), .val (.ref b1), .val (.int (0 : Int32))] [])) _
        refine XS.iconst X6.here hx rfl (hb hby d1_24) ?_
        exact k
      obtain ⟨fs, hr, hrun, hended, hE1, hE2, hE3, hE4⟩ := X6.leaveW hS (by rw [eh6]; exact hk) (v := some (.int (0 : Int32))) (fun h => by rw [Bd.returns] at h; cases h)
      have hCE := hCR.trans (CHv.at X6 hZ hEL hCR.1)
      refine ⟨_, _, k10 _ ?_, hrun, hended, _, _, rfl, ?_, (by show CHr Z consts_1 s.vm s.heap T6.vm T6.heap; rw [hh, eh6]; exact hCE), ⟨_, rfl⟩, hE2, hE3, hE4.mono (by decide) (by decide)⟩
      · exact retN X6 hx (t := .boolean) Bd.returns (by simp) (hb hby d1_25) hr
      · show Q1 Z p1_0 cs fm h0 n0 _ T6.heap _
        rw [eh6]
        exact ⟨congrArg (fun z => some (Value.int z)) (show (0 : Int32) = own_tab p1_0 from by unfold own_tab; rw [← hz5]; exact (if_neg hc17_8).symm), N6, K1⟩
  · skip
    obtain ⟨cq11, kq11, q11a, q11b, q11c⟩ := isOf hZ e1 Ex1
    obtain ⟨_, _, ⟨T11, L11, k11, n11⟩, -, X11, ⟨Lc11, hQ11, l11, y11, z11⟩, st11⟩ := X1.virtualBack hx (y := (⟨"java/lang/String", "charAt", "(I)C"⟩ : MethodName)) (z := (⟨"java/lang/String", "charAt", "(I)C"⟩ : MethodName)) hown (mvT hZ (hw _ (List.mem_of_getElem? (i := 13) rfl))) (mvT hZ (hw _ (List.mem_of_getElem? (i := 14) rfl))) (notFace_of_selects (args := #[]) (mvT hZ (hw _ (List.mem_of_getElem? (i := 16) rfl)))) (mvT hZ (hw _ (List.mem_of_getElem? (i := 16) rfl))) (mvT hZ (hw _ (List.mem_of_getElem? (i := 15) rfl))) (by decide) (backOf (W := 0) (rms8 l Z a0 hw [] b1 d1 kb1 cs fm h1 n0 Zs1 Ex1 Fv1 Fc1 V1 F2 F3 hcs hfm) hZ (hw _ (List.mem_of_getElem? (i := 17) rfl)) (hw _ (List.mem_of_getElem? (i := 6) rfl)) (by decide) (by decide)) q11a q11c (g := (mkF m 13 #[.val (.int p1_0), .val (.ref b1), .val (.int (1 : Int32))] [(.int (1 : Int32)), (.ref b1)])) rfl (by rw [hml]; rfl) (Steps.refl _) (argsL := [(.int (1 : Int32))]) (rest := []) (lenOf pd_4 rfl) rfl (by show 2 * 0 + _ ≤ _; exact Nat.le_of_eq rfl) (hb hby d1_13) (fun _ _ => ⟨rfl, e1, (by decide : 2 + 0 ≤ _), (by decide : 44 + 0 ≤ _)⟩)
    dsimp only [Pt.U, Pt.locs, Pt.cells, Pt.slots] at X11 l11 y11 z11 st11 hQ11
    subst l11 y11 z11
    obtain ⟨rfl, N11q, eh11⟩ := hQ11
    have N11 := Fr.app N0 N11q
    have k12 : ∀ t, Steps p.tables e below (T11.setTop (mkF m 17 #[.val (.int p1_0), .val (.ref b1), .val (.int (1 : Int32))] [(.int p1_0), (.int (49 : Int32))])) t → Steps p.tables e below (s₁.setTop (entryFrame m #[(.int p1_0)] 3)) t := by
      intro t k
      refine k4 t ?_
      show Steps p.tables e below (T1.setTop (mkF m 11 #[.val (.int p1_0), .val (.ref b1), .val (.int (1 : Int32))] [])) _
      refine XS.aloadN X1.here hx rfl (hb hby d1_11) rfl rfl ?_
      show Steps p.tables e below (T1.setTop (mkF m 12 #[.val (.int p1_0), .val (.ref b1), .val (.int (1 : Int32))] [(.ref b1)])) _
      refine XS.iloadN X1.here hx rfl (hb hby d1_12) rfl ?_
      show Steps p.tables e below (T1.setTop (mkF m 13 #[.val (.int p1_0), .val (.ref b1), .val (.int (1 : Int32))] [(.int (1 : Int32)), (.ref b1)])) _
      refine st11.trans ?_
      show Steps p.tables e below (T11.setTop (mkF m 16 #[.val (.int p1_0), .val (.ref b1), .val (.int (1 : Int32))] [(.int (49 : Int32))])) _
      refine XS.iloadN X11.here hx rfl (hb hby d1_16) rfl ?_
      exact k
    by_cases hc17_13 : (49 : Int32) = p1_0
    · skip
      have k14 : ∀ t, Steps p.tables e below (T11.setTop (mkF m 25 #[.val (.int p1_0), .val (.ref b1), .val (.int (1 : Int32))] [(.int (1 : Int32))])) t → Steps p.tables e below (s₁.setTop (entryFrame m #[(.int p1_0)] 3)) t := by
        intro t k
        refine k12 t ?_
        show Steps p.tables e below (T11.setTop (mkF m 17 #[.val (.int p1_0), .val (.ref b1), .val (.int (1 : Int32))] [(.int p1_0), (.int (49 : Int32))])) _
        refine XS.icmpNo X11.here hx rfl (hb hby d1_17) rfl (teq hc17_13).2 ?_
        show Steps p.tables e below (T11.setTop (mkF m 20 #[.val (.int p1_0), .val (.ref b1), .val (.int (1 : Int32))] [])) _
        refine XS.iconst X11.here hx rfl (hb hby d1_20) ?_
        show Steps p.tables e below (T11.setTop (mkF m 21 #[.val (.int p1_0), .val (.ref b1), .val (.int (1 : Int32))] [(.int (1 : Int32))])) _
        refine XS.goto X11.here hx rfl (pc0 := 21) (pc' := 25) rfl (hb hby d1_21) (by decide) (by decide) ?_
        exact k
      obtain ⟨fs, hr, hrun, hended, hE1, hE2, hE3, hE4⟩ := X11.leaveW hS (by rw [eh11]; exact hk) (v := some (.int (1 : Int32))) (fun h => by rw [Bd.returns] at h; cases h)
      have hCE := hCR.trans (CHv.at X11 hZ hEL hCR.1)
      refine ⟨_, _, k14 _ ?_, hrun, hended, _, _, rfl, ?_, (by show CHr Z consts_1 s.vm s.heap T11.vm T11.heap; rw [hh, eh11]; exact hCE), ⟨_, rfl⟩, hE2, hE3, hE4.mono (by decide) (by decide)⟩
      · exact retN X11 hx (t := .boolean) Bd.returns (by simp) (hb hby d1_25) hr
      · show Q1 Z p1_0 cs fm h0 n0 _ T11.heap _
        rw [eh11]
        exact ⟨congrArg (fun z => some (Value.int z)) (show (1 : Int32) = own_tab p1_0 from by unfold own_tab; rw [← hz5]; exact (if_pos hc17_13).symm), N11, K1⟩
    · skip
      have k15 : ∀ t, Steps p.tables e below (T11.setTop (mkF m 25 #[.val (.int p1_0), .val (.ref b1), .val (.int (1 : Int32))] [(.int (0 : Int32))])) t → Steps p.tables e below (s₁.setTop (entryFrame m #[(.int p1_0)] 3)) t := by
        intro t k
        refine k12 t ?_
        show Steps p.tables e below (T11.setTop (mkF m 17 #[.val (.int p1_0), .val (.ref b1), .val (.int (1 : Int32))] [(.int p1_0), (.int (49 : Int32))])) _
        refine XS.icmpYes X11.here hx rfl (pc0 := 17) (pc' := 24) rfl (hb hby d1_17) rfl (feq hc17_13).2 (by decide) (by decide) ?_
        show Steps p.tables e below (T11.setTop (mkF m 24 #[.val (.int p1_0), .val (.ref b1), .val (.int (1 : Int32))] [])) _
        refine XS.iconst X11.here hx rfl (hb hby d1_24) ?_
        exact k
      obtain ⟨fs, hr, hrun, hended, hE1, hE2, hE3, hE4⟩ := X11.leaveW hS (by rw [eh11]; exact hk) (v := some (.int (0 : Int32))) (fun h => by rw [Bd.returns] at h; cases h)
      have hCE := hCR.trans (CHv.at X11 hZ hEL hCR.1)
      refine ⟨_, _, k15 _ ?_, hrun, hended, _, _, rfl, ?_, (by show CHr Z consts_1 s.vm s.heap T11.vm T11.heap; rw [hh, eh11]; exact hCE), ⟨_, rfl⟩, hE2, hE3, hE4.mono (by decide) (by decide)⟩
      · exact retN X11 hx (t := .boolean) Bd.returns (by simp) (hb hby d1_25) hr
      · show Q1 Z p1_0 cs fm h0 n0 _ T11.heap _
        rw [eh11]
        exact ⟨congrArg (fun z => some (Value.int z)) (show (0 : Int32) = own_tab p1_0 from by unfold own_tab; rw [← hz5]; exact (if_neg hc17_13).symm), N11, K1⟩
  · skip
    obtain ⟨cq16, kq16, q16a, q16b, q16c⟩ := isOf hZ e1 Ex1
    obtain ⟨_, _, ⟨T16, L16, k16, n16⟩, -, X16, ⟨Lc16, hQ16, l16, y16, z16⟩, st16⟩ := X1.virtualBack hx (y := (⟨"java/lang/String", "charAt", "(I)C"⟩ : MethodName)) (z := (⟨"java/lang/String", "charAt", "(I)C"⟩ : MethodName)) hown (mvT hZ (hw _ (List.mem_of_getElem? (i := 13) rfl))) (mvT hZ (hw _ (List.mem_of_getElem? (i := 14) rfl))) (notFace_of_selects (args := #[]) (mvT hZ (hw _ (List.mem_of_getElem? (i := 16) rfl)))) (mvT hZ (hw _ (List.mem_of_getElem? (i := 16) rfl))) (mvT hZ (hw _ (List.mem_of_getElem? (i := 15) rfl))) (by decide) (backOf (W := 0) (rms10 l Z a0 hw [] b1 d1 kb1 cs fm h1 n0 Zs1 Ex1 Fv1 Fc1 V1 F2 F3 hcs hfm) hZ (hw _ (List.mem_of_getElem? (i := 17) rfl)) (hw _ (List.mem_of_getElem? (i := 6) rfl)) (by decide) (by decide)) q16a q16c (g := (mkF m 13 #[.val (.int p1_0), .val (.ref b1), .val (.int (2 : Int32))] [(.int (2 : Int32)), (.ref b1)])) rfl (by rw [hml]; rfl) (Steps.refl _) (argsL := [(.int (2 : Int32))]) (rest := []) (lenOf pd_4 rfl) rfl (by show 2 * 0 + _ ≤ _; exact Nat.le_of_eq rfl) (hb hby d1_13) (fun _ _ => ⟨rfl, e1, (by decide : 2 + 0 ≤ _), (by decide : 44 + 0 ≤ _)⟩)
    dsimp only [Pt.U, Pt.locs, Pt.cells, Pt.slots] at X16 l16 y16 z16 st16 hQ16
    subst l16 y16 z16
    obtain ⟨rfl, N16q, eh16⟩ := hQ16
    have N16 := Fr.app N0 N16q
    have k17 : ∀ t, Steps p.tables e below (T16.setTop (mkF m 17 #[.val (.int p1_0), .val (.ref b1), .val (.int (2 : Int32))] [(.int p1_0), (.int (50 : Int32))])) t → Steps p.tables e below (s₁.setTop (entryFrame m #[(.int p1_0)] 3)) t := by
      intro t k
      refine k4 t ?_
      show Steps p.tables e below (T1.setTop (mkF m 11 #[.val (.int p1_0), .val (.ref b1), .val (.int (2 : Int32))] [])) _
      refine XS.aloadN X1.here hx rfl (hb hby d1_11) rfl rfl ?_
      show Steps p.tables e below (T1.setTop (mkF m 12 #[.val (.int p1_0), .val (.ref b1), .val (.int (2 : Int32))] [(.ref b1)])) _
      refine XS.iloadN X1.here hx rfl (hb hby d1_12) rfl ?_
      show Steps p.tables e below (T1.setTop (mkF m 13 #[.val (.int p1_0), .val (.ref b1), .val (.int (2 : Int32))] [(.int (2 : Int32)), (.ref b1)])) _
      refine st16.trans ?_
      show Steps p.tables e below (T16.setTop (mkF m 16 #[.val (.int p1_0), .val (.ref b1), .val (.int (2 : Int32))] [(.int (50 : Int32))])) _
      refine XS.iloadN X16.here hx rfl (hb hby d1_16) rfl ?_
      exact k
    by_cases hc17_18 : (50 : Int32) = p1_0
    · skip
      have k19 : ∀ t, Steps p.tables e below (T16.setTop (mkF m 25 #[.val (.int p1_0), .val (.ref b1), .val (.int (2 : Int32))] [(.int (1 : Int32))])) t → Steps p.tables e below (s₁.setTop (entryFrame m #[(.int p1_0)] 3)) t := by
        intro t k
        refine k17 t ?_
        show Steps p.tables e below (T16.setTop (mkF m 17 #[.val (.int p1_0), .val (.ref b1), .val (.int (2 : Int32))] [(.int p1_0), (.int (50 : Int32))])) _
        refine XS.icmpNo X16.here hx rfl (hb hby d1_17) rfl (teq hc17_18).2 ?_
        show Steps p.tables e below (T16.setTop (mkF m 20 #[.val (.int p1_0), .val (.ref b1), .val (.int (2 : Int32))] [])) _
        refine XS.iconst X16.here hx rfl (hb hby d1_20) ?_
        show Steps p.tables e below (T16.setTop (mkF m 21 #[.val (.int p1_0), .val (.ref b1), .val (.int (2 : Int32))] [(.int (1 : Int32))])) _
        refine XS.goto X16.here hx rfl (pc0 := 21) (pc' := 25) rfl (hb hby d1_21) (by decide) (by decide) ?_
        exact k
      obtain ⟨fs, hr, hrun, hended, hE1, hE2, hE3, hE4⟩ := X16.leaveW hS (by rw [eh16]; exact hk) (v := some (.int (1 : Int32))) (fun h => by rw [Bd.returns] at h; cases h)
      have hCE := hCR.trans (CHv.at X16 hZ hEL hCR.1)
      refine ⟨_, _, k19 _ ?_, hrun, hended, _, _, rfl, ?_, (by show CHr Z consts_1 s.vm s.heap T16.vm T16.heap; rw [hh, eh16]; exact hCE), ⟨_, rfl⟩, hE2, hE3, hE4.mono (by decide) (by decide)⟩
      · exact retN X16 hx (t := .boolean) Bd.returns (by simp) (hb hby d1_25) hr
      · show Q1 Z p1_0 cs fm h0 n0 _ T16.heap _
        rw [eh16]
        exact ⟨congrArg (fun z => some (Value.int z)) (show (1 : Int32) = own_tab p1_0 from by unfold own_tab; rw [← hz5]; exact (if_pos hc17_18).symm), N16, K1⟩
    · skip
      have k20 : ∀ t, Steps p.tables e below (T16.setTop (mkF m 25 #[.val (.int p1_0), .val (.ref b1), .val (.int (2 : Int32))] [(.int (0 : Int32))])) t → Steps p.tables e below (s₁.setTop (entryFrame m #[(.int p1_0)] 3)) t := by
        intro t k
        refine k17 t ?_
        show Steps p.tables e below (T16.setTop (mkF m 17 #[.val (.int p1_0), .val (.ref b1), .val (.int (2 : Int32))] [(.int p1_0), (.int (50 : Int32))])) _
        refine XS.icmpYes X16.here hx rfl (pc0 := 17) (pc' := 24) rfl (hb hby d1_17) rfl (feq hc17_18).2 (by decide) (by decide) ?_
        show Steps p.tables e below (T16.setTop (mkF m 24 #[.val (.int p1_0), .val (.ref b1), .val (.int (2 : Int32))] [])) _
        refine XS.iconst X16.here hx rfl (hb hby d1_24) ?_
        exact k
      obtain ⟨fs, hr, hrun, hended, hE1, hE2, hE3, hE4⟩ := X16.leaveW hS (by rw [eh16]; exact hk) (v := some (.int (0 : Int32))) (fun h => by rw [Bd.returns] at h; cases h)
      have hCE := hCR.trans (CHv.at X16 hZ hEL hCR.1)
      refine ⟨_, _, k20 _ ?_, hrun, hended, _, _, rfl, ?_, (by show CHr Z consts_1 s.vm s.heap T16.vm T16.heap; rw [hh, eh16]; exact hCE), ⟨_, rfl⟩, hE2, hE3, hE4.mono (by decide) (by decide)⟩
      · exact retN X16 hx (t := .boolean) Bd.returns (by simp) (hb hby d1_25) hr
      · show Q1 Z p1_0 cs fm h0 n0 _ T16.heap _
        rw [eh16]
        exact ⟨congrArg (fun z => some (Value.int z)) (show (0 : Int32) = own_tab p1_0 from by unfold own_tab; rw [← hz5]; exact (if_neg hc17_18).symm), N16, K1⟩
  · skip
    obtain ⟨cq21, kq21, q21a, q21b, q21c⟩ := isOf hZ e1 Ex1
    obtain ⟨_, _, ⟨T21, L21, k21, n21⟩, -, X21, ⟨Lc21, hQ21, l21, y21, z21⟩, st21⟩ := X1.virtualBack hx (y := (⟨"java/lang/String", "charAt", "(I)C"⟩ : MethodName)) (z := (⟨"java/lang/String", "charAt", "(I)C"⟩ : MethodName)) hown (mvT hZ (hw _ (List.mem_of_getElem? (i := 13) rfl))) (mvT hZ (hw _ (List.mem_of_getElem? (i := 14) rfl))) (notFace_of_selects (args := #[]) (mvT hZ (hw _ (List.mem_of_getElem? (i := 16) rfl)))) (mvT hZ (hw _ (List.mem_of_getElem? (i := 16) rfl))) (mvT hZ (hw _ (List.mem_of_getElem? (i := 15) rfl))) (by decide) (backOf (W := 0) (rms12 l Z a0 hw [] b1 d1 kb1 cs fm h1 n0 Zs1 Ex1 Fv1 Fc1 V1 F2 F3 hcs hfm) hZ (hw _ (List.mem_of_getElem? (i := 17) rfl)) (hw _ (List.mem_of_getElem? (i := 6) rfl)) (by decide) (by decide)) q21a q21c (g := (mkF m 13 #[.val (.int p1_0), .val (.ref b1), .val (.int (3 : Int32))] [(.int (3 : Int32)), (.ref b1)])) rfl (by rw [hml]; rfl) (Steps.refl _) (argsL := [(.int (3 : Int32))]) (rest := []) (lenOf pd_4 rfl) rfl (by show 2 * 0 + _ ≤ _; exact Nat.le_of_eq rfl) (hb hby d1_13) (fun _ _ => ⟨rfl, e1, (by decide : 2 + 0 ≤ _), (by decide : 44 + 0 ≤ _)⟩)
    dsimp only [Pt.U, Pt.locs, Pt.cells, Pt.slots] at X21 l21 y21 z21 st21 hQ21
    subst l21 y21 z21
    obtain ⟨rfl, N21q, eh21⟩ := hQ21
    have N21 := Fr.app N0 N21q
    have k22 : ∀ t, Steps p.tables e below (T21.setTop (mkF m 17 #[.val (.int p1_0), .val (.ref b1), .val (.int (3 : Int32))] [(.int p1_0), (.int (51 : Int32))])) t → Steps p.tables e below (s₁.setTop (entryFrame m #[(.int p1_0)] 3)) t := by
      intro t k
      refine k4 t ?_
      show Steps p.tables e below (T1.setTop (mkF m 11 #[.val (.int p1_0), .val (.ref b1), .val (.int (3 : Int32))] [])) _
      refine XS.aloadN X1.here hx rfl (hb hby d1_11) rfl rfl ?_
      show Steps p.tables e below (T1.setTop (mkF m 12 #[.val (.int p1_0), .val (.ref b1), .val (.int (3 : Int32))] [(.ref b1)])) _
      refine XS.iloadN X1.here hx rfl (hb hby d1_12) rfl ?_
      show Steps p.tables e below (T1.setTop (mkF m 13 #[.val (.int p1_0), .val (.ref b1), .val (.int (3 : Int32))] [(.int (3 : Int32)), (.ref b1)])) _
      refine st21.trans ?_
      show Steps p.tables e below (T21.setTop (mkF m 16 #[.val (.int p1_0), .val (.ref b1), .val (.int (3 : Int32))] [(.int (51 : Int32))])) _
      refine XS.iloadN X21.here hx rfl (hb hby d1_16) rfl ?_
      exact k
    by_cases hc17_23 : (51 : Int32) = p1_0
    · skip
      have k24 : ∀ t, Steps p.tables e below (T21.setTop (mkF m 25 #[.val (.int p1_0), .val (.ref b1), .val (.int (3 : Int32))] [(.int (1 : Int32))])) t → Steps p.tables e below (s₁.setTop (entryFrame m #[(.int p1_0)] 3)) t := by
        intro t k
        refine k22 t ?_
        show Steps p.tables e below (T21.setTop (mkF m 17 #[.val (.int p1_0), .val (.ref b1), .val (.int (3 : Int32))] [(.int p1_0), (.int (51 : Int32))])) _
        refine XS.icmpNo X21.here hx rfl (hb hby d1_17) rfl (teq hc17_23).2 ?_
        show Steps p.tables e below (T21.setTop (mkF m 20 #[.val (.int p1_0), .val (.ref b1), .val (.int (3 : Int32))] [])) _
        refine XS.iconst X21.here hx rfl (hb hby d1_20) ?_
        show Steps p.tables e below (T21.setTop (mkF m 21 #[.val (.int p1_0), .val (.ref b1), .val (.int (3 : Int32))] [(.int (1 : Int32))])) _
        refine XS.goto X21.here hx rfl (pc0 := 21) (pc' := 25) rfl (hb hby d1_21) (by decide) (by decide) ?_
        exact k
      obtain ⟨fs, hr, hrun, hended, hE1, hE2, hE3, hE4⟩ := X21.leaveW hS (by rw [eh21]; exact hk) (v := some (.int (1 : Int32))) (fun h => by rw [Bd.returns] at h; cases h)
      have hCE := hCR.trans (CHv.at X21 hZ hEL hCR.1)
      refine ⟨_, _, k24 _ ?_, hrun, hended, _, _, rfl, ?_, (by show CHr Z consts_1 s.vm s.heap T21.vm T21.heap; rw [hh, eh21]; exact hCE), ⟨_, rfl⟩, hE2, hE3, hE4.mono (by decide) (by decide)⟩
      · exact retN X21 hx (t := .boolean) Bd.returns (by simp) (hb hby d1_25) hr
      · show Q1 Z p1_0 cs fm h0 n0 _ T21.heap _
        rw [eh21]
        exact ⟨congrArg (fun z => some (Value.int z)) (show (1 : Int32) = own_tab p1_0 from by unfold own_tab; rw [← hz5]; exact (if_pos hc17_23).symm), N21, K1⟩
    · skip
      have k25 : ∀ t, Steps p.tables e below (T21.setTop (mkF m 25 #[.val (.int p1_0), .val (.ref b1), .val (.int (3 : Int32))] [(.int (0 : Int32))])) t → Steps p.tables e below (s₁.setTop (entryFrame m #[(.int p1_0)] 3)) t := by
        intro t k
        refine k22 t ?_
        show Steps p.tables e below (T21.setTop (mkF m 17 #[.val (.int p1_0), .val (.ref b1), .val (.int (3 : Int32))] [(.int p1_0), (.int (51 : Int32))])) _
        refine XS.icmpYes X21.here hx rfl (pc0 := 17) (pc' := 24) rfl (hb hby d1_17) rfl (feq hc17_23).2 (by decide) (by decide) ?_
        show Steps p.tables e below (T21.setTop (mkF m 24 #[.val (.int p1_0), .val (.ref b1), .val (.int (3 : Int32))] [])) _
        refine XS.iconst X21.here hx rfl (hb hby d1_24) ?_
        exact k
      obtain ⟨fs, hr, hrun, hended, hE1, hE2, hE3, hE4⟩ := X21.leaveW hS (by rw [eh21]; exact hk) (v := some (.int (0 : Int32))) (fun h => by rw [Bd.returns] at h; cases h)
      have hCE := hCR.trans (CHv.at X21 hZ hEL hCR.1)
      refine ⟨_, _, k25 _ ?_, hrun, hended, _, _, rfl, ?_, (by show CHr Z consts_1 s.vm s.heap T21.vm T21.heap; rw [hh, eh21]; exact hCE), ⟨_, rfl⟩, hE2, hE3, hE4.mono (by decide) (by decide)⟩
      · exact retN X21 hx (t := .boolean) Bd.returns (by simp) (hb hby d1_25) hr
      · show Q1 Z p1_0 cs fm h0 n0 _ T21.heap _
        rw [eh21]
        exact ⟨congrArg (fun z => some (Value.int z)) (show (0 : Int32) = own_tab p1_0 from by unfold own_tab; rw [← hz5]; exact (if_neg hc17_23).symm), N21, K1⟩
  · skip
    obtain ⟨cq26, kq26, q26a, q26b, q26c⟩ := isOf hZ e1 Ex1
    obtain ⟨_, _, ⟨T26, L26, k26, n26⟩, -, X26, ⟨Lc26, hQ26, l26, y26, z26⟩, st26⟩ := X1.virtualBack hx (y := (⟨"java/lang/String", "charAt", "(I)C"⟩ : MethodName)) (z := (⟨"java/lang/String", "charAt", "(I)C"⟩ : MethodName)) hown (mvT hZ (hw _ (List.mem_of_getElem? (i := 13) rfl))) (mvT hZ (hw _ (List.mem_of_getElem? (i := 14) rfl))) (notFace_of_selects (args := #[]) (mvT hZ (hw _ (List.mem_of_getElem? (i := 16) rfl)))) (mvT hZ (hw _ (List.mem_of_getElem? (i := 16) rfl))) (mvT hZ (hw _ (List.mem_of_getElem? (i := 15) rfl))) (by decide) (backOf (W := 0) (rms14 l Z a0 hw [] b1 d1 kb1 cs fm h1 n0 Zs1 Ex1 Fv1 Fc1 V1 F2 F3 hcs hfm) hZ (hw _ (List.mem_of_getElem? (i := 17) rfl)) (hw _ (List.mem_of_getElem? (i := 6) rfl)) (by decide) (by decide)) q26a q26c (g := (mkF m 13 #[.val (.int p1_0), .val (.ref b1), .val (.int (4 : Int32))] [(.int (4 : Int32)), (.ref b1)])) rfl (by rw [hml]; rfl) (Steps.refl _) (argsL := [(.int (4 : Int32))]) (rest := []) (lenOf pd_4 rfl) rfl (by show 2 * 0 + _ ≤ _; exact Nat.le_of_eq rfl) (hb hby d1_13) (fun _ _ => ⟨rfl, e1, (by decide : 2 + 0 ≤ _), (by decide : 44 + 0 ≤ _)⟩)
    dsimp only [Pt.U, Pt.locs, Pt.cells, Pt.slots] at X26 l26 y26 z26 st26 hQ26
    subst l26 y26 z26
    obtain ⟨rfl, N26q, eh26⟩ := hQ26
    have N26 := Fr.app N0 N26q
    have k27 : ∀ t, Steps p.tables e below (T26.setTop (mkF m 17 #[.val (.int p1_0), .val (.ref b1), .val (.int (4 : Int32))] [(.int p1_0), (.int (52 : Int32))])) t → Steps p.tables e below (s₁.setTop (entryFrame m #[(.int p1_0)] 3)) t := by
      intro t k
      refine k4 t ?_
      show Steps p.tables e below (T1.setTop (mkF m 11 #[.val (.int p1_0), .val (.ref b1), .val (.int (4 : Int32))] [])) _
      refine XS.aloadN X1.here hx rfl (hb hby d1_11) rfl rfl ?_
      show Steps p.tables e below (T1.setTop (mkF m 12 #[.val (.int p1_0), .val (.ref b1), .val (.int (4 : Int32))] [(.ref b1)])) _
      refine XS.iloadN X1.here hx rfl (hb hby d1_12) rfl ?_
      show Steps p.tables e below (T1.setTop (mkF m 13 #[.val (.int p1_0), .val (.ref b1), .val (.int (4 : Int32))] [(.int (4 : Int32)), (.ref b1)])) _
      refine st26.trans ?_
      show Steps p.tables e below (T26.setTop (mkF m 16 #[.val (.int p1_0), .val (.ref b1), .val (.int (4 : Int32))] [(.int (52 : Int32))])) _
      refine XS.iloadN X26.here hx rfl (hb hby d1_16) rfl ?_
      exact k
    by_cases hc17_28 : (52 : Int32) = p1_0
    · skip
      have k29 : ∀ t, Steps p.tables e below (T26.setTop (mkF m 25 #[.val (.int p1_0), .val (.ref b1), .val (.int (4 : Int32))] [(.int (1 : Int32))])) t → Steps p.tables e below (s₁.setTop (entryFrame m #[(.int p1_0)] 3)) t := by
        intro t k
        refine k27 t ?_
        show Steps p.tables e below (T26.setTop (mkF m 17 #[.val (.int p1_0), .val (.ref b1), .val (.int (4 : Int32))] [(.int p1_0), (.int (52 : Int32))])) _
        refine XS.icmpNo X26.here hx rfl (hb hby d1_17) rfl (teq hc17_28).2 ?_
        show Steps p.tables e below (T26.setTop (mkF m 20 #[.val (.int p1_0), .val (.ref b1), .val (.int (4 : Int32))] [])) _
        refine XS.iconst X26.here hx rfl (hb hby d1_20) ?_
        show Steps p.tables e below (T26.setTop (mkF m 21 #[.val (.int p1_0), .val (.ref b1), .val (.int (4 : Int32))] [(.int (1 : Int32))])) _
        refine XS.goto X26.here hx rfl (pc0 := 21) (pc' := 25) rfl (hb hby d1_21) (by decide) (by decide) ?_
        exact k
      obtain ⟨fs, hr, hrun, hended, hE1, hE2, hE3, hE4⟩ := X26.leaveW hS (by rw [eh26]; exact hk) (v := some (.int (1 : Int32))) (fun h => by rw [Bd.returns] at h; cases h)
      have hCE := hCR.trans (CHv.at X26 hZ hEL hCR.1)
      refine ⟨_, _, k29 _ ?_, hrun, hended, _, _, rfl, ?_, (by show CHr Z consts_1 s.vm s.heap T26.vm T26.heap; rw [hh, eh26]; exact hCE), ⟨_, rfl⟩, hE2, hE3, hE4.mono (by decide) (by decide)⟩
      · exact retN X26 hx (t := .boolean) Bd.returns (by simp) (hb hby d1_25) hr
      · show Q1 Z p1_0 cs fm h0 n0 _ T26.heap _
        rw [eh26]
        exact ⟨congrArg (fun z => some (Value.int z)) (show (1 : Int32) = own_tab p1_0 from by unfold own_tab; rw [← hz5]; exact (if_pos hc17_28).symm), N26, K1⟩
    · skip
      have k30 : ∀ t, Steps p.tables e below (T26.setTop (mkF m 25 #[.val (.int p1_0), .val (.ref b1), .val (.int (4 : Int32))] [(.int (0 : Int32))])) t → Steps p.tables e below (s₁.setTop (entryFrame m #[(.int p1_0)] 3)) t := by
        intro t k
        refine k27 t ?_
        show Steps p.tables e below (T26.setTop (mkF m 17 #[.val (.int p1_0), .val (.ref b1), .val (.int (4 : Int32))] [(.int p1_0), (.int (52 : Int32))])) _
        refine XS.icmpYes X26.here hx rfl (pc0 := 17) (pc' := 24) rfl (hb hby d1_17) rfl (feq hc17_28).2 (by decide) (by decide) ?_
        show Steps p.tables e below (T26.setTop (mkF m 24 #[.val (.int p1_0), .val (.ref b1), .val (.int (4 : Int32))] [])) _
        refine XS.iconst X26.here hx rfl (hb hby d1_24) ?_
        exact k
      obtain ⟨fs, hr, hrun, hended, hE1, hE2, hE3, hE4⟩ := X26.leaveW hS (by rw [eh26]; exact hk) (v := some (.int (0 : Int32))) (fun h => by rw [Bd.returns] at h; cases h)
      have hCE := hCR.trans (CHv.at X26 hZ hEL hCR.1)
      refine ⟨_, _, k30 _ ?_, hrun, hended, _, _, rfl, ?_, (by show CHr Z consts_1 s.vm s.heap T26.vm T26.heap; rw [hh, eh26]; exact hCE), ⟨_, rfl⟩, hE2, hE3, hE4.mono (by decide) (by decide)⟩
      · exact retN X26 hx (t := .boolean) Bd.returns (by simp) (hb hby d1_25) hr
      · show Q1 Z p1_0 cs fm h0 n0 _ T26.heap _
        rw [eh26]
        exact ⟨congrArg (fun z => some (Value.int z)) (show (0 : Int32) = own_tab p1_0 from by unfold own_tab; rw [← hz5]; exact (if_neg hc17_28).symm), N26, K1⟩
  · skip
    obtain ⟨cq31, kq31, q31a, q31b, q31c⟩ := isOf hZ e1 Ex1
    obtain ⟨_, _, ⟨T31, L31, k31, n31⟩, -, X31, ⟨Lc31, hQ31, l31, y31, z31⟩, st31⟩ := X1.virtualBack hx (y := (⟨"java/lang/String", "charAt", "(I)C"⟩ : MethodName)) (z := (⟨"java/lang/String", "charAt", "(I)C"⟩ : MethodName)) hown (mvT hZ (hw _ (List.mem_of_getElem? (i := 13) rfl))) (mvT hZ (hw _ (List.mem_of_getElem? (i := 14) rfl))) (notFace_of_selects (args := #[]) (mvT hZ (hw _ (List.mem_of_getElem? (i := 16) rfl)))) (mvT hZ (hw _ (List.mem_of_getElem? (i := 16) rfl))) (mvT hZ (hw _ (List.mem_of_getElem? (i := 15) rfl))) (by decide) (backOf (W := 0) (rms16 l Z a0 hw [] b1 d1 kb1 cs fm h1 n0 Zs1 Ex1 Fv1 Fc1 V1 F2 F3 hcs hfm) hZ (hw _ (List.mem_of_getElem? (i := 17) rfl)) (hw _ (List.mem_of_getElem? (i := 6) rfl)) (by decide) (by decide)) q31a q31c (g := (mkF m 13 #[.val (.int p1_0), .val (.ref b1), .val (.int (5 : Int32))] [(.int (5 : Int32)), (.ref b1)])) rfl (by rw [hml]; rfl) (Steps.refl _) (argsL := [(.int (5 : Int32))]) (rest := []) (lenOf pd_4 rfl) rfl (by show 2 * 0 + _ ≤ _; exact Nat.le_of_eq rfl) (hb hby d1_13) (fun _ _ => ⟨rfl, e1, (by decide : 2 + 0 ≤ _), (by decide : 44 + 0 ≤ _)⟩)
    dsimp only [Pt.U, Pt.locs, Pt.cells, Pt.slots] at X31 l31 y31 z31 st31 hQ31
    subst l31 y31 z31
    obtain ⟨rfl, N31q, eh31⟩ := hQ31
    have N31 := Fr.app N0 N31q
    have k32 : ∀ t, Steps p.tables e below (T31.setTop (mkF m 17 #[.val (.int p1_0), .val (.ref b1), .val (.int (5 : Int32))] [(.int p1_0), (.int (53 : Int32))])) t → Steps p.tables e below (s₁.setTop (entryFrame m #[(.int p1_0)] 3)) t := by
      intro t k
      refine k4 t ?_
      show Steps p.tables e below (T1.setTop (mkF m 11 #[.val (.int p1_0), .val (.ref b1), .val (.int (5 : Int32))] [])) _
      refine XS.aloadN X1.here hx rfl (hb hby d1_11) rfl rfl ?_
      show Steps p.tables e below (T1.setTop (mkF m 12 #[.val (.int p1_0), .val (.ref b1), .val (.int (5 : Int32))] [(.ref b1)])) _
      refine XS.iloadN X1.here hx rfl (hb hby d1_12) rfl ?_
      show Steps p.tables e below (T1.setTop (mkF m 13 #[.val (.int p1_0), .val (.ref b1), .val (.int (5 : Int32))] [(.int (5 : Int32)), (.ref b1)])) _
      refine st31.trans ?_
      show Steps p.tables e below (T31.setTop (mkF m 16 #[.val (.int p1_0), .val (.ref b1), .val (.int (5 : Int32))] [(.int (53 : Int32))])) _
      refine XS.iloadN X31.here hx rfl (hb hby d1_16) rfl ?_
      exact k
    by_cases hc17_33 : (53 : Int32) = p1_0
    · skip
      have k34 : ∀ t, Steps p.tables e below (T31.setTop (mkF m 25 #[.val (.int p1_0), .val (.ref b1), .val (.int (5 : Int32))] [(.int (1 : Int32))])) t → Steps p.tables e below (s₁.setTop (entryFrame m #[(.int p1_0)] 3)) t := by
        intro t k
        refine k32 t ?_
        show Steps p.tables e below (T31.setTop (mkF m 17 #[.val (.int p1_0), .val (.ref b1), .val (.int (5 : Int32))] [(.int p1_0), (.int (53 : Int32))])) _
        refine XS.icmpNo X31.here hx rfl (hb hby d1_17) rfl (teq hc17_33).2 ?_
        show Steps p.tables e below (T31.setTop (mkF m 20 #[.val (.int p1_0), .val (.ref b1), .val (.int (5 : Int32))] [])) _
        refine XS.iconst X31.here hx rfl (hb hby d1_20) ?_
        show Steps p.tables e below (T31.setTop (mkF m 21 #[.val (.int p1_0), .val (.ref b1), .val (.int (5 : Int32))] [(.int (1 : Int32))])) _
        refine XS.goto X31.here hx rfl (pc0 := 21) (pc' := 25) rfl (hb hby d1_21) (by decide) (by decide) ?_
        exact k
      obtain ⟨fs, hr, hrun, hended, hE1, hE2, hE3, hE4⟩ := X31.leaveW hS (by rw [eh31]; exact hk) (v := some (.int (1 : Int32))) (fun h => by rw [Bd.returns] at h; cases h)
      have hCE := hCR.trans (CHv.at X31 hZ hEL hCR.1)
      refine ⟨_, _, k34 _ ?_, hrun, hended, _, _, rfl, ?_, (by show CHr Z consts_1 s.vm s.heap T31.vm T31.heap; rw [hh, eh31]; exact hCE), ⟨_, rfl⟩, hE2, hE3, hE4.mono (by decide) (by decide)⟩
      · exact retN X31 hx (t := .boolean) Bd.returns (by simp) (hb hby d1_25) hr
      · show Q1 Z p1_0 cs fm h0 n0 _ T31.heap _
        rw [eh31]
        exact ⟨congrArg (fun z => some (Value.int z)) (show (1 : Int32) = own_tab p1_0 from by unfold own_tab; rw [← hz5]; exact (if_pos hc17_33).symm), N31, K1⟩
    · skip
      have k35 : ∀ t, Steps p.tables e below (T31.setTop (mkF m 25 #[.val (.int p1_0), .val (.ref b1), .val (.int (5 : Int32))] [(.int (0 : Int32))])) t → Steps p.tables e below (s₁.setTop (entryFrame m #[(.int p1_0)] 3)) t := by
        intro t k
        refine k32 t ?_
        show Steps p.tables e below (T31.setTop (mkF m 17 #[.val (.int p1_0), .val (.ref b1), .val (.int (5 : Int32))] [(.int p1_0), (.int (53 : Int32))])) _
        refine XS.icmpYes X31.here hx rfl (pc0 := 17) (pc' := 24) rfl (hb hby d1_17) rfl (feq hc17_33).2 (by decide) (by decide) ?_
        show Steps p.tables e below (T31.setTop (mkF m 24 #[.val (.int p1_0), .val (.ref b1), .val (.int (5 : Int32))] [])) _
        refine XS.iconst X31.here hx rfl (hb hby d1_24) ?_
        exact k
      obtain ⟨fs, hr, hrun, hended, hE1, hE2, hE3, hE4⟩ := X31.leaveW hS (by rw [eh31]; exact hk) (v := some (.int (0 : Int32))) (fun h => by rw [Bd.returns] at h; cases h)
      have hCE := hCR.trans (CHv.at X31 hZ hEL hCR.1)
      refine ⟨_, _, k35 _ ?_, hrun, hended, _, _, rfl, ?_, (by show CHr Z consts_1 s.vm s.heap T31.vm T31.heap; rw [hh, eh31]; exact hCE), ⟨_, rfl⟩, hE2, hE3, hE4.mono (by decide) (by decide)⟩
      · exact retN X31 hx (t := .boolean) Bd.returns (by simp) (hb hby d1_25) hr
      · show Q1 Z p1_0 cs fm h0 n0 _ T31.heap _
        rw [eh31]
        exact ⟨congrArg (fun z => some (Value.int z)) (show (0 : Int32) = own_tab p1_0 from by unfold own_tab; rw [← hz5]; exact (if_neg hc17_33).symm), N31, K1⟩
  · skip
    obtain ⟨cq36, kq36, q36a, q36b, q36c⟩ := isOf hZ e1 Ex1
    obtain ⟨_, _, ⟨T36, L36, k36, n36⟩, -, X36, ⟨Lc36, hQ36, l36, y36, z36⟩, st36⟩ := X1.virtualBack hx (y := (⟨"java/lang/String", "charAt", "(I)C"⟩ : MethodName)) (z := (⟨"java/lang/String", "charAt", "(I)C"⟩ : MethodName)) hown (mvT hZ (hw _ (List.mem_of_getElem? (i := 13) rfl))) (mvT hZ (hw _ (List.mem_of_getElem? (i := 14) rfl))) (notFace_of_selects (args := #[]) (mvT hZ (hw _ (List.mem_of_getElem? (i := 16) rfl)))) (mvT hZ (hw _ (List.mem_of_getElem? (i := 16) rfl))) (mvT hZ (hw _ (List.mem_of_getElem? (i := 15) rfl))) (by decide) (backOf (W := 0) (rms18 l Z a0 hw [] b1 d1 kb1 cs fm h1 n0 Zs1 Ex1 Fv1 Fc1 V1 F2 F3 hcs hfm) hZ (hw _ (List.mem_of_getElem? (i := 17) rfl)) (hw _ (List.mem_of_getElem? (i := 6) rfl)) (by decide) (by decide)) q36a q36c (g := (mkF m 13 #[.val (.int p1_0), .val (.ref b1), .val (.int (6 : Int32))] [(.int (6 : Int32)), (.ref b1)])) rfl (by rw [hml]; rfl) (Steps.refl _) (argsL := [(.int (6 : Int32))]) (rest := []) (lenOf pd_4 rfl) rfl (by show 2 * 0 + _ ≤ _; exact Nat.le_of_eq rfl) (hb hby d1_13) (fun _ _ => ⟨rfl, e1, (by decide : 2 + 0 ≤ _), (by decide : 44 + 0 ≤ _)⟩)
    dsimp only [Pt.U, Pt.locs, Pt.cells, Pt.slots] at X36 l36 y36 z36 st36 hQ36
    subst l36 y36 z36
    obtain ⟨rfl, N36q, eh36⟩ := hQ36
    have N36 := Fr.app N0 N36q
    have k37 : ∀ t, Steps p.tables e below (T36.setTop (mkF m 17 #[.val (.int p1_0), .val (.ref b1), .val (.int (6 : Int32))] [(.int p1_0), (.int (54 : Int32))])) t → Steps p.tables e below (s₁.setTop (entryFrame m #[(.int p1_0)] 3)) t := by
      intro t k
      refine k4 t ?_
      show Steps p.tables e below (T1.setTop (mkF m 11 #[.val (.int p1_0), .val (.ref b1), .val (.int (6 : Int32))] [])) _
      refine XS.aloadN X1.here hx rfl (hb hby d1_11) rfl rfl ?_
      show Steps p.tables e below (T1.setTop (mkF m 12 #[.val (.int p1_0), .val (.ref b1), .val (.int (6 : Int32))] [(.ref b1)])) _
      refine XS.iloadN X1.here hx rfl (hb hby d1_12) rfl ?_
      show Steps p.tables e below (T1.setTop (mkF m 13 #[.val (.int p1_0), .val (.ref b1), .val (.int (6 : Int32))] [(.int (6 : Int32)), (.ref b1)])) _
      refine st36.trans ?_
      show Steps p.tables e below (T36.setTop (mkF m 16 #[.val (.int p1_0), .val (.ref b1), .val (.int (6 : Int32))] [(.int (54 : Int32))])) _
      refine XS.iloadN X36.here hx rfl (hb hby d1_16) rfl ?_
      exact k
    by_cases hc17_38 : (54 : Int32) = p1_0
    · skip
      have k39 : ∀ t, Steps p.tables e below (T36.setTop (mkF m 25 #[.val (.int p1_0), .val (.ref b1), .val (.int (6 : Int32))] [(.int (1 : Int32))])) t → Steps p.tables e below (s₁.setTop (entryFrame m #[(.int p1_0)] 3)) t := by
        intro t k
        refine k37 t ?_
        show Steps p.tables e below (T36.setTop (mkF m 17 #[.val (.int p1_0), .val (.ref b1), .val (.int (6 : Int32))] [(.int p1_0), (.int (54 : Int32))])) _
        refine XS.icmpNo X36.here hx rfl (hb hby d1_17) rfl (teq hc17_38).2 ?_
        show Steps p.tables e below (T36.setTop (mkF m 20 #[.val (.int p1_0), .val (.ref b1), .val (.int (6 : Int32))] [])) _
        refine XS.iconst X36.here hx rfl (hb hby d1_20) ?_
        show Steps p.tables e below (T36.setTop (mkF m 21 #[.val (.int p1_0), .val (.ref b1), .val (.int (6 : Int32))] [(.int (1 : Int32))])) _
        refine XS.goto X36.here hx rfl (pc0 := 21) (pc' := 25) rfl (hb hby d1_21) (by decide) (by decide) ?_
        exact k
      obtain ⟨fs, hr, hrun, hended, hE1, hE2, hE3, hE4⟩ := X36.leaveW hS (by rw [eh36]; exact hk) (v := some (.int (1 : Int32))) (fun h => by rw [Bd.returns] at h; cases h)
      have hCE := hCR.trans (CHv.at X36 hZ hEL hCR.1)
      refine ⟨_, _, k39 _ ?_, hrun, hended, _, _, rfl, ?_, (by show CHr Z consts_1 s.vm s.heap T36.vm T36.heap; rw [hh, eh36]; exact hCE), ⟨_, rfl⟩, hE2, hE3, hE4.mono (by decide) (by decide)⟩
      · exact retN X36 hx (t := .boolean) Bd.returns (by simp) (hb hby d1_25) hr
      · show Q1 Z p1_0 cs fm h0 n0 _ T36.heap _
        rw [eh36]
        exact ⟨congrArg (fun z => some (Value.int z)) (show (1 : Int32) = own_tab p1_0 from by unfold own_tab; rw [← hz5]; exact (if_pos hc17_38).symm), N36, K1⟩
    · skip
      have k40 : ∀ t, Steps p.tables e below (T36.setTop (mkF m 25 #[.val (.int p1_0), .val (.ref b1), .val (.int (6 : Int32))] [(.int (0 : Int32))])) t → Steps p.tables e below (s₁.setTop (entryFrame m #[(.int p1_0)] 3)) t := by
        intro t k
        refine k37 t ?_
        show Steps p.tables e below (T36.setTop (mkF m 17 #[.val (.int p1_0), .val (.ref b1), .val (.int (6 : Int32))] [(.int p1_0), (.int (54 : Int32))])) _
        refine XS.icmpYes X36.here hx rfl (pc0 := 17) (pc' := 24) rfl (hb hby d1_17) rfl (feq hc17_38).2 (by decide) (by decide) ?_
        show Steps p.tables e below (T36.setTop (mkF m 24 #[.val (.int p1_0), .val (.ref b1), .val (.int (6 : Int32))] [])) _
        refine XS.iconst X36.here hx rfl (hb hby d1_24) ?_
        exact k
      obtain ⟨fs, hr, hrun, hended, hE1, hE2, hE3, hE4⟩ := X36.leaveW hS (by rw [eh36]; exact hk) (v := some (.int (0 : Int32))) (fun h => by rw [Bd.returns] at h; cases h)
      have hCE := hCR.trans (CHv.at X36 hZ hEL hCR.1)
      refine ⟨_, _, k40 _ ?_, hrun, hended, _, _, rfl, ?_, (by show CHr Z consts_1 s.vm s.heap T36.vm T36.heap; rw [hh, eh36]; exact hCE), ⟨_, rfl⟩, hE2, hE3, hE4.mono (by decide) (by decide)⟩
      · exact retN X36 hx (t := .boolean) Bd.returns (by simp) (hb hby d1_25) hr
      · show Q1 Z p1_0 cs fm h0 n0 _ T36.heap _
        rw [eh36]
        exact ⟨congrArg (fun z => some (Value.int z)) (show (0 : Int32) = own_tab p1_0 from by unfold own_tab; rw [← hz5]; exact (if_neg hc17_38).symm), N36, K1⟩
  · skip
    obtain ⟨cq41, kq41, q41a, q41b, q41c⟩ := isOf hZ e1 Ex1
    obtain ⟨_, _, ⟨T41, L41, k41, n41⟩, -, X41, ⟨Lc41, hQ41, l41, y41, z41⟩, st41⟩ := X1.virtualBack hx (y := (⟨"java/lang/String", "charAt", "(I)C"⟩ : MethodName)) (z := (⟨"java/lang/String", "charAt", "(I)C"⟩ : MethodName)) hown (mvT hZ (hw _ (List.mem_of_getElem? (i := 13) rfl))) (mvT hZ (hw _ (List.mem_of_getElem? (i := 14) rfl))) (notFace_of_selects (args := #[]) (mvT hZ (hw _ (List.mem_of_getElem? (i := 16) rfl)))) (mvT hZ (hw _ (List.mem_of_getElem? (i := 16) rfl))) (mvT hZ (hw _ (List.mem_of_getElem? (i := 15) rfl))) (by decide) (backOf (W := 0) (rms20 l Z a0 hw [] b1 d1 kb1 cs fm h1 n0 Zs1 Ex1 Fv1 Fc1 V1 F2 F3 hcs hfm) hZ (hw _ (List.mem_of_getElem? (i := 17) rfl)) (hw _ (List.mem_of_getElem? (i := 6) rfl)) (by decide) (by decide)) q41a q41c (g := (mkF m 13 #[.val (.int p1_0), .val (.ref b1), .val (.int (7 : Int32))] [(.int (7 : Int32)), (.ref b1)])) rfl (by rw [hml]; rfl) (Steps.refl _) (argsL := [(.int (7 : Int32))]) (rest := []) (lenOf pd_4 rfl) rfl (by show 2 * 0 + _ ≤ _; exact Nat.le_of_eq rfl) (hb hby d1_13) (fun _ _ => ⟨rfl, e1, (by decide : 2 + 0 ≤ _), (by decide : 44 + 0 ≤ _)⟩)
    dsimp only [Pt.U, Pt.locs, Pt.cells, Pt.slots] at X41 l41 y41 z41 st41 hQ41
    subst l41 y41 z41
    obtain ⟨rfl, N41q, eh41⟩ := hQ41
    have N41 := Fr.app N0 N41q
    have k42 : ∀ t, Steps p.tables e below (T41.setTop (mkF m 17 #[.val (.int p1_0), .val (.ref b1), .val (.int (7 : Int32))] [(.int p1_0), (.int (55 : Int32))])) t → Steps p.tables e below (s₁.setTop (entryFrame m #[(.int p1_0)] 3)) t := by
      intro t k
      refine k4 t ?_
      show Steps p.tables e below (T1.setTop (mkF m 11 #[.val (.int p1_0), .val (.ref b1), .val (.int (7 : Int32))] [])) _
      refine XS.aloadN X1.here hx rfl (hb hby d1_11) rfl rfl ?_
      show Steps p.tables e below (T1.setTop (mkF m 12 #[.val (.int p1_0), .val (.ref b1), .val (.int (7 : Int32))] [(.ref b1)])) _
      refine XS.iloadN X1.here hx rfl (hb hby d1_12) rfl ?_
      show Steps p.tables e below (T1.setTop (mkF m 13 #[.val (.int p1_0), .val (.ref b1), .val (.int (7 : Int32))] [(.int (7 : Int32)), (.ref b1)])) _
      refine st41.trans ?_
      show Steps p.tables e below (T41.setTop (mkF m 16 #[.val (.int p1_0), .val (.ref b1), .val (.int (7 : Int32))] [(.int (55 : Int32))])) _
      refine XS.iloadN X41.here hx rfl (hb hby d1_16) rfl ?_
      exact k
    by_cases hc17_43 : (55 : Int32) = p1_0
    · skip
      have k44 : ∀ t, Steps p.tables e below (T41.setTop (mkF m 25 #[.val (.int p1_0), .val (.ref b1), .val (.int (7 : Int32))] [(.int (1 : Int32))])) t → Steps p.tables e below (s₁.setTop (entryFrame m #[(.int p1_0)] 3)) t := by
        intro t k
        refine k42 t ?_
        show Steps p.tables e below (T41.setTop (mkF m 17 #[.val (.int p1_0), .val (.ref b1), .val (.int (7 : Int32))] [(.int p1_0), (.int (55 : Int32))])) _
        refine XS.icmpNo X41.here hx rfl (hb hby d1_17) rfl (teq hc17_43).2 ?_
        show Steps p.tables e below (T41.setTop (mkF m 20 #[.val (.int p1_0), .val (.ref b1), .val (.int (7 : Int32))] [])) _
        refine XS.iconst X41.here hx rfl (hb hby d1_20) ?_
        show Steps p.tables e below (T41.setTop (mkF m 21 #[.val (.int p1_0), .val (.ref b1), .val (.int (7 : Int32))] [(.int (1 : Int32))])) _
        refine XS.goto X41.here hx rfl (pc0 := 21) (pc' := 25) rfl (hb hby d1_21) (by decide) (by decide) ?_
        exact k
      obtain ⟨fs, hr, hrun, hended, hE1, hE2, hE3, hE4⟩ := X41.leaveW hS (by rw [eh41]; exact hk) (v := some (.int (1 : Int32))) (fun h => by rw [Bd.returns] at h; cases h)
      have hCE := hCR.trans (CHv.at X41 hZ hEL hCR.1)
      refine ⟨_, _, k44 _ ?_, hrun, hended, _, _, rfl, ?_, (by show CHr Z consts_1 s.vm s.heap T41.vm T41.heap; rw [hh, eh41]; exact hCE), ⟨_, rfl⟩, hE2, hE3, hE4.mono (by decide) (by decide)⟩
      · exact retN X41 hx (t := .boolean) Bd.returns (by simp) (hb hby d1_25) hr
      · show Q1 Z p1_0 cs fm h0 n0 _ T41.heap _
        rw [eh41]
        exact ⟨congrArg (fun z => some (Value.int z)) (show (1 : Int32) = own_tab p1_0 from by unfold own_tab; rw [← hz5]; exact (if_pos hc17_43).symm), N41, K1⟩
    · skip
      have k45 : ∀ t, Steps p.tables e below (T41.setTop (mkF m 25 #[.val (.int p1_0), .val (.ref b1), .val (.int (7 : Int32))] [(.int (0 : Int32))])) t → Steps p.tables e below (s₁.setTop (entryFrame m #[(.int p1_0)] 3)) t := by
        intro t k
        refine k42 t ?_
        show Steps p.tables e below (T41.setTop (mkF m 17 #[.val (.int p1_0), .val (.ref b1), .val (.int (7 : Int32))] [(.int p1_0), (.int (55 : Int32))])) _
        refine XS.icmpYes X41.here hx rfl (pc0 := 17) (pc' := 24) rfl (hb hby d1_17) rfl (feq hc17_43).2 (by decide) (by decide) ?_
        show Steps p.tables e below (T41.setTop (mkF m 24 #[.val (.int p1_0), .val (.ref b1), .val (.int (7 : Int32))] [])) _
        refine XS.iconst X41.here hx rfl (hb hby d1_24) ?_
        exact k
      obtain ⟨fs, hr, hrun, hended, hE1, hE2, hE3, hE4⟩ := X41.leaveW hS (by rw [eh41]; exact hk) (v := some (.int (0 : Int32))) (fun h => by rw [Bd.returns] at h; cases h)
      have hCE := hCR.trans (CHv.at X41 hZ hEL hCR.1)
      refine ⟨_, _, k45 _ ?_, hrun, hended, _, _, rfl, ?_, (by show CHr Z consts_1 s.vm s.heap T41.vm T41.heap; rw [hh, eh41]; exact hCE), ⟨_, rfl⟩, hE2, hE3, hE4.mono (by decide) (by decide)⟩
      · exact retN X41 hx (t := .boolean) Bd.returns (by simp) (hb hby d1_25) hr
      · show Q1 Z p1_0 cs fm h0 n0 _ T41.heap _
        rw [eh41]
        exact ⟨congrArg (fun z => some (Value.int z)) (show (0 : Int32) = own_tab p1_0 from by unfold own_tab; rw [← hz5]; exact (if_neg hc17_43).symm), N41, K1⟩
  · skip
    obtain ⟨cq46, kq46, q46a, q46b, q46c⟩ := isOf hZ e1 Ex1
    obtain ⟨_, _, ⟨T46, L46, k46, n46⟩, -, X46, ⟨Lc46, hQ46, l46, y46, z46⟩, st46⟩ := X1.virtualBack hx (y := (⟨"java/lang/String", "charAt", "(I)C"⟩ : MethodName)) (z := (⟨"java/lang/String", "charAt", "(I)C"⟩ : MethodName)) hown (mvT hZ (hw _ (List.mem_of_getElem? (i := 13) rfl))) (mvT hZ (hw _ (List.mem_of_getElem? (i := 14) rfl))) (notFace_of_selects (args := #[]) (mvT hZ (hw _ (List.mem_of_getElem? (i := 16) rfl)))) (mvT hZ (hw _ (List.mem_of_getElem? (i := 16) rfl))) (mvT hZ (hw _ (List.mem_of_getElem? (i := 15) rfl))) (by decide) (backOf (W := 0) (rms22 l Z a0 hw [] b1 d1 kb1 cs fm h1 n0 Zs1 Ex1 Fv1 Fc1 V1 F2 F3 hcs hfm) hZ (hw _ (List.mem_of_getElem? (i := 17) rfl)) (hw _ (List.mem_of_getElem? (i := 6) rfl)) (by decide) (by decide)) q46a q46c (g := (mkF m 13 #[.val (.int p1_0), .val (.ref b1), .val (.int (8 : Int32))] [(.int (8 : Int32)), (.ref b1)])) rfl (by rw [hml]; rfl) (Steps.refl _) (argsL := [(.int (8 : Int32))]) (rest := []) (lenOf pd_4 rfl) rfl (by show 2 * 0 + _ ≤ _; exact Nat.le_of_eq rfl) (hb hby d1_13) (fun _ _ => ⟨rfl, e1, (by decide : 2 + 0 ≤ _), (by decide : 44 + 0 ≤ _)⟩)
    dsimp only [Pt.U, Pt.locs, Pt.cells, Pt.slots] at X46 l46 y46 z46 st46 hQ46
    subst l46 y46 z46
    obtain ⟨rfl, N46q, eh46⟩ := hQ46
    have N46 := Fr.app N0 N46q
    have k47 : ∀ t, Steps p.tables e below (T46.setTop (mkF m 17 #[.val (.int p1_0), .val (.ref b1), .val (.int (8 : Int32))] [(.int p1_0), (.int (56 : Int32))])) t → Steps p.tables e below (s₁.setTop (entryFrame m #[(.int p1_0)] 3)) t := by
      intro t k
      refine k4 t ?_
      show Steps p.tables e below (T1.setTop (mkF m 11 #[.val (.int p1_0), .val (.ref b1), .val (.int (8 : Int32))] [])) _
      refine XS.aloadN X1.here hx rfl (hb hby d1_11) rfl rfl ?_
      show Steps p.tables e below (T1.setTop (mkF m 12 #[.val (.int p1_0), .val (.ref b1), .val (.int (8 : Int32))] [(.ref b1)])) _
      refine XS.iloadN X1.here hx rfl (hb hby d1_12) rfl ?_
      show Steps p.tables e below (T1.setTop (mkF m 13 #[.val (.int p1_0), .val (.ref b1), .val (.int (8 : Int32))] [(.int (8 : Int32)), (.ref b1)])) _
      refine st46.trans ?_
      show Steps p.tables e below (T46.setTop (mkF m 16 #[.val (.int p1_0), .val (.ref b1), .val (.int (8 : Int32))] [(.int (56 : Int32))])) _
      refine XS.iloadN X46.here hx rfl (hb hby d1_16) rfl ?_
      exact k
    by_cases hc17_48 : (56 : Int32) = p1_0
    · skip
      have k49 : ∀ t, Steps p.tables e below (T46.setTop (mkF m 25 #[.val (.int p1_0), .val (.ref b1), .val (.int (8 : Int32))] [(.int (1 : Int32))])) t → Steps p.tables e below (s₁.setTop (entryFrame m #[(.int p1_0)] 3)) t := by
        intro t k
        refine k47 t ?_
        show Steps p.tables e below (T46.setTop (mkF m 17 #[.val (.int p1_0), .val (.ref b1), .val (.int (8 : Int32))] [(.int p1_0), (.int (56 : Int32))])) _
        refine XS.icmpNo X46.here hx rfl (hb hby d1_17) rfl (teq hc17_48).2 ?_
        show Steps p.tables e below (T46.setTop (mkF m 20 #[.val (.int p1_0), .val (.ref b1), .val (.int (8 : Int32))] [])) _
        refine XS.iconst X46.here hx rfl (hb hby d1_20) ?_
        show Steps p.tables e below (T46.setTop (mkF m 21 #[.val (.int p1_0), .val (.ref b1), .val (.int (8 : Int32))] [(.int (1 : Int32))])) _
        refine XS.goto X46.here hx rfl (pc0 := 21) (pc' := 25) rfl (hb hby d1_21) (by decide) (by decide) ?_
        exact k
      obtain ⟨fs, hr, hrun, hended, hE1, hE2, hE3, hE4⟩ := X46.leaveW hS (by rw [eh46]; exact hk) (v := some (.int (1 : Int32))) (fun h => by rw [Bd.returns] at h; cases h)
      have hCE := hCR.trans (CHv.at X46 hZ hEL hCR.1)
      refine ⟨_, _, k49 _ ?_, hrun, hended, _, _, rfl, ?_, (by show CHr Z consts_1 s.vm s.heap T46.vm T46.heap; rw [hh, eh46]; exact hCE), ⟨_, rfl⟩, hE2, hE3, hE4.mono (by decide) (by decide)⟩
      · exact retN X46 hx (t := .boolean) Bd.returns (by simp) (hb hby d1_25) hr
      · show Q1 Z p1_0 cs fm h0 n0 _ T46.heap _
        rw [eh46]
        exact ⟨congrArg (fun z => some (Value.int z)) (show (1 : Int32) = own_tab p1_0 from by unfold own_tab; rw [← hz5]; exact (if_pos hc17_48).symm), N46, K1⟩
    · skip
      have k50 : ∀ t, Steps p.tables e below (T46.setTop (mkF m 25 #[.val (.int p1_0), .val (.ref b1), .val (.int (8 : Int32))] [(.int (0 : Int32))])) t → Steps p.tables e below (s₁.setTop (entryFrame m #[(.int p1_0)] 3)) t := by
        intro t k
        refine k47 t ?_
        show Steps p.tables e below (T46.setTop (mkF m 17 #[.val (.int p1_0), .val (.ref b1), .val (.int (8 : Int32))] [(.int p1_0), (.int (56 : Int32))])) _
        refine XS.icmpYes X46.here hx rfl (pc0 := 17) (pc' := 24) rfl (hb hby d1_17) rfl (feq hc17_48).2 (by decide) (by decide) ?_
        show Steps p.tables e below (T46.setTop (mkF m 24 #[.val (.int p1_0), .val (.ref b1), .val (.int (8 : Int32))] [])) _
        refine XS.iconst X46.here hx rfl (hb hby d1_24) ?_
        exact k
      obtain ⟨fs, hr, hrun, hended, hE1, hE2, hE3, hE4⟩ := X46.leaveW hS (by rw [eh46]; exact hk) (v := some (.int (0 : Int32))) (fun h => by rw [Bd.returns] at h; cases h)
      have hCE := hCR.trans (CHv.at X46 hZ hEL hCR.1)
      refine ⟨_, _, k50 _ ?_, hrun, hended, _, _, rfl, ?_, (by show CHr Z consts_1 s.vm s.heap T46.vm T46.heap; rw [hh, eh46]; exact hCE), ⟨_, rfl⟩, hE2, hE3, hE4.mono (by decide) (by decide)⟩
      · exact retN X46 hx (t := .boolean) Bd.returns (by simp) (hb hby d1_25) hr
      · show Q1 Z p1_0 cs fm h0 n0 _ T46.heap _
        rw [eh46]
        exact ⟨congrArg (fun z => some (Value.int z)) (show (0 : Int32) = own_tab p1_0 from by unfold own_tab; rw [← hz5]; exact (if_neg hc17_48).symm), N46, K1⟩
  · skip
    obtain ⟨cq51, kq51, q51a, q51b, q51c⟩ := isOf hZ e1 Ex1
    obtain ⟨_, _, ⟨T51, L51, k51, n51⟩, -, X51, ⟨Lc51, hQ51, l51, y51, z51⟩, st51⟩ := X1.virtualBack hx (y := (⟨"java/lang/String", "charAt", "(I)C"⟩ : MethodName)) (z := (⟨"java/lang/String", "charAt", "(I)C"⟩ : MethodName)) hown (mvT hZ (hw _ (List.mem_of_getElem? (i := 13) rfl))) (mvT hZ (hw _ (List.mem_of_getElem? (i := 14) rfl))) (notFace_of_selects (args := #[]) (mvT hZ (hw _ (List.mem_of_getElem? (i := 16) rfl)))) (mvT hZ (hw _ (List.mem_of_getElem? (i := 16) rfl))) (mvT hZ (hw _ (List.mem_of_getElem? (i := 15) rfl))) (by decide) (backOf (W := 0) (rms24 l Z a0 hw [] b1 d1 kb1 cs fm h1 n0 Zs1 Ex1 Fv1 Fc1 V1 F2 F3 hcs hfm) hZ (hw _ (List.mem_of_getElem? (i := 17) rfl)) (hw _ (List.mem_of_getElem? (i := 6) rfl)) (by decide) (by decide)) q51a q51c (g := (mkF m 13 #[.val (.int p1_0), .val (.ref b1), .val (.int (9 : Int32))] [(.int (9 : Int32)), (.ref b1)])) rfl (by rw [hml]; rfl) (Steps.refl _) (argsL := [(.int (9 : Int32))]) (rest := []) (lenOf pd_4 rfl) rfl (by show 2 * 0 + _ ≤ _; exact Nat.le_of_eq rfl) (hb hby d1_13) (fun _ _ => ⟨rfl, e1, (by decide : 2 + 0 ≤ _), (by decide : 44 + 0 ≤ _)⟩)
    dsimp only [Pt.U, Pt.locs, Pt.cells, Pt.slots] at X51 l51 y51 z51 st51 hQ51
    subst l51 y51 z51
    obtain ⟨rfl, N51q, eh51⟩ := hQ51
    have N51 := Fr.app N0 N51q
    have k52 : ∀ t, Steps p.tables e below (T51.setTop (mkF m 17 #[.val (.int p1_0), .val (.ref b1), .val (.int (9 : Int32))] [(.int p1_0), (.int (57 : Int32))])) t → Steps p.tables e below (s₁.setTop (entryFrame m #[(.int p1_0)] 3)) t := by
      intro t k
      refine k4 t ?_
      show Steps p.tables e below (T1.setTop (mkF m 11 #[.val (.int p1_0), .val (.ref b1), .val (.int (9 : Int32))] [])) _
      refine XS.aloadN X1.here hx rfl (hb hby d1_11) rfl rfl ?_
      show Steps p.tables e below (T1.setTop (mkF m 12 #[.val (.int p1_0), .val (.ref b1), .val (.int (9 : Int32))] [(.ref b1)])) _
      refine XS.iloadN X1.here hx rfl (hb hby d1_12) rfl ?_
      show Steps p.tables e below (T1.setTop (mkF m 13 #[.val (.int p1_0), .val (.ref b1), .val (.int (9 : Int32))] [(.int (9 : Int32)), (.ref b1)])) _
      refine st51.trans ?_
      show Steps p.tables e below (T51.setTop (mkF m 16 #[.val (.int p1_0), .val (.ref b1), .val (.int (9 : Int32))] [(.int (57 : Int32))])) _
      refine XS.iloadN X51.here hx rfl (hb hby d1_16) rfl ?_
      exact k
    by_cases hc17_53 : (57 : Int32) = p1_0
    · skip
      have k54 : ∀ t, Steps p.tables e below (T51.setTop (mkF m 25 #[.val (.int p1_0), .val (.ref b1), .val (.int (9 : Int32))] [(.int (1 : Int32))])) t → Steps p.tables e below (s₁.setTop (entryFrame m #[(.int p1_0)] 3)) t := by
        intro t k
        refine k52 t ?_
        show Steps p.tables e below (T51.setTop (mkF m 17 #[.val (.int p1_0), .val (.ref b1), .val (.int (9 : Int32))] [(.int p1_0), (.int (57 : Int32))])) _
        refine XS.icmpNo X51.here hx rfl (hb hby d1_17) rfl (teq hc17_53).2 ?_
        show Steps p.tables e below (T51.setTop (mkF m 20 #[.val (.int p1_0), .val (.ref b1), .val (.int (9 : Int32))] [])) _
        refine XS.iconst X51.here hx rfl (hb hby d1_20) ?_
        show Steps p.tables e below (T51.setTop (mkF m 21 #[.val (.int p1_0), .val (.ref b1), .val (.int (9 : Int32))] [(.int (1 : Int32))])) _
        refine XS.goto X51.here hx rfl (pc0 := 21) (pc' := 25) rfl (hb hby d1_21) (by decide) (by decide) ?_
        exact k
      obtain ⟨fs, hr, hrun, hended, hE1, hE2, hE3, hE4⟩ := X51.leaveW hS (by rw [eh51]; exact hk) (v := some (.int (1 : Int32))) (fun h => by rw [Bd.returns] at h; cases h)
      have hCE := hCR.trans (CHv.at X51 hZ hEL hCR.1)
      refine ⟨_, _, k54 _ ?_, hrun, hended, _, _, rfl, ?_, (by show CHr Z consts_1 s.vm s.heap T51.vm T51.heap; rw [hh, eh51]; exact hCE), ⟨_, rfl⟩, hE2, hE3, hE4.mono (by decide) (by decide)⟩
      · exact retN X51 hx (t := .boolean) Bd.returns (by simp) (hb hby d1_25) hr
      · show Q1 Z p1_0 cs fm h0 n0 _ T51.heap _
        rw [eh51]
        exact ⟨congrArg (fun z => some (Value.int z)) (show (1 : Int32) = own_tab p1_0 from by unfold own_tab; rw [← hz5]; exact (if_pos hc17_53).symm), N51, K1⟩
    · skip
      have k55 : ∀ t, Steps p.tables e below (T51.setTop (mkF m 25 #[.val (.int p1_0), .val (.ref b1), .val (.int (9 : Int32))] [(.int (0 : Int32))])) t → Steps p.tables e below (s₁.setTop (entryFrame m #[(.int p1_0)] 3)) t := by
        intro t k
        refine k52 t ?_
        show Steps p.tables e below (T51.setTop (mkF m 17 #[.val (.int p1_0), .val (.ref b1), .val (.int (9 : Int32))] [(.int p1_0), (.int (57 : Int32))])) _
        refine XS.icmpYes X51.here hx rfl (pc0 := 17) (pc' := 24) rfl (hb hby d1_17) rfl (feq hc17_53).2 (by decide) (by decide) ?_
        show Steps p.tables e below (T51.setTop (mkF m 24 #[.val (.int p1_0), .val (.ref b1), .val (.int (9 : Int32))] [])) _
        refine XS.iconst X51.here hx rfl (hb hby d1_24) ?_
        exact k
      obtain ⟨fs, hr, hrun, hended, hE1, hE2, hE3, hE4⟩ := X51.leaveW hS (by rw [eh51]; exact hk) (v := some (.int (0 : Int32))) (fun h => by rw [Bd.returns] at h; cases h)
      have hCE := hCR.trans (CHv.at X51 hZ hEL hCR.1)
      refine ⟨_, _, k55 _ ?_, hrun, hended, _, _, rfl, ?_, (by show CHr Z consts_1 s.vm s.heap T51.vm T51.heap; rw [hh, eh51]; exact hCE), ⟨_, rfl⟩, hE2, hE3, hE4.mono (by decide) (by decide)⟩
      · exact retN X51 hx (t := .boolean) Bd.returns (by simp) (hb hby d1_25) hr
      · show Q1 Z p1_0 cs fm h0 n0 _ T51.heap _
        rw [eh51]
        exact ⟨congrArg (fun z => some (Value.int z)) (show (0 : Int32) = own_tab p1_0 from by unfold own_tab; rw [← hz5]; exact (if_neg hc17_53).symm), N51, K1⟩
theorem pn_4 : plainName "com/example/oyster/oyster/engine/Literals" = true := by first | (simp [plainName, overriddenIn]; done) | decide +kernel
theorem d2_0 : decode prog_13_method_4_code 0 = .ok (.iload_n 0, 1) := by decide +kernel
theorem d2_1 : decode prog_13_method_4_code 1 = .ok (.bipush 48, 2) := by decide +kernel
theorem d2_3 : decode prog_13_method_4_code 3 = .ok (.if_icmp .lt 13, 3) := by decide +kernel
theorem d2_6 : decode prog_13_method_4_code 6 = .ok (.iload_n 0, 1) := by decide +kernel
theorem d2_7 : decode prog_13_method_4_code 7 = .ok (.bipush 57, 2) := by decide +kernel
theorem d2_9 : decode prog_13_method_4_code 9 = .ok (.if_icmp .gt 7, 3) := by decide +kernel
theorem d2_12 : decode prog_13_method_4_code 12 = .ok (.iconst 1, 1) := by decide +kernel
theorem d2_13 : decode prog_13_method_4_code 13 = .ok (.goto 4, 3) := by decide +kernel
theorem d2_16 : decode prog_13_method_4_code 16 = .ok (.iconst 0, 1) := by decide +kernel
theorem d2_17 : decode prog_13_method_4_code 17 = .ok (.ireturn, 1) := by decide +kernel
theorem ef_2 (m : MethodId) (p2_0 : Int32) : entryFrame m #[(.int p2_0)] 1 = mkF m 0 #[.val (.int p2_0)] [] := by first | (simp [entryFrame, mkF, argsToLocals, Value.category]; done) | rfl
def own_dig (p2_0 : Int32) : Int32 := (if p2_0 < (48 : Int32) then (0 : Int32) else (if (57 : Int32) < p2_0 then (0 : Int32) else (1 : Int32)))
def Q2 (Z : State) (p2_0 : Int32) (h0 : Heap) (n0 : Nat) (v : Option Value) (h : Heap) (L : List Loc) : Prop := v = some (.int (own_dig p2_0)) ∧ Fr n0 L ∧ h = h0
set_option maxRecDepth 65536 in
set_option maxHeartbeats 40000000 in
theorem rm2 (l : Launch) (Z : State) (a0 : Array Value) (hw : ∀ d ∈ tables_1, d.before a0 Z = true) (ws : List Jvm.Cond) (p2_0 : Int32) (h0 : Heap) (n0 : Nat) (Z0 : n0 ≤ h0.size) :
    MetFree l (⟨"com/example/oyster/oyster/engine/Literals", "isDigit", "(C)Z"⟩ : MethodName) (head1 (Jvm.Cond.code (⟨"com/example/oyster/oyster/engine/Literals", "isDigit", "(C)Z"⟩ : MethodName) prog_13_method_4_code 1 (some .boolean) :: ws) ({ frames := 0, cells := 0, slots := 0, locals := 0 } : Room)) (fun a U => a = #[(.int p2_0)] ∧ Z.Warmed39 U.vm ∧ U.heap = h0) (fun _ _ _ _ _ => True) (fun _ U o U' => ∃ v L, o = .returned v ∧ Q2 Z p2_0 h0 n0 v U'.heap L ∧ FrameEnd U o U' L ({ frames := 0, cells := 0, slots := 0, locals := 0 } : Room).cells ({ frames := 0, cells := 0, slots := 0, locals := 0 } : Room).slots) := by
  refine MetFree.of_bodySF (plainFor_of_name pn_4) hisR ?_
  intro p e s m args below meth c s₁ Bd hml0 hP hK
  obtain ⟨rfl, hZ, hh⟩ := hP
  have hx := Bd.exec
  have hby := Bd.bytes
  have hml : c.maxLocals = 1 := hml0
  have hown : s.vm.findClass "com/example/oyster/oyster/engine/Literals" = some m.cls := findClass_of_methodNamed Bd.named
  have hnm := (name_of_methodNamed Bd.named Bd.method).1
  have X0 : Stand p l e ({ frames := 0, cells := 0, slots := 0, locals := 0 } : Room) s m #[(.int p2_0)] below meth c s₁ [] 0 0 := Stand.of_body Bd
  have e0 : s₁.heap = h0 := by rw [← hh, Bd.state]; rfl
  have N0 := Fr.nil n0
  have pre0 : ∀ t, Steps p.tables e below (s₁.setTop (mkF m 0 #[.val (.int p2_0)] [])) t → Steps p.tables e below (s₁.setTop (entryFrame m #[(.int p2_0)] 1)) t := fun t k => castTop (ef_2 m p2_0) k
  have k1 : ∀ t, Steps p.tables e below (s₁.setTop (mkF m 3 #[.val (.int p2_0)] [(.int (48 : Int32)), (.int p2_0)])) t → Steps p.tables e below (s₁.setTop (entryFrame m #[(.int p2_0)] 1)) t := by
    intro t k
    refine pre0 t ?_
    show Steps p.tables e below (s₁.setTop (mkF m 0 #[.val (.int p2_0)] [])) _
    refine XS.iloadN X0.here hx rfl (hb hby d2_0) rfl ?_
    show Steps p.tables e below (s₁.setTop (mkF m 1 #[.val (.int p2_0)] [(.int p2_0)])) _
    refine XS.bipush X0.here hx rfl (hb hby d2_1) ?_
    exact k
  by_cases hc3_2 : p2_0 < (48 : Int32)
  · skip
    have k3 : ∀ t, Steps p.tables e below (s₁.setTop (mkF m 17 #[.val (.int p2_0)] [(.int (0 : Int32))])) t → Steps p.tables e below (s₁.setTop (entryFrame m #[(.int p2_0)] 1)) t := by
      intro t k
      refine k1 t ?_
      show Steps p.tables e below (s₁.setTop (mkF m 3 #[.val (.int p2_0)] [(.int (48 : Int32)), (.int p2_0)])) _
      refine XS.icmpYes X0.here hx rfl (pc0 := 3) (pc' := 16) rfl (hb hby d2_3) rfl (tlt hc3_2).1 (by decide) (by decide) ?_
      show Steps p.tables e below (s₁.setTop (mkF m 16 #[.val (.int p2_0)] [])) _
      refine XS.iconst X0.here hx rfl (hb hby d2_16) ?_
      exact k
    obtain ⟨fs, hr, hrun, hended, hW, hsame⟩ := X0.leave (v := some (.int (0 : Int32))) (fun h => by rw [Bd.returns] at h; cases h)
    refine ⟨_, _, k3 _ ?_, hrun, hended, _, _, rfl, ?_, ⟨_, rfl⟩, hW, hsame.mono (by decide) (by decide)⟩
    · exact retN X0 hx (t := .boolean) Bd.returns (by simp) (hb hby d2_17) hr
    · show Q2 Z p2_0 h0 n0 _ s₁.heap _
      rw [e0]
      exact ⟨congrArg (fun z => some (Value.int z)) (show ((0 : Int32) : Int32) = own_dig p2_0 from by unfold own_dig; rw [if_pos hc3_2]), N0, rfl⟩
  · skip
    have k4 : ∀ t, Steps p.tables e below (s₁.setTop (mkF m 9 #[.val (.int p2_0)] [(.int (57 : Int32)), (.int p2_0)])) t → Steps p.tables e below (s₁.setTop (entryFrame m #[(.int p2_0)] 1)) t := by
      intro t k
      refine k1 t ?_
      show Steps p.tables e below (s₁.setTop (mkF m 3 #[.val (.int p2_0)] [(.int (48 : Int32)), (.int p2_0)])) _
      refine XS.icmpNo X0.here hx rfl (hb hby d2_3) rfl (flt hc3_2).1 ?_
      show Steps p.tables e below (s₁.setTop (mkF m 6 #[.val (.int p2_0)] [])) _
      refine XS.iloadN X0.here hx rfl (hb hby d2_6) rfl ?_
      show Steps p.tables e below (s₁.setTop (mkF m 7 #[.val (.int p2_0)] [(.int p2_0)])) _
      refine XS.bipush X0.here hx rfl (hb hby d2_7) ?_
      exact k
    by_cases hc9_5 : (57 : Int32) < p2_0
    · skip
      have k6 : ∀ t, Steps p.tables e below (s₁.setTop (mkF m 17 #[.val (.int p2_0)] [(.int (0 : Int32))])) t → Steps p.tables e below (s₁.setTop (entryFrame m #[(.int p2_0)] 1)) t := by
        intro t k
        refine k4 t ?_
        show Steps p.tables e below (s₁.setTop (mkF m 9 #[.val (.int p2_0)] [(.int (57 : Int32)), (.int p2_0)])) _
        refine XS.icmpYes X0.here hx rfl (pc0 := 9) (pc' := 16) rfl (hb hby d2_9) rfl (tlt hc9_5).2.2.1 (by decide) (by decide) ?_
        show Steps p.tables e below (s₁.setTop (mkF m 16 #[.val (.int p2_0)] [])) _
        refine XS.iconst X0.here hx rfl (hb hby d2_16) ?_
        exact k
      obtain ⟨fs, hr, hrun, hended, hW, hsame⟩ := X0.leave (v := some (.int (0 : Int32))) (fun h => by rw [Bd.returns] at h; cases h)
      refine ⟨_, _, k6 _ ?_, hrun, hended, _, _, rfl, ?_, ⟨_, rfl⟩, hW, hsame.mono (by decide) (by decide)⟩
      · exact retN X0 hx (t := .boolean) Bd.returns (by simp) (hb hby d2_17) hr
      · show Q2 Z p2_0 h0 n0 _ s₁.heap _
        rw [e0]
        exact ⟨congrArg (fun z => some (Value.int z)) (show ((0 : Int32) : Int32) = own_dig p2_0 from by unfold own_dig; rw [if_neg hc3_2, if_pos hc9_5]), N0, rfl⟩
    · skip
      have k7 : ∀ t, Steps p.tables e below (s₁.setTop (mkF m 17 #[.val (.int p2_0)] [(.int (1 : Int32))])) t → Steps p.tables e below (s₁.setTop (entryFrame m #[(.int p2_0)] 1)) t := by
        intro t k
        refine k4 t ?_
        show Steps p.tables e below (s₁.setTop (mkF m 9 #[.val (.int p2_0)] [(.int (57 : Int32)), (.int p2_0)])) _
        refine XS.icmpNo X0.here hx rfl (hb hby d2_9) rfl (flt hc9_5).2.2.1 ?_
        show Steps p.tables e below (s₁.setTop (mkF m 12 #[.val (.int p2_0)] [])) _
        refine XS.iconst X0.here hx rfl (hb hby d2_12) ?_
        show Steps p.tables e below (s₁.setTop (mkF m 13 #[.val (.int p2_0)] [(.int (1 : Int32))])) _
        refine XS.goto X0.here hx rfl (pc0 := 13) (pc' := 17) rfl (hb hby d2_13) (by decide) (by decide) ?_
        exact k
      obtain ⟨fs, hr, hrun, hended, hW, hsame⟩ := X0.leave (v := some (.int (1 : Int32))) (fun h => by rw [Bd.returns] at h; cases h)
      refine ⟨_, _, k7 _ ?_, hrun, hended, _, _, rfl, ?_, ⟨_, rfl⟩, hW, hsame.mono (by decide) (by decide)⟩
      · exact retN X0 hx (t := .boolean) Bd.returns (by simp) (hb hby d2_17) hr
      · show Q2 Z p2_0 h0 n0 _ s₁.heap _
        rw [e0]
        exact ⟨congrArg (fun z => some (Value.int z)) (show ((1 : Int32) : Int32) = own_dig p2_0 from by unfold own_dig; rw [if_neg hc3_2, if_neg hc9_5]), N0, rfl⟩
theorem own_law (c : Int32) : own_dig c = own_tab c := by
  have h := c_mask c 15 4 (by decide) (by decide)
  have q := (c_irem (c &&& (15 : Int32)) (10 : Int32) 10 rfl).1 (by rw [h]; omega)
  have a := c_iadd (48 : Int32) ((c &&& (15 : Int32)) % (10 : Int32))
  have r1 := rng32 ((48 : Int32) + ((c &&& (15 : Int32)) % (10 : Int32)))
  rw [h] at q
  rw [q, show (48 : Int32).toInt = 48 from rfl] at a
  unfold own_dig own_tab
  simp only [own_lt, own_eqi, show (48 : Int32).toInt = 48 from rfl, show (57 : Int32).toInt = 57 from rfl]
  repeat' split
  all_goals first | rfl | (exfalso; omega)
theorem pd_5 : parseMethodDescriptor "(C)Z" = some ⟨[.char], some .boolean⟩ := by decide +kernel
theorem ef_0 (m : MethodId) (p0_0 : Int32) : entryFrame m #[(.int p0_0)] maxLocals = mkF m 0 #[.val (.int p0_0), .unset, .unset, .unset] [] := by first | (simp [entryFrame, mkF, argsToLocals, Value.category, maxLocals]; done) | rfl
def Q0 (Z : State) (p0_0 : Int32) (cs : Int32) (fm : Value) (h0 : Heap) (n0 : Nat) (v : Option Value) (h : Heap) (L : List Loc) : Prop := v = some (.int (1 : Int32)) ∧ Fr n0 L
set_option maxRecDepth 65536 in
set_option maxHeartbeats 40000000 in
theorem rm0 (l : Launch) (Z : State) (a0 : Array Value) (hw : ∀ d ∈ tables_1, d.before a0 Z = true) (ws : List Jvm.Cond) (hEL : EW Z a0 consts_1) (wS : ∀ a ∈ Bundle.stringAtoms, a.before a0 Z = true) (p0_0 : Int32) (cs : Int32) (fm : Value) (h0 : Heap) (n0 : Nat) (Z0 : n0 ≤ h0.size) (Sc : Sta Z h0 "java/lang/String" "COMPACT_STRINGS" "Z" (.int cs)) (Sf : Sta Z h0 "jdk/internal/util/Preconditions" "SIOOBE_FORMATTER" "Ljava/util/function/BiFunction;" fm) (hcs : ¬ (cs = (0 : Int32))) (hfm : fm.isRef = true) :
    MetFree l x (head1 (Jvm.Cond.code x code maxLocals ret :: ws) room_1) (fun a U => a = #[(.int p0_0)] ∧ Z.Warmed39 U.vm ∧ U.heap = h0 ∧ CHv Z consts_1 U.vm h0) (fun _ _ _ _ _ => True) (fun _ U o U' => ∃ v L, o = .returned v ∧ Q0 Z p0_0 cs fm h0 n0 v U'.heap L ∧ CHr Z consts_1 U.vm U.heap U'.vm U'.heap ∧ ReturnedEndW U o U' L 8 1088) := by
  refine MetFree.of_bodySF (plainFor_of_name pn_0) hisR ?_
  intro p e s m args below meth c s₁ Bd hml0 hP hK
  obtain ⟨rfl, hZ, hh, hCH⟩ := hP
  have hx := Bd.exec
  have hby := Bd.bytes
  have hml : c.maxLocals = 4 := hml0
  have hown : s.vm.findClass "com/example/oyster/oyster/engine/LiteralsIsDigitPinLaw" = some m.cls := findClass_of_methodNamed Bd.named
  have hnm := (name_of_methodNamed Bd.named Bd.method).1
  have X0 : Stand p l e room_1 (s.setVm s.vm) m #[(.int p0_0)] below meth c s₁ [] 0 0 := Stand.of_body Bd
  have e0 : s₁.heap = h0 := by rw [← hh, Bd.state]; rfl
  have N0 := Fr.nil n0
  have hS : s.Since s.vm h0.size := (State.WarmedH.refl s).since _
  have hk : h0.size ≤ h0.size := Nat.le_refl _
  have hCR : CHr Z consts_1 s.vm h0 s.vm h0 := CHr.refl hCH
  have pre0 : ∀ t, Steps p.tables e below (s₁.setTop (mkF m 0 #[.val (.int p0_0), .unset, .unset, .unset] [])) t → Steps p.tables e below (s₁.setTop (entryFrame m #[(.int p0_0)] maxLocals)) t := fun t k => castTop (ef_0 m p0_0) k
  obtain ⟨_, _, ⟨T1, L1, k1, n1⟩, -, X1, hS2, hg2, ⟨Lc1, hQ1, l1, y1, z1, hC1⟩, st1⟩ := callSS X0 hx (y := (⟨"com/example/oyster/oyster/engine/LiteralsIsDigitPinLaw", "inTable", "(C)Z"⟩ : MethodName)) hown (mvT hZ (hw _ (List.mem_of_getElem? (i := 1) rfl))) (mvT hZ (hw _ (List.mem_of_getElem? (i := 2) rfl))) (mvT hZ (hw _ (List.mem_of_getElem? (i := 3) rfl))) (mvT hZ (hw _ (List.mem_of_getElem? (i := 4) rfl))) (by decide) (backOfSH (W := 0) (rm1 l Z a0 hw [] hEL wS (p0_0 &&& (65535 : Int32)).toUInt32.toUInt16.toUInt32.toInt32 cs fm h0 n0 Z0 Sc Sf hcs hfm) hZ (hw _ (List.mem_of_getElem? (i := 4) rfl)) (hw _ (List.mem_of_getElem? (i := 3) rfl)) (by decide) (by decide) hEL hCR.1) (g := (mkF m 7 #[.val (.int p0_0), .val (.int (p0_0 &&& (65535 : Int32)).toUInt32.toUInt16.toUInt32.toInt32), .unset, .unset] [(.int (p0_0 &&& (65535 : Int32)).toUInt32.toUInt16.toUInt32.toInt32)])) rfl (by rw [hml]; rfl) (argsL := [(.int (p0_0 &&& (65535 : Int32)).toUInt32.toUInt16.toUInt32.toInt32)]) (rest := []) (lenOf pd_5 rfl) rfl (by show 2 * 0 + _ ≤ _; exact Nat.le_of_eq rfl) (hb hby at_7) (fun _ _ => ⟨rfl, e0, (by decide : 0 + 2 ≤ _), (by decide : 0 + 44 ≤ _)⟩)
  dsimp only [Pt.U, Pt.locs, Pt.cells, Pt.slots] at X1 hS2 hg2 hC1 l1 y1 z1 st1 hQ1
  subst l1 y1 z1
  have hZ_1 := hZ
  have hown_1 := hown
  obtain ⟨X1, hS, hZ, hown⟩ := rebS hS (by rw [e0]; exact hk) X1 hS2 hg2 hZ hown
  have hk := Nat.le_refl T1.heap.size
  have hCR := hCR.trans hC1
  obtain ⟨rfl, N1q, Kc1⟩ := hQ1
  have Zs1 : n0 ≤ T1.heap.size := Nat.le_trans Z0 Kc1.1
  have F2 : Sta Z T1.heap "java/lang/String" "COMPACT_STRINGS" "Z" (.int cs) := own_stakeep Sc Kc1 all0
  have F3 : Sta Z T1.heap "jdk/internal/util/Preconditions" "SIOOBE_FORMATTER" "Ljava/util/function/BiFunction;" fm := own_stakeep Sf Kc1 all0
  have N1 := Fr.app N0 N1q
  obtain ⟨_, _, ⟨T4, L4, k4, n4⟩, -, X4, ⟨Lc4, hQ4, l4, y4, z4⟩, st4⟩ := Jvm.LawKit.callS X1 hx (y := (⟨"com/example/oyster/oyster/engine/Literals", "isDigit", "(C)Z"⟩ : MethodName)) hown (mvT hZ (hw _ (List.mem_of_getElem? (i := 38) rfl))) (mvT hZ (hw _ (List.mem_of_getElem? (i := 39) rfl))) (mvT hZ (hw _ (List.mem_of_getElem? (i := 40) rfl))) (mvT hZ (hw _ (List.mem_of_getElem? (i := 41) rfl))) (by decide) (backOf (W := 0) (rm2 l Z a0 hw [] (p0_0 &&& (65535 : Int32)).toUInt32.toUInt16.toUInt32.toInt32 T1.heap n0 Zs1 ) hZ (hw _ (List.mem_of_getElem? (i := 41) rfl)) (hw _ (List.mem_of_getElem? (i := 40) rfl)) (by decide) (by decide)) (g := (mkF m 12 #[.val (.int p0_0), .val (.int (p0_0 &&& (65535 : Int32)).toUInt32.toUInt16.toUInt32.toInt32), .val (.int (own_tab (p0_0 &&& (65535 : Int32)).toUInt32.toUInt16.toUInt32.toInt32)), .unset] [(.int (p0_0 &&& (65535 : Int32)).toUInt32.toUInt16.toUInt32.toInt32)])) rfl (by rw [hml]; rfl) (argsL := [(.int (p0_0 &&& (65535 : Int32)).toUInt32.toUInt16.toUInt32.toInt32)]) (rest := []) (lenOf pd_5 rfl) rfl (by show 2 * 0 + _ ≤ _; exact Nat.le_of_eq rfl) (hb hby at_12) (fun _ _ => ⟨rfl, rfl, (by decide : 2 + 0 ≤ _), (by decide : 44 + 0 ≤ _)⟩)
  dsimp only [Pt.U, Pt.locs, Pt.cells, Pt.slots] at X4 l4 y4 z4 st4 hQ4
  subst l4 y4 z4
  obtain ⟨rfl, N4q, eh4⟩ := hQ4
  have N4 := Fr.app N1 N4q
  have k5 : ∀ t, Steps p.tables e below (T4.setTop (mkF m 26 #[.val (.int p0_0), .val (.int (p0_0 &&& (65535 : Int32)).toUInt32.toUInt16.toUInt32.toInt32), .val (.int (own_tab (p0_0 &&& (65535 : Int32)).toUInt32.toUInt16.toUInt32.toInt32)), .val (.int (own_dig (p0_0 &&& (65535 : Int32)).toUInt32.toUInt16.toUInt32.toInt32))] [(.int (1 : Int32))])) t → Steps p.tables e below (s₁.setTop (entryFrame m #[(.int p0_0)] maxLocals)) t := by
    intro t k
    refine pre0 t ?_
    show Steps p.tables e below (s₁.setTop (mkF m 0 #[.val (.int p0_0), .unset, .unset, .unset] [])) _
    refine XS.iloadN X0.here hx rfl (hb hby at_0) rfl ?_
    show Steps p.tables e below (s₁.setTop (mkF m 1 #[.val (.int p0_0), .unset, .unset, .unset] [(.int p0_0)])) _
    refine X0.ldcInt hx hown_1 (mvT hZ_1 (hw _ (List.mem_of_getElem? (i := 0) rfl))) (g := (mkF m 1 #[.val (.int p0_0), .unset, .unset, .unset] [(.int p0_0)])) rfl (hb hby at_1) _ ?_
    show Steps p.tables e below (s₁.setTop (mkF m 3 #[.val (.int p0_0), .unset, .unset, .unset] [(.int (65535 : Int32)), (.int p0_0)])) _
    refine XS.iand X0.here hx rfl (hb hby at_3) rfl ?_
    show Steps p.tables e below (s₁.setTop (mkF m 4 #[.val (.int p0_0), .unset, .unset, .unset] [(.int (p0_0 &&& (65535 : Int32)))])) _
    refine XS.i2c X0.here hx rfl (hb hby at_4) rfl ?_
    show Steps p.tables e below (s₁.setTop (mkF m 5 #[.val (.int p0_0), .unset, .unset, .unset] [(.int (p0_0 &&& (65535 : Int32)).toUInt32.toUInt16.toUInt32.toInt32)])) _
    refine XS.istoreN X0.here hx rfl (hb hby at_5) rfl (l' := #[.val (.int p0_0), .val (.int (p0_0 &&& (65535 : Int32)).toUInt32.toUInt16.toUInt32.toInt32), .unset, .unset]) rfl ?_
    show Steps p.tables e below (s₁.setTop (mkF m 6 #[.val (.int p0_0), .val (.int (p0_0 &&& (65535 : Int32)).toUInt32.toUInt16.toUInt32.toInt32), .unset, .unset] [])) _
    refine XS.iloadN X0.here hx rfl (hb hby at_6) rfl ?_
    show Steps p.tables e below (s₁.setTop (mkF m 7 #[.val (.int p0_0), .val (.int (p0_0 &&& (65535 : Int32)).toUInt32.toUInt16.toUInt32.toInt32), .unset, .unset] [(.int (p0_0 &&& (65535 : Int32)).toUInt32.toUInt16.toUInt32.toInt32)])) _
    refine st1.trans ?_
    show Steps p.tables e below (T1.setTop (mkF m 10 #[.val (.int p0_0), .val (.int (p0_0 &&& (65535 : Int32)).toUInt32.toUInt16.toUInt32.toInt32), .unset, .unset] [(.int (own_tab (p0_0 &&& (65535 : Int32)).toUInt32.toUInt16.toUInt32.toInt32))])) _
    refine XS.istoreN X1.here hx rfl (hb hby at_10) rfl (l' := #[.val (.int p0_0), .val (.int (p0_0 &&& (65535 : Int32)).toUInt32.toUInt16.toUInt32.toInt32), .val (.int (own_tab (p0_0 &&& (65535 : Int32)).toUInt32.toUInt16.toUInt32.toInt32)), .unset]) rfl ?_
    show Steps p.tables e below (T1.setTop (mkF m 11 #[.val (.int p0_0), .val (.int (p0_0 &&& (65535 : Int32)).toUInt32.toUInt16.toUInt32.toInt32), .val (.int (own_tab (p0_0 &&& (65535 : Int32)).toUInt32.toUInt16.toUInt32.toInt32)), .unset] [])) _
    refine XS.iloadN X1.here hx rfl (hb hby at_11) rfl ?_
    show Steps p.tables e below (T1.setTop (mkF m 12 #[.val (.int p0_0), .val (.int (p0_0 &&& (65535 : Int32)).toUInt32.toUInt16.toUInt32.toInt32), .val (.int (own_tab (p0_0 &&& (65535 : Int32)).toUInt32.toUInt16.toUInt32.toInt32)), .unset] [(.int (p0_0 &&& (65535 : Int32)).toUInt32.toUInt16.toUInt32.toInt32)])) _
    refine st4 _ ?_
    show Steps p.tables e below (T4.setTop (mkF m 15 #[.val (.int p0_0), .val (.int (p0_0 &&& (65535 : Int32)).toUInt32.toUInt16.toUInt32.toInt32), .val (.int (own_tab (p0_0 &&& (65535 : Int32)).toUInt32.toUInt16.toUInt32.toInt32)), .unset] [(.int (own_dig (p0_0 &&& (65535 : Int32)).toUInt32.toUInt16.toUInt32.toInt32))])) _
    refine XS.istoreN X4.here hx rfl (hb hby at_15) rfl (l' := #[.val (.int p0_0), .val (.int (p0_0 &&& (65535 : Int32)).toUInt32.toUInt16.toUInt32.toInt32), .val (.int (own_tab (p0_0 &&& (65535 : Int32)).toUInt32.toUInt16.toUInt32.toInt32)), .val (.int (own_dig (p0_0 &&& (65535 : Int32)).toUInt32.toUInt16.toUInt32.toInt32))]) rfl ?_
    show Steps p.tables e below (T4.setTop (mkF m 16 #[.val (.int p0_0), .val (.int (p0_0 &&& (65535 : Int32)).toUInt32.toUInt16.toUInt32.toInt32), .val (.int (own_tab (p0_0 &&& (65535 : Int32)).toUInt32.toUInt16.toUInt32.toInt32)), .val (.int (own_dig (p0_0 &&& (65535 : Int32)).toUInt32.toUInt16.toUInt32.toInt32))] [])) _
    refine XS.iloadN X4.here hx rfl (hb hby at_16) rfl ?_
    show Steps p.tables e below (T4.setTop (mkF m 17 #[.val (.int p0_0), .val (.int (p0_0 &&& (65535 : Int32)).toUInt32.toUInt16.toUInt32.toInt32), .val (.int (own_tab (p0_0 &&& (65535 : Int32)).toUInt32.toUInt16.toUInt32.toInt32)), .val (.int (own_dig (p0_0 &&& (65535 : Int32)).toUInt32.toUInt16.toUInt32.toInt32))] [(.int (own_dig (p0_0 &&& (65535 : Int32)).toUInt32.toUInt16.toUInt32.toInt32))])) _
    refine XS.iloadN X4.here hx rfl (hb hby at_17) rfl ?_
    show Steps p.tables e below (T4.setTop (mkF m 18 #[.val (.int p0_0), .val (.int (p0_0 &&& (65535 : Int32)).toUInt32.toUInt16.toUInt32.toInt32), .val (.int (own_tab (p0_0 &&& (65535 : Int32)).toUInt32.toUInt16.toUInt32.toInt32)), .val (.int (own_dig (p0_0 &&& (65535 : Int32)).toUInt32.toUInt16.toUInt32.toInt32))] [(.int (own_tab (p0_0 &&& (65535 : Int32)).toUInt32.toUInt16.toUInt32.toInt32)), (.int (own_dig (p0_0 &&& (65535 : Int32)).toUInt32.toUInt16.toUInt32.toInt32))])) _
    refine XS.icmpNo X4.here hx rfl (hb hby at_18) rfl (teq (own_law _)).2 ?_
    show Steps p.tables e below (T4.setTop (mkF m 21 #[.val (.int p0_0), .val (.int (p0_0 &&& (65535 : Int32)).toUInt32.toUInt16.toUInt32.toInt32), .val (.int (own_tab (p0_0 &&& (65535 : Int32)).toUInt32.toUInt16.toUInt32.toInt32)), .val (.int (own_dig (p0_0 &&& (65535 : Int32)).toUInt32.toUInt16.toUInt32.toInt32))] [])) _
    refine XS.iconst X4.here hx rfl (hb hby at_21) ?_
    show Steps p.tables e below (T4.setTop (mkF m 22 #[.val (.int p0_0), .val (.int (p0_0 &&& (65535 : Int32)).toUInt32.toUInt16.toUInt32.toInt32), .val (.int (own_tab (p0_0 &&& (65535 : Int32)).toUInt32.toUInt16.toUInt32.toInt32)), .val (.int (own_dig (p0_0 &&& (65535 : Int32)).toUInt32.toUInt16.toUInt32.toInt32))] [(.int (1 : Int32))])) _
    refine XS.goto X4.here hx rfl (pc0 := 22) (pc' := 26) rfl (hb hby at_22) (by decide) (by decide) ?_
    exact k
  obtain ⟨fs, hr, hrun, hended, hE1, hE2, hE3, hE4⟩ := X4.leaveW hS (by rw [eh4]; exact hk) (v := some (.int (1 : Int32))) (fun h => by rw [Bd.returns] at h; cases h)
  have hCE := hCR.trans (CHv.at X4 hZ hEL hCR.1)
  refine ⟨_, _, k5 _ ?_, hrun, hended, _, _, rfl, ?_, (by show CHr Z consts_1 s.vm s.heap T4.vm T4.heap; rw [hh, eh4]; exact hCE), ⟨_, rfl⟩, hE2, hE3, hE4.mono (by decide) (by decide)⟩
  · exact retN X4 hx (t := .boolean) Bd.returns (by simp) (hb hby at_26) hr
  · show Q0 Z p0_0 cs fm h0 n0 _ T4.heap _
    rw [eh4]
    exact ⟨rfl, N4⟩
set_option maxRecDepth 65536 in
set_option maxHeartbeats 40000000 in
theorem comes_1 {Post : Tables → Env → Array Value → State → Outcome → State → Prop} (hpost : ∀ tb e args s v u, (limb_1_1.after args s (.returned v) u = true ∧ limb_1_2.after args s (.returned v) u = true ∧ True) → ReturnedEndW s (.returned v) u (Jvm.fieldLocs frame_1_writes args s ++ Jvm.arrayLocs frame_1_arrays args s ++ Jvm.staticLocs frame_1_statics s) 8 1088 → Post tb e args s (.returned v) u) :
    ArmFor flags0 classFile x code maxLocals ret World_1 tables_1 room_1 Calls_1 rest_1 Pre_1 Post := by
  intro l hfl _ _ p e ha hc hk s m args below hf hA hF happ hP
  obtain ⟨hcalls, hrest, hpre⟩ := hP
  obtain ⟨-, -, -, hnamed, -, -, -, hat⟩ := (Spec.applies_iff hf).mp happ
  obtain ⟨hg, hn⟩ := and_e (Cond.before_iff.mp (show (Jvm.Cond.and given_1 narrow_1).before args s = true from hpre))
  obtain ⟨gv1, gv2⟩ := and_e hg
  obtain ⟨w0, rfl⟩ : ∃ w0 : Value, args = #[w0] := by
    have hs : args.size = 1 := by simpa [Cond.value, given_1] using gv1
    obtain ⟨L⟩ := args
    match L, hs with
    | [w0], _ => exact ⟨w0, rfl⟩
  have hw := fun d (hd : d ∈ tables_1) => atoms_spec (ws := Jvm.Cond.code x code maxLocals ret :: tables_1) hat d (List.mem_cons_of_mem _ hd)
  have hfit : Fit s := fun {y c} hc i hi => by
    obtain ⟨ha, rfl⟩ := Array.getElem?_eq_some_iff.mp hc
    have q := List.all_eq_true.mp ((Array.all_eq_true_iff_forall_mem.mp hF) _ (Array.getElem_mem ha)) i (List.mem_range.mpr hi)
    simpa [Array.getElem?_eq_getElem hi] using q
  obtain ⟨hsets, hown0⟩ := atoms_of _ (rest_1_c_eq ▸ (show rest_1_c.before _ s = true from hrest))
  have hr0 := Cond.before_iff.mp hown0
  obtain ⟨i0, ei0⟩ := is_v gv2
  obtain rfl : w0 = (.int i0) := Option.some.inj ei0
  obtain ⟨cs, ev_cs⟩ := is_v (Cond.before_iff.mp (hsets _ (List.mem_of_getElem? (i := 1) rfl)))
  have Sc : Sta s s.heap "java/lang/String" "COMPACT_STRINGS" "Z" (.int cs) := Sta.start ev_cs (Or.inl (hsets _ (List.mem_of_getElem? (i := 0) rfl)))
  have hcs : ¬ (cs = (0 : Int32)) := gotF (Cond.eq_ints ev_cs (Term.int_eval _)) (not_v (Cond.before_iff.mp (hsets _ (List.mem_of_getElem? (i := 2) rfl))))
  obtain ⟨fm, ev_fm, hfm⟩ := isR_v (Cond.before_iff.mp (hsets _ (List.mem_of_getElem? (i := 8) rfl)))
  have Sf : Sta s s.heap "jdk/internal/util/Preconditions" "SIOOBE_FORMATTER" "Ljava/util/function/BiFunction;" fm := Sta.start ev_fm (Or.inl (hsets _ (List.mem_of_getElem? (i := 7) rfl)))
  have hEL : EW s _ consts_1 := (EW.cons (hw _ (List.mem_of_getElem? (i := 5) rfl)) (by decide) EW.nil)
  have wS : ∀ a ∈ Bundle.stringAtoms, a.before _ s = true := fun d hd => by
    simp only [Bundle.stringAtoms, Bundle.sN, List.mem_cons, List.not_mem_nil, or_false] at hd
    rcases hd with rfl | rfl | rfl | rfl | rfl | rfl | rfl
    · exact (hw _ (List.mem_of_getElem? (i := 6) rfl))
    · exact (hw _ (List.mem_of_getElem? (i := 7) rfl))
    · exact (hw _ (List.mem_of_getElem? (i := 8) rfl))
    · exact (hw _ (List.mem_of_getElem? (i := 9) rfl))
    · exact (hw _ (List.mem_of_getElem? (i := 10) rfl))
    · exact (hw _ (List.mem_of_getElem? (i := 11) rfl))
    · exact (hw _ (List.mem_of_getElem? (i := 12) rfl))
  have hCH : CHv s consts_1 s.vm s.heap := CHv.start hEL (fun p hp => hcalls.1 p hp) (hsets _ (List.mem_of_getElem? (i := 2) rfl)) (wS _ (by simp [Bundle.stringAtoms])) (wS _ (by simp [Bundle.stringAtoms, Bundle.sN]))
  obtain ⟨n, o, h1, h2, h3, _, L, rfl, ⟨rfl, N⟩, -, hq⟩ := rm0 l s _ hw tables_1 hEL wS i0 cs fm s.heap s.heap.size (Nat.le_refl _) Sc Sf hcs hfm p e ha hc hk s m _ below hf ((Spec.applies_iff_loose hf).mp happ).1 ⟨rfl, State.Warmed39.refl s, rfl, hCH⟩ trivial
  refine ⟨n, _, h1, h2, h3, hpost _ _ _ _ _ _ ⟨Cond.after_iff.mpr rfl, Cond.after_iff.mpr (eq_i res_at (Term.int_eval (1)) rfl), trivial⟩ ⟨hq.1, hq.2.1, hq.2.2.1, (hq.2.2.2.sift fun y hy => Or.inr (N y hy)).mono (by decide) (by decide)⟩⟩
theorem main_1_1 : Claimed_1_1 := comes_1 fun _ _ _ _ _ _ h hF => ⟨h.1, hF⟩
theorem main_1_2 : Claimed_1_2 := comes_1 fun _ _ _ _ _ _ h hF => ⟨h.2.1, hF⟩
end Jvm.Pilot.@@N@@
namespace Jvm.Pilot.@@N@@
open Jvm Jvm.ClassFile Sem Op Lib Jvm.Free Jvm.Stand Jvm.Pilot.@@N@@.Jvm.D
/-! MADE BY PROGRAM (witnessworld.py) out of the Statement's table words and the real class files: 17 classes; the members and pool entries that the words name. The judged class is class 1, her method 2. -/
namespace start1
open Jvm.ClassFile
def u (s : String) : CpInfo := .utf8 (stringToUtf16 s)
/-- a pool by its gaps: so many unusable entries, then the entry; so many at the end -/
def gap : Nat → List CpInfo → List CpInfo
  | 0, r => r
  | n + 1, r => .unusable :: gap n r
def poolList (es : List (Nat × CpInfo)) (last : Nat) : List CpInfo := es.foldr (fun e r => gap e.1 (e.2 :: r)) (gap last [])
def pool (es : List (Nat × CpInfo)) (last : Nat) : Array CpInfo := ⟨poolList es last⟩
def fileOf (pool : Array CpInfo) (this : Nat) (attrs : Array Attribute := #[]) (ms : Array MethodInfo := #[]) (fl : Nat := 33) (sup : Nat := 0) (ifs : Array Nat := #[]) (fds : Array FieldInfo := #[]) : ClassFile where
  minorVersion := 0
  majorVersion := 65
  constantPool := pool
  accessFlags := fl
  thisClass := this
  superClass := sup
  interfaces := ifs
  fields := fds
  methods := ms
  attributes := attrs
def plain (name : String) (sup : Option ClassId) : Class where
  name := name
  kind := .ordinary
  loader := none
  accessFlags := 33
  super := sup
  interfaces := #[]
  cf := none
  fields := #[]
  methods := #[]
  instanceTypes := #[]
  staticTypes := #[]
  resolved := #[]
  callSites := []
  init := .initialized
  statics := none
  mirror := none

def pool0 : Array CpInfo := pool [(5, u "<init>"), (0, u "()V"), (1, .class_ 10), (1, u "java/lang/Object")] 113

def k0m0 : Method := { name := "<init>", desc := "()V", sig := { parameters := [], returnType := none }, accessFlags := 1, code := none }
/-- java/lang/Object -/
def k0 : Class := { plain "java/lang/Object" none with
  accessFlags := 33
  interfaces := #[]
  cf := some (fileOf pool0 8 #[] #[{ accessFlags := 1, nameIndex := 5, descriptorIndex := 6, attributes := #[] }] 33 0 #[] #[])
  fields := #[]
  methods := #[k0m0]
  instanceTypes := #[]
  staticTypes := #[]
  resolved := Array.replicate 124 none
  statics := none }

def pool1 : Array CpInfo := pool [(2, .class_ 4), (1, u "java/lang/Object"), (0, u "<init>"), (0, u "()V"), (0, .string 8), (0, u "0123456789"), (0, .methodref 10 11), (0, .class_ 12), (0, .nameAndType 13 14), (0, u "java/lang/String"), (0, u "charAt"), (0, u "(I)C"), (0, .integer 65535), (0, .methodref 17 18), (0, .class_ 19), (0, .nameAndType 20 21), (0, u "com/example/oyster/oyster/engine/LiteralsIsDigitPinLaw"), (0, u "inTable"), (0, u "(C)Z"), (0, .methodref 23 24), (0, .class_ 25), (0, .nameAndType 26 21), (0, u "com/example/oyster/oyster/engine/Literals"), (0, u "isDigit"), (3, u "law"), (0, u "(I)Z")] 2

def k1m0 : Method := { name := "<init>", desc := "()V", sig := { parameters := [], returnType := none }, accessFlags := 2, code := none }
def k1c1 : Code := { maxStack := 2, maxLocals := 3, code := method_2_code, exceptionTable := #[], attributes := #[] }
def k1m1 : Method := { name := "inTable", desc := "(C)Z", sig := { parameters := [.char], returnType := some .boolean }, accessFlags := 10, code := some k1c1 }
def k1c2 : Code := { maxStack := 2, maxLocals := 4, code := code, exceptionTable := #[], attributes := #[] }
def k1m2 : Method := { name := "law", desc := "(I)Z", sig := { parameters := [.int], returnType := some .boolean }, accessFlags := 9, code := some k1c2 }
/-- com/example/oyster/oyster/engine/LiteralsIsDigitPinLaw -/
def k1 : Class := { plain "com/example/oyster/oyster/engine/LiteralsIsDigitPinLaw" (some 0) with
  accessFlags := 49
  interfaces := #[]
  cf := some (fileOf pool1 17 #[] #[{ accessFlags := 2, nameIndex := 5, descriptorIndex := 6, attributes := #[] }, { accessFlags := 10, nameIndex := 20, descriptorIndex := 21, attributes := #[] }, { accessFlags := 9, nameIndex := 30, descriptorIndex := 31, attributes := #[] }] 49 2 #[] #[])
  fields := #[]
  methods := #[k1m0, k1m1, k1m2]
  instanceTypes := #[]
  staticTypes := #[]
  resolved := Array.replicate 34 none
  statics := none }

def pool2 : Array CpInfo := pool [(1, .class_ 2), (0, u "java/io/Serializable"), (0, .class_ 4), (0, u "java/lang/Object")] 2

/-- java/io/Serializable -/
def k2 : Class := { plain "java/io/Serializable" (some 0) with
  accessFlags := 1537
  interfaces := #[]
  cf := some (fileOf pool2 1 #[] #[] 1537 3 #[] #[])
  fields := #[]
  methods := #[]
  instanceTypes := #[]
  staticTypes := #[]
  resolved := Array.replicate 7 none
  statics := none }

def pool3 : Array CpInfo := pool [(1, .class_ 2), (0, u "java/lang/Comparable"), (0, .class_ 4), (0, u "java/lang/Object")] 7

/-- java/lang/Comparable -/
def k3 : Class := { plain "java/lang/Comparable" (some 0) with
  accessFlags := 1537
  interfaces := #[]
  cf := some (fileOf pool3 1 #[] #[] 1537 3 #[] #[])
  fields := #[]
  methods := #[]
  instanceTypes := #[]
  staticTypes := #[]
  resolved := Array.replicate 12 none
  statics := none }

def pool4 : Array CpInfo := pool [(2, .class_ 4), (1, u "java/lang/CharSequence"), (42, .class_ 48), (0, u "java/lang/CharSequence$1CodePointIterator"), (10, .class_ 60), (0, u "java/lang/CharSequence$1CharIterator"), (5, .class_ 67), (0, u "java/lang/Object")] 63

/-- java/lang/CharSequence -/
def k4 : Class := { plain "java/lang/CharSequence" (some 0) with
  accessFlags := 1537
  interfaces := #[]
  cf := some (fileOf pool4 2 #[.nestMembers #[47, 59]] #[] 1537 66 #[] #[])
  fields := #[]
  methods := #[]
  instanceTypes := #[]
  staticTypes := #[]
  resolved := Array.replicate 131 none
  statics := none }

def pool5 : Array CpInfo := pool [(1, .class_ 2), (0, u "java/lang/constant/Constable"), (0, .class_ 4), (0, u "java/lang/Object")] 6

/-- java/lang/constant/Constable -/
def k5 : Class := { plain "java/lang/constant/Constable" (some 0) with
  accessFlags := 1537
  interfaces := #[]
  cf := some (fileOf pool5 1 #[] #[] 1537 3 #[] #[])
  fields := #[]
  methods := #[]
  instanceTypes := #[]
  staticTypes := #[]
  resolved := Array.replicate 11 none
  statics := none }

def pool6 : Array CpInfo := pool [(1, .class_ 2), (0, u "java/lang/constant/ConstantDesc"), (0, .class_ 4), (0, u "java/lang/Object")] 32

/-- java/lang/constant/ConstantDesc -/
def k6 : Class := { plain "java/lang/constant/ConstantDesc" (some 0) with
  accessFlags := 1537
  interfaces := #[]
  cf := some (fileOf pool6 1 #[] #[] 1537 3 #[] #[])
  fields := #[]
  methods := #[]
  instanceTypes := #[]
  staticTypes := #[]
  resolved := Array.replicate 37 none
  statics := none }

def pool7 : Array CpInfo := pool [(2, .class_ 4), (1, u "java/lang/Object"), (0, u "<init>"), (0, u "()V"), (2, .fieldref 10 11), (0, .class_ 12), (0, .nameAndType 13 14), (0, u "java/lang/String"), (0, u "value"), (0, u "[B"), (0, .fieldref 10 16), (0, .nameAndType 17 18), (0, u "coder"), (0, u "B"), (2, u "hash"), (0, u "I"), (2, u "hashIsZero"), (0, u "Z"), (11, .fieldref 10 39), (0, .nameAndType 40 26), (0, u "COMPACT_STRINGS"), (66, .class_ 109), (1, u "java/lang/StringLatin1"), (32, u "()Z"), (220, u "([BI)C"), (27, u "(II)V"), (35, u "(I)C"), (64, .methodref 10 493), (0, .nameAndType 494 142), (0, u "isLatin1"), (0, .methodref 107 496), (0, .nameAndType 497 363), (0, u "charAt"), (3, u "checkIndex"), (73, .class_ 576), (0, u "java/lang/CharSequence"), (22, u "CASE_INSENSITIVE_ORDER"), (0, u "Ljava/util/Comparator;"), (452, .fieldref 1054 1055), (0, .class_ 1056), (0, .nameAndType 1057 1058), (0, u "jdk/internal/util/Preconditions"), (0, u "SIOOBE_FORMATTER"), (0, u "Ljava/util/function/BiFunction;"), (0, .methodref 1054 1060), (0, .nameAndType 501 1061), (0, u "(IILjava/util/function/BiFunction;)I"), (39, u "serialPersistentFields"), (0, u "[Ljava/io/ObjectStreamField;"), (0, .class_ 1104), (0, u "java/lang/String$CaseInsensitiveComparator"), (1, .class_ 1107), (0, u "java/io/Serializable"), (0, .class_ 1109), (0, u "java/lang/Comparable"), (0, .class_ 1111), (0, u "java/lang/constant/Constable"), (0, .class_ 1113), (0, u "java/lang/constant/ConstantDesc"), (2, u "serialVersionUID"), (0, u "J"), (3, u "REPL"), (0, u "C"), (2, u "LATIN1"), (1, u "UTF16")] 323

def k7m0 : Method := { name := "<init>", desc := "()V", sig := { parameters := [], returnType := none }, accessFlags := 1, code := none }
def k7c1 : Code := { maxStack := 2, maxLocals := 2, code := jdk_42_method_56_code, exceptionTable := #[], attributes := #[] }
def k7m1 : Method := { name := "charAt", desc := "(I)C", sig := { parameters := [.int], returnType := some .char }, accessFlags := 1, code := some k7c1 }
def k7c2 : Code := { maxStack := 1, maxLocals := 1, code := jdk_42_method_154_code, exceptionTable := #[], attributes := #[] }
def k7m2 : Method := { name := "isLatin1", desc := "()Z", sig := { parameters := [], returnType := some .boolean }, accessFlags := 0, code := some k7c2 }
def k7c3 : Code := { maxStack := 3, maxLocals := 2, code := jdk_42_method_155_code, exceptionTable := #[], attributes := #[] }
def k7m3 : Method := { name := "checkIndex", desc := "(II)V", sig := { parameters := [.int, .int], returnType := none }, accessFlags := 8, code := some k7c3 }
/-- java/lang/String -/
def k7 : Class := { plain "java/lang/String" (some 0) with
  accessFlags := 49
  interfaces := #[2, 3, 4, 5, 6]
  cf := some (fileOf pool7 10 #[.nestMembers #[1103]] #[{ accessFlags := 1, nameIndex := 5, descriptorIndex := 6, attributes := #[] }, { accessFlags := 1, nameIndex := 497, descriptorIndex := 427, attributes := #[] }, { accessFlags := 0, nameIndex := 494, descriptorIndex := 142, attributes := #[] }, { accessFlags := 8, nameIndex := 501, descriptorIndex := 391, attributes := #[] }] 49 2 #[1106, 1108, 575, 1110, 1112] #[{ accessFlags := 18, nameIndex := 13, descriptorIndex := 14, attributes := #[] }, { accessFlags := 18, nameIndex := 17, descriptorIndex := 18, attributes := #[] }, { accessFlags := 2, nameIndex := 21, descriptorIndex := 22, attributes := #[] }, { accessFlags := 2, nameIndex := 25, descriptorIndex := 26, attributes := #[] }, { accessFlags := 26, nameIndex := 1116, descriptorIndex := 1117, attributes := #[] }, { accessFlags := 24, nameIndex := 40, descriptorIndex := 26, attributes := #[] }, { accessFlags := 26, nameIndex := 1101, descriptorIndex := 1102, attributes := #[] }, { accessFlags := 26, nameIndex := 1121, descriptorIndex := 1122, attributes := #[] }, { accessFlags := 25, nameIndex := 599, descriptorIndex := 600, attributes := #[] }, { accessFlags := 24, nameIndex := 1125, descriptorIndex := 18, attributes := #[] }, { accessFlags := 24, nameIndex := 1127, descriptorIndex := 18, attributes := #[] }])
  fields := #[{ name := "value", type := (.array .byte), accessFlags := 18, slot := 0, constantValue := 0 }, { name := "coder", type := .byte, accessFlags := 18, slot := 1, constantValue := 0 }, { name := "hash", type := .int, accessFlags := 2, slot := 2, constantValue := 0 }, { name := "hashIsZero", type := .boolean, accessFlags := 2, slot := 3, constantValue := 0 }, { name := "serialVersionUID", type := .long, accessFlags := 26, slot := 0, constantValue := 0 }, { name := "COMPACT_STRINGS", type := .boolean, accessFlags := 24, slot := 1, constantValue := 0 }, { name := "serialPersistentFields", type := (.array (.object "java/io/ObjectStreamField")), accessFlags := 26, slot := 2, constantValue := 0 }, { name := "REPL", type := .char, accessFlags := 26, slot := 3, constantValue := 0 }, { name := "CASE_INSENSITIVE_ORDER", type := (.object "java/util/Comparator"), accessFlags := 25, slot := 4, constantValue := 0 }, { name := "LATIN1", type := .byte, accessFlags := 24, slot := 5, constantValue := 0 }, { name := "UTF16", type := .byte, accessFlags := 24, slot := 6, constantValue := 0 }]
  methods := #[k7m0, k7m1, k7m2, k7m3]
  instanceTypes := #[(.array .byte), .byte, .int, .boolean]
  staticTypes := #[.long, .boolean, (.array (.object "java/io/ObjectStreamField")), .char, (.object "java/util/Comparator"), .byte, .byte]
  resolved := Array.replicate 1451 none
  statics := some 0 }

def pool8 : Array CpInfo := pool [(1, .class_ 2), (0, u "java/lang/String"), (1, .class_ 6), (1, u "java/lang/Object"), (0, u "<init>"), (0, u "()V"), (0, .methodref 1 10), (0, .nameAndType 11 12), (0, u "checkIndex"), (0, u "(II)V"), (1, .class_ 16), (1, u "java/lang/StringLatin1"), (36, u "([BI)C"), (67, u "$assertionsDisabled"), (0, u "Z"), (98, .class_ 223), (1, u "java/lang/StringLatin1$LinesSpliterator"), (28, u "charAt"), (137, .class_ 391), (0, u "java/lang/StringLatin1$CharsSpliterator")] 3

def k8m0 : Method := { name := "<init>", desc := "()V", sig := { parameters := [], returnType := none }, accessFlags := 0, code := none }
def k8c1 : Code := { maxStack := 2, maxLocals := 2, code := jdk_43_method_2_code, exceptionTable := #[], attributes := #[] }
def k8m1 : Method := { name := "charAt", desc := "([BI)C", sig := { parameters := [(.array .byte), .int], returnType := some .char }, accessFlags := 9, code := some k8c1 }
/-- java/lang/StringLatin1 -/
def k8 : Class := { plain "java/lang/StringLatin1" (some 0) with
  accessFlags := 48
  interfaces := #[]
  cf := some (fileOf pool8 14 #[.nestMembers #[390, 221]] #[{ accessFlags := 0, nameIndex := 7, descriptorIndex := 8, attributes := #[] }, { accessFlags := 9, nameIndex := 252, descriptorIndex := 53, attributes := #[] }] 48 4 #[] #[{ accessFlags := 4120, nameIndex := 121, descriptorIndex := 122, attributes := #[] }])
  fields := #[{ name := "$assertionsDisabled", type := .boolean, accessFlags := 4120, slot := 0, constantValue := 0 }]
  methods := #[k8m0, k8m1]
  instanceTypes := #[]
  staticTypes := #[.boolean]
  resolved := Array.replicate 395 none
  statics := none }

def pool9 : Array CpInfo := pool [(2, .class_ 4), (1, u "java/lang/Object"), (0, u "<init>"), (0, u "()V"), (17, .class_ 26), (1, u "jdk/internal/util/Preconditions"), (6, u "checkIndex"), (21, .class_ 56), (0, u "jdk/internal/util/Preconditions$4"), (57, .class_ 115), (0, u "jdk/internal/util/Preconditions$1"), (7, u "SIOOBE_FORMATTER"), (0, u "Ljava/util/function/BiFunction;"), (0, .class_ 126), (0, u "jdk/internal/util/Preconditions$2"), (3, u "AIOOBE_FORMATTER"), (0, .class_ 132), (0, u "jdk/internal/util/Preconditions$3"), (3, u "IOOBE_FORMATTER"), (41, u "(IILjava/util/function/BiFunction;)I")] 15

def k9m0 : Method := { name := "<init>", desc := "()V", sig := { parameters := [], returnType := none }, accessFlags := 1, code := none }
def k9c1 : Code := { maxStack := 3, maxLocals := 3, code := jdk_41_method_11_code, exceptionTable := #[], attributes := #[] }
def k9m1 : Method := { name := "checkIndex", desc := "(IILjava/util/function/BiFunction;)I", sig := { parameters := [.int, .int, (.object "java/util/function/BiFunction")], returnType := some .int }, accessFlags := 9, code := some k9c1 }
/-- jdk/internal/util/Preconditions -/
def k9 : Class := { plain "jdk/internal/util/Preconditions" (some 0) with
  accessFlags := 33
  interfaces := #[]
  cf := some (fileOf pool9 24 #[.nestMembers #[55, 131, 125, 114]] #[{ accessFlags := 1, nameIndex := 5, descriptorIndex := 6, attributes := #[] }, { accessFlags := 9, nameIndex := 33, descriptorIndex := 178, attributes := #[] }] 33 2 #[] #[{ accessFlags := 25, nameIndex := 123, descriptorIndex := 124, attributes := #[] }, { accessFlags := 25, nameIndex := 130, descriptorIndex := 124, attributes := #[] }, { accessFlags := 25, nameIndex := 136, descriptorIndex := 124, attributes := #[] }])
  fields := #[{ name := "SIOOBE_FORMATTER", type := (.object "java/util/function/BiFunction"), accessFlags := 25, slot := 0, constantValue := 0 }, { name := "AIOOBE_FORMATTER", type := (.object "java/util/function/BiFunction"), accessFlags := 25, slot := 1, constantValue := 0 }, { name := "IOOBE_FORMATTER", type := (.object "java/util/function/BiFunction"), accessFlags := 25, slot := 2, constantValue := 0 }]
  methods := #[k9m0, k9m1]
  instanceTypes := #[]
  staticTypes := #[(.object "java/util/function/BiFunction"), (.object "java/util/function/BiFunction"), (.object "java/util/function/BiFunction")]
  resolved := Array.replicate 194 none
  statics := some 1 }

def pool10 : Array CpInfo := pool [(2, .class_ 4), (1, u "java/lang/Object"), (0, u "<init>"), (0, u "()V"), (1, .class_ 10), (1, u "com/example/oyster/oyster/engine/Literals"), (14, u "isDigit"), (0, u "(C)Z"), (0, .class_ 28), (0, u "com/example/oyster/oyster/engine/Literals$MalformedLiteralException")] 41

def k10m0 : Method := { name := "<init>", desc := "()V", sig := { parameters := [], returnType := none }, accessFlags := 2, code := none }
def k10c1 : Code := { maxStack := 2, maxLocals := 1, code := prog_13_method_4_code, exceptionTable := #[], attributes := #[] }
def k10m1 : Method := { name := "isDigit", desc := "(C)Z", sig := { parameters := [.char], returnType := some .boolean }, accessFlags := 8, code := some k10c1 }
/-- com/example/oyster/oyster/engine/Literals -/
def k10 : Class := { plain "com/example/oyster/oyster/engine/Literals" (some 0) with
  accessFlags := 48
  interfaces := #[]
  cf := some (fileOf pool10 8 #[.nestMembers #[27]] #[{ accessFlags := 2, nameIndex := 5, descriptorIndex := 6, attributes := #[] }, { accessFlags := 8, nameIndex := 25, descriptorIndex := 26, attributes := #[] }] 48 2 #[] #[])
  fields := #[]
  methods := #[k10m0, k10m1]
  instanceTypes := #[]
  staticTypes := #[]
  resolved := Array.replicate 70 none
  statics := none }

def pool11 : Array CpInfo := pool [(9, u "<init>"), (6, .class_ 18), (1, u "java/lang/Object"), (0, u "()V"), (1, .class_ 23), (1, u "jdk/internal/util/ArraysSupport"), (0, u "LOG2_ARRAY_LONG_INDEX_SCALE"), (0, u "I"), (2, u "U"), (0, u "Ljdk/internal/misc/Unsafe;"), (8, u "BIG_ENDIAN"), (0, u "Z"), (8, u "LOG2_BYTE_BIT_SIZE"), (4, u "LOG2_ARRAY_INT_INDEX_SCALE"), (54, u "JLA"), (0, u "Ljdk/internal/access/JavaLangAccess;"), (11, u "LOG2_ARRAY_BOOLEAN_INDEX_SCALE"), (9, u "LOG2_ARRAY_BYTE_INDEX_SCALE"), (5, u "LOG2_ARRAY_CHAR_INDEX_SCALE"), (5, u "LOG2_ARRAY_SHORT_INDEX_SCALE"), (18, u "LOG2_ARRAY_FLOAT_INDEX_SCALE"), (24, u "LOG2_ARRAY_DOUBLE_INDEX_SCALE"), (89, u "T_BOOLEAN"), (2, u "T_CHAR"), (1, u "T_FLOAT"), (1, u "T_DOUBLE"), (1, u "T_BYTE"), (1, u "T_SHORT"), (1, u "T_INT"), (1, u "T_LONG"), (1, u "SOFT_MAX_ARRAY_LENGTH")] 83

def k11m0 : Method := { name := "<init>", desc := "()V", sig := { parameters := [], returnType := none }, accessFlags := 2, code := none }
/-- jdk/internal/util/ArraysSupport -/
def k11 : Class := { plain "jdk/internal/util/ArraysSupport" (some 0) with
  accessFlags := 33
  interfaces := #[]
  cf := some (fileOf pool11 21 #[] #[{ accessFlags := 2, nameIndex := 9, descriptorIndex := 19, attributes := #[] }] 33 16 #[] #[{ accessFlags := 24, nameIndex := 28, descriptorIndex := 29, attributes := #[] }, { accessFlags := 26, nameIndex := 38, descriptorIndex := 39, attributes := #[] }, { accessFlags := 25, nameIndex := 121, descriptorIndex := 25, attributes := #[] }, { accessFlags := 25, nameIndex := 131, descriptorIndex := 25, attributes := #[] }, { accessFlags := 25, nameIndex := 137, descriptorIndex := 25, attributes := #[] }, { accessFlags := 25, nameIndex := 143, descriptorIndex := 25, attributes := #[] }, { accessFlags := 25, nameIndex := 53, descriptorIndex := 25, attributes := #[] }, { accessFlags := 25, nameIndex := 24, descriptorIndex := 25, attributes := #[] }, { accessFlags := 25, nameIndex := 162, descriptorIndex := 25, attributes := #[] }, { accessFlags := 25, nameIndex := 187, descriptorIndex := 25, attributes := #[] }, { accessFlags := 26, nameIndex := 48, descriptorIndex := 25, attributes := #[] }, { accessFlags := 25, nameIndex := 277, descriptorIndex := 25, attributes := #[] }, { accessFlags := 25, nameIndex := 280, descriptorIndex := 25, attributes := #[] }, { accessFlags := 25, nameIndex := 282, descriptorIndex := 25, attributes := #[] }, { accessFlags := 25, nameIndex := 284, descriptorIndex := 25, attributes := #[] }, { accessFlags := 25, nameIndex := 286, descriptorIndex := 25, attributes := #[] }, { accessFlags := 25, nameIndex := 288, descriptorIndex := 25, attributes := #[] }, { accessFlags := 25, nameIndex := 290, descriptorIndex := 25, attributes := #[] }, { accessFlags := 25, nameIndex := 292, descriptorIndex := 25, attributes := #[] }, { accessFlags := 26, nameIndex := 108, descriptorIndex := 109, attributes := #[] }, { accessFlags := 25, nameIndex := 294, descriptorIndex := 25, attributes := #[] }])
  fields := #[{ name := "U", type := (.object "jdk/internal/misc/Unsafe"), accessFlags := 24, slot := 0, constantValue := 0 }, { name := "BIG_ENDIAN", type := .boolean, accessFlags := 26, slot := 1, constantValue := 0 }, { name := "LOG2_ARRAY_BOOLEAN_INDEX_SCALE", type := .int, accessFlags := 25, slot := 2, constantValue := 0 }, { name := "LOG2_ARRAY_BYTE_INDEX_SCALE", type := .int, accessFlags := 25, slot := 3, constantValue := 0 }, { name := "LOG2_ARRAY_CHAR_INDEX_SCALE", type := .int, accessFlags := 25, slot := 4, constantValue := 0 }, { name := "LOG2_ARRAY_SHORT_INDEX_SCALE", type := .int, accessFlags := 25, slot := 5, constantValue := 0 }, { name := "LOG2_ARRAY_INT_INDEX_SCALE", type := .int, accessFlags := 25, slot := 6, constantValue := 0 }, { name := "LOG2_ARRAY_LONG_INDEX_SCALE", type := .int, accessFlags := 25, slot := 7, constantValue := 0 }, { name := "LOG2_ARRAY_FLOAT_INDEX_SCALE", type := .int, accessFlags := 25, slot := 8, constantValue := 0 }, { name := "LOG2_ARRAY_DOUBLE_INDEX_SCALE", type := .int, accessFlags := 25, slot := 9, constantValue := 0 }, { name := "LOG2_BYTE_BIT_SIZE", type := .int, accessFlags := 26, slot := 10, constantValue := 0 }, { name := "T_BOOLEAN", type := .int, accessFlags := 25, slot := 11, constantValue := 0 }, { name := "T_CHAR", type := .int, accessFlags := 25, slot := 12, constantValue := 0 }, { name := "T_FLOAT", type := .int, accessFlags := 25, slot := 13, constantValue := 0 }, { name := "T_DOUBLE", type := .int, accessFlags := 25, slot := 14, constantValue := 0 }, { name := "T_BYTE", type := .int, accessFlags := 25, slot := 15, constantValue := 0 }, { name := "T_SHORT", type := .int, accessFlags := 25, slot := 16, constantValue := 0 }, { name := "T_INT", type := .int, accessFlags := 25, slot := 17, constantValue := 0 }, { name := "T_LONG", type := .int, accessFlags := 25, slot := 18, constantValue := 0 }, { name := "JLA", type := (.object "jdk/internal/access/JavaLangAccess"), accessFlags := 26, slot := 19, constantValue := 0 }, { name := "SOFT_MAX_ARRAY_LENGTH", type := .int, accessFlags := 25, slot := 20, constantValue := 0 }]
  methods := #[k11m0]
  instanceTypes := #[]
  staticTypes := #[(.object "jdk/internal/misc/Unsafe"), .boolean, .int, .int, .int, .int, .int, .int, .int, .int, .int, .int, .int, .int, .int, .int, .int, .int, .int, (.object "jdk/internal/access/JavaLangAccess"), .int]
  resolved := Array.replicate 378 none
  statics := none }

def pool12 : Array CpInfo := pool [(1, u "java/lang/Cloneable"), (0, .class_ 1), (0, u "java/lang/Object"), (0, .class_ 3)] 3

/-- java/lang/Cloneable -/
def k12 : Class := { plain "java/lang/Cloneable" (some 0) with
  accessFlags := 1537
  interfaces := #[]
  cf := some (fileOf pool12 2 #[] #[] 1537 4 #[] #[])
  fields := #[]
  methods := #[]
  instanceTypes := #[]
  staticTypes := #[]
  resolved := Array.replicate 8 none
  statics := none }

/-- the primitive byte -/
def k13 : Class := { plain "byte" none with kind := .primitive 'B', accessFlags := 0x411 }
/-- [B -/
def k14 : Class := { plain "[B" (some 0) with kind := .array 13 .byte, interfaces := #[12, 2], accessFlags := 1041 }

/-- the primitive int -/
def k15 : Class := { plain "int" none with kind := .primitive 'I', accessFlags := 0x411 }
/-- [I -/
def k16 : Class := { plain "[I" (some 0) with kind := .array 15 .int, interfaces := #[12, 2], accessFlags := 1041 }

def heap : Heap := #[{ cls := 7, slots := #[.long 0, .int 1, .null, .int 0, .null, .int 0, .int 0], vm := .statics 7 },
  { cls := 9, slots := #[.null, .null, .null], vm := .statics 9 }]
def classes : Array Class := #[k0, k1, k2, k3, k4, k5, k6, k7, k8, k9, k10, k11, k12, k13, k14, k15, k16]
def interned : List (Array UInt16 × Addr) := []
def slotsUsed : Nat := 10
def theMethod : MethodId := ⟨1, 2⟩
def args0 : Array Value := #[.int 5]
def aboutOver (below : List Frame) : State where
  vm := { classes := classes, interned := interned.toArray }
  heap := heap
  slotsUsed := slotsUsed
  threads := #[{ frames := .invoking theMethod args0 :: below }]
def below0 : List Frame := [.native { method := ⟨0, 0⟩, args := #[] }]
def about1 : State := aboutOver below0
def p0 : Program := .bare "" "" ""
def e0 : Env := launch0.env 0 0 0
theorem w_frames : about1.frames = Frame.invoking theMethod args0 :: below0 := rfl
set_option maxRecDepth 65536 in
theorem w_args : argsFit about1.vm theMethod args0 = true := by decide +kernel
set_option maxRecDepth 65536 in
theorem w_heap : heapFits about1 = true := by decide +kernel
set_option maxRecDepth 65536 in
theorem w_runnable : about1.curStatus? = some .runnable := by decide +kernel
set_option maxRecDepth 65536 in
theorem w_alone : about1.alone = true := by decide +kernel
set_option maxRecDepth 65536 in
theorem w_named : about1.methodNamed? x = some theMethod := by decide +kernel
set_option maxRecDepth 65536 in
theorem w_hears : about1.hears theMethod below0 = true := by decide +kernel
set_option maxRecDepth 65536 in
theorem w_ripe : about1.ripe theMethod args0 below0 = true := by decide +kernel
theorem w_running : about1.status = .running := rfl
set_option maxRecDepth 65536 in
theorem w_room : about1.hasRoom e0.platform room_1 = true :=
  launch0.hasRoom_least _ room_1 (by decide +kernel) (by decide +kernel) (by decide +kernel) (by decide +kernel) (by decide +kernel) (by decide +kernel)
theorem allAtoms_all (ts : List Jvm.Cond) (a : Array Jvm.Value) (st : Jvm.State) : (allAtoms ts).before a st = ts.all (fun c => c.before a st) := by
  induction ts with
  | nil => rfl
  | cons c t ih =>
    show (Jvm.Cond.and c (allAtoms t)).before a st = _
    rw [Jvm.Cond.before_and, ih, List.all_cons]
def words1 : List Jvm.Cond := Jvm.Cond.code x code maxLocals ret :: tables_1
/-- a 'code' word, met by the world's own term for the bytes: nothing is compared byte by byte -/
theorem code_word {y : MethodName} {bytes : ByteArray} {mx : Nat} {rt : Option FieldType} {a : Array Value} {s : State} {m : MethodId} {meth : Method} {c : Code} (h1 : s.methodNamed? y = some m) (h2 : s.vm.method? m = some meth) (h3 : meth.code = some c) (h4 : c.code = bytes)
    (h5 : (c.maxLocals == mx && c.exceptionTable.isEmpty && decide (c.maxStack ≤ mostOperands) && decide (meth.sig.returnType = rt) && !meth.locks && decide (parseMethodDescriptor y.desc = some meth.sig)) = true) : (Jvm.Cond.code y bytes mx rt).before a s = true := by
  simp only [Bool.and_eq_true, beq_iff_eq, Bool.not_eq_true', decide_eq_true_eq] at h5
  obtain ⟨⟨⟨⟨⟨g1, g2⟩, g3⟩, g4⟩, g5⟩, g6⟩ := h5
  simp [Cond.before, Cond.holds, Cond.value, h1, h2, h3, h4, g1, g2, g3, g4, g5, g6]
def isCode : Jvm.Cond → Bool
  | .code _ _ _ _ => true
  | _ => false
theorem all_split {L : List Jvm.Cond} {P : Jvm.Cond → Bool} (h1 : L.all (fun c => isCode c || P c) = true) (h2 : ∀ c ∈ L.filter isCode, P c = true) : L.all P = true := by
  refine List.all_eq_true.mpr fun c hc => ?_
  have h := List.all_eq_true.mp h1 c hc
  rcases Bool.eq_false_or_eq_true (isCode c) with hi | hi
  · exact h2 c (List.mem_filter.mpr ⟨hc, hi⟩)
  · simpa [hi] using h
set_option maxRecDepth 65536 in
theorem w_c0 : (Jvm.Cond.code x code maxLocals ret).before args0 about1 = true := code_word (m := ⟨1, 2⟩) (meth := k1m2) (c := k1c2) (by decide +kernel) rfl rfl rfl (by decide +kernel)
set_option maxRecDepth 65536 in
theorem w_c1 : (Jvm.Cond.code ({ cls := "com/example/oyster/oyster/engine/LiteralsIsDigitPinLaw", name := "inTable", desc := "(C)Z" } : Jvm.MethodName) method_2_code (3 : Nat) (Option.some Jvm.ClassFile.FieldType.boolean)).before args0 about1 = true := code_word (m := ⟨1, 1⟩) (meth := k1m1) (c := k1c1) (by decide +kernel) rfl rfl rfl (by decide +kernel)
set_option maxRecDepth 65536 in
theorem w_c2 : (Jvm.Cond.code ({ cls := "java/lang/String", name := "charAt", desc := "(I)C" } : Jvm.MethodName) jdk_42_method_56_code (2 : Nat) (Option.some Jvm.ClassFile.FieldType.char)).before args0 about1 = true := code_word (m := ⟨7, 1⟩) (meth := k7m1) (c := k7c1) (by decide +kernel) rfl rfl rfl (by decide +kernel)
set_option maxRecDepth 65536 in
theorem w_c3 : (Jvm.Cond.code ({ cls := "java/lang/String", name := "isLatin1", desc := "()Z" } : Jvm.MethodName) jdk_42_method_154_code (1 : Nat) (Option.some Jvm.ClassFile.FieldType.boolean)).before args0 about1 = true := code_word (m := ⟨7, 2⟩) (meth := k7m2) (c := k7c2) (by decide +kernel) rfl rfl rfl (by decide +kernel)
set_option maxRecDepth 65536 in
theorem w_c4 : (Jvm.Cond.code ({ cls := "java/lang/StringLatin1", name := "charAt", desc := "([BI)C" } : Jvm.MethodName) jdk_43_method_2_code (2 : Nat) (Option.some Jvm.ClassFile.FieldType.char)).before args0 about1 = true := code_word (m := ⟨8, 1⟩) (meth := k8m1) (c := k8c1) (by decide +kernel) rfl rfl rfl (by decide +kernel)
set_option maxRecDepth 65536 in
theorem w_c5 : (Jvm.Cond.code ({ cls := "java/lang/String", name := "checkIndex", desc := "(II)V" } : Jvm.MethodName) jdk_42_method_155_code (2 : Nat) (Option.none : Option Jvm.ClassFile.FieldType)).before args0 about1 = true := code_word (m := ⟨7, 3⟩) (meth := k7m3) (c := k7c3) (by decide +kernel) rfl rfl rfl (by decide +kernel)
set_option maxRecDepth 65536 in
theorem w_c6 : (Jvm.Cond.code ({ cls := "jdk/internal/util/Preconditions", name := "checkIndex", desc := "(IILjava/util/function/BiFunction;)I" } : Jvm.MethodName) jdk_41_method_11_code (3 : Nat) (Option.some Jvm.ClassFile.FieldType.int)).before args0 about1 = true := code_word (m := ⟨9, 1⟩) (meth := k9m1) (c := k9c1) (by decide +kernel) rfl rfl rfl (by decide +kernel)
set_option maxRecDepth 65536 in
theorem w_c7 : (Jvm.Cond.code ({ cls := "com/example/oyster/oyster/engine/Literals", name := "isDigit", desc := "(C)Z" } : Jvm.MethodName) prog_13_method_4_code (1 : Nat) (Option.some Jvm.ClassFile.FieldType.boolean)).before args0 about1 = true := code_word (m := ⟨10, 1⟩) (meth := k10m1) (c := k10c1) (by decide +kernel) rfl rfl rfl (by decide +kernel)
def codes1 : List Jvm.Cond := [Jvm.Cond.code x code maxLocals ret, Jvm.Cond.code ({ cls := "com/example/oyster/oyster/engine/LiteralsIsDigitPinLaw", name := "inTable", desc := "(C)Z" } : Jvm.MethodName) method_2_code (3 : Nat) (Option.some Jvm.ClassFile.FieldType.boolean), Jvm.Cond.code ({ cls := "java/lang/String", name := "charAt", desc := "(I)C" } : Jvm.MethodName) jdk_42_method_56_code (2 : Nat) (Option.some Jvm.ClassFile.FieldType.char), Jvm.Cond.code ({ cls := "java/lang/String", name := "isLatin1", desc := "()Z" } : Jvm.MethodName) jdk_42_method_154_code (1 : Nat) (Option.some Jvm.ClassFile.FieldType.boolean), Jvm.Cond.code ({ cls := "java/lang/StringLatin1", name := "charAt", desc := "([BI)C" } : Jvm.MethodName) jdk_43_method_2_code (2 : Nat) (Option.some Jvm.ClassFile.FieldType.char), Jvm.Cond.code ({ cls := "java/lang/String", name := "checkIndex", desc := "(II)V" } : Jvm.MethodName) jdk_42_method_155_code (2 : Nat) (Option.none : Option Jvm.ClassFile.FieldType), Jvm.Cond.code ({ cls := "jdk/internal/util/Preconditions", name := "checkIndex", desc := "(IILjava/util/function/BiFunction;)I" } : Jvm.MethodName) jdk_41_method_11_code (3 : Nat) (Option.some Jvm.ClassFile.FieldType.int), Jvm.Cond.code ({ cls := "com/example/oyster/oyster/engine/Literals", name := "isDigit", desc := "(C)Z" } : Jvm.MethodName) prog_13_method_4_code (1 : Nat) (Option.some Jvm.ClassFile.FieldType.boolean)]
set_option maxRecDepth 65536 in
theorem codes_eq : words1.filter isCode = codes1 := rfl
theorem w_codes : ∀ c ∈ words1.filter isCode, c.before args0 about1 = true := by
  rw [codes_eq]
  intro c hc
  simp only [codes1, List.mem_cons, List.not_mem_nil, or_false] at hc
  rcases hc with rfl | rfl | rfl | rfl | rfl | rfl | rfl | rfl
  · exact w_c0
  · exact w_c1
  · exact w_c2
  · exact w_c3
  · exact w_c4
  · exact w_c5
  · exact w_c6
  · exact w_c7
set_option maxRecDepth 65536 in
theorem w_t1 : (words1.take 24).all (fun c => isCode c || c.before args0 about1) = true := by decide +kernel
set_option maxRecDepth 65536 in
theorem w_t2 : (words1.drop 24).all (fun c => isCode c || c.before args0 about1) = true := by decide +kernel
theorem w_tables : (allAtoms (Jvm.Cond.code x code maxLocals ret :: tables_1)).before args0 about1 = true := by
  rw [allAtoms_all]
  show words1.all (fun c => c.before args0 about1) = true
  refine all_split ?_ w_codes
  rw [← List.take_append_drop 24 words1, List.all_append, w_t1, w_t2]
  rfl
set_option maxRecDepth 65536 in
theorem w_rest : rest_1_c.before args0 about1 = true := by decide +kernel
set_option maxRecDepth 65536 in
theorem w_case : (Jvm.Cond.and given_1 narrow_1).before args0 about1 = true := by decide +kernel
set_option maxRecDepth 65536 in
theorem w_consts : constsHeld consts_1 about1 := Jvm.Lit.constsHeldB_iff.mp (by decide +kernel)
theorem w_applies : (headSpec (Jvm.Cond.code x code maxLocals ret :: tables_1) room_1).applies x e0.platform about1 = true :=
  (Spec.applies_iff w_frames).mpr ⟨w_running, w_runnable, w_alone, w_named, w_hears, w_ripe, w_room, w_tables⟩
theorem atStart : AtStart classFile x code maxLocals ret World_1 tables_1 room_1 Calls_1 rest_1 Pre_1 launch0 p0 e0 about1 theMethod args0 below0 :=
  ⟨lists_1, trivial, launch0.admits_env _ _ _, launch0.least_env, fairChoices_fair.cas, fairChoices_fair.clock, w_frames, w_args, w_heap, w_applies, ⟨w_consts, trivial⟩, w_rest, w_case⟩
end start1
theorem witness_1 : WitnessClaimed_1 := ⟨start1.p0, start1.e0, start1.about1, start1.theMethod, start1.args0, start1.below0, start1.atStart⟩
end Jvm.Pilot.@@N@@
