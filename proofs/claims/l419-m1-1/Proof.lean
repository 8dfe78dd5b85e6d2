import JvmDerived
import JvmDerived.Pilot.@@N@@Statement
import JvmDerived.Pilot.@@N@@Code
set_option linter.unusedVariables false
set_option linter.unusedSimpArgs false
namespace Jvm.RoadKit
open Sem ClassFile Op Lib Jvm.Stand Jvm.Free Jvm.LawKit
section New
variable {p : Program} {l : Launch} {e : Env} {R : Room} {s : State} {m : MethodId} {args : Array Value} {below : List Frame} {meth : Method} {c : Code} {T : State} {locs : List Loc} {cells slots : Nat}
theorem retI (X : Stand p l e R s m args below meth c T locs cells slots) (hx : p.tables.exec = Jvm.exec) {pc : Nat} {Ls : Array Slot} {z : Int32} {rest : List Value} (hret : meth.sig.returnType = some .int) (hd : decode c.code pc = .ok (.ireturn, 1)) {fs : List Frame}
    (hl : ∀ (f : JFrame) (acts : List Action), f.method = m → f.locked = none → f.entered = [] → (doReturn e (T.setTop f) acts (some (.int z))).1 = T.setFrames fs) : Steps p.tables e below (T.setTop (mkF m pc Ls (.int z :: rest))) (T.setFrames fs) :=
  retOut X hx hret rfl (Or.inl ⟨rfl, Or.inl rfl, z, rfl⟩) hd hl
end New
end Jvm.RoadKit
namespace Jvm.Pilot.@@N@@
open Jvm Jvm.ClassFile Sem Op Lib Jvm.Free Jvm.Stand Jvm.LawKit Jvm.RoadKit Bundle Jvm.Pilot.@@N@@.Jvm.D
theorem own_selpriv {s : State} {args : Array Value} {y : MethodName} {n : Nat} (hins : (Jvm.Cond.instantiable y.cls n).before args s = true) (hpriv : (Jvm.Cond.privateMethod y).before args s = true) (hinst : (Jvm.Cond.instanceMethod y).before args s = true) (hy : y.cls ≠ "java/lang/invoke/MethodHandle" ∧ y.cls ≠ "java/lang/invoke/VarHandle") :
    (Jvm.Cond.selects y.cls y y).before args s = true := by
  obtain ⟨c, k, hc, hk, -, hniab, -, -⟩ := Cond.instantiable_spec hins
  have hni : k.isInterface = false := (Bool.or_eq_false_iff.mp hniab).1
  obtain ⟨mk, methM, hnamed, hmethM, -, -⟩ := Cond.instanceMethod_spec hinst
  have hfound : s.methodFound? y.cls y.name y.desc = some mk := State.methodFound?_of_named hnamed hy
  have hcls : mk.cls = c := Option.some.inj ((findClass_of_methodNamed hnamed).symm.trans hc)
  have hsel : selectMethod {} s.vm c mk = .method mk := selectMethod_private hmethM (Cond.privateMethod_at hpriv mk methM hnamed hmethM)
  simp only [Cond.before, Cond.holds, Cond.value, hc, hfound, hnamed, hsel, hcls, hk]
  simp; exact hni
theorem own_nsE {Z : State} {h : Heap} {a : Addr} {C : String} (F : Exa Z h a C) : ∀ c : Cell, h[a]? = some c → c.vm.isStatics = false := by
  obtain ⟨c, k, h1, -, -, h4, -⟩ := F
  intro c' hc; cases h1.symm.trans hc; exact h4
theorem own_nsV {Z : State} {h : Heap} {a : Addr} {k : ClassId} {ty : FieldType} {z : Int32} {vs : List Value} {dv : Value} (F : Arv Z h a k ty z vs dv) : ∀ c : Cell, h[a]? = some c → c.vm.isStatics = false := by
  obtain ⟨c, A, -⟩ := F
  intro c' hc; cases A.1.symm.trans hc; exact A.plain
theorem own_stakeep {Z : State} {h h' : Heap} {C n d : String} {v : Value} {ws : List Addr} (F : Sta Z h C n d v) (K : Keep h h' ws) (q : ∀ x ∈ ws, ∀ c : Cell, h[x]? = some c → c.vm.isStatics = false) : Sta Z h' C n d v := by
  obtain ⟨cf, i, k, f, st, cell, h1, h2, h3, h4, h5, h6, h7⟩ := F
  refine ⟨cf, i, k, f, st, cell, h1, h2, h3, h4, K.2.1 _ _ h5 (fun hm => ?_), h6, h7⟩
  rw [q st hm cell h5] at h6; cases h6
theorem own_ex {args : Array Value} {s : State} {t : Term} {C : String} (h : (Jvm.Cond.exactly t C).value args s none s [] = some true) : ∃ a, t.eval args s none [] s = some (.ref a) ∧ Exa s s.heap a C := by
  obtain ⟨a, e1⟩ := exa_v h; exact ⟨a, e1, Exa.start e1 h⟩
theorem own_evI {args : Array Value} {s : State} {t : Term} {z : Int32} (h : (Jvm.Cond.eq t (.int z)).value args s none s [] = some true) : t.eval args s none [] s = some (.int z) := by
  cases hv : t.eval args s none [] s with
  | none => simp [Cond.value, hv] at h
  | some x => cases x <;> simp [Cond.value, Term.eval, hv] at h ⊢; exact h
theorem own_evJ {args : Array Value} {s : State} {t : Term} {z : Int64} (h : (Jvm.Cond.eq t (.long z)).value args s none s [] = some true) : t.eval args s none [] s = some (.long z) := by
  cases hv : t.eval args s none [] s with
  | none => simp [Cond.value, hv] at h
  | some x => cases x <;> simp [Cond.value, Term.eval, hv] at h ⊢; exact h
theorem own_fldV {args : Array Value} {s : State} {t : Term} {a : Addr} {C n d : String} {v : Value} (ev : t.eval args s none [] s = some (.ref a)) (h : (Term.field t C n d).eval args s none [] s = some v) : Fld s s.heap a C n d v := by
  refine Fld.start ?_
  rw [← fld_at (args := args) (first := s) (o := none) (idx := []) ev]; exact h
theorem own_lt (a b : Int32) : a < b ↔ a.toInt < b.toInt := Int32.lt_iff_toInt_lt
theorem own_le (a b : Int32) : a ≤ b ↔ a.toInt ≤ b.toInt := Int32.le_iff_toInt_le
theorem own_eqi (a b : Int32) : a = b ↔ a.toInt = b.toInt := Int32.toInt_inj.symm
theorem own_ltL (a b : Int64) : a < b ↔ a.toInt < b.toInt := Int64.lt_iff_toInt_lt
theorem own_eqL (a b : Int64) : a = b ↔ a.toInt = b.toInt := Int64.toInt_inj.symm
theorem own_evR {args : Array Value} {s : State} {t u : Term} {a : Addr} (h : (Jvm.Cond.eq t u).value args s none s [] = some true) (hu : u.eval args s none [] s = some (.ref a)) : t.eval args s none [] s = some (.ref a) := by
  cases hv : t.eval args s none [] s with
  | none => simp [Cond.value, hv] at h
  | some x => cases x <;> simp [Cond.value, hu, hv] at h ⊢; exact h
theorem own_len {args : Array Value} {s : State} {t : Term} {a : Addr} {cl : Cell} {z : Int32} (ev : t.eval args s none [] s = some (.ref a)) (hc : s.arrayAt? a = some cl) (h : (Term.length t).eval args s none [] s = some (.int z)) : cl.slots.size < 2 ^ 31 ∧ cl.slots.size.toInt32 = z := by
  by_cases q : cl.slots.size < 2147483648
  · simp [Term.eval, ev, hc, q] at h; exact ⟨q, h⟩
  · simp [Term.eval, ev, hc, q] at h
theorem own_pos (x : Int32) : 0 ≤ (x &&& (2147483647 : Int32)).toInt ∧ (x &&& (2147483647 : Int32)).toInt < 2147483648 := by
  have h := c_mask x 2147483647 31 (by decide) (by decide)
  rw [h]; omega
theorem own_mod7 (x : Int32) : (x &&& (2147483647 : Int32)) % (7 : Int32) = (0 : Int32) ∨ (x &&& (2147483647 : Int32)) % (7 : Int32) = (1 : Int32) ∨ (x &&& (2147483647 : Int32)) % (7 : Int32) = (2 : Int32) ∨ (x &&& (2147483647 : Int32)) % (7 : Int32) = (3 : Int32) ∨ (x &&& (2147483647 : Int32)) % (7 : Int32) = (4 : Int32) ∨ (x &&& (2147483647 : Int32)) % (7 : Int32) = (5 : Int32) ∨ (x &&& (2147483647 : Int32)) % (7 : Int32) = (6 : Int32) := by
  have h := own_pos x
  have q := (c_irem (x &&& (2147483647 : Int32)) (7 : Int32) 7 rfl).1 h.1
  simp only [own_eqi]
  rw [q]
  rw [show (0 : Int32).toInt = 0 from rfl, show (1 : Int32).toInt = 1 from rfl, show (2 : Int32).toInt = 2 from rfl, show (3 : Int32).toInt = 3 from rfl, show (4 : Int32).toInt = 4 from rfl, show (5 : Int32).toInt = 5 from rfl, show (6 : Int32).toInt = 6 from rfl]
  omega

def own_bit (p i : Int32) : Int32 := if ((p >>> (i &&& 31)) &&& (1 : Int32)) = (0 : Int32) then (0 : Int32) else (1 : Int32)
def own_c (x c : Int32) : Int32 := if x = (0 : Int32) then c else (c + (1 : Int32))
def own_e (x c : Int32) : Int32 := if x = (0 : Int32) then (-1 : Int32) else c
theorem pn_0 : plainName "com/example/leanweave/leanweave/NetworkNumberingPinLaw" = true := by first | (simp [plainName, overriddenIn]; done) | decide +kernel
theorem d1_0 : decode method_3_code 0 = .ok (.iload_n 3, 1) := by decide +kernel
theorem d1_1 : decode method_3_code 1 = .ok (.iload_n 1, 1) := by decide +kernel
theorem d1_2 : decode method_3_code 2 = .ok (.if_icmp .ge 19, 3) := by decide +kernel
theorem d1_21 : decode method_3_code 21 = .ok (.return_, 1) := by decide +kernel
theorem ef_1 (m : MethodId) (a1_0 : Addr) (p1_1 : Int32) (p1_2 : Int32) (p1_3 : Int32) : entryFrame m #[(.ref a1_0), (.int p1_1), (.int p1_2), (.int p1_3)] 4 = mkF m 0 #[.val (.ref a1_0), .val (.int p1_1), .val (.int p1_2), .val (.int p1_3)] [] := by first | (simp [entryFrame, mkF, argsToLocals, Value.category]; done) | rfl
def Q1 (Z : State) (a1_0 : Addr) (p1_1 : Int32) (p1_2 : Int32) (p1_3 : Int32) (h0 : Heap) (n0 : Nat) (v : Option Value) (h : Heap) (L : List Loc) : Prop := v = none ∧ Fr n0 L ∧ h = h0
set_option maxRecDepth 65536 in
set_option maxHeartbeats 40000000 in
theorem rm1 (l : Launch) (Z : State) (a0 : Array Value) (hw : ∀ d ∈ tables_1, d.before a0 Z = true) (ws : List Jvm.Cond) (a1_0 : Addr) (p1_1 : Int32) (p1_2 : Int32) (p1_3 : Int32) (h0 : Heap) (n0 : Nat) (Z0 : n0 ≤ h0.size) (hge : ¬ (p1_3 < p1_1)) :
    MetFree l (⟨"com/example/leanweave/leanweave/NetworkNumberingPinLaw", "set", "([ZIII)V"⟩ : MethodName) (head1 (Jvm.Cond.code (⟨"com/example/leanweave/leanweave/NetworkNumberingPinLaw", "set", "([ZIII)V"⟩ : MethodName) method_3_code 4 none :: ws) ({ frames := 0, cells := 0, slots := 0, locals := 0 } : Room)) (fun a U => a = #[(.ref a1_0), (.int p1_1), (.int p1_2), (.int p1_3)] ∧ Z.Warmed39 U.vm ∧ U.heap = h0) (fun _ _ _ _ _ => True) (fun _ U o U' => ∃ v L, o = .returned v ∧ Q1 Z a1_0 p1_1 p1_2 p1_3 h0 n0 v U'.heap L ∧ FrameEnd U o U' L ({ frames := 0, cells := 0, slots := 0, locals := 0 } : Room).cells ({ frames := 0, cells := 0, slots := 0, locals := 0 } : Room).slots) := by
  refine MetFree.of_bodySF (plainFor_of_name pn_0) hisR ?_
  intro p e s m args below meth c s₁ Bd hml0 hP hK
  obtain ⟨rfl, hZ, hh⟩ := hP
  have hx := Bd.exec
  have hby := Bd.bytes
  have hml : c.maxLocals = 4 := hml0
  have hown : s.vm.findClass "com/example/leanweave/leanweave/NetworkNumberingPinLaw" = some m.cls := findClass_of_methodNamed Bd.named
  have hnm := (name_of_methodNamed Bd.named Bd.method).1
  have X0 : Stand p l e ({ frames := 0, cells := 0, slots := 0, locals := 0 } : Room) s m #[(.ref a1_0), (.int p1_1), (.int p1_2), (.int p1_3)] below meth c s₁ [] 0 0 := Stand.of_body Bd
  have e0 : s₁.heap = h0 := by rw [← hh, Bd.state]; rfl
  have N0 := Fr.nil n0
  have pre0 : ∀ t, Steps p.tables e below (s₁.setTop (mkF m 0 #[.val (.ref a1_0), .val (.int p1_1), .val (.int p1_2), .val (.int p1_3)] [])) t → Steps p.tables e below (s₁.setTop (entryFrame m #[(.ref a1_0), (.int p1_1), (.int p1_2), (.int p1_3)] 4)) t := fun t k => castTop (ef_1 m a1_0 p1_1 p1_2 p1_3) k
  have k1 : ∀ t, Steps p.tables e below (s₁.setTop (mkF m 21 #[.val (.ref a1_0), .val (.int p1_1), .val (.int p1_2), .val (.int p1_3)] [])) t → Steps p.tables e below (s₁.setTop (entryFrame m #[(.ref a1_0), (.int p1_1), (.int p1_2), (.int p1_3)] 4)) t := by
    intro t k
    refine pre0 t ?_
    show Steps p.tables e below (s₁.setTop (mkF m 0 #[.val (.ref a1_0), .val (.int p1_1), .val (.int p1_2), .val (.int p1_3)] [])) _
    refine XS.iloadN X0.here hx rfl (hb hby d1_0) rfl ?_
    show Steps p.tables e below (s₁.setTop (mkF m 1 #[.val (.ref a1_0), .val (.int p1_1), .val (.int p1_2), .val (.int p1_3)] [(.int p1_3)])) _
    refine XS.iloadN X0.here hx rfl (hb hby d1_1) rfl ?_
    show Steps p.tables e below (s₁.setTop (mkF m 2 #[.val (.ref a1_0), .val (.int p1_1), .val (.int p1_2), .val (.int p1_3)] [(.int p1_1), (.int p1_3)])) _
    refine XS.icmpYes X0.here hx rfl (pc0 := 2) (pc' := 21) rfl (hb hby d1_2) rfl (flt hge).2.1 (by decide) (by decide) ?_
    exact k
  obtain ⟨fs, hr, hrun, hended, hW, hsame⟩ := X0.leave (v := none) (fun _ => rfl)
  refine ⟨_, _, k1 _ ?_, hrun, hended, _, _, rfl, ?_, ⟨_, rfl⟩, hW, hsame.mono (by decide) (by decide)⟩
  · exact X0.returnOut hx Bd.returns (hb hby d1_21) hr
  · show Q1 Z a1_0 p1_1 p1_2 p1_3 h0 n0 _ s₁.heap _
    rw [e0]
    exact ⟨rfl, N0, rfl⟩
theorem d20_0 : decode method_3_code 0 = .ok (.iload_n 3, 1) := by decide +kernel
theorem d20_1 : decode method_3_code 1 = .ok (.iload_n 1, 1) := by decide +kernel
theorem d20_2 : decode method_3_code 2 = .ok (.if_icmp .ge 19, 3) := by decide +kernel
theorem d20_5 : decode method_3_code 5 = .ok (.aload_n 0, 1) := by decide +kernel
theorem d20_6 : decode method_3_code 6 = .ok (.iload_n 3, 1) := by decide +kernel
theorem d20_7 : decode method_3_code 7 = .ok (.iload_n 2, 1) := by decide +kernel
theorem d20_8 : decode method_3_code 8 = .ok (.iload_n 3, 1) := by decide +kernel
theorem d20_9 : decode method_3_code 9 = .ok (.ishr, 1) := by decide +kernel
theorem d20_10 : decode method_3_code 10 = .ok (.iconst 1, 1) := by decide +kernel
theorem d20_11 : decode method_3_code 11 = .ok (.iand, 1) := by decide +kernel
theorem d20_12 : decode method_3_code 12 = .ok (.ifCond .eq 7, 3) := by decide +kernel
theorem d20_15 : decode method_3_code 15 = .ok (.iconst 1, 1) := by decide +kernel
theorem d20_16 : decode method_3_code 16 = .ok (.goto 4, 3) := by decide +kernel
theorem d20_19 : decode method_3_code 19 = .ok (.iconst 0, 1) := by decide +kernel
theorem d20_20 : decode method_3_code 20 = .ok (.bastore, 1) := by decide +kernel
theorem d20_21 : decode method_3_code 21 = .ok (.return_, 1) := by decide +kernel
theorem ef_20 (m : MethodId) (a20_0 : Addr) (p20_1 : Int32) (p20_2 : Int32) : entryFrame m #[(.ref a20_0), (.int p20_1), (.int p20_2), (.int (0 : Int32))] 4 = mkF m 0 #[.val (.ref a20_0), .val (.int p20_1), .val (.int p20_2), .val (.int (0 : Int32))] [] := by first | (simp [entryFrame, mkF, argsToLocals, Value.category]; done) | rfl
def Q20 (Z : State) (a20_0 : Addr) (p20_1 : Int32) (p20_2 : Int32) (kk : ClassId) (zz : Int32) (y0 : Value) (y1 : Value) (y2 : Value) (y3 : Value) (y4 : Value) (y5 : Value) (h0 : Heap) (n0 : Nat) (v : Option Value) (h : Heap) (L : List Loc) : Prop := v = none ∧ Fr n0 L ∧ Keep h0 h [a20_0] ∧ Arv Z h a20_0 kk .boolean zz [(.int (own_bit p20_2 (0 : Int32))), y1, y2, y3, y4, y5] (.int (0 : Int32))
set_option maxRecDepth 65536 in
set_option maxHeartbeats 40000000 in
theorem rm20 (l : Launch) (Z : State) (a0 : Array Value) (hw : ∀ d ∈ tables_1, d.before a0 Z = true) (ws : List Jvm.Cond) (a20_0 : Addr) (p20_1 : Int32) (p20_2 : Int32) (kk : ClassId) (zz : Int32) (y0 : Value) (y1 : Value) (y2 : Value) (y3 : Value) (y4 : Value) (y5 : Value) (h0 : Heap) (n0 : Nat) (Z0 : n0 ≤ h0.size) (Vb : Arv Z h0 a20_0 kk .boolean zz [y0, y1, y2, y3, y4, y5] (.int (0 : Int32))) (hlt : (0 : Int32) < p20_1) (hz : (0 : Int32) < zz) (g_a20_0 : n0 ≤ a20_0) :
    MetFree l (⟨"com/example/leanweave/leanweave/NetworkNumberingPinLaw", "set", "([ZIII)V"⟩ : MethodName) (head1 (Jvm.Cond.code (⟨"com/example/leanweave/leanweave/NetworkNumberingPinLaw", "set", "([ZIII)V"⟩ : MethodName) method_3_code 4 none :: ws) ({ frames := 0, cells := 0, slots := 0, locals := 0 } : Room)) (fun a U => a = #[(.ref a20_0), (.int p20_1), (.int p20_2), (.int (0 : Int32))] ∧ Z.Warmed39 U.vm ∧ U.heap = h0) (fun _ _ _ _ _ => True) (fun _ U o U' => ∃ v L, o = .returned v ∧ Q20 Z a20_0 p20_1 p20_2 kk zz y0 y1 y2 y3 y4 y5 h0 n0 v U'.heap L ∧ FrameEnd U o U' L ({ frames := 0, cells := 0, slots := 0, locals := 0 } : Room).cells ({ frames := 0, cells := 0, slots := 0, locals := 0 } : Room).slots) := by
  refine MetFree.of_bodySF (plainFor_of_name pn_0) hisR ?_
  intro p e s m args below meth c s₁ Bd hml0 hP hK
  obtain ⟨rfl, hZ, hh⟩ := hP
  have hx := Bd.exec
  have hby := Bd.bytes
  have hml : c.maxLocals = 4 := hml0
  have hown : s.vm.findClass "com/example/leanweave/leanweave/NetworkNumberingPinLaw" = some m.cls := findClass_of_methodNamed Bd.named
  have hnm := (name_of_methodNamed Bd.named Bd.method).1
  have X0 : Stand p l e ({ frames := 0, cells := 0, slots := 0, locals := 0 } : Room) s m #[(.ref a20_0), (.int p20_1), (.int p20_2), (.int (0 : Int32))] below meth c s₁ [] 0 0 := Stand.of_body Bd
  have e0 : s₁.heap = h0 := by rw [← hh, Bd.state]; rfl
  have N0 := Fr.nil n0
  have pre0 : ∀ t, Steps p.tables e below (s₁.setTop (mkF m 0 #[.val (.ref a20_0), .val (.int p20_1), .val (.int p20_2), .val (.int (0 : Int32))] [])) t → Steps p.tables e below (s₁.setTop (entryFrame m #[(.ref a20_0), (.int p20_1), (.int p20_2), (.int (0 : Int32))] 4)) t := fun t k => castTop (ef_20 m a20_0 p20_1 p20_2) k
  have k1 : ∀ t, Steps p.tables e below (s₁.setTop (mkF m 12 #[.val (.ref a20_0), .val (.int p20_1), .val (.int p20_2), .val (.int (0 : Int32))] [(.int ((p20_2 >>> ((0 : Int32) &&& 31)) &&& (1 : Int32))), (.int (0 : Int32)), (.ref a20_0)])) t → Steps p.tables e below (s₁.setTop (entryFrame m #[(.ref a20_0), (.int p20_1), (.int p20_2), (.int (0 : Int32))] 4)) t := by
    intro t k
    refine pre0 t ?_
    show Steps p.tables e below (s₁.setTop (mkF m 0 #[.val (.ref a20_0), .val (.int p20_1), .val (.int p20_2), .val (.int (0 : Int32))] [])) _
    refine XS.iloadN X0.here hx rfl (hb hby d20_0) rfl ?_
    show Steps p.tables e below (s₁.setTop (mkF m 1 #[.val (.ref a20_0), .val (.int p20_1), .val (.int p20_2), .val (.int (0 : Int32))] [(.int (0 : Int32))])) _
    refine XS.iloadN X0.here hx rfl (hb hby d20_1) rfl ?_
    show Steps p.tables e below (s₁.setTop (mkF m 2 #[.val (.ref a20_0), .val (.int p20_1), .val (.int p20_2), .val (.int (0 : Int32))] [(.int p20_1), (.int (0 : Int32))])) _
    refine XS.icmpNo X0.here hx rfl (hb hby d20_2) rfl (tlt hlt).2.1 ?_
    show Steps p.tables e below (s₁.setTop (mkF m 5 #[.val (.ref a20_0), .val (.int p20_1), .val (.int p20_2), .val (.int (0 : Int32))] [])) _
    refine XS.aloadN X0.here hx rfl (hb hby d20_5) rfl rfl ?_
    show Steps p.tables e below (s₁.setTop (mkF m 6 #[.val (.ref a20_0), .val (.int p20_1), .val (.int p20_2), .val (.int (0 : Int32))] [(.ref a20_0)])) _
    refine XS.iloadN X0.here hx rfl (hb hby d20_6) rfl ?_
    show Steps p.tables e below (s₁.setTop (mkF m 7 #[.val (.ref a20_0), .val (.int p20_1), .val (.int p20_2), .val (.int (0 : Int32))] [(.int (0 : Int32)), (.ref a20_0)])) _
    refine XS.iloadN X0.here hx rfl (hb hby d20_7) rfl ?_
    show Steps p.tables e below (s₁.setTop (mkF m 8 #[.val (.ref a20_0), .val (.int p20_1), .val (.int p20_2), .val (.int (0 : Int32))] [(.int p20_2), (.int (0 : Int32)), (.ref a20_0)])) _
    refine XS.iloadN X0.here hx rfl (hb hby d20_8) rfl ?_
    show Steps p.tables e below (s₁.setTop (mkF m 9 #[.val (.ref a20_0), .val (.int p20_1), .val (.int p20_2), .val (.int (0 : Int32))] [(.int (0 : Int32)), (.int p20_2), (.int (0 : Int32)), (.ref a20_0)])) _
    refine XS.ishr X0.here hx rfl (hb hby d20_9) rfl ?_
    show Steps p.tables e below (s₁.setTop (mkF m 10 #[.val (.ref a20_0), .val (.int p20_1), .val (.int p20_2), .val (.int (0 : Int32))] [(.int (p20_2 >>> ((0 : Int32) &&& 31))), (.int (0 : Int32)), (.ref a20_0)])) _
    refine XS.iconst X0.here hx rfl (hb hby d20_10) ?_
    show Steps p.tables e below (s₁.setTop (mkF m 11 #[.val (.ref a20_0), .val (.int p20_1), .val (.int p20_2), .val (.int (0 : Int32))] [(.int (1 : Int32)), (.int (p20_2 >>> ((0 : Int32) &&& 31))), (.int (0 : Int32)), (.ref a20_0)])) _
    refine XS.iand X0.here hx rfl (hb hby d20_11) rfl ?_
    exact k
  obtain ⟨v3, hv3⟩ : ∃ z, z = (if ((p20_2 >>> ((0 : Int32) &&& 31)) &&& (1 : Int32)) = (0 : Int32) then (0 : Int32) else (1 : Int32)) := ⟨_, rfl⟩
  have k4 : ∀ t, Steps p.tables e below (s₁.setTop (mkF m 20 #[.val (.ref a20_0), .val (.int p20_1), .val (.int p20_2), .val (.int (0 : Int32))] [(.int v3), (.int (0 : Int32)), (.ref a20_0)])) t → Steps p.tables e below (s₁.setTop (entryFrame m #[(.ref a20_0), (.int p20_1), (.int p20_2), (.int (0 : Int32))] 4)) t := by
    intro t k
    refine k1 t ?_
    by_cases hc12_2 : ((p20_2 >>> ((0 : Int32) &&& 31)) &&& (1 : Int32)) = (0 : Int32)
    · skip
      show Steps p.tables e below (s₁.setTop (mkF m 12 #[.val (.ref a20_0), .val (.int p20_1), .val (.int p20_2), .val (.int (0 : Int32))] [(.int ((p20_2 >>> ((0 : Int32) &&& 31)) &&& (1 : Int32))), (.int (0 : Int32)), (.ref a20_0)])) _
      refine XS.ifYes X0.here hx rfl (pc0 := 12) (pc' := 19) rfl (hb hby d20_12) rfl ((if0 _ _).trans (teq hc12_2).1) (by decide) (by decide) ?_
      show Steps p.tables e below (s₁.setTop (mkF m 19 #[.val (.ref a20_0), .val (.int p20_1), .val (.int p20_2), .val (.int (0 : Int32))] [(.int (0 : Int32)), (.ref a20_0)])) _
      refine XS.iconst X0.here hx rfl (hb hby d20_19) ?_
      rw [show v3 = (0 : Int32) from hv3.trans (by rw [if_pos hc12_2])] at k
      exact k
    · skip
      show Steps p.tables e below (s₁.setTop (mkF m 12 #[.val (.ref a20_0), .val (.int p20_1), .val (.int p20_2), .val (.int (0 : Int32))] [(.int ((p20_2 >>> ((0 : Int32) &&& 31)) &&& (1 : Int32))), (.int (0 : Int32)), (.ref a20_0)])) _
      refine XS.ifNo X0.here hx rfl (hb hby d20_12) rfl ((if0 _ _).trans (feq hc12_2).1) ?_
      show Steps p.tables e below (s₁.setTop (mkF m 15 #[.val (.ref a20_0), .val (.int p20_1), .val (.int p20_2), .val (.int (0 : Int32))] [(.int (0 : Int32)), (.ref a20_0)])) _
      refine XS.iconst X0.here hx rfl (hb hby d20_15) ?_
      show Steps p.tables e below (s₁.setTop (mkF m 16 #[.val (.ref a20_0), .val (.int p20_1), .val (.int p20_2), .val (.int (0 : Int32))] [(.int (1 : Int32)), (.int (0 : Int32)), (.ref a20_0)])) _
      refine XS.goto X0.here hx rfl (pc0 := 16) (pc' := 20) rfl (hb hby d20_16) (by decide) (by decide) ?_
      rw [show v3 = (1 : Int32) from hv3.trans (by rw [if_neg hc12_2])] at k
      exact k
  obtain ⟨cl5, Ar5, qc5, Sz5, Nn5, Hh5, Gg5⟩ := (id Vb)
  have hin5 : ¬ ((0 : Int32) < 0 ∨ cl5.slots.size ≤ ((0 : Int32)).toNatClampNeg) := inb_of Sz5 ⟨by decide, hz⟩
  obtain ⟨T5, h5, X5, e5, W5, st5⟩ := stZ X0 hx hZ e0 Ar5 (j := (0 : Int32)) hin5 (g := (mkF m 20 #[.val (.ref a20_0), .val (.int p20_1), .val (.int p20_2), .val (.int (0 : Int32))] [(.int v3), (.int (0 : Int32)), (.ref a20_0)])) rfl rfl (hb hby d20_20)
  have V5 : Arv Z h5 a20_0 kk .boolean zz [(.int (nar .boolean v3)), y1, y2, y3, y4, y5] (.int (0 : Int32)) := Arv.set Ar5 qc5 Sz5 Nn5 Hh5 Gg5 (fits_nar_bool _) W5 0 rfl (Nat.le_of_ble_eq_true rfl)
  have N5 := Fr.snoc X5 N0 g_a20_0
  have K5 : Keep h0 h5 [a20_0] := (Keep.refl h0 [a20_0]).wr W5 (Or.inl (List.mem_of_getElem? (i := 0) rfl))
  have Zs5 : n0 ≤ h5.size := by rw [W5.size]; exact Z0
  have hq : (nar .boolean v3) = own_bit p20_2 (0 : Int32) := by rw [hv3]; unfold own_bit; split <;> rfl
  rw [hq] at V5
  have k7 : ∀ t, Steps p.tables e below (T5.setTop (mkF m 21 #[.val (.ref a20_0), .val (.int p20_1), .val (.int p20_2), .val (.int (0 : Int32))] [])) t → Steps p.tables e below (s₁.setTop (entryFrame m #[(.ref a20_0), (.int p20_1), (.int p20_2), (.int (0 : Int32))] 4)) t := by
    intro t k
    refine k4 t ?_
    show Steps p.tables e below (s₁.setTop (mkF m 20 #[.val (.ref a20_0), .val (.int p20_1), .val (.int p20_2), .val (.int (0 : Int32))] [(.int v3), (.int (0 : Int32)), (.ref a20_0)])) _
    refine st5 _ ?_
    exact k
  obtain ⟨fs, hr, hrun, hended, hW, hsame⟩ := X5.leave (v := none) (fun _ => rfl)
  refine ⟨_, _, k7 _ ?_, hrun, hended, _, _, rfl, ?_, ⟨_, rfl⟩, hW, hsame.mono (by decide) (by decide)⟩
  · exact X5.returnOut hx Bd.returns (hb hby d20_21) hr
  · show Q20 Z a20_0 p20_1 p20_2 kk zz y0 y1 y2 y3 y4 y5 h0 n0 _ T5.heap _
    rw [e5]
    exact ⟨rfl, N5, K5, V5⟩
theorem d21_0 : decode method_3_code 0 = .ok (.iload_n 3, 1) := by decide +kernel
theorem d21_1 : decode method_3_code 1 = .ok (.iload_n 1, 1) := by decide +kernel
theorem d21_2 : decode method_3_code 2 = .ok (.if_icmp .ge 19, 3) := by decide +kernel
theorem d21_5 : decode method_3_code 5 = .ok (.aload_n 0, 1) := by decide +kernel
theorem d21_6 : decode method_3_code 6 = .ok (.iload_n 3, 1) := by decide +kernel
theorem d21_7 : decode method_3_code 7 = .ok (.iload_n 2, 1) := by decide +kernel
theorem d21_8 : decode method_3_code 8 = .ok (.iload_n 3, 1) := by decide +kernel
theorem d21_9 : decode method_3_code 9 = .ok (.ishr, 1) := by decide +kernel
theorem d21_10 : decode method_3_code 10 = .ok (.iconst 1, 1) := by decide +kernel
theorem d21_11 : decode method_3_code 11 = .ok (.iand, 1) := by decide +kernel
theorem d21_12 : decode method_3_code 12 = .ok (.ifCond .eq 7, 3) := by decide +kernel
theorem d21_15 : decode method_3_code 15 = .ok (.iconst 1, 1) := by decide +kernel
theorem d21_16 : decode method_3_code 16 = .ok (.goto 4, 3) := by decide +kernel
theorem d21_19 : decode method_3_code 19 = .ok (.iconst 0, 1) := by decide +kernel
theorem d21_20 : decode method_3_code 20 = .ok (.bastore, 1) := by decide +kernel
theorem d21_21 : decode method_3_code 21 = .ok (.return_, 1) := by decide +kernel
theorem ef_21 (m : MethodId) (a21_0 : Addr) (p21_1 : Int32) (p21_2 : Int32) : entryFrame m #[(.ref a21_0), (.int p21_1), (.int p21_2), (.int (1 : Int32))] 4 = mkF m 0 #[.val (.ref a21_0), .val (.int p21_1), .val (.int p21_2), .val (.int (1 : Int32))] [] := by first | (simp [entryFrame, mkF, argsToLocals, Value.category]; done) | rfl
def Q21 (Z : State) (a21_0 : Addr) (p21_1 : Int32) (p21_2 : Int32) (kk : ClassId) (zz : Int32) (y0 : Value) (y1 : Value) (y2 : Value) (y3 : Value) (y4 : Value) (y5 : Value) (h0 : Heap) (n0 : Nat) (v : Option Value) (h : Heap) (L : List Loc) : Prop := v = none ∧ Fr n0 L ∧ Keep h0 h [a21_0] ∧ Arv Z h a21_0 kk .boolean zz [y0, (.int (own_bit p21_2 (1 : Int32))), y2, y3, y4, y5] (.int (0 : Int32))
set_option maxRecDepth 65536 in
set_option maxHeartbeats 40000000 in
theorem rm21 (l : Launch) (Z : State) (a0 : Array Value) (hw : ∀ d ∈ tables_1, d.before a0 Z = true) (ws : List Jvm.Cond) (a21_0 : Addr) (p21_1 : Int32) (p21_2 : Int32) (kk : ClassId) (zz : Int32) (y0 : Value) (y1 : Value) (y2 : Value) (y3 : Value) (y4 : Value) (y5 : Value) (h0 : Heap) (n0 : Nat) (Z0 : n0 ≤ h0.size) (Vb : Arv Z h0 a21_0 kk .boolean zz [y0, y1, y2, y3, y4, y5] (.int (0 : Int32))) (hlt : (1 : Int32) < p21_1) (hz : (1 : Int32) < zz) (g_a21_0 : n0 ≤ a21_0) :
    MetFree l (⟨"com/example/leanweave/leanweave/NetworkNumberingPinLaw", "set", "([ZIII)V"⟩ : MethodName) (head1 (Jvm.Cond.code (⟨"com/example/leanweave/leanweave/NetworkNumberingPinLaw", "set", "([ZIII)V"⟩ : MethodName) method_3_code 4 none :: ws) ({ frames := 0, cells := 0, slots := 0, locals := 0 } : Room)) (fun a U => a = #[(.ref a21_0), (.int p21_1), (.int p21_2), (.int (1 : Int32))] ∧ Z.Warmed39 U.vm ∧ U.heap = h0) (fun _ _ _ _ _ => True) (fun _ U o U' => ∃ v L, o = .returned v ∧ Q21 Z a21_0 p21_1 p21_2 kk zz y0 y1 y2 y3 y4 y5 h0 n0 v U'.heap L ∧ FrameEnd U o U' L ({ frames := 0, cells := 0, slots := 0, locals := 0 } : Room).cells ({ frames := 0, cells := 0, slots := 0, locals := 0 } : Room).slots) := by
  refine MetFree.of_bodySF (plainFor_of_name pn_0) hisR ?_
  intro p e s m args below meth c s₁ Bd hml0 hP hK
  obtain ⟨rfl, hZ, hh⟩ := hP
  have hx := Bd.exec
  have hby := Bd.bytes
  have hml : c.maxLocals = 4 := hml0
  have hown : s.vm.findClass "com/example/leanweave/leanweave/NetworkNumberingPinLaw" = some m.cls := findClass_of_methodNamed Bd.named
  have hnm := (name_of_methodNamed Bd.named Bd.method).1
  have X0 : Stand p l e ({ frames := 0, cells := 0, slots := 0, locals := 0 } : Room) s m #[(.ref a21_0), (.int p21_1), (.int p21_2), (.int (1 : Int32))] below meth c s₁ [] 0 0 := Stand.of_body Bd
  have e0 : s₁.heap = h0 := by rw [← hh, Bd.state]; rfl
  have N0 := Fr.nil n0
  have pre0 : ∀ t, Steps p.tables e below (s₁.setTop (mkF m 0 #[.val (.ref a21_0), .val (.int p21_1), .val (.int p21_2), .val (.int (1 : Int32))] [])) t → Steps p.tables e below (s₁.setTop (entryFrame m #[(.ref a21_0), (.int p21_1), (.int p21_2), (.int (1 : Int32))] 4)) t := fun t k => castTop (ef_21 m a21_0 p21_1 p21_2) k
  have k1 : ∀ t, Steps p.tables e below (s₁.setTop (mkF m 12 #[.val (.ref a21_0), .val (.int p21_1), .val (.int p21_2), .val (.int (1 : Int32))] [(.int ((p21_2 >>> ((1 : Int32) &&& 31)) &&& (1 : Int32))), (.int (1 : Int32)), (.ref a21_0)])) t → Steps p.tables e below (s₁.setTop (entryFrame m #[(.ref a21_0), (.int p21_1), (.int p21_2), (.int (1 : Int32))] 4)) t := by
    intro t k
    refine pre0 t ?_
    show Steps p.tables e below (s₁.setTop (mkF m 0 #[.val (.ref a21_0), .val (.int p21_1), .val (.int p21_2), .val (.int (1 : Int32))] [])) _
    refine XS.iloadN X0.here hx rfl (hb hby d21_0) rfl ?_
    show Steps p.tables e below (s₁.setTop (mkF m 1 #[.val (.ref a21_0), .val (.int p21_1), .val (.int p21_2), .val (.int (1 : Int32))] [(.int (1 : Int32))])) _
    refine XS.iloadN X0.here hx rfl (hb hby d21_1) rfl ?_
    show Steps p.tables e below (s₁.setTop (mkF m 2 #[.val (.ref a21_0), .val (.int p21_1), .val (.int p21_2), .val (.int (1 : Int32))] [(.int p21_1), (.int (1 : Int32))])) _
    refine XS.icmpNo X0.here hx rfl (hb hby d21_2) rfl (tlt hlt).2.1 ?_
    show Steps p.tables e below (s₁.setTop (mkF m 5 #[.val (.ref a21_0), .val (.int p21_1), .val (.int p21_2), .val (.int (1 : Int32))] [])) _
    refine XS.aloadN X0.here hx rfl (hb hby d21_5) rfl rfl ?_
    show Steps p.tables e below (s₁.setTop (mkF m 6 #[.val (.ref a21_0), .val (.int p21_1), .val (.int p21_2), .val (.int (1 : Int32))] [(.ref a21_0)])) _
    refine XS.iloadN X0.here hx rfl (hb hby d21_6) rfl ?_
    show Steps p.tables e below (s₁.setTop (mkF m 7 #[.val (.ref a21_0), .val (.int p21_1), .val (.int p21_2), .val (.int (1 : Int32))] [(.int (1 : Int32)), (.ref a21_0)])) _
    refine XS.iloadN X0.here hx rfl (hb hby d21_7) rfl ?_
    show Steps p.tables e below (s₁.setTop (mkF m 8 #[.val (.ref a21_0), .val (.int p21_1), .val (.int p21_2), .val (.int (1 : Int32))] [(.int p21_2), (.int (1 : Int32)), (.ref a21_0)])) _
    refine XS.iloadN X0.here hx rfl (hb hby d21_8) rfl ?_
    show Steps p.tables e below (s₁.setTop (mkF m 9 #[.val (.ref a21_0), .val (.int p21_1), .val (.int p21_2), .val (.int (1 : Int32))] [(.int (1 : Int32)), (.int p21_2), (.int (1 : Int32)), (.ref a21_0)])) _
    refine XS.ishr X0.here hx rfl (hb hby d21_9) rfl ?_
    show Steps p.tables e below (s₁.setTop (mkF m 10 #[.val (.ref a21_0), .val (.int p21_1), .val (.int p21_2), .val (.int (1 : Int32))] [(.int (p21_2 >>> ((1 : Int32) &&& 31))), (.int (1 : Int32)), (.ref a21_0)])) _
    refine XS.iconst X0.here hx rfl (hb hby d21_10) ?_
    show Steps p.tables e below (s₁.setTop (mkF m 11 #[.val (.ref a21_0), .val (.int p21_1), .val (.int p21_2), .val (.int (1 : Int32))] [(.int (1 : Int32)), (.int (p21_2 >>> ((1 : Int32) &&& 31))), (.int (1 : Int32)), (.ref a21_0)])) _
    refine XS.iand X0.here hx rfl (hb hby d21_11) rfl ?_
    exact k
  obtain ⟨v3, hv3⟩ : ∃ z, z = (if ((p21_2 >>> ((1 : Int32) &&& 31)) &&& (1 : Int32)) = (0 : Int32) then (0 : Int32) else (1 : Int32)) := ⟨_, rfl⟩
  have k4 : ∀ t, Steps p.tables e below (s₁.setTop (mkF m 20 #[.val (.ref a21_0), .val (.int p21_1), .val (.int p21_2), .val (.int (1 : Int32))] [(.int v3), (.int (1 : Int32)), (.ref a21_0)])) t → Steps p.tables e below (s₁.setTop (entryFrame m #[(.ref a21_0), (.int p21_1), (.int p21_2), (.int (1 : Int32))] 4)) t := by
    intro t k
    refine k1 t ?_
    by_cases hc12_2 : ((p21_2 >>> ((1 : Int32) &&& 31)) &&& (1 : Int32)) = (0 : Int32)
    · skip
      show Steps p.tables e below (s₁.setTop (mkF m 12 #[.val (.ref a21_0), .val (.int p21_1), .val (.int p21_2), .val (.int (1 : Int32))] [(.int ((p21_2 >>> ((1 : Int32) &&& 31)) &&& (1 : Int32))), (.int (1 : Int32)), (.ref a21_0)])) _
      refine XS.ifYes X0.here hx rfl (pc0 := 12) (pc' := 19) rfl (hb hby d21_12) rfl ((if0 _ _).trans (teq hc12_2).1) (by decide) (by decide) ?_
      show Steps p.tables e below (s₁.setTop (mkF m 19 #[.val (.ref a21_0), .val (.int p21_1), .val (.int p21_2), .val (.int (1 : Int32))] [(.int (1 : Int32)), (.ref a21_0)])) _
      refine XS.iconst X0.here hx rfl (hb hby d21_19) ?_
      rw [show v3 = (0 : Int32) from hv3.trans (by rw [if_pos hc12_2])] at k
      exact k
    · skip
      show Steps p.tables e below (s₁.setTop (mkF m 12 #[.val (.ref a21_0), .val (.int p21_1), .val (.int p21_2), .val (.int (1 : Int32))] [(.int ((p21_2 >>> ((1 : Int32) &&& 31)) &&& (1 : Int32))), (.int (1 : Int32)), (.ref a21_0)])) _
      refine XS.ifNo X0.here hx rfl (hb hby d21_12) rfl ((if0 _ _).trans (feq hc12_2).1) ?_
      show Steps p.tables e below (s₁.setTop (mkF m 15 #[.val (.ref a21_0), .val (.int p21_1), .val (.int p21_2), .val (.int (1 : Int32))] [(.int (1 : Int32)), (.ref a21_0)])) _
      refine XS.iconst X0.here hx rfl (hb hby d21_15) ?_
      show Steps p.tables e below (s₁.setTop (mkF m 16 #[.val (.ref a21_0), .val (.int p21_1), .val (.int p21_2), .val (.int (1 : Int32))] [(.int (1 : Int32)), (.int (1 : Int32)), (.ref a21_0)])) _
      refine XS.goto X0.here hx rfl (pc0 := 16) (pc' := 20) rfl (hb hby d21_16) (by decide) (by decide) ?_
      rw [show v3 = (1 : Int32) from hv3.trans (by rw [if_neg hc12_2])] at k
      exact k
  obtain ⟨cl5, Ar5, qc5, Sz5, Nn5, Hh5, Gg5⟩ := (id Vb)
  have hin5 : ¬ ((1 : Int32) < 0 ∨ cl5.slots.size ≤ ((1 : Int32)).toNatClampNeg) := inb_of Sz5 ⟨by decide, hz⟩
  obtain ⟨T5, h5, X5, e5, W5, st5⟩ := stZ X0 hx hZ e0 Ar5 (j := (1 : Int32)) hin5 (g := (mkF m 20 #[.val (.ref a21_0), .val (.int p21_1), .val (.int p21_2), .val (.int (1 : Int32))] [(.int v3), (.int (1 : Int32)), (.ref a21_0)])) rfl rfl (hb hby d21_20)
  have V5 : Arv Z h5 a21_0 kk .boolean zz [y0, (.int (nar .boolean v3)), y2, y3, y4, y5] (.int (0 : Int32)) := Arv.set Ar5 qc5 Sz5 Nn5 Hh5 Gg5 (fits_nar_bool _) W5 1 rfl (Nat.le_of_ble_eq_true rfl)
  have N5 := Fr.snoc X5 N0 g_a21_0
  have K5 : Keep h0 h5 [a21_0] := (Keep.refl h0 [a21_0]).wr W5 (Or.inl (List.mem_of_getElem? (i := 0) rfl))
  have Zs5 : n0 ≤ h5.size := by rw [W5.size]; exact Z0
  have hq : (nar .boolean v3) = own_bit p21_2 (1 : Int32) := by rw [hv3]; unfold own_bit; split <;> rfl
  rw [hq] at V5
  have k7 : ∀ t, Steps p.tables e below (T5.setTop (mkF m 21 #[.val (.ref a21_0), .val (.int p21_1), .val (.int p21_2), .val (.int (1 : Int32))] [])) t → Steps p.tables e below (s₁.setTop (entryFrame m #[(.ref a21_0), (.int p21_1), (.int p21_2), (.int (1 : Int32))] 4)) t := by
    intro t k
    refine k4 t ?_
    show Steps p.tables e below (s₁.setTop (mkF m 20 #[.val (.ref a21_0), .val (.int p21_1), .val (.int p21_2), .val (.int (1 : Int32))] [(.int v3), (.int (1 : Int32)), (.ref a21_0)])) _
    refine st5 _ ?_
    exact k
  obtain ⟨fs, hr, hrun, hended, hW, hsame⟩ := X5.leave (v := none) (fun _ => rfl)
  refine ⟨_, _, k7 _ ?_, hrun, hended, _, _, rfl, ?_, ⟨_, rfl⟩, hW, hsame.mono (by decide) (by decide)⟩
  · exact X5.returnOut hx Bd.returns (hb hby d21_21) hr
  · show Q21 Z a21_0 p21_1 p21_2 kk zz y0 y1 y2 y3 y4 y5 h0 n0 _ T5.heap _
    rw [e5]
    exact ⟨rfl, N5, K5, V5⟩
theorem d22_0 : decode method_3_code 0 = .ok (.iload_n 3, 1) := by decide +kernel
theorem d22_1 : decode method_3_code 1 = .ok (.iload_n 1, 1) := by decide +kernel
theorem d22_2 : decode method_3_code 2 = .ok (.if_icmp .ge 19, 3) := by decide +kernel
theorem d22_5 : decode method_3_code 5 = .ok (.aload_n 0, 1) := by decide +kernel
theorem d22_6 : decode method_3_code 6 = .ok (.iload_n 3, 1) := by decide +kernel
theorem d22_7 : decode method_3_code 7 = .ok (.iload_n 2, 1) := by decide +kernel
theorem d22_8 : decode method_3_code 8 = .ok (.iload_n 3, 1) := by decide +kernel
theorem d22_9 : decode method_3_code 9 = .ok (.ishr, 1) := by decide +kernel
theorem d22_10 : decode method_3_code 10 = .ok (.iconst 1, 1) := by decide +kernel
theorem d22_11 : decode method_3_code 11 = .ok (.iand, 1) := by decide +kernel
theorem d22_12 : decode method_3_code 12 = .ok (.ifCond .eq 7, 3) := by decide +kernel
theorem d22_15 : decode method_3_code 15 = .ok (.iconst 1, 1) := by decide +kernel
theorem d22_16 : decode method_3_code 16 = .ok (.goto 4, 3) := by decide +kernel
theorem d22_19 : decode method_3_code 19 = .ok (.iconst 0, 1) := by decide +kernel
theorem d22_20 : decode method_3_code 20 = .ok (.bastore, 1) := by decide +kernel
theorem d22_21 : decode method_3_code 21 = .ok (.return_, 1) := by decide +kernel
theorem ef_22 (m : MethodId) (a22_0 : Addr) (p22_1 : Int32) (p22_2 : Int32) : entryFrame m #[(.ref a22_0), (.int p22_1), (.int p22_2), (.int (2 : Int32))] 4 = mkF m 0 #[.val (.ref a22_0), .val (.int p22_1), .val (.int p22_2), .val (.int (2 : Int32))] [] := by first | (simp [entryFrame, mkF, argsToLocals, Value.category]; done) | rfl
def Q22 (Z : State) (a22_0 : Addr) (p22_1 : Int32) (p22_2 : Int32) (kk : ClassId) (zz : Int32) (y0 : Value) (y1 : Value) (y2 : Value) (y3 : Value) (y4 : Value) (y5 : Value) (h0 : Heap) (n0 : Nat) (v : Option Value) (h : Heap) (L : List Loc) : Prop := v = none ∧ Fr n0 L ∧ Keep h0 h [a22_0] ∧ Arv Z h a22_0 kk .boolean zz [y0, y1, (.int (own_bit p22_2 (2 : Int32))), y3, y4, y5] (.int (0 : Int32))
set_option maxRecDepth 65536 in
set_option maxHeartbeats 40000000 in
theorem rm22 (l : Launch) (Z : State) (a0 : Array Value) (hw : ∀ d ∈ tables_1, d.before a0 Z = true) (ws : List Jvm.Cond) (a22_0 : Addr) (p22_1 : Int32) (p22_2 : Int32) (kk : ClassId) (zz : Int32) (y0 : Value) (y1 : Value) (y2 : Value) (y3 : Value) (y4 : Value) (y5 : Value) (h0 : Heap) (n0 : Nat) (Z0 : n0 ≤ h0.size) (Vb : Arv Z h0 a22_0 kk .boolean zz [y0, y1, y2, y3, y4, y5] (.int (0 : Int32))) (hlt : (2 : Int32) < p22_1) (hz : (2 : Int32) < zz) (g_a22_0 : n0 ≤ a22_0) :
    MetFree l (⟨"com/example/leanweave/leanweave/NetworkNumberingPinLaw", "set", "([ZIII)V"⟩ : MethodName) (head1 (Jvm.Cond.code (⟨"com/example/leanweave/leanweave/NetworkNumberingPinLaw", "set", "([ZIII)V"⟩ : MethodName) method_3_code 4 none :: ws) ({ frames := 0, cells := 0, slots := 0, locals := 0 } : Room)) (fun a U => a = #[(.ref a22_0), (.int p22_1), (.int p22_2), (.int (2 : Int32))] ∧ Z.Warmed39 U.vm ∧ U.heap = h0) (fun _ _ _ _ _ => True) (fun _ U o U' => ∃ v L, o = .returned v ∧ Q22 Z a22_0 p22_1 p22_2 kk zz y0 y1 y2 y3 y4 y5 h0 n0 v U'.heap L ∧ FrameEnd U o U' L ({ frames := 0, cells := 0, slots := 0, locals := 0 } : Room).cells ({ frames := 0, cells := 0, slots := 0, locals := 0 } : Room).slots) := by
  refine MetFree.of_bodySF (plainFor_of_name pn_0) hisR ?_
  intro p e s m args below meth c s₁ Bd hml0 hP hK
  obtain ⟨rfl, hZ, hh⟩ := hP
  have hx := Bd.exec
  have hby := Bd.bytes
  have hml : c.maxLocals = 4 := hml0
  have hown : s.vm.findClass "com/example/leanweave/leanweave/NetworkNumberingPinLaw" = some m.cls := findClass_of_methodNamed Bd.named
  have hnm := (name_of_methodNamed Bd.named Bd.method).1
  have X0 : Stand p l e ({ frames := 0, cells := 0, slots := 0, locals := 0 } : Room) s m #[(.ref a22_0), (.int p22_1), (.int p22_2), (.int (2 : Int32))] below meth c s₁ [] 0 0 := Stand.of_body Bd
  have e0 : s₁.heap = h0 := by rw [← hh, Bd.state]; rfl
  have N0 := Fr.nil n0
  have pre0 : ∀ t, Steps p.tables e below (s₁.setTop (mkF m 0 #[.val (.ref a22_0), .val (.int p22_1), .val (.int p22_2), .val (.int (2 : Int32))] [])) t → Steps p.tables e below (s₁.setTop (entryFrame m #[(.ref a22_0), (.int p22_1), (.int p22_2), (.int (2 : Int32))] 4)) t := fun t k => castTop (ef_22 m a22_0 p22_1 p22_2) k
  have k1 : ∀ t, Steps p.tables e below (s₁.setTop (mkF m 12 #[.val (.ref a22_0), .val (.int p22_1), .val (.int p22_2), .val (.int (2 : Int32))] [(.int ((p22_2 >>> ((2 : Int32) &&& 31)) &&& (1 : Int32))), (.int (2 : Int32)), (.ref a22_0)])) t → Steps p.tables e below (s₁.setTop (entryFrame m #[(.ref a22_0), (.int p22_1), (.int p22_2), (.int (2 : Int32))] 4)) t := by
    intro t k
    refine pre0 t ?_
    show Steps p.tables e below (s₁.setTop (mkF m 0 #[.val (.ref a22_0), .val (.int p22_1), .val (.int p22_2), .val (.int (2 : Int32))] [])) _
    refine XS.iloadN X0.here hx rfl (hb hby d22_0) rfl ?_
    show Steps p.tables e below (s₁.setTop (mkF m 1 #[.val (.ref a22_0), .val (.int p22_1), .val (.int p22_2), .val (.int (2 : Int32))] [(.int (2 : Int32))])) _
    refine XS.iloadN X0.here hx rfl (hb hby d22_1) rfl ?_
    show Steps p.tables e below (s₁.setTop (mkF m 2 #[.val (.ref a22_0), .val (.int p22_1), .val (.int p22_2), .val (.int (2 : Int32))] [(.int p22_1), (.int (2 : Int32))])) _
    refine XS.icmpNo X0.here hx rfl (hb hby d22_2) rfl (tlt hlt).2.1 ?_
    show Steps p.tables e below (s₁.setTop (mkF m 5 #[.val (.ref a22_0), .val (.int p22_1), .val (.int p22_2), .val (.int (2 : Int32))] [])) _
    refine XS.aloadN X0.here hx rfl (hb hby d22_5) rfl rfl ?_
    show Steps p.tables e below (s₁.setTop (mkF m 6 #[.val (.ref a22_0), .val (.int p22_1), .val (.int p22_2), .val (.int (2 : Int32))] [(.ref a22_0)])) _
    refine XS.iloadN X0.here hx rfl (hb hby d22_6) rfl ?_
    show Steps p.tables e below (s₁.setTop (mkF m 7 #[.val (.ref a22_0), .val (.int p22_1), .val (.int p22_2), .val (.int (2 : Int32))] [(.int (2 : Int32)), (.ref a22_0)])) _
    refine XS.iloadN X0.here hx rfl (hb hby d22_7) rfl ?_
    show Steps p.tables e below (s₁.setTop (mkF m 8 #[.val (.ref a22_0), .val (.int p22_1), .val (.int p22_2), .val (.int (2 : Int32))] [(.int p22_2), (.int (2 : Int32)), (.ref a22_0)])) _
    refine XS.iloadN X0.here hx rfl (hb hby d22_8) rfl ?_
    show Steps p.tables e below (s₁.setTop (mkF m 9 #[.val (.ref a22_0), .val (.int p22_1), .val (.int p22_2), .val (.int (2 : Int32))] [(.int (2 : Int32)), (.int p22_2), (.int (2 : Int32)), (.ref a22_0)])) _
    refine XS.ishr X0.here hx rfl (hb hby d22_9) rfl ?_
    show Steps p.tables e below (s₁.setTop (mkF m 10 #[.val (.ref a22_0), .val (.int p22_1), .val (.int p22_2), .val (.int (2 : Int32))] [(.int (p22_2 >>> ((2 : Int32) &&& 31))), (.int (2 : Int32)), (.ref a22_0)])) _
    refine XS.iconst X0.here hx rfl (hb hby d22_10) ?_
    show Steps p.tables e below (s₁.setTop (mkF m 11 #[.val (.ref a22_0), .val (.int p22_1), .val (.int p22_2), .val (.int (2 : Int32))] [(.int (1 : Int32)), (.int (p22_2 >>> ((2 : Int32) &&& 31))), (.int (2 : Int32)), (.ref a22_0)])) _
    refine XS.iand X0.here hx rfl (hb hby d22_11) rfl ?_
    exact k
  obtain ⟨v3, hv3⟩ : ∃ z, z = (if ((p22_2 >>> ((2 : Int32) &&& 31)) &&& (1 : Int32)) = (0 : Int32) then (0 : Int32) else (1 : Int32)) := ⟨_, rfl⟩
  have k4 : ∀ t, Steps p.tables e below (s₁.setTop (mkF m 20 #[.val (.ref a22_0), .val (.int p22_1), .val (.int p22_2), .val (.int (2 : Int32))] [(.int v3), (.int (2 : Int32)), (.ref a22_0)])) t → Steps p.tables e below (s₁.setTop (entryFrame m #[(.ref a22_0), (.int p22_1), (.int p22_2), (.int (2 : Int32))] 4)) t := by
    intro t k
    refine k1 t ?_
    by_cases hc12_2 : ((p22_2 >>> ((2 : Int32) &&& 31)) &&& (1 : Int32)) = (0 : Int32)
    · skip
      show Steps p.tables e below (s₁.setTop (mkF m 12 #[.val (.ref a22_0), .val (.int p22_1), .val (.int p22_2), .val (.int (2 : Int32))] [(.int ((p22_2 >>> ((2 : Int32) &&& 31)) &&& (1 : Int32))), (.int (2 : Int32)), (.ref a22_0)])) _
      refine XS.ifYes X0.here hx rfl (pc0 := 12) (pc' := 19) rfl (hb hby d22_12) rfl ((if0 _ _).trans (teq hc12_2).1) (by decide) (by decide) ?_
      show Steps p.tables e below (s₁.setTop (mkF m 19 #[.val (.ref a22_0), .val (.int p22_1), .val (.int p22_2), .val (.int (2 : Int32))] [(.int (2 : Int32)), (.ref a22_0)])) _
      refine XS.iconst X0.here hx rfl (hb hby d22_19) ?_
      rw [show v3 = (0 : Int32) from hv3.trans (by rw [if_pos hc12_2])] at k
      exact k
    · skip
      show Steps p.tables e below (s₁.setTop (mkF m 12 #[.val (.ref a22_0), .val (.int p22_1), .val (.int p22_2), .val (.int (2 : Int32))] [(.int ((p22_2 >>> ((2 : Int32) &&& 31)) &&& (1 : Int32))), (.int (2 : Int32)), (.ref a22_0)])) _
      refine XS.ifNo X0.here hx rfl (hb hby d22_12) rfl ((if0 _ _).trans (feq hc12_2).1) ?_
      show Steps p.tables e below (s₁.setTop (mkF m 15 #[.val (.ref a22_0), .val (.int p22_1), .val (.int p22_2), .val (.int (2 : Int32))] [(.int (2 : Int32)), (.ref a22_0)])) _
      refine XS.iconst X0.here hx rfl (hb hby d22_15) ?_
      show Steps p.tables e below (s₁.setTop (mkF m 16 #[.val (.ref a22_0), .val (.int p22_1), .val (.int p22_2), .val (.int (2 : Int32))] [(.int (1 : Int32)), (.int (2 : Int32)), (.ref a22_0)])) _
      refine XS.goto X0.here hx rfl (pc0 := 16) (pc' := 20) rfl (hb hby d22_16) (by decide) (by decide) ?_
      rw [show v3 = (1 : Int32) from hv3.trans (by rw [if_neg hc12_2])] at k
      exact k
  obtain ⟨cl5, Ar5, qc5, Sz5, Nn5, Hh5, Gg5⟩ := (id Vb)
  have hin5 : ¬ ((2 : Int32) < 0 ∨ cl5.slots.size ≤ ((2 : Int32)).toNatClampNeg) := inb_of Sz5 ⟨by decide, hz⟩
  obtain ⟨T5, h5, X5, e5, W5, st5⟩ := stZ X0 hx hZ e0 Ar5 (j := (2 : Int32)) hin5 (g := (mkF m 20 #[.val (.ref a22_0), .val (.int p22_1), .val (.int p22_2), .val (.int (2 : Int32))] [(.int v3), (.int (2 : Int32)), (.ref a22_0)])) rfl rfl (hb hby d22_20)
  have V5 : Arv Z h5 a22_0 kk .boolean zz [y0, y1, (.int (nar .boolean v3)), y3, y4, y5] (.int (0 : Int32)) := Arv.set Ar5 qc5 Sz5 Nn5 Hh5 Gg5 (fits_nar_bool _) W5 2 rfl (Nat.le_of_ble_eq_true rfl)
  have N5 := Fr.snoc X5 N0 g_a22_0
  have K5 : Keep h0 h5 [a22_0] := (Keep.refl h0 [a22_0]).wr W5 (Or.inl (List.mem_of_getElem? (i := 0) rfl))
  have Zs5 : n0 ≤ h5.size := by rw [W5.size]; exact Z0
  have hq : (nar .boolean v3) = own_bit p22_2 (2 : Int32) := by rw [hv3]; unfold own_bit; split <;> rfl
  rw [hq] at V5
  have k7 : ∀ t, Steps p.tables e below (T5.setTop (mkF m 21 #[.val (.ref a22_0), .val (.int p22_1), .val (.int p22_2), .val (.int (2 : Int32))] [])) t → Steps p.tables e below (s₁.setTop (entryFrame m #[(.ref a22_0), (.int p22_1), (.int p22_2), (.int (2 : Int32))] 4)) t := by
    intro t k
    refine k4 t ?_
    show Steps p.tables e below (s₁.setTop (mkF m 20 #[.val (.ref a22_0), .val (.int p22_1), .val (.int p22_2), .val (.int (2 : Int32))] [(.int v3), (.int (2 : Int32)), (.ref a22_0)])) _
    refine st5 _ ?_
    exact k
  obtain ⟨fs, hr, hrun, hended, hW, hsame⟩ := X5.leave (v := none) (fun _ => rfl)
  refine ⟨_, _, k7 _ ?_, hrun, hended, _, _, rfl, ?_, ⟨_, rfl⟩, hW, hsame.mono (by decide) (by decide)⟩
  · exact X5.returnOut hx Bd.returns (hb hby d22_21) hr
  · show Q22 Z a22_0 p22_1 p22_2 kk zz y0 y1 y2 y3 y4 y5 h0 n0 _ T5.heap _
    rw [e5]
    exact ⟨rfl, N5, K5, V5⟩
theorem d23_0 : decode method_3_code 0 = .ok (.iload_n 3, 1) := by decide +kernel
theorem d23_1 : decode method_3_code 1 = .ok (.iload_n 1, 1) := by decide +kernel
theorem d23_2 : decode method_3_code 2 = .ok (.if_icmp .ge 19, 3) := by decide +kernel
theorem d23_5 : decode method_3_code 5 = .ok (.aload_n 0, 1) := by decide +kernel
theorem d23_6 : decode method_3_code 6 = .ok (.iload_n 3, 1) := by decide +kernel
theorem d23_7 : decode method_3_code 7 = .ok (.iload_n 2, 1) := by decide +kernel
theorem d23_8 : decode method_3_code 8 = .ok (.iload_n 3, 1) := by decide +kernel
theorem d23_9 : decode method_3_code 9 = .ok (.ishr, 1) := by decide +kernel
theorem d23_10 : decode method_3_code 10 = .ok (.iconst 1, 1) := by decide +kernel
theorem d23_11 : decode method_3_code 11 = .ok (.iand, 1) := by decide +kernel
theorem d23_12 : decode method_3_code 12 = .ok (.ifCond .eq 7, 3) := by decide +kernel
theorem d23_15 : decode method_3_code 15 = .ok (.iconst 1, 1) := by decide +kernel
theorem d23_16 : decode method_3_code 16 = .ok (.goto 4, 3) := by decide +kernel
theorem d23_19 : decode method_3_code 19 = .ok (.iconst 0, 1) := by decide +kernel
theorem d23_20 : decode method_3_code 20 = .ok (.bastore, 1) := by decide +kernel
theorem d23_21 : decode method_3_code 21 = .ok (.return_, 1) := by decide +kernel
theorem ef_23 (m : MethodId) (a23_0 : Addr) (p23_1 : Int32) (p23_2 : Int32) : entryFrame m #[(.ref a23_0), (.int p23_1), (.int p23_2), (.int (3 : Int32))] 4 = mkF m 0 #[.val (.ref a23_0), .val (.int p23_1), .val (.int p23_2), .val (.int (3 : Int32))] [] := by first | (simp [entryFrame, mkF, argsToLocals, Value.category]; done) | rfl
def Q23 (Z : State) (a23_0 : Addr) (p23_1 : Int32) (p23_2 : Int32) (kk : ClassId) (zz : Int32) (y0 : Value) (y1 : Value) (y2 : Value) (y3 : Value) (y4 : Value) (y5 : Value) (h0 : Heap) (n0 : Nat) (v : Option Value) (h : Heap) (L : List Loc) : Prop := v = none ∧ Fr n0 L ∧ Keep h0 h [a23_0] ∧ Arv Z h a23_0 kk .boolean zz [y0, y1, y2, (.int (own_bit p23_2 (3 : Int32))), y4, y5] (.int (0 : Int32))
set_option maxRecDepth 65536 in
set_option maxHeartbeats 40000000 in
theorem rm23 (l : Launch) (Z : State) (a0 : Array Value) (hw : ∀ d ∈ tables_1, d.before a0 Z = true) (ws : List Jvm.Cond) (a23_0 : Addr) (p23_1 : Int32) (p23_2 : Int32) (kk : ClassId) (zz : Int32) (y0 : Value) (y1 : Value) (y2 : Value) (y3 : Value) (y4 : Value) (y5 : Value) (h0 : Heap) (n0 : Nat) (Z0 : n0 ≤ h0.size) (Vb : Arv Z h0 a23_0 kk .boolean zz [y0, y1, y2, y3, y4, y5] (.int (0 : Int32))) (hlt : (3 : Int32) < p23_1) (hz : (3 : Int32) < zz) (g_a23_0 : n0 ≤ a23_0) :
    MetFree l (⟨"com/example/leanweave/leanweave/NetworkNumberingPinLaw", "set", "([ZIII)V"⟩ : MethodName) (head1 (Jvm.Cond.code (⟨"com/example/leanweave/leanweave/NetworkNumberingPinLaw", "set", "([ZIII)V"⟩ : MethodName) method_3_code 4 none :: ws) ({ frames := 0, cells := 0, slots := 0, locals := 0 } : Room)) (fun a U => a = #[(.ref a23_0), (.int p23_1), (.int p23_2), (.int (3 : Int32))] ∧ Z.Warmed39 U.vm ∧ U.heap = h0) (fun _ _ _ _ _ => True) (fun _ U o U' => ∃ v L, o = .returned v ∧ Q23 Z a23_0 p23_1 p23_2 kk zz y0 y1 y2 y3 y4 y5 h0 n0 v U'.heap L ∧ FrameEnd U o U' L ({ frames := 0, cells := 0, slots := 0, locals := 0 } : Room).cells ({ frames := 0, cells := 0, slots := 0, locals := 0 } : Room).slots) := by
  refine MetFree.of_bodySF (plainFor_of_name pn_0) hisR ?_
  intro p e s m args below meth c s₁ Bd hml0 hP hK
  obtain ⟨rfl, hZ, hh⟩ := hP
  have hx := Bd.exec
  have hby := Bd.bytes
  have hml : c.maxLocals = 4 := hml0
  have hown : s.vm.findClass "com/example/leanweave/leanweave/NetworkNumberingPinLaw" = some m.cls := findClass_of_methodNamed Bd.named
  have hnm := (name_of_methodNamed Bd.named Bd.method).1
  have X0 : Stand p l e ({ frames := 0, cells := 0, slots := 0, locals := 0 } : Room) s m #[(.ref a23_0), (.int p23_1), (.int p23_2), (.int (3 : Int32))] below meth c s₁ [] 0 0 := Stand.of_body Bd
  have e0 : s₁.heap = h0 := by rw [← hh, Bd.state]; rfl
  have N0 := Fr.nil n0
  have pre0 : ∀ t, Steps p.tables e below (s₁.setTop (mkF m 0 #[.val (.ref a23_0), .val (.int p23_1), .val (.int p23_2), .val (.int (3 : Int32))] [])) t → Steps p.tables e below (s₁.setTop (entryFrame m #[(.ref a23_0), (.int p23_1), (.int p23_2), (.int (3 : Int32))] 4)) t := fun t k => castTop (ef_23 m a23_0 p23_1 p23_2) k
  have k1 : ∀ t, Steps p.tables e below (s₁.setTop (mkF m 12 #[.val (.ref a23_0), .val (.int p23_1), .val (.int p23_2), .val (.int (3 : Int32))] [(.int ((p23_2 >>> ((3 : Int32) &&& 31)) &&& (1 : Int32))), (.int (3 : Int32)), (.ref a23_0)])) t → Steps p.tables e below (s₁.setTop (entryFrame m #[(.ref a23_0), (.int p23_1), (.int p23_2), (.int (3 : Int32))] 4)) t := by
    intro t k
    refine pre0 t ?_
    show Steps p.tables e below (s₁.setTop (mkF m 0 #[.val (.ref a23_0), .val (.int p23_1), .val (.int p23_2), .val (.int (3 : Int32))] [])) _
    refine XS.iloadN X0.here hx rfl (hb hby d23_0) rfl ?_
    show Steps p.tables e below (s₁.setTop (mkF m 1 #[.val (.ref a23_0), .val (.int p23_1), .val (.int p23_2), .val (.int (3 : Int32))] [(.int (3 : Int32))])) _
    refine XS.iloadN X0.here hx rfl (hb hby d23_1) rfl ?_
    show Steps p.tables e below (s₁.setTop (mkF m 2 #[.val (.ref a23_0), .val (.int p23_1), .val (.int p23_2), .val (.int (3 : Int32))] [(.int p23_1), (.int (3 : Int32))])) _
    refine XS.icmpNo X0.here hx rfl (hb hby d23_2) rfl (tlt hlt).2.1 ?_
    show Steps p.tables e below (s₁.setTop (mkF m 5 #[.val (.ref a23_0), .val (.int p23_1), .val (.int p23_2), .val (.int (3 : Int32))] [])) _
    refine XS.aloadN X0.here hx rfl (hb hby d23_5) rfl rfl ?_
    show Steps p.tables e below (s₁.setTop (mkF m 6 #[.val (.ref a23_0), .val (.int p23_1), .val (.int p23_2), .val (.int (3 : Int32))] [(.ref a23_0)])) _
    refine XS.iloadN X0.here hx rfl (hb hby d23_6) rfl ?_
    show Steps p.tables e below (s₁.setTop (mkF m 7 #[.val (.ref a23_0), .val (.int p23_1), .val (.int p23_2), .val (.int (3 : Int32))] [(.int (3 : Int32)), (.ref a23_0)])) _
    refine XS.iloadN X0.here hx rfl (hb hby d23_7) rfl ?_
    show Steps p.tables e below (s₁.setTop (mkF m 8 #[.val (.ref a23_0), .val (.int p23_1), .val (.int p23_2), .val (.int (3 : Int32))] [(.int p23_2), (.int (3 : Int32)), (.ref a23_0)])) _
    refine XS.iloadN X0.here hx rfl (hb hby d23_8) rfl ?_
    show Steps p.tables e below (s₁.setTop (mkF m 9 #[.val (.ref a23_0), .val (.int p23_1), .val (.int p23_2), .val (.int (3 : Int32))] [(.int (3 : Int32)), (.int p23_2), (.int (3 : Int32)), (.ref a23_0)])) _
    refine XS.ishr X0.here hx rfl (hb hby d23_9) rfl ?_
    show Steps p.tables e below (s₁.setTop (mkF m 10 #[.val (.ref a23_0), .val (.int p23_1), .val (.int p23_2), .val (.int (3 : Int32))] [(.int (p23_2 >>> ((3 : Int32) &&& 31))), (.int (3 : Int32)), (.ref a23_0)])) _
    refine XS.iconst X0.here hx rfl (hb hby d23_10) ?_
    show Steps p.tables e below (s₁.setTop (mkF m 11 #[.val (.ref a23_0), .val (.int p23_1), .val (.int p23_2), .val (.int (3 : Int32))] [(.int (1 : Int32)), (.int (p23_2 >>> ((3 : Int32) &&& 31))), (.int (3 : Int32)), (.ref a23_0)])) _
    refine XS.iand X0.here hx rfl (hb hby d23_11) rfl ?_
    exact k
  obtain ⟨v3, hv3⟩ : ∃ z, z = (if ((p23_2 >>> ((3 : Int32) &&& 31)) &&& (1 : Int32)) = (0 : Int32) then (0 : Int32) else (1 : Int32)) := ⟨_, rfl⟩
  have k4 : ∀ t, Steps p.tables e below (s₁.setTop (mkF m 20 #[.val (.ref a23_0), .val (.int p23_1), .val (.int p23_2), .val (.int (3 : Int32))] [(.int v3), (.int (3 : Int32)), (.ref a23_0)])) t → Steps p.tables e below (s₁.setTop (entryFrame m #[(.ref a23_0), (.int p23_1), (.int p23_2), (.int (3 : Int32))] 4)) t := by
    intro t k
    refine k1 t ?_
    by_cases hc12_2 : ((p23_2 >>> ((3 : Int32) &&& 31)) &&& (1 : Int32)) = (0 : Int32)
    · skip
      show Steps p.tables e below (s₁.setTop (mkF m 12 #[.val (.ref a23_0), .val (.int p23_1), .val (.int p23_2), .val (.int (3 : Int32))] [(.int ((p23_2 >>> ((3 : Int32) &&& 31)) &&& (1 : Int32))), (.int (3 : Int32)), (.ref a23_0)])) _
      refine XS.ifYes X0.here hx rfl (pc0 := 12) (pc' := 19) rfl (hb hby d23_12) rfl ((if0 _ _).trans (teq hc12_2).1) (by decide) (by decide) ?_
      show Steps p.tables e below (s₁.setTop (mkF m 19 #[.val (.ref a23_0), .val (.int p23_1), .val (.int p23_2), .val (.int (3 : Int32))] [(.int (3 : Int32)), (.ref a23_0)])) _
      refine XS.iconst X0.here hx rfl (hb hby d23_19) ?_
      rw [show v3 = (0 : Int32) from hv3.trans (by rw [if_pos hc12_2])] at k
      exact k
    · skip
      show Steps p.tables e below (s₁.setTop (mkF m 12 #[.val (.ref a23_0), .val (.int p23_1), .val (.int p23_2), .val (.int (3 : Int32))] [(.int ((p23_2 >>> ((3 : Int32) &&& 31)) &&& (1 : Int32))), (.int (3 : Int32)), (.ref a23_0)])) _
      refine XS.ifNo X0.here hx rfl (hb hby d23_12) rfl ((if0 _ _).trans (feq hc12_2).1) ?_
      show Steps p.tables e below (s₁.setTop (mkF m 15 #[.val (.ref a23_0), .val (.int p23_1), .val (.int p23_2), .val (.int (3 : Int32))] [(.int (3 : Int32)), (.ref a23_0)])) _
      refine XS.iconst X0.here hx rfl (hb hby d23_15) ?_
      show Steps p.tables e below (s₁.setTop (mkF m 16 #[.val (.ref a23_0), .val (.int p23_1), .val (.int p23_2), .val (.int (3 : Int32))] [(.int (1 : Int32)), (.int (3 : Int32)), (.ref a23_0)])) _
      refine XS.goto X0.here hx rfl (pc0 := 16) (pc' := 20) rfl (hb hby d23_16) (by decide) (by decide) ?_
      rw [show v3 = (1 : Int32) from hv3.trans (by rw [if_neg hc12_2])] at k
      exact k
  obtain ⟨cl5, Ar5, qc5, Sz5, Nn5, Hh5, Gg5⟩ := (id Vb)
  have hin5 : ¬ ((3 : Int32) < 0 ∨ cl5.slots.size ≤ ((3 : Int32)).toNatClampNeg) := inb_of Sz5 ⟨by decide, hz⟩
  obtain ⟨T5, h5, X5, e5, W5, st5⟩ := stZ X0 hx hZ e0 Ar5 (j := (3 : Int32)) hin5 (g := (mkF m 20 #[.val (.ref a23_0), .val (.int p23_1), .val (.int p23_2), .val (.int (3 : Int32))] [(.int v3), (.int (3 : Int32)), (.ref a23_0)])) rfl rfl (hb hby d23_20)
  have V5 : Arv Z h5 a23_0 kk .boolean zz [y0, y1, y2, (.int (nar .boolean v3)), y4, y5] (.int (0 : Int32)) := Arv.set Ar5 qc5 Sz5 Nn5 Hh5 Gg5 (fits_nar_bool _) W5 3 rfl (Nat.le_of_ble_eq_true rfl)
  have N5 := Fr.snoc X5 N0 g_a23_0
  have K5 : Keep h0 h5 [a23_0] := (Keep.refl h0 [a23_0]).wr W5 (Or.inl (List.mem_of_getElem? (i := 0) rfl))
  have Zs5 : n0 ≤ h5.size := by rw [W5.size]; exact Z0
  have hq : (nar .boolean v3) = own_bit p23_2 (3 : Int32) := by rw [hv3]; unfold own_bit; split <;> rfl
  rw [hq] at V5
  have k7 : ∀ t, Steps p.tables e below (T5.setTop (mkF m 21 #[.val (.ref a23_0), .val (.int p23_1), .val (.int p23_2), .val (.int (3 : Int32))] [])) t → Steps p.tables e below (s₁.setTop (entryFrame m #[(.ref a23_0), (.int p23_1), (.int p23_2), (.int (3 : Int32))] 4)) t := by
    intro t k
    refine k4 t ?_
    show Steps p.tables e below (s₁.setTop (mkF m 20 #[.val (.ref a23_0), .val (.int p23_1), .val (.int p23_2), .val (.int (3 : Int32))] [(.int v3), (.int (3 : Int32)), (.ref a23_0)])) _
    refine st5 _ ?_
    exact k
  obtain ⟨fs, hr, hrun, hended, hW, hsame⟩ := X5.leave (v := none) (fun _ => rfl)
  refine ⟨_, _, k7 _ ?_, hrun, hended, _, _, rfl, ?_, ⟨_, rfl⟩, hW, hsame.mono (by decide) (by decide)⟩
  · exact X5.returnOut hx Bd.returns (hb hby d23_21) hr
  · show Q23 Z a23_0 p23_1 p23_2 kk zz y0 y1 y2 y3 y4 y5 h0 n0 _ T5.heap _
    rw [e5]
    exact ⟨rfl, N5, K5, V5⟩
theorem d24_0 : decode method_3_code 0 = .ok (.iload_n 3, 1) := by decide +kernel
theorem d24_1 : decode method_3_code 1 = .ok (.iload_n 1, 1) := by decide +kernel
theorem d24_2 : decode method_3_code 2 = .ok (.if_icmp .ge 19, 3) := by decide +kernel
theorem d24_5 : decode method_3_code 5 = .ok (.aload_n 0, 1) := by decide +kernel
theorem d24_6 : decode method_3_code 6 = .ok (.iload_n 3, 1) := by decide +kernel
theorem d24_7 : decode method_3_code 7 = .ok (.iload_n 2, 1) := by decide +kernel
theorem d24_8 : decode method_3_code 8 = .ok (.iload_n 3, 1) := by decide +kernel
theorem d24_9 : decode method_3_code 9 = .ok (.ishr, 1) := by decide +kernel
theorem d24_10 : decode method_3_code 10 = .ok (.iconst 1, 1) := by decide +kernel
theorem d24_11 : decode method_3_code 11 = .ok (.iand, 1) := by decide +kernel
theorem d24_12 : decode method_3_code 12 = .ok (.ifCond .eq 7, 3) := by decide +kernel
theorem d24_15 : decode method_3_code 15 = .ok (.iconst 1, 1) := by decide +kernel
theorem d24_16 : decode method_3_code 16 = .ok (.goto 4, 3) := by decide +kernel
theorem d24_19 : decode method_3_code 19 = .ok (.iconst 0, 1) := by decide +kernel
theorem d24_20 : decode method_3_code 20 = .ok (.bastore, 1) := by decide +kernel
theorem d24_21 : decode method_3_code 21 = .ok (.return_, 1) := by decide +kernel
theorem ef_24 (m : MethodId) (a24_0 : Addr) (p24_1 : Int32) (p24_2 : Int32) : entryFrame m #[(.ref a24_0), (.int p24_1), (.int p24_2), (.int (4 : Int32))] 4 = mkF m 0 #[.val (.ref a24_0), .val (.int p24_1), .val (.int p24_2), .val (.int (4 : Int32))] [] := by first | (simp [entryFrame, mkF, argsToLocals, Value.category]; done) | rfl
def Q24 (Z : State) (a24_0 : Addr) (p24_1 : Int32) (p24_2 : Int32) (kk : ClassId) (zz : Int32) (y0 : Value) (y1 : Value) (y2 : Value) (y3 : Value) (y4 : Value) (y5 : Value) (h0 : Heap) (n0 : Nat) (v : Option Value) (h : Heap) (L : List Loc) : Prop := v = none ∧ Fr n0 L ∧ Keep h0 h [a24_0] ∧ Arv Z h a24_0 kk .boolean zz [y0, y1, y2, y3, (.int (own_bit p24_2 (4 : Int32))), y5] (.int (0 : Int32))
set_option maxRecDepth 65536 in
set_option maxHeartbeats 40000000 in
theorem rm24 (l : Launch) (Z : State) (a0 : Array Value) (hw : ∀ d ∈ tables_1, d.before a0 Z = true) (ws : List Jvm.Cond) (a24_0 : Addr) (p24_1 : Int32) (p24_2 : Int32) (kk : ClassId) (zz : Int32) (y0 : Value) (y1 : Value) (y2 : Value) (y3 : Value) (y4 : Value) (y5 : Value) (h0 : Heap) (n0 : Nat) (Z0 : n0 ≤ h0.size) (Vb : Arv Z h0 a24_0 kk .boolean zz [y0, y1, y2, y3, y4, y5] (.int (0 : Int32))) (hlt : (4 : Int32) < p24_1) (hz : (4 : Int32) < zz) (g_a24_0 : n0 ≤ a24_0) :
    MetFree l (⟨"com/example/leanweave/leanweave/NetworkNumberingPinLaw", "set", "([ZIII)V"⟩ : MethodName) (head1 (Jvm.Cond.code (⟨"com/example/leanweave/leanweave/NetworkNumberingPinLaw", "set", "([ZIII)V"⟩ : MethodName) method_3_code 4 none :: ws) ({ frames := 0, cells := 0, slots := 0, locals := 0 } : Room)) (fun a U => a = #[(.ref a24_0), (.int p24_1), (.int p24_2), (.int (4 : Int32))] ∧ Z.Warmed39 U.vm ∧ U.heap = h0) (fun _ _ _ _ _ => True) (fun _ U o U' => ∃ v L, o = .returned v ∧ Q24 Z a24_0 p24_1 p24_2 kk zz y0 y1 y2 y3 y4 y5 h0 n0 v U'.heap L ∧ FrameEnd U o U' L ({ frames := 0, cells := 0, slots := 0, locals := 0 } : Room).cells ({ frames := 0, cells := 0, slots := 0, locals := 0 } : Room).slots) := by
  refine MetFree.of_bodySF (plainFor_of_name pn_0) hisR ?_
  intro p e s m args below meth c s₁ Bd hml0 hP hK
  obtain ⟨rfl, hZ, hh⟩ := hP
  have hx := Bd.exec
  have hby := Bd.bytes
  have hml : c.maxLocals = 4 := hml0
  have hown : s.vm.findClass "com/example/leanweave/leanweave/NetworkNumberingPinLaw" = some m.cls := findClass_of_methodNamed Bd.named
  have hnm := (name_of_methodNamed Bd.named Bd.method).1
  have X0 : Stand p l e ({ frames := 0, cells := 0, slots := 0, locals := 0 } : Room) s m #[(.ref a24_0), (.int p24_1), (.int p24_2), (.int (4 : Int32))] below meth c s₁ [] 0 0 := Stand.of_body Bd
  have e0 : s₁.heap = h0 := by rw [← hh, Bd.state]; rfl
  have N0 := Fr.nil n0
  have pre0 : ∀ t, Steps p.tables e below (s₁.setTop (mkF m 0 #[.val (.ref a24_0), .val (.int p24_1), .val (.int p24_2), .val (.int (4 : Int32))] [])) t → Steps p.tables e below (s₁.setTop (entryFrame m #[(.ref a24_0), (.int p24_1), (.int p24_2), (.int (4 : Int32))] 4)) t := fun t k => castTop (ef_24 m a24_0 p24_1 p24_2) k
  have k1 : ∀ t, Steps p.tables e below (s₁.setTop (mkF m 12 #[.val (.ref a24_0), .val (.int p24_1), .val (.int p24_2), .val (.int (4 : Int32))] [(.int ((p24_2 >>> ((4 : Int32) &&& 31)) &&& (1 : Int32))), (.int (4 : Int32)), (.ref a24_0)])) t → Steps p.tables e below (s₁.setTop (entryFrame m #[(.ref a24_0), (.int p24_1), (.int p24_2), (.int (4 : Int32))] 4)) t := by
    intro t k
    refine pre0 t ?_
    show Steps p.tables e below (s₁.setTop (mkF m 0 #[.val (.ref a24_0), .val (.int p24_1), .val (.int p24_2), .val (.int (4 : Int32))] [])) _
    refine XS.iloadN X0.here hx rfl (hb hby d24_0) rfl ?_
    show Steps p.tables e below (s₁.setTop (mkF m 1 #[.val (.ref a24_0), .val (.int p24_1), .val (.int p24_2), .val (.int (4 : Int32))] [(.int (4 : Int32))])) _
    refine XS.iloadN X0.here hx rfl (hb hby d24_1) rfl ?_
    show Steps p.tables e below (s₁.setTop (mkF m 2 #[.val (.ref a24_0), .val (.int p24_1), .val (.int p24_2), .val (.int (4 : Int32))] [(.int p24_1), (.int (4 : Int32))])) _
    refine XS.icmpNo X0.here hx rfl (hb hby d24_2) rfl (tlt hlt).2.1 ?_
    show Steps p.tables e below (s₁.setTop (mkF m 5 #[.val (.ref a24_0), .val (.int p24_1), .val (.int p24_2), .val (.int (4 : Int32))] [])) _
    refine XS.aloadN X0.here hx rfl (hb hby d24_5) rfl rfl ?_
    show Steps p.tables e below (s₁.setTop (mkF m 6 #[.val (.ref a24_0), .val (.int p24_1), .val (.int p24_2), .val (.int (4 : Int32))] [(.ref a24_0)])) _
    refine XS.iloadN X0.here hx rfl (hb hby d24_6) rfl ?_
    show Steps p.tables e below (s₁.setTop (mkF m 7 #[.val (.ref a24_0), .val (.int p24_1), .val (.int p24_2), .val (.int (4 : Int32))] [(.int (4 : Int32)), (.ref a24_0)])) _
    refine XS.iloadN X0.here hx rfl (hb hby d24_7) rfl ?_
    show Steps p.tables e below (s₁.setTop (mkF m 8 #[.val (.ref a24_0), .val (.int p24_1), .val (.int p24_2), .val (.int (4 : Int32))] [(.int p24_2), (.int (4 : Int32)), (.ref a24_0)])) _
    refine XS.iloadN X0.here hx rfl (hb hby d24_8) rfl ?_
    show Steps p.tables e below (s₁.setTop (mkF m 9 #[.val (.ref a24_0), .val (.int p24_1), .val (.int p24_2), .val (.int (4 : Int32))] [(.int (4 : Int32)), (.int p24_2), (.int (4 : Int32)), (.ref a24_0)])) _
    refine XS.ishr X0.here hx rfl (hb hby d24_9) rfl ?_
    show Steps p.tables e below (s₁.setTop (mkF m 10 #[.val (.ref a24_0), .val (.int p24_1), .val (.int p24_2), .val (.int (4 : Int32))] [(.int (p24_2 >>> ((4 : Int32) &&& 31))), (.int (4 : Int32)), (.ref a24_0)])) _
    refine XS.iconst X0.here hx rfl (hb hby d24_10) ?_
    show Steps p.tables e below (s₁.setTop (mkF m 11 #[.val (.ref a24_0), .val (.int p24_1), .val (.int p24_2), .val (.int (4 : Int32))] [(.int (1 : Int32)), (.int (p24_2 >>> ((4 : Int32) &&& 31))), (.int (4 : Int32)), (.ref a24_0)])) _
    refine XS.iand X0.here hx rfl (hb hby d24_11) rfl ?_
    exact k
  obtain ⟨v3, hv3⟩ : ∃ z, z = (if ((p24_2 >>> ((4 : Int32) &&& 31)) &&& (1 : Int32)) = (0 : Int32) then (0 : Int32) else (1 : Int32)) := ⟨_, rfl⟩
  have k4 : ∀ t, Steps p.tables e below (s₁.setTop (mkF m 20 #[.val (.ref a24_0), .val (.int p24_1), .val (.int p24_2), .val (.int (4 : Int32))] [(.int v3), (.int (4 : Int32)), (.ref a24_0)])) t → Steps p.tables e below (s₁.setTop (entryFrame m #[(.ref a24_0), (.int p24_1), (.int p24_2), (.int (4 : Int32))] 4)) t := by
    intro t k
    refine k1 t ?_
    by_cases hc12_2 : ((p24_2 >>> ((4 : Int32) &&& 31)) &&& (1 : Int32)) = (0 : Int32)
    · skip
      show Steps p.tables e below (s₁.setTop (mkF m 12 #[.val (.ref a24_0), .val (.int p24_1), .val (.int p24_2), .val (.int (4 : Int32))] [(.int ((p24_2 >>> ((4 : Int32) &&& 31)) &&& (1 : Int32))), (.int (4 : Int32)), (.ref a24_0)])) _
      refine XS.ifYes X0.here hx rfl (pc0 := 12) (pc' := 19) rfl (hb hby d24_12) rfl ((if0 _ _).trans (teq hc12_2).1) (by decide) (by decide) ?_
      show Steps p.tables e below (s₁.setTop (mkF m 19 #[.val (.ref a24_0), .val (.int p24_1), .val (.int p24_2), .val (.int (4 : Int32))] [(.int (4 : Int32)), (.ref a24_0)])) _
      refine XS.iconst X0.here hx rfl (hb hby d24_19) ?_
      rw [show v3 = (0 : Int32) from hv3.trans (by rw [if_pos hc12_2])] at k
      exact k
    · skip
      show Steps p.tables e below (s₁.setTop (mkF m 12 #[.val (.ref a24_0), .val (.int p24_1), .val (.int p24_2), .val (.int (4 : Int32))] [(.int ((p24_2 >>> ((4 : Int32) &&& 31)) &&& (1 : Int32))), (.int (4 : Int32)), (.ref a24_0)])) _
      refine XS.ifNo X0.here hx rfl (hb hby d24_12) rfl ((if0 _ _).trans (feq hc12_2).1) ?_
      show Steps p.tables e below (s₁.setTop (mkF m 15 #[.val (.ref a24_0), .val (.int p24_1), .val (.int p24_2), .val (.int (4 : Int32))] [(.int (4 : Int32)), (.ref a24_0)])) _
      refine XS.iconst X0.here hx rfl (hb hby d24_15) ?_
      show Steps p.tables e below (s₁.setTop (mkF m 16 #[.val (.ref a24_0), .val (.int p24_1), .val (.int p24_2), .val (.int (4 : Int32))] [(.int (1 : Int32)), (.int (4 : Int32)), (.ref a24_0)])) _
      refine XS.goto X0.here hx rfl (pc0 := 16) (pc' := 20) rfl (hb hby d24_16) (by decide) (by decide) ?_
      rw [show v3 = (1 : Int32) from hv3.trans (by rw [if_neg hc12_2])] at k
      exact k
  obtain ⟨cl5, Ar5, qc5, Sz5, Nn5, Hh5, Gg5⟩ := (id Vb)
  have hin5 : ¬ ((4 : Int32) < 0 ∨ cl5.slots.size ≤ ((4 : Int32)).toNatClampNeg) := inb_of Sz5 ⟨by decide, hz⟩
  obtain ⟨T5, h5, X5, e5, W5, st5⟩ := stZ X0 hx hZ e0 Ar5 (j := (4 : Int32)) hin5 (g := (mkF m 20 #[.val (.ref a24_0), .val (.int p24_1), .val (.int p24_2), .val (.int (4 : Int32))] [(.int v3), (.int (4 : Int32)), (.ref a24_0)])) rfl rfl (hb hby d24_20)
  have V5 : Arv Z h5 a24_0 kk .boolean zz [y0, y1, y2, y3, (.int (nar .boolean v3)), y5] (.int (0 : Int32)) := Arv.set Ar5 qc5 Sz5 Nn5 Hh5 Gg5 (fits_nar_bool _) W5 4 rfl (Nat.le_of_ble_eq_true rfl)
  have N5 := Fr.snoc X5 N0 g_a24_0
  have K5 : Keep h0 h5 [a24_0] := (Keep.refl h0 [a24_0]).wr W5 (Or.inl (List.mem_of_getElem? (i := 0) rfl))
  have Zs5 : n0 ≤ h5.size := by rw [W5.size]; exact Z0
  have hq : (nar .boolean v3) = own_bit p24_2 (4 : Int32) := by rw [hv3]; unfold own_bit; split <;> rfl
  rw [hq] at V5
  have k7 : ∀ t, Steps p.tables e below (T5.setTop (mkF m 21 #[.val (.ref a24_0), .val (.int p24_1), .val (.int p24_2), .val (.int (4 : Int32))] [])) t → Steps p.tables e below (s₁.setTop (entryFrame m #[(.ref a24_0), (.int p24_1), (.int p24_2), (.int (4 : Int32))] 4)) t := by
    intro t k
    refine k4 t ?_
    show Steps p.tables e below (s₁.setTop (mkF m 20 #[.val (.ref a24_0), .val (.int p24_1), .val (.int p24_2), .val (.int (4 : Int32))] [(.int v3), (.int (4 : Int32)), (.ref a24_0)])) _
    refine st5 _ ?_
    exact k
  obtain ⟨fs, hr, hrun, hended, hW, hsame⟩ := X5.leave (v := none) (fun _ => rfl)
  refine ⟨_, _, k7 _ ?_, hrun, hended, _, _, rfl, ?_, ⟨_, rfl⟩, hW, hsame.mono (by decide) (by decide)⟩
  · exact X5.returnOut hx Bd.returns (hb hby d24_21) hr
  · show Q24 Z a24_0 p24_1 p24_2 kk zz y0 y1 y2 y3 y4 y5 h0 n0 _ T5.heap _
    rw [e5]
    exact ⟨rfl, N5, K5, V5⟩
theorem d25_0 : decode method_3_code 0 = .ok (.iload_n 3, 1) := by decide +kernel
theorem d25_1 : decode method_3_code 1 = .ok (.iload_n 1, 1) := by decide +kernel
theorem d25_2 : decode method_3_code 2 = .ok (.if_icmp .ge 19, 3) := by decide +kernel
theorem d25_5 : decode method_3_code 5 = .ok (.aload_n 0, 1) := by decide +kernel
theorem d25_6 : decode method_3_code 6 = .ok (.iload_n 3, 1) := by decide +kernel
theorem d25_7 : decode method_3_code 7 = .ok (.iload_n 2, 1) := by decide +kernel
theorem d25_8 : decode method_3_code 8 = .ok (.iload_n 3, 1) := by decide +kernel
theorem d25_9 : decode method_3_code 9 = .ok (.ishr, 1) := by decide +kernel
theorem d25_10 : decode method_3_code 10 = .ok (.iconst 1, 1) := by decide +kernel
theorem d25_11 : decode method_3_code 11 = .ok (.iand, 1) := by decide +kernel
theorem d25_12 : decode method_3_code 12 = .ok (.ifCond .eq 7, 3) := by decide +kernel
theorem d25_15 : decode method_3_code 15 = .ok (.iconst 1, 1) := by decide +kernel
theorem d25_16 : decode method_3_code 16 = .ok (.goto 4, 3) := by decide +kernel
theorem d25_19 : decode method_3_code 19 = .ok (.iconst 0, 1) := by decide +kernel
theorem d25_20 : decode method_3_code 20 = .ok (.bastore, 1) := by decide +kernel
theorem d25_21 : decode method_3_code 21 = .ok (.return_, 1) := by decide +kernel
theorem ef_25 (m : MethodId) (a25_0 : Addr) (p25_1 : Int32) (p25_2 : Int32) : entryFrame m #[(.ref a25_0), (.int p25_1), (.int p25_2), (.int (5 : Int32))] 4 = mkF m 0 #[.val (.ref a25_0), .val (.int p25_1), .val (.int p25_2), .val (.int (5 : Int32))] [] := by first | (simp [entryFrame, mkF, argsToLocals, Value.category]; done) | rfl
def Q25 (Z : State) (a25_0 : Addr) (p25_1 : Int32) (p25_2 : Int32) (kk : ClassId) (zz : Int32) (y0 : Value) (y1 : Value) (y2 : Value) (y3 : Value) (y4 : Value) (y5 : Value) (h0 : Heap) (n0 : Nat) (v : Option Value) (h : Heap) (L : List Loc) : Prop := v = none ∧ Fr n0 L ∧ Keep h0 h [a25_0] ∧ Arv Z h a25_0 kk .boolean zz [y0, y1, y2, y3, y4, (.int (own_bit p25_2 (5 : Int32)))] (.int (0 : Int32))
set_option maxRecDepth 65536 in
set_option maxHeartbeats 40000000 in
theorem rm25 (l : Launch) (Z : State) (a0 : Array Value) (hw : ∀ d ∈ tables_1, d.before a0 Z = true) (ws : List Jvm.Cond) (a25_0 : Addr) (p25_1 : Int32) (p25_2 : Int32) (kk : ClassId) (zz : Int32) (y0 : Value) (y1 : Value) (y2 : Value) (y3 : Value) (y4 : Value) (y5 : Value) (h0 : Heap) (n0 : Nat) (Z0 : n0 ≤ h0.size) (Vb : Arv Z h0 a25_0 kk .boolean zz [y0, y1, y2, y3, y4, y5] (.int (0 : Int32))) (hlt : (5 : Int32) < p25_1) (hz : (5 : Int32) < zz) (g_a25_0 : n0 ≤ a25_0) :
    MetFree l (⟨"com/example/leanweave/leanweave/NetworkNumberingPinLaw", "set", "([ZIII)V"⟩ : MethodName) (head1 (Jvm.Cond.code (⟨"com/example/leanweave/leanweave/NetworkNumberingPinLaw", "set", "([ZIII)V"⟩ : MethodName) method_3_code 4 none :: ws) ({ frames := 0, cells := 0, slots := 0, locals := 0 } : Room)) (fun a U => a = #[(.ref a25_0), (.int p25_1), (.int p25_2), (.int (5 : Int32))] ∧ Z.Warmed39 U.vm ∧ U.heap = h0) (fun _ _ _ _ _ => True) (fun _ U o U' => ∃ v L, o = .returned v ∧ Q25 Z a25_0 p25_1 p25_2 kk zz y0 y1 y2 y3 y4 y5 h0 n0 v U'.heap L ∧ FrameEnd U o U' L ({ frames := 0, cells := 0, slots := 0, locals := 0 } : Room).cells ({ frames := 0, cells := 0, slots := 0, locals := 0 } : Room).slots) := by
  refine MetFree.of_bodySF (plainFor_of_name pn_0) hisR ?_
  intro p e s m args below meth c s₁ Bd hml0 hP hK
  obtain ⟨rfl, hZ, hh⟩ := hP
  have hx := Bd.exec
  have hby := Bd.bytes
  have hml : c.maxLocals = 4 := hml0
  have hown : s.vm.findClass "com/example/leanweave/leanweave/NetworkNumberingPinLaw" = some m.cls := findClass_of_methodNamed Bd.named
  have hnm := (name_of_methodNamed Bd.named Bd.method).1
  have X0 : Stand p l e ({ frames := 0, cells := 0, slots := 0, locals := 0 } : Room) s m #[(.ref a25_0), (.int p25_1), (.int p25_2), (.int (5 : Int32))] below meth c s₁ [] 0 0 := Stand.of_body Bd
  have e0 : s₁.heap = h0 := by rw [← hh, Bd.state]; rfl
  have N0 := Fr.nil n0
  have pre0 : ∀ t, Steps p.tables e below (s₁.setTop (mkF m 0 #[.val (.ref a25_0), .val (.int p25_1), .val (.int p25_2), .val (.int (5 : Int32))] [])) t → Steps p.tables e below (s₁.setTop (entryFrame m #[(.ref a25_0), (.int p25_1), (.int p25_2), (.int (5 : Int32))] 4)) t := fun t k => castTop (ef_25 m a25_0 p25_1 p25_2) k
  have k1 : ∀ t, Steps p.tables e below (s₁.setTop (mkF m 12 #[.val (.ref a25_0), .val (.int p25_1), .val (.int p25_2), .val (.int (5 : Int32))] [(.int ((p25_2 >>> ((5 : Int32) &&& 31)) &&& (1 : Int32))), (.int (5 : Int32)), (.ref a25_0)])) t → Steps p.tables e below (s₁.setTop (entryFrame m #[(.ref a25_0), (.int p25_1), (.int p25_2), (.int (5 : Int32))] 4)) t := by
    intro t k
    refine pre0 t ?_
    show Steps p.tables e below (s₁.setTop (mkF m 0 #[.val (.ref a25_0), .val (.int p25_1), .val (.int p25_2), .val (.int (5 : Int32))] [])) _
    refine XS.iloadN X0.here hx rfl (hb hby d25_0) rfl ?_
    show Steps p.tables e below (s₁.setTop (mkF m 1 #[.val (.ref a25_0), .val (.int p25_1), .val (.int p25_2), .val (.int (5 : Int32))] [(.int (5 : Int32))])) _
    refine XS.iloadN X0.here hx rfl (hb hby d25_1) rfl ?_
    show Steps p.tables e below (s₁.setTop (mkF m 2 #[.val (.ref a25_0), .val (.int p25_1), .val (.int p25_2), .val (.int (5 : Int32))] [(.int p25_1), (.int (5 : Int32))])) _
    refine XS.icmpNo X0.here hx rfl (hb hby d25_2) rfl (tlt hlt).2.1 ?_
    show Steps p.tables e below (s₁.setTop (mkF m 5 #[.val (.ref a25_0), .val (.int p25_1), .val (.int p25_2), .val (.int (5 : Int32))] [])) _
    refine XS.aloadN X0.here hx rfl (hb hby d25_5) rfl rfl ?_
    show Steps p.tables e below (s₁.setTop (mkF m 6 #[.val (.ref a25_0), .val (.int p25_1), .val (.int p25_2), .val (.int (5 : Int32))] [(.ref a25_0)])) _
    refine XS.iloadN X0.here hx rfl (hb hby d25_6) rfl ?_
    show Steps p.tables e below (s₁.setTop (mkF m 7 #[.val (.ref a25_0), .val (.int p25_1), .val (.int p25_2), .val (.int (5 : Int32))] [(.int (5 : Int32)), (.ref a25_0)])) _
    refine XS.iloadN X0.here hx rfl (hb hby d25_7) rfl ?_
    show Steps p.tables e below (s₁.setTop (mkF m 8 #[.val (.ref a25_0), .val (.int p25_1), .val (.int p25_2), .val (.int (5 : Int32))] [(.int p25_2), (.int (5 : Int32)), (.ref a25_0)])) _
    refine XS.iloadN X0.here hx rfl (hb hby d25_8) rfl ?_
    show Steps p.tables e below (s₁.setTop (mkF m 9 #[.val (.ref a25_0), .val (.int p25_1), .val (.int p25_2), .val (.int (5 : Int32))] [(.int (5 : Int32)), (.int p25_2), (.int (5 : Int32)), (.ref a25_0)])) _
    refine XS.ishr X0.here hx rfl (hb hby d25_9) rfl ?_
    show Steps p.tables e below (s₁.setTop (mkF m 10 #[.val (.ref a25_0), .val (.int p25_1), .val (.int p25_2), .val (.int (5 : Int32))] [(.int (p25_2 >>> ((5 : Int32) &&& 31))), (.int (5 : Int32)), (.ref a25_0)])) _
    refine XS.iconst X0.here hx rfl (hb hby d25_10) ?_
    show Steps p.tables e below (s₁.setTop (mkF m 11 #[.val (.ref a25_0), .val (.int p25_1), .val (.int p25_2), .val (.int (5 : Int32))] [(.int (1 : Int32)), (.int (p25_2 >>> ((5 : Int32) &&& 31))), (.int (5 : Int32)), (.ref a25_0)])) _
    refine XS.iand X0.here hx rfl (hb hby d25_11) rfl ?_
    exact k
  obtain ⟨v3, hv3⟩ : ∃ z, z = (if ((p25_2 >>> ((5 : Int32) &&& 31)) &&& (1 : Int32)) = (0 : Int32) then (0 : Int32) else (1 : Int32)) := ⟨_, rfl⟩
  have k4 : ∀ t, Steps p.tables e below (s₁.setTop (mkF m 20 #[.val (.ref a25_0), .val (.int p25_1), .val (.int p25_2), .val (.int (5 : Int32))] [(.int v3), (.int (5 : Int32)), (.ref a25_0)])) t → Steps p.tables e below (s₁.setTop (entryFrame m #[(.ref a25_0), (.int p25_1), (.int p25_2), (.int (5 : Int32))] 4)) t := by
    intro t k
    refine k1 t ?_
    by_cases hc12_2 : ((p25_2 >>> ((5 : Int32) &&& 31)) &&& (1 : Int32)) = (0 : Int32)
    · skip
      show Steps p.tables e below (s₁.setTop (mkF m 12 #[.val (.ref a25_0), .val (.int p25_1), .val (.int p25_2), .val (.int (5 : Int32))] [(.int ((p25_2 >>> ((5 : Int32) &&& 31)) &&& (1 : Int32))), (.int (5 : Int32)), (.ref a25_0)])) _
      refine XS.ifYes X0.here hx rfl (pc0 := 12) (pc' := 19) rfl (hb hby d25_12) rfl ((if0 _ _).trans (teq hc12_2).1) (by decide) (by decide) ?_
      show Steps p.tables e below (s₁.setTop (mkF m 19 #[.val (.ref a25_0), .val (.int p25_1), .val (.int p25_2), .val (.int (5 : Int32))] [(.int (5 : Int32)), (.ref a25_0)])) _
      refine XS.iconst X0.here hx rfl (hb hby d25_19) ?_
      rw [show v3 = (0 : Int32) from hv3.trans (by rw [if_pos hc12_2])] at k
      exact k
    · skip
      show Steps p.tables e below (s₁.setTop (mkF m 12 #[.val (.ref a25_0), .val (.int p25_1), .val (.int p25_2), .val (.int (5 : Int32))] [(.int ((p25_2 >>> ((5 : Int32) &&& 31)) &&& (1 : Int32))), (.int (5 : Int32)), (.ref a25_0)])) _
      refine XS.ifNo X0.here hx rfl (hb hby d25_12) rfl ((if0 _ _).trans (feq hc12_2).1) ?_
      show Steps p.tables e below (s₁.setTop (mkF m 15 #[.val (.ref a25_0), .val (.int p25_1), .val (.int p25_2), .val (.int (5 : Int32))] [(.int (5 : Int32)), (.ref a25_0)])) _
      refine XS.iconst X0.here hx rfl (hb hby d25_15) ?_
      show Steps p.tables e below (s₁.setTop (mkF m 16 #[.val (.ref a25_0), .val (.int p25_1), .val (.int p25_2), .val (.int (5 : Int32))] [(.int (1 : Int32)), (.int (5 : Int32)), (.ref a25_0)])) _
      refine XS.goto X0.here hx rfl (pc0 := 16) (pc' := 20) rfl (hb hby d25_16) (by decide) (by decide) ?_
      rw [show v3 = (1 : Int32) from hv3.trans (by rw [if_neg hc12_2])] at k
      exact k
  obtain ⟨cl5, Ar5, qc5, Sz5, Nn5, Hh5, Gg5⟩ := (id Vb)
  have hin5 : ¬ ((5 : Int32) < 0 ∨ cl5.slots.size ≤ ((5 : Int32)).toNatClampNeg) := inb_of Sz5 ⟨by decide, hz⟩
  obtain ⟨T5, h5, X5, e5, W5, st5⟩ := stZ X0 hx hZ e0 Ar5 (j := (5 : Int32)) hin5 (g := (mkF m 20 #[.val (.ref a25_0), .val (.int p25_1), .val (.int p25_2), .val (.int (5 : Int32))] [(.int v3), (.int (5 : Int32)), (.ref a25_0)])) rfl rfl (hb hby d25_20)
  have V5 : Arv Z h5 a25_0 kk .boolean zz [y0, y1, y2, y3, y4, (.int (nar .boolean v3))] (.int (0 : Int32)) := Arv.set Ar5 qc5 Sz5 Nn5 Hh5 Gg5 (fits_nar_bool _) W5 5 rfl (Nat.le_of_ble_eq_true rfl)
  have N5 := Fr.snoc X5 N0 g_a25_0
  have K5 : Keep h0 h5 [a25_0] := (Keep.refl h0 [a25_0]).wr W5 (Or.inl (List.mem_of_getElem? (i := 0) rfl))
  have Zs5 : n0 ≤ h5.size := by rw [W5.size]; exact Z0
  have hq : (nar .boolean v3) = own_bit p25_2 (5 : Int32) := by rw [hv3]; unfold own_bit; split <;> rfl
  rw [hq] at V5
  have k7 : ∀ t, Steps p.tables e below (T5.setTop (mkF m 21 #[.val (.ref a25_0), .val (.int p25_1), .val (.int p25_2), .val (.int (5 : Int32))] [])) t → Steps p.tables e below (s₁.setTop (entryFrame m #[(.ref a25_0), (.int p25_1), (.int p25_2), (.int (5 : Int32))] 4)) t := by
    intro t k
    refine k4 t ?_
    show Steps p.tables e below (s₁.setTop (mkF m 20 #[.val (.ref a25_0), .val (.int p25_1), .val (.int p25_2), .val (.int (5 : Int32))] [(.int v3), (.int (5 : Int32)), (.ref a25_0)])) _
    refine st5 _ ?_
    exact k
  obtain ⟨fs, hr, hrun, hended, hW, hsame⟩ := X5.leave (v := none) (fun _ => rfl)
  refine ⟨_, _, k7 _ ?_, hrun, hended, _, _, rfl, ?_, ⟨_, rfl⟩, hW, hsame.mono (by decide) (by decide)⟩
  · exact X5.returnOut hx Bd.returns (hb hby d25_21) hr
  · show Q25 Z a25_0 p25_1 p25_2 kk zz y0 y1 y2 y3 y4 y5 h0 n0 _ T5.heap _
    rw [e5]
    exact ⟨rfl, N5, K5, V5⟩
theorem pn_1 : plainName "com/example/leanweave/leanweave/Network" = true := by first | (simp [plainName, overriddenIn]; done) | decide +kernel
theorem d30_0 : decode prog_16_method_15_code 0 = .ok (.aload_n 0, 1) := by decide +kernel
theorem d30_1 : decode prog_16_method_15_code 1 = .ok (.arraylength, 1) := by decide +kernel
theorem d30_2 : decode prog_16_method_15_code 2 = .ok (.newarray .int, 2) := by decide +kernel
theorem d30_4 : decode prog_16_method_15_code 4 = .ok (.astore_n 1, 1) := by decide +kernel
theorem d30_5 : decode prog_16_method_15_code 5 = .ok (.iconst 0, 1) := by decide +kernel
theorem d30_6 : decode prog_16_method_15_code 6 = .ok (.istore_n 2, 1) := by decide +kernel
theorem d30_7 : decode prog_16_method_15_code 7 = .ok (.iconst 0, 1) := by decide +kernel
theorem d30_8 : decode prog_16_method_15_code 8 = .ok (.istore_n 3, 1) := by decide +kernel
theorem d30_9 : decode prog_16_method_15_code 9 = .ok (.iload_n 3, 1) := by decide +kernel
theorem d30_10 : decode prog_16_method_15_code 10 = .ok (.aload_n 0, 1) := by decide +kernel
theorem d30_11 : decode prog_16_method_15_code 11 = .ok (.arraylength, 1) := by decide +kernel
theorem d30_12 : decode prog_16_method_15_code 12 = .ok (.if_icmp .ge 26, 3) := by decide +kernel
theorem d30_38 : decode prog_16_method_15_code 38 = .ok (.aload_n 1, 1) := by decide +kernel
theorem d30_39 : decode prog_16_method_15_code 39 = .ok (.areturn, 1) := by decide +kernel
theorem ef_30 (m : MethodId) (a30_0 : Addr) : entryFrame m #[(.ref a30_0)] 4 = mkF m 0 #[.val (.ref a30_0), .unset, .unset, .unset] [] := by first | (simp [entryFrame, mkF, argsToLocals, Value.category]; done) | rfl
def Q30 (Z : State) (a30_0 : Addr) (kk : ClassId) (x0 : Int32) (x1 : Int32) (x2 : Int32) (x3 : Int32) (x4 : Int32) (x5 : Int32) (h0 : Heap) (n0 : Nat) (v : Option Value) (h : Heap) (L : List Loc) : Prop := ∃ b30 : Addr, ∃ kn30 : ClassId, v = some (.ref b30) ∧ Fr n0 L ∧ Keep h0 h [] ∧ n0 ≤ b30 ∧ h0.size ≤ b30 ∧ Arv Z h b30 kn30 .int (0 : Int32) [(.int (0 : Int32)), (.int (0 : Int32)), (.int (0 : Int32)), (.int (0 : Int32)), (.int (0 : Int32)), (.int (0 : Int32))] (.int (0 : Int32))
set_option maxRecDepth 65536 in
set_option maxHeartbeats 40000000 in
theorem rm30 (l : Launch) (Z : State) (a0 : Array Value) (hw : ∀ d ∈ tables_1, d.before a0 Z = true) (ws : List Jvm.Cond) (a30_0 : Addr) (kk : ClassId) (x0 : Int32) (x1 : Int32) (x2 : Int32) (x3 : Int32) (x4 : Int32) (x5 : Int32) (h0 : Heap) (n0 : Nat) (Z0 : n0 ≤ h0.size) (Vb : Arv Z h0 a30_0 kk .boolean (0 : Int32) [(.int x0), (.int x1), (.int x2), (.int x3), (.int x4), (.int x5)] (.int (0 : Int32))) :
    MetFree l (⟨"com/example/leanweave/leanweave/Network", "numbering", "([Z)[I"⟩ : MethodName) (head1 (Jvm.Cond.code (⟨"com/example/leanweave/leanweave/Network", "numbering", "([Z)[I"⟩ : MethodName) prog_16_method_15_code 4 (some (.array .int)) :: ws) ({ frames := 0, cells := 1, slots := 0, locals := 0 } : Room)) (fun a U => a = #[(.ref a30_0)] ∧ Z.Warmed39 U.vm ∧ U.heap = h0) (fun _ _ _ _ _ => True) (fun _ U o U' => ∃ v L, o = .returned v ∧ Q30 Z a30_0 kk x0 x1 x2 x3 x4 x5 h0 n0 v U'.heap L ∧ FrameEnd U o U' L ({ frames := 0, cells := 1, slots := 0, locals := 0 } : Room).cells ({ frames := 0, cells := 1, slots := 0, locals := 0 } : Room).slots) := by
  refine MetFree.of_bodySF (plainFor_of_name pn_1) hisR ?_
  intro p e s m args below meth c s₁ Bd hml0 hP hK
  obtain ⟨rfl, hZ, hh⟩ := hP
  have hx := Bd.exec
  have hby := Bd.bytes
  have hml : c.maxLocals = 4 := hml0
  have hown : s.vm.findClass "com/example/leanweave/leanweave/Network" = some m.cls := findClass_of_methodNamed Bd.named
  have hnm := (name_of_methodNamed Bd.named Bd.method).1
  have X0 : Stand p l e ({ frames := 0, cells := 1, slots := 0, locals := 0 } : Room) s m #[(.ref a30_0)] below meth c s₁ [] 0 0 := Stand.of_body Bd
  have e0 : s₁.heap = h0 := by rw [← hh, Bd.state]; rfl
  have N0 := Fr.nil n0
  have pre0 : ∀ t, Steps p.tables e below (s₁.setTop (mkF m 0 #[.val (.ref a30_0), .unset, .unset, .unset] [])) t → Steps p.tables e below (s₁.setTop (entryFrame m #[(.ref a30_0)] 4)) t := fun t k => castTop (ef_30 m a30_0) k
  obtain ⟨cl1, Ar1, qc1, Sz1, Nn1, Hh1, Gg1⟩ := (id Vb)
  obtain ⟨b2, g2⟩ : ∃ z, z = h0.size := ⟨_, rfl⟩
  obtain ⟨T2, h2, k2, X2, e2, E2, A2, st2⟩ := newP X0 hx hZ (hw _ (List.mem_of_getElem? (i := 10) rfl)) e0 (g := (mkF m 2 #[.val (.ref a30_0), .unset, .unset, .unset] [(.int (0 : Int32))])) rfl (hb hby d30_2) rfl (by decide) (cap := 0) (by decide) (by decide) (by decide) (by decide)
  rw [← g2] at A2 st2
  have ne3 : a30_0 ≠ b2 := Nat.ne_of_lt (Nat.lt_of_lt_of_le Vb.lt (Nat.le_of_eq g2.symm))
  have gg2 : n0 ≤ b2 := Nat.le_trans Z0 (Nat.le_of_eq g2.symm)
  have sz2 : h0.size ≤ b2 := Nat.le_trans (Keep.refl h0 []).1 (Nat.le_of_eq g2.symm)
  have Zs2 : n0 ≤ h2.size := Nat.le_trans Z0 E2.1
  have K2 : Keep h0 h2 [] := (Keep.refl h0 []).ext E2
  have F4 : Arv Z h2 a30_0 kk .boolean (0 : Int32) [(.int x0), (.int x1), (.int x2), (.int x3), (.int x4), (.int x5)] (.int (0 : Int32)) := Vb.ext E2
  have V2 : Arv Z h2 b2 k2 .int (0 : Int32) [(.int (0 : Int32)), (.int (0 : Int32)), (.int (0 : Int32)), (.int (0 : Int32)), (.int (0 : Int32)), (.int (0 : Int32))] (.int (0 : Int32)) := (Arv.new A2 (by decide)).pad (pad_rep [] (.int (0 : Int32)) 6)
  obtain ⟨cl5, Ar5, qc5, Sz5, Nn5, Hh5, Gg5⟩ := (id F4)
  have k6 : ∀ t, Steps p.tables e below (T2.setTop (mkF m 39 #[.val (.ref a30_0), .val (.ref b2), .val (.int (0 : Int32)), .val (.int (0 : Int32))] [(.ref b2)])) t → Steps p.tables e below (s₁.setTop (entryFrame m #[(.ref a30_0)] 4)) t := by
    intro t k
    refine pre0 t ?_
    show Steps p.tables e below (s₁.setTop (mkF m 0 #[.val (.ref a30_0), .unset, .unset, .unset] [])) _
    refine XS.aloadN X0.here hx rfl (hb hby d30_0) rfl rfl ?_
    show Steps p.tables e below (s₁.setTop (mkF m 1 #[.val (.ref a30_0), .unset, .unset, .unset] [(.ref a30_0)])) _
    refine X0.arraylength hx (by rw [e0]; exact Ar1.1) (State.isArrayOf_alike hZ.alike Ar1.2.1) (g := (mkF m 1 #[.val (.ref a30_0), .unset, .unset, .unset] [(.ref a30_0)])) rfl rfl (hb hby d30_1) _ ?_
    rw [len_of Sz1 Nn1]
    show Steps p.tables e below (s₁.setTop (mkF m 2 #[.val (.ref a30_0), .unset, .unset, .unset] [(.int (0 : Int32))])) _
    refine st2 _ ?_
    show Steps p.tables e below (T2.setTop (mkF m 4 #[.val (.ref a30_0), .unset, .unset, .unset] [(.ref b2)])) _
    refine XS.astoreN X2.here hx rfl (hb hby d30_4) rfl rfl (l' := #[.val (.ref a30_0), .val (.ref b2), .unset, .unset]) rfl ?_
    show Steps p.tables e below (T2.setTop (mkF m 5 #[.val (.ref a30_0), .val (.ref b2), .unset, .unset] [])) _
    refine XS.iconst X2.here hx rfl (hb hby d30_5) ?_
    show Steps p.tables e below (T2.setTop (mkF m 6 #[.val (.ref a30_0), .val (.ref b2), .unset, .unset] [(.int (0 : Int32))])) _
    refine XS.istoreN X2.here hx rfl (hb hby d30_6) rfl (l' := #[.val (.ref a30_0), .val (.ref b2), .val (.int (0 : Int32)), .unset]) rfl ?_
    show Steps p.tables e below (T2.setTop (mkF m 7 #[.val (.ref a30_0), .val (.ref b2), .val (.int (0 : Int32)), .unset] [])) _
    refine XS.iconst X2.here hx rfl (hb hby d30_7) ?_
    show Steps p.tables e below (T2.setTop (mkF m 8 #[.val (.ref a30_0), .val (.ref b2), .val (.int (0 : Int32)), .unset] [(.int (0 : Int32))])) _
    refine XS.istoreN X2.here hx rfl (hb hby d30_8) rfl (l' := #[.val (.ref a30_0), .val (.ref b2), .val (.int (0 : Int32)), .val (.int (0 : Int32))]) rfl ?_
    show Steps p.tables e below (T2.setTop (mkF m 9 #[.val (.ref a30_0), .val (.ref b2), .val (.int (0 : Int32)), .val (.int (0 : Int32))] [])) _
    refine XS.iloadN X2.here hx rfl (hb hby d30_9) rfl ?_
    show Steps p.tables e below (T2.setTop (mkF m 10 #[.val (.ref a30_0), .val (.ref b2), .val (.int (0 : Int32)), .val (.int (0 : Int32))] [(.int (0 : Int32))])) _
    refine XS.aloadN X2.here hx rfl (hb hby d30_10) rfl rfl ?_
    show Steps p.tables e below (T2.setTop (mkF m 11 #[.val (.ref a30_0), .val (.ref b2), .val (.int (0 : Int32)), .val (.int (0 : Int32))] [(.ref a30_0), (.int (0 : Int32))])) _
    refine X2.arraylength hx (by rw [e2]; exact Ar5.1) (State.isArrayOf_alike hZ.alike Ar5.2.1) (g := (mkF m 11 #[.val (.ref a30_0), .val (.ref b2), .val (.int (0 : Int32)), .val (.int (0 : Int32))] [(.ref a30_0), (.int (0 : Int32))])) rfl rfl (hb hby d30_11) _ ?_
    rw [len_of Sz5 Nn5]
    show Steps p.tables e below (T2.setTop (mkF m 12 #[.val (.ref a30_0), .val (.ref b2), .val (.int (0 : Int32)), .val (.int (0 : Int32))] [(.int (0 : Int32)), (.int (0 : Int32))])) _
    refine XS.icmpYes X2.here hx rfl (pc0 := 12) (pc' := 38) rfl (hb hby d30_12) rfl (flt (by decide : ¬ ((0 : Int32) < (0 : Int32)))).2.1 (by decide) (by decide) ?_
    show Steps p.tables e below (T2.setTop (mkF m 38 #[.val (.ref a30_0), .val (.ref b2), .val (.int (0 : Int32)), .val (.int (0 : Int32))] [])) _
    refine XS.aloadN X2.here hx rfl (hb hby d30_38) rfl rfl ?_
    exact k
  obtain ⟨fs, hr, hrun, hended, hW, hsame⟩ := X2.leave (v := some (.ref b2)) (fun h => by rw [Bd.returns] at h; cases h)
  refine ⟨_, _, k6 _ ?_, hrun, hended, _, _, rfl, ?_, ⟨_, rfl⟩, hW, hsame.mono (by decide) (by decide)⟩
  · exact retOut X2 hx Bd.returns rfl (Or.inr (Or.inr (Or.inr (Or.inr ⟨rfl, rfl, rfl⟩)))) (hb hby d30_39) hr
  · show Q30 Z a30_0 kk x0 x1 x2 x3 x4 x5 h0 n0 _ T2.heap _
    rw [e2]
    exact ⟨b2, k2, rfl, N0, K2, gg2, sz2, V2⟩
theorem d31_0 : decode prog_16_method_15_code 0 = .ok (.aload_n 0, 1) := by decide +kernel
theorem d31_1 : decode prog_16_method_15_code 1 = .ok (.arraylength, 1) := by decide +kernel
theorem d31_2 : decode prog_16_method_15_code 2 = .ok (.newarray .int, 2) := by decide +kernel
theorem d31_4 : decode prog_16_method_15_code 4 = .ok (.astore_n 1, 1) := by decide +kernel
theorem d31_5 : decode prog_16_method_15_code 5 = .ok (.iconst 0, 1) := by decide +kernel
theorem d31_6 : decode prog_16_method_15_code 6 = .ok (.istore_n 2, 1) := by decide +kernel
theorem d31_7 : decode prog_16_method_15_code 7 = .ok (.iconst 0, 1) := by decide +kernel
theorem d31_8 : decode prog_16_method_15_code 8 = .ok (.istore_n 3, 1) := by decide +kernel
theorem d31_9 : decode prog_16_method_15_code 9 = .ok (.iload_n 3, 1) := by decide +kernel
theorem d31_10 : decode prog_16_method_15_code 10 = .ok (.aload_n 0, 1) := by decide +kernel
theorem d31_11 : decode prog_16_method_15_code 11 = .ok (.arraylength, 1) := by decide +kernel
theorem d31_12 : decode prog_16_method_15_code 12 = .ok (.if_icmp .ge 26, 3) := by decide +kernel
theorem d31_15 : decode prog_16_method_15_code 15 = .ok (.aload_n 1, 1) := by decide +kernel
theorem d31_16 : decode prog_16_method_15_code 16 = .ok (.iload_n 3, 1) := by decide +kernel
theorem d31_17 : decode prog_16_method_15_code 17 = .ok (.aload_n 0, 1) := by decide +kernel
theorem d31_18 : decode prog_16_method_15_code 18 = .ok (.iload_n 3, 1) := by decide +kernel
theorem d31_19 : decode prog_16_method_15_code 19 = .ok (.baload, 1) := by decide +kernel
theorem d31_20 : decode prog_16_method_15_code 20 = .ok (.ifCond .eq 10, 3) := by decide +kernel
theorem d31_23 : decode prog_16_method_15_code 23 = .ok (.iload_n 2, 1) := by decide +kernel
theorem d31_24 : decode prog_16_method_15_code 24 = .ok (.iinc 2 1, 3) := by decide +kernel
theorem d31_27 : decode prog_16_method_15_code 27 = .ok (.goto 4, 3) := by decide +kernel
theorem d31_30 : decode prog_16_method_15_code 30 = .ok (.iconst (-1), 1) := by decide +kernel
theorem d31_31 : decode prog_16_method_15_code 31 = .ok (.iastore, 1) := by decide +kernel
theorem d31_32 : decode prog_16_method_15_code 32 = .ok (.iinc 3 1, 3) := by decide +kernel
theorem d31_35 : decode prog_16_method_15_code 35 = .ok (.goto (-26), 3) := by decide +kernel
theorem d31_38 : decode prog_16_method_15_code 38 = .ok (.aload_n 1, 1) := by decide +kernel
theorem d31_39 : decode prog_16_method_15_code 39 = .ok (.areturn, 1) := by decide +kernel
theorem ef_31 (m : MethodId) (a31_0 : Addr) : entryFrame m #[(.ref a31_0)] 4 = mkF m 0 #[.val (.ref a31_0), .unset, .unset, .unset] [] := by first | (simp [entryFrame, mkF, argsToLocals, Value.category]; done) | rfl
def Q31 (Z : State) (a31_0 : Addr) (kk : ClassId) (x0 : Int32) (x1 : Int32) (x2 : Int32) (x3 : Int32) (x4 : Int32) (x5 : Int32) (h0 : Heap) (n0 : Nat) (v : Option Value) (h : Heap) (L : List Loc) : Prop := ∃ b31 : Addr, ∃ kn31 : ClassId, v = some (.ref b31) ∧ Fr n0 L ∧ Keep h0 h [] ∧ n0 ≤ b31 ∧ h0.size ≤ b31 ∧ Arv Z h b31 kn31 .int (1 : Int32) [(.int (own_e x0 (0 : Int32))), (.int (0 : Int32)), (.int (0 : Int32)), (.int (0 : Int32)), (.int (0 : Int32)), (.int (0 : Int32))] (.int (0 : Int32))
set_option maxRecDepth 65536 in
set_option maxHeartbeats 40000000 in
theorem rm31 (l : Launch) (Z : State) (a0 : Array Value) (hw : ∀ d ∈ tables_1, d.before a0 Z = true) (ws : List Jvm.Cond) (a31_0 : Addr) (kk : ClassId) (x0 : Int32) (x1 : Int32) (x2 : Int32) (x3 : Int32) (x4 : Int32) (x5 : Int32) (h0 : Heap) (n0 : Nat) (Z0 : n0 ≤ h0.size) (Vb : Arv Z h0 a31_0 kk .boolean (1 : Int32) [(.int x0), (.int x1), (.int x2), (.int x3), (.int x4), (.int x5)] (.int (0 : Int32))) :
    MetFree l (⟨"com/example/leanweave/leanweave/Network", "numbering", "([Z)[I"⟩ : MethodName) (head1 (Jvm.Cond.code (⟨"com/example/leanweave/leanweave/Network", "numbering", "([Z)[I"⟩ : MethodName) prog_16_method_15_code 4 (some (.array .int)) :: ws) ({ frames := 0, cells := 1, slots := 1, locals := 0 } : Room)) (fun a U => a = #[(.ref a31_0)] ∧ Z.Warmed39 U.vm ∧ U.heap = h0) (fun _ _ _ _ _ => True) (fun _ U o U' => ∃ v L, o = .returned v ∧ Q31 Z a31_0 kk x0 x1 x2 x3 x4 x5 h0 n0 v U'.heap L ∧ FrameEnd U o U' L ({ frames := 0, cells := 1, slots := 1, locals := 0 } : Room).cells ({ frames := 0, cells := 1, slots := 1, locals := 0 } : Room).slots) := by
  refine MetFree.of_bodySF (plainFor_of_name pn_1) hisR ?_
  intro p e s m args below meth c s₁ Bd hml0 hP hK
  obtain ⟨rfl, hZ, hh⟩ := hP
  have hx := Bd.exec
  have hby := Bd.bytes
  have hml : c.maxLocals = 4 := hml0
  have hown : s.vm.findClass "com/example/leanweave/leanweave/Network" = some m.cls := findClass_of_methodNamed Bd.named
  have hnm := (name_of_methodNamed Bd.named Bd.method).1
  have X0 : Stand p l e ({ frames := 0, cells := 1, slots := 1, locals := 0 } : Room) s m #[(.ref a31_0)] below meth c s₁ [] 0 0 := Stand.of_body Bd
  have e0 : s₁.heap = h0 := by rw [← hh, Bd.state]; rfl
  have N0 := Fr.nil n0
  have pre0 : ∀ t, Steps p.tables e below (s₁.setTop (mkF m 0 #[.val (.ref a31_0), .unset, .unset, .unset] [])) t → Steps p.tables e below (s₁.setTop (entryFrame m #[(.ref a31_0)] 4)) t := fun t k => castTop (ef_31 m a31_0) k
  obtain ⟨cl1, Ar1, qc1, Sz1, Nn1, Hh1, Gg1⟩ := (id Vb)
  obtain ⟨b2, g2⟩ : ∃ z, z = h0.size := ⟨_, rfl⟩
  obtain ⟨T2, h2, k2, X2, e2, E2, A2, st2⟩ := newP X0 hx hZ (hw _ (List.mem_of_getElem? (i := 10) rfl)) e0 (g := (mkF m 2 #[.val (.ref a31_0), .unset, .unset, .unset] [(.int (1 : Int32))])) rfl (hb hby d31_2) rfl (by decide) (cap := 1) (by decide) (by decide) (by decide) (by decide)
  rw [← g2] at A2 st2
  have ne3 : a31_0 ≠ b2 := Nat.ne_of_lt (Nat.lt_of_lt_of_le Vb.lt (Nat.le_of_eq g2.symm))
  have gg2 : n0 ≤ b2 := Nat.le_trans Z0 (Nat.le_of_eq g2.symm)
  have sz2 : h0.size ≤ b2 := Nat.le_trans (Keep.refl h0 []).1 (Nat.le_of_eq g2.symm)
  have Zs2 : n0 ≤ h2.size := Nat.le_trans Z0 E2.1
  have K2 : Keep h0 h2 [] := (Keep.refl h0 []).ext E2
  have F4 : Arv Z h2 a31_0 kk .boolean (1 : Int32) [(.int x0), (.int x1), (.int x2), (.int x3), (.int x4), (.int x5)] (.int (0 : Int32)) := Vb.ext E2
  have V2 : Arv Z h2 b2 k2 .int (1 : Int32) [(.int (0 : Int32)), (.int (0 : Int32)), (.int (0 : Int32)), (.int (0 : Int32)), (.int (0 : Int32)), (.int (0 : Int32))] (.int (0 : Int32)) := (Arv.new A2 (by decide)).pad (pad_rep [] (.int (0 : Int32)) 6)
  obtain ⟨cl5, Ar5, qc5, Sz5, Nn5, Hh5, Gg5⟩ := (id F4)
  obtain ⟨cl6, Ar6, qc6, Sz6, Nn6, Hh6, Gg6⟩ := (id F4)
  have hin6 : ¬ ((0 : Int32) < 0 ∨ cl6.slots.size ≤ ((0 : Int32)).toNatClampNeg) := inb_of Sz6 ⟨by decide, by decide⟩
  have k7 : ∀ t, Steps p.tables e below (T2.setTop (mkF m 20 #[.val (.ref a31_0), .val (.ref b2), .val (.int (0 : Int32)), .val (.int (0 : Int32))] [(.int x0), (.int (0 : Int32)), (.ref b2)])) t → Steps p.tables e below (s₁.setTop (entryFrame m #[(.ref a31_0)] 4)) t := by
    intro t k
    refine pre0 t ?_
    show Steps p.tables e below (s₁.setTop (mkF m 0 #[.val (.ref a31_0), .unset, .unset, .unset] [])) _
    refine XS.aloadN X0.here hx rfl (hb hby d31_0) rfl rfl ?_
    show Steps p.tables e below (s₁.setTop (mkF m 1 #[.val (.ref a31_0), .unset, .unset, .unset] [(.ref a31_0)])) _
    refine X0.arraylength hx (by rw [e0]; exact Ar1.1) (State.isArrayOf_alike hZ.alike Ar1.2.1) (g := (mkF m 1 #[.val (.ref a31_0), .unset, .unset, .unset] [(.ref a31_0)])) rfl rfl (hb hby d31_1) _ ?_
    rw [len_of Sz1 Nn1]
    show Steps p.tables e below (s₁.setTop (mkF m 2 #[.val (.ref a31_0), .unset, .unset, .unset] [(.int (1 : Int32))])) _
    refine st2 _ ?_
    show Steps p.tables e below (T2.setTop (mkF m 4 #[.val (.ref a31_0), .unset, .unset, .unset] [(.ref b2)])) _
    refine XS.astoreN X2.here hx rfl (hb hby d31_4) rfl rfl (l' := #[.val (.ref a31_0), .val (.ref b2), .unset, .unset]) rfl ?_
    show Steps p.tables e below (T2.setTop (mkF m 5 #[.val (.ref a31_0), .val (.ref b2), .unset, .unset] [])) _
    refine XS.iconst X2.here hx rfl (hb hby d31_5) ?_
    show Steps p.tables e below (T2.setTop (mkF m 6 #[.val (.ref a31_0), .val (.ref b2), .unset, .unset] [(.int (0 : Int32))])) _
    refine XS.istoreN X2.here hx rfl (hb hby d31_6) rfl (l' := #[.val (.ref a31_0), .val (.ref b2), .val (.int (0 : Int32)), .unset]) rfl ?_
    show Steps p.tables e below (T2.setTop (mkF m 7 #[.val (.ref a31_0), .val (.ref b2), .val (.int (0 : Int32)), .unset] [])) _
    refine XS.iconst X2.here hx rfl (hb hby d31_7) ?_
    show Steps p.tables e below (T2.setTop (mkF m 8 #[.val (.ref a31_0), .val (.ref b2), .val (.int (0 : Int32)), .unset] [(.int (0 : Int32))])) _
    refine XS.istoreN X2.here hx rfl (hb hby d31_8) rfl (l' := #[.val (.ref a31_0), .val (.ref b2), .val (.int (0 : Int32)), .val (.int (0 : Int32))]) rfl ?_
    show Steps p.tables e below (T2.setTop (mkF m 9 #[.val (.ref a31_0), .val (.ref b2), .val (.int (0 : Int32)), .val (.int (0 : Int32))] [])) _
    refine XS.iloadN X2.here hx rfl (hb hby d31_9) rfl ?_
    show Steps p.tables e below (T2.setTop (mkF m 10 #[.val (.ref a31_0), .val (.ref b2), .val (.int (0 : Int32)), .val (.int (0 : Int32))] [(.int (0 : Int32))])) _
    refine XS.aloadN X2.here hx rfl (hb hby d31_10) rfl rfl ?_
    show Steps p.tables e below (T2.setTop (mkF m 11 #[.val (.ref a31_0), .val (.ref b2), .val (.int (0 : Int32)), .val (.int (0 : Int32))] [(.ref a31_0), (.int (0 : Int32))])) _
    refine X2.arraylength hx (by rw [e2]; exact Ar5.1) (State.isArrayOf_alike hZ.alike Ar5.2.1) (g := (mkF m 11 #[.val (.ref a31_0), .val (.ref b2), .val (.int (0 : Int32)), .val (.int (0 : Int32))] [(.ref a31_0), (.int (0 : Int32))])) rfl rfl (hb hby d31_11) _ ?_
    rw [len_of Sz5 Nn5]
    show Steps p.tables e below (T2.setTop (mkF m 12 #[.val (.ref a31_0), .val (.ref b2), .val (.int (0 : Int32)), .val (.int (0 : Int32))] [(.int (1 : Int32)), (.int (0 : Int32))])) _
    refine XS.icmpNo X2.here hx rfl (hb hby d31_12) rfl (tlt (by decide : (0 : Int32) < (1 : Int32))).2.1 ?_
    show Steps p.tables e below (T2.setTop (mkF m 15 #[.val (.ref a31_0), .val (.ref b2), .val (.int (0 : Int32)), .val (.int (0 : Int32))] [])) _
    refine XS.aloadN X2.here hx rfl (hb hby d31_15) rfl rfl ?_
    show Steps p.tables e below (T2.setTop (mkF m 16 #[.val (.ref a31_0), .val (.ref b2), .val (.int (0 : Int32)), .val (.int (0 : Int32))] [(.ref b2)])) _
    refine XS.iloadN X2.here hx rfl (hb hby d31_16) rfl ?_
    show Steps p.tables e below (T2.setTop (mkF m 17 #[.val (.ref a31_0), .val (.ref b2), .val (.int (0 : Int32)), .val (.int (0 : Int32))] [(.int (0 : Int32)), (.ref b2)])) _
    refine XS.aloadN X2.here hx rfl (hb hby d31_17) rfl rfl ?_
    show Steps p.tables e below (T2.setTop (mkF m 18 #[.val (.ref a31_0), .val (.ref b2), .val (.int (0 : Int32)), .val (.int (0 : Int32))] [(.ref a31_0), (.int (0 : Int32)), (.ref b2)])) _
    refine XS.iloadN X2.here hx rfl (hb hby d31_18) rfl ?_
    show Steps p.tables e below (T2.setTop (mkF m 19 #[.val (.ref a31_0), .val (.ref b2), .val (.int (0 : Int32)), .val (.int (0 : Int32))] [(.int (0 : Int32)), (.ref a31_0), (.int (0 : Int32)), (.ref b2)])) _
    refine X2.baloadBooleans hx (j := (0 : Int32)) (v := (.int x0)) (by rw [e2]; exact Ar6.1) (State.isArrayOf_alike hZ.alike Ar6.2.1) Ar6.2.2 hin6 (Hh6.at hin6 rfl) (g := (mkF m 19 #[.val (.ref a31_0), .val (.ref b2), .val (.int (0 : Int32)), .val (.int (0 : Int32))] [(.int (0 : Int32)), (.ref a31_0), (.int (0 : Int32)), (.ref b2)])) rfl rfl (hb hby d31_19) _ ?_
    exact k
  obtain ⟨v9, hv9⟩ : ∃ z, z = (if x0 = (0 : Int32) then (0 : Int32) else (1 : Int32)) := ⟨_, rfl⟩
  obtain ⟨v10, hv10⟩ : ∃ z, z = (if x0 = (0 : Int32) then (-1 : Int32) else (0 : Int32)) := ⟨_, rfl⟩
  have k11 : ∀ t, Steps p.tables e below (T2.setTop (mkF m 31 #[.val (.ref a31_0), .val (.ref b2), .val (.int v9), .val (.int (0 : Int32))] [(.int v10), (.int (0 : Int32)), (.ref b2)])) t → Steps p.tables e below (s₁.setTop (entryFrame m #[(.ref a31_0)] 4)) t := by
    intro t k
    refine k7 t ?_
    by_cases hc20_8 : x0 = (0 : Int32)
    · skip
      show Steps p.tables e below (T2.setTop (mkF m 20 #[.val (.ref a31_0), .val (.ref b2), .val (.int (0 : Int32)), .val (.int (0 : Int32))] [(.int x0), (.int (0 : Int32)), (.ref b2)])) _
      refine XS.ifYes X2.here hx rfl (pc0 := 20) (pc' := 30) rfl (hb hby d31_20) rfl ((if0 _ _).trans (teq hc20_8).1) (by decide) (by decide) ?_
      show Steps p.tables e below (T2.setTop (mkF m 30 #[.val (.ref a31_0), .val (.ref b2), .val (.int (0 : Int32)), .val (.int (0 : Int32))] [(.int (0 : Int32)), (.ref b2)])) _
      refine XS.iconst X2.here hx rfl (hb hby d31_30) ?_
      rw [show v9 = (0 : Int32) from hv9.trans (by rw [if_pos hc20_8])] at k
      rw [show v10 = (-1 : Int32) from hv10.trans (by rw [if_pos hc20_8])] at k
      exact k
    · skip
      show Steps p.tables e below (T2.setTop (mkF m 20 #[.val (.ref a31_0), .val (.ref b2), .val (.int (0 : Int32)), .val (.int (0 : Int32))] [(.int x0), (.int (0 : Int32)), (.ref b2)])) _
      refine XS.ifNo X2.here hx rfl (hb hby d31_20) rfl ((if0 _ _).trans (feq hc20_8).1) ?_
      show Steps p.tables e below (T2.setTop (mkF m 23 #[.val (.ref a31_0), .val (.ref b2), .val (.int (0 : Int32)), .val (.int (0 : Int32))] [(.int (0 : Int32)), (.ref b2)])) _
      refine XS.iloadN X2.here hx rfl (hb hby d31_23) rfl ?_
      show Steps p.tables e below (T2.setTop (mkF m 24 #[.val (.ref a31_0), .val (.ref b2), .val (.int (0 : Int32)), .val (.int (0 : Int32))] [(.int (0 : Int32)), (.int (0 : Int32)), (.ref b2)])) _
      refine XS.iinc X2.here hx rfl (hb hby d31_24) rfl (l' := #[.val (.ref a31_0), .val (.ref b2), .val (.int (1 : Int32)), .val (.int (0 : Int32))]) rfl ?_
      show Steps p.tables e below (T2.setTop (mkF m 27 #[.val (.ref a31_0), .val (.ref b2), .val (.int (1 : Int32)), .val (.int (0 : Int32))] [(.int (0 : Int32)), (.int (0 : Int32)), (.ref b2)])) _
      refine XS.goto X2.here hx rfl (pc0 := 27) (pc' := 31) rfl (hb hby d31_27) (by decide) (by decide) ?_
      rw [show v9 = (1 : Int32) from hv9.trans (by rw [if_neg hc20_8])] at k
      rw [show v10 = (0 : Int32) from hv10.trans (by rw [if_neg hc20_8])] at k
      exact k
  obtain ⟨cl12, Ar12, qc12, Sz12, Nn12, Hh12, Gg12⟩ := (id V2)
  have hin12 : ¬ ((0 : Int32) < 0 ∨ cl12.slots.size ≤ ((0 : Int32)).toNatClampNeg) := inb_of Sz12 ⟨by decide, by decide⟩
  obtain ⟨T12, h12, X12, e12, W12, st12⟩ := stI X2 hx hZ e2 Ar12 (j := (0 : Int32)) hin12 (g := (mkF m 31 #[.val (.ref a31_0), .val (.ref b2), .val (.int v9), .val (.int (0 : Int32))] [(.int v10), (.int (0 : Int32)), (.ref b2)])) rfl rfl (hb hby d31_31)
  have F13 : Arv Z h12 a31_0 kk .boolean (1 : Int32) [(.int x0), (.int x1), (.int x2), (.int x3), (.int x4), (.int x5)] (.int (0 : Int32)) := F4.other W12 ne3
  have V12 : Arv Z h12 b2 k2 .int (1 : Int32) [(.int v10), (.int (0 : Int32)), (.int (0 : Int32)), (.int (0 : Int32)), (.int (0 : Int32)), (.int (0 : Int32))] (.int (0 : Int32)) := Arv.set Ar12 qc12 Sz12 Nn12 Hh12 Gg12 rfl W12 0 rfl (Nat.le_of_ble_eq_true rfl)
  have N12 := Fr.snoc X12 N0 gg2
  have K12 : Keep h0 h12 [] := K2.wr W12 (Or.inr sz2)
  have Zs12 : n0 ≤ h12.size := by rw [W12.size]; exact Zs2
  obtain ⟨cl15, Ar15, qc15, Sz15, Nn15, Hh15, Gg15⟩ := (id F13)
  have k16 : ∀ t, Steps p.tables e below (T12.setTop (mkF m 39 #[.val (.ref a31_0), .val (.ref b2), .val (.int v9), .val (.int (1 : Int32))] [(.ref b2)])) t → Steps p.tables e below (s₁.setTop (entryFrame m #[(.ref a31_0)] 4)) t := by
    intro t k
    refine k11 t ?_
    show Steps p.tables e below (T2.setTop (mkF m 31 #[.val (.ref a31_0), .val (.ref b2), .val (.int v9), .val (.int (0 : Int32))] [(.int v10), (.int (0 : Int32)), (.ref b2)])) _
    refine st12 _ ?_
    show Steps p.tables e below (T12.setTop (mkF m 32 #[.val (.ref a31_0), .val (.ref b2), .val (.int v9), .val (.int (0 : Int32))] [])) _
    refine XS.iinc X12.here hx rfl (hb hby d31_32) rfl (l' := #[.val (.ref a31_0), .val (.ref b2), .val (.int v9), .val (.int (1 : Int32))]) rfl ?_
    show Steps p.tables e below (T12.setTop (mkF m 35 #[.val (.ref a31_0), .val (.ref b2), .val (.int v9), .val (.int (1 : Int32))] [])) _
    refine XS.goto X12.here hx rfl (pc0 := 35) (pc' := 9) rfl (hb hby d31_35) (by decide) (by decide) ?_
    show Steps p.tables e below (T12.setTop (mkF m 9 #[.val (.ref a31_0), .val (.ref b2), .val (.int v9), .val (.int (1 : Int32))] [])) _
    refine XS.iloadN X12.here hx rfl (hb hby d31_9) rfl ?_
    show Steps p.tables e below (T12.setTop (mkF m 10 #[.val (.ref a31_0), .val (.ref b2), .val (.int v9), .val (.int (1 : Int32))] [(.int (1 : Int32))])) _
    refine XS.aloadN X12.here hx rfl (hb hby d31_10) rfl rfl ?_
    show Steps p.tables e below (T12.setTop (mkF m 11 #[.val (.ref a31_0), .val (.ref b2), .val (.int v9), .val (.int (1 : Int32))] [(.ref a31_0), (.int (1 : Int32))])) _
    refine X12.arraylength hx (by rw [e12]; exact Ar15.1) (State.isArrayOf_alike hZ.alike Ar15.2.1) (g := (mkF m 11 #[.val (.ref a31_0), .val (.ref b2), .val (.int v9), .val (.int (1 : Int32))] [(.ref a31_0), (.int (1 : Int32))])) rfl rfl (hb hby d31_11) _ ?_
    rw [len_of Sz15 Nn15]
    show Steps p.tables e below (T12.setTop (mkF m 12 #[.val (.ref a31_0), .val (.ref b2), .val (.int v9), .val (.int (1 : Int32))] [(.int (1 : Int32)), (.int (1 : Int32))])) _
    refine XS.icmpYes X12.here hx rfl (pc0 := 12) (pc' := 38) rfl (hb hby d31_12) rfl (flt (by decide : ¬ ((1 : Int32) < (1 : Int32)))).2.1 (by decide) (by decide) ?_
    show Steps p.tables e below (T12.setTop (mkF m 38 #[.val (.ref a31_0), .val (.ref b2), .val (.int v9), .val (.int (1 : Int32))] [])) _
    refine XS.aloadN X12.here hx rfl (hb hby d31_38) rfl rfl ?_
    exact k
  subst hv10 hv9
  obtain ⟨fs, hr, hrun, hended, hW, hsame⟩ := X12.leave (v := some (.ref b2)) (fun h => by rw [Bd.returns] at h; cases h)
  refine ⟨_, _, k16 _ ?_, hrun, hended, _, _, rfl, ?_, ⟨_, rfl⟩, hW, hsame.mono (by decide) (by decide)⟩
  · exact retOut X12 hx Bd.returns rfl (Or.inr (Or.inr (Or.inr (Or.inr ⟨rfl, rfl, rfl⟩)))) (hb hby d31_39) hr
  · show Q31 Z a31_0 kk x0 x1 x2 x3 x4 x5 h0 n0 _ T12.heap _
    rw [e12]
    exact ⟨b2, k2, rfl, N12, K12, gg2, sz2, V12⟩
theorem d32_0 : decode prog_16_method_15_code 0 = .ok (.aload_n 0, 1) := by decide +kernel
theorem d32_1 : decode prog_16_method_15_code 1 = .ok (.arraylength, 1) := by decide +kernel
theorem d32_2 : decode prog_16_method_15_code 2 = .ok (.newarray .int, 2) := by decide +kernel
theorem d32_4 : decode prog_16_method_15_code 4 = .ok (.astore_n 1, 1) := by decide +kernel
theorem d32_5 : decode prog_16_method_15_code 5 = .ok (.iconst 0, 1) := by decide +kernel
theorem d32_6 : decode prog_16_method_15_code 6 = .ok (.istore_n 2, 1) := by decide +kernel
theorem d32_7 : decode prog_16_method_15_code 7 = .ok (.iconst 0, 1) := by decide +kernel
theorem d32_8 : decode prog_16_method_15_code 8 = .ok (.istore_n 3, 1) := by decide +kernel
theorem d32_9 : decode prog_16_method_15_code 9 = .ok (.iload_n 3, 1) := by decide +kernel
theorem d32_10 : decode prog_16_method_15_code 10 = .ok (.aload_n 0, 1) := by decide +kernel
theorem d32_11 : decode prog_16_method_15_code 11 = .ok (.arraylength, 1) := by decide +kernel
theorem d32_12 : decode prog_16_method_15_code 12 = .ok (.if_icmp .ge 26, 3) := by decide +kernel
theorem d32_15 : decode prog_16_method_15_code 15 = .ok (.aload_n 1, 1) := by decide +kernel
theorem d32_16 : decode prog_16_method_15_code 16 = .ok (.iload_n 3, 1) := by decide +kernel
theorem d32_17 : decode prog_16_method_15_code 17 = .ok (.aload_n 0, 1) := by decide +kernel
theorem d32_18 : decode prog_16_method_15_code 18 = .ok (.iload_n 3, 1) := by decide +kernel
theorem d32_19 : decode prog_16_method_15_code 19 = .ok (.baload, 1) := by decide +kernel
theorem d32_20 : decode prog_16_method_15_code 20 = .ok (.ifCond .eq 10, 3) := by decide +kernel
theorem d32_23 : decode prog_16_method_15_code 23 = .ok (.iload_n 2, 1) := by decide +kernel
theorem d32_24 : decode prog_16_method_15_code 24 = .ok (.iinc 2 1, 3) := by decide +kernel
theorem d32_27 : decode prog_16_method_15_code 27 = .ok (.goto 4, 3) := by decide +kernel
theorem d32_30 : decode prog_16_method_15_code 30 = .ok (.iconst (-1), 1) := by decide +kernel
theorem d32_31 : decode prog_16_method_15_code 31 = .ok (.iastore, 1) := by decide +kernel
theorem d32_32 : decode prog_16_method_15_code 32 = .ok (.iinc 3 1, 3) := by decide +kernel
theorem d32_35 : decode prog_16_method_15_code 35 = .ok (.goto (-26), 3) := by decide +kernel
theorem d32_38 : decode prog_16_method_15_code 38 = .ok (.aload_n 1, 1) := by decide +kernel
theorem d32_39 : decode prog_16_method_15_code 39 = .ok (.areturn, 1) := by decide +kernel
theorem ef_32 (m : MethodId) (a32_0 : Addr) : entryFrame m #[(.ref a32_0)] 4 = mkF m 0 #[.val (.ref a32_0), .unset, .unset, .unset] [] := by first | (simp [entryFrame, mkF, argsToLocals, Value.category]; done) | rfl
def Q32 (Z : State) (a32_0 : Addr) (kk : ClassId) (x0 : Int32) (x1 : Int32) (x2 : Int32) (x3 : Int32) (x4 : Int32) (x5 : Int32) (h0 : Heap) (n0 : Nat) (v : Option Value) (h : Heap) (L : List Loc) : Prop := ∃ b32 : Addr, ∃ kn32 : ClassId, v = some (.ref b32) ∧ Fr n0 L ∧ Keep h0 h [] ∧ n0 ≤ b32 ∧ h0.size ≤ b32 ∧ Arv Z h b32 kn32 .int (2 : Int32) [(.int (own_e x0 (0 : Int32))), (.int (own_e x1 (own_c x0 (0 : Int32)))), (.int (0 : Int32)), (.int (0 : Int32)), (.int (0 : Int32)), (.int (0 : Int32))] (.int (0 : Int32))
set_option maxRecDepth 65536 in
set_option maxHeartbeats 40000000 in
theorem rm32 (l : Launch) (Z : State) (a0 : Array Value) (hw : ∀ d ∈ tables_1, d.before a0 Z = true) (ws : List Jvm.Cond) (a32_0 : Addr) (kk : ClassId) (x0 : Int32) (x1 : Int32) (x2 : Int32) (x3 : Int32) (x4 : Int32) (x5 : Int32) (h0 : Heap) (n0 : Nat) (Z0 : n0 ≤ h0.size) (Vb : Arv Z h0 a32_0 kk .boolean (2 : Int32) [(.int x0), (.int x1), (.int x2), (.int x3), (.int x4), (.int x5)] (.int (0 : Int32))) :
    MetFree l (⟨"com/example/leanweave/leanweave/Network", "numbering", "([Z)[I"⟩ : MethodName) (head1 (Jvm.Cond.code (⟨"com/example/leanweave/leanweave/Network", "numbering", "([Z)[I"⟩ : MethodName) prog_16_method_15_code 4 (some (.array .int)) :: ws) ({ frames := 0, cells := 1, slots := 2, locals := 0 } : Room)) (fun a U => a = #[(.ref a32_0)] ∧ Z.Warmed39 U.vm ∧ U.heap = h0) (fun _ _ _ _ _ => True) (fun _ U o U' => ∃ v L, o = .returned v ∧ Q32 Z a32_0 kk x0 x1 x2 x3 x4 x5 h0 n0 v U'.heap L ∧ FrameEnd U o U' L ({ frames := 0, cells := 1, slots := 2, locals := 0 } : Room).cells ({ frames := 0, cells := 1, slots := 2, locals := 0 } : Room).slots) := by
  refine MetFree.of_bodySF (plainFor_of_name pn_1) hisR ?_
  intro p e s m args below meth c s₁ Bd hml0 hP hK
  obtain ⟨rfl, hZ, hh⟩ := hP
  have hx := Bd.exec
  have hby := Bd.bytes
  have hml : c.maxLocals = 4 := hml0
  have hown : s.vm.findClass "com/example/leanweave/leanweave/Network" = some m.cls := findClass_of_methodNamed Bd.named
  have hnm := (name_of_methodNamed Bd.named Bd.method).1
  have X0 : Stand p l e ({ frames := 0, cells := 1, slots := 2, locals := 0 } : Room) s m #[(.ref a32_0)] below meth c s₁ [] 0 0 := Stand.of_body Bd
  have e0 : s₁.heap = h0 := by rw [← hh, Bd.state]; rfl
  have N0 := Fr.nil n0
  have pre0 : ∀ t, Steps p.tables e below (s₁.setTop (mkF m 0 #[.val (.ref a32_0), .unset, .unset, .unset] [])) t → Steps p.tables e below (s₁.setTop (entryFrame m #[(.ref a32_0)] 4)) t := fun t k => castTop (ef_32 m a32_0) k
  obtain ⟨cl1, Ar1, qc1, Sz1, Nn1, Hh1, Gg1⟩ := (id Vb)
  obtain ⟨b2, g2⟩ : ∃ z, z = h0.size := ⟨_, rfl⟩
  obtain ⟨T2, h2, k2, X2, e2, E2, A2, st2⟩ := newP X0 hx hZ (hw _ (List.mem_of_getElem? (i := 10) rfl)) e0 (g := (mkF m 2 #[.val (.ref a32_0), .unset, .unset, .unset] [(.int (2 : Int32))])) rfl (hb hby d32_2) rfl (by decide) (cap := 2) (by decide) (by decide) (by decide) (by decide)
  rw [← g2] at A2 st2
  have ne3 : a32_0 ≠ b2 := Nat.ne_of_lt (Nat.lt_of_lt_of_le Vb.lt (Nat.le_of_eq g2.symm))
  have gg2 : n0 ≤ b2 := Nat.le_trans Z0 (Nat.le_of_eq g2.symm)
  have sz2 : h0.size ≤ b2 := Nat.le_trans (Keep.refl h0 []).1 (Nat.le_of_eq g2.symm)
  have Zs2 : n0 ≤ h2.size := Nat.le_trans Z0 E2.1
  have K2 : Keep h0 h2 [] := (Keep.refl h0 []).ext E2
  have F4 : Arv Z h2 a32_0 kk .boolean (2 : Int32) [(.int x0), (.int x1), (.int x2), (.int x3), (.int x4), (.int x5)] (.int (0 : Int32)) := Vb.ext E2
  have V2 : Arv Z h2 b2 k2 .int (2 : Int32) [(.int (0 : Int32)), (.int (0 : Int32)), (.int (0 : Int32)), (.int (0 : Int32)), (.int (0 : Int32)), (.int (0 : Int32))] (.int (0 : Int32)) := (Arv.new A2 (by decide)).pad (pad_rep [] (.int (0 : Int32)) 6)
  obtain ⟨cl5, Ar5, qc5, Sz5, Nn5, Hh5, Gg5⟩ := (id F4)
  obtain ⟨cl6, Ar6, qc6, Sz6, Nn6, Hh6, Gg6⟩ := (id F4)
  have hin6 : ¬ ((0 : Int32) < 0 ∨ cl6.slots.size ≤ ((0 : Int32)).toNatClampNeg) := inb_of Sz6 ⟨by decide, by decide⟩
  have k7 : ∀ t, Steps p.tables e below (T2.setTop (mkF m 20 #[.val (.ref a32_0), .val (.ref b2), .val (.int (0 : Int32)), .val (.int (0 : Int32))] [(.int x0), (.int (0 : Int32)), (.ref b2)])) t → Steps p.tables e below (s₁.setTop (entryFrame m #[(.ref a32_0)] 4)) t := by
    intro t k
    refine pre0 t ?_
    show Steps p.tables e below (s₁.setTop (mkF m 0 #[.val (.ref a32_0), .unset, .unset, .unset] [])) _
    refine XS.aloadN X0.here hx rfl (hb hby d32_0) rfl rfl ?_
    show Steps p.tables e below (s₁.setTop (mkF m 1 #[.val (.ref a32_0), .unset, .unset, .unset] [(.ref a32_0)])) _
    refine X0.arraylength hx (by rw [e0]; exact Ar1.1) (State.isArrayOf_alike hZ.alike Ar1.2.1) (g := (mkF m 1 #[.val (.ref a32_0), .unset, .unset, .unset] [(.ref a32_0)])) rfl rfl (hb hby d32_1) _ ?_
    rw [len_of Sz1 Nn1]
    show Steps p.tables e below (s₁.setTop (mkF m 2 #[.val (.ref a32_0), .unset, .unset, .unset] [(.int (2 : Int32))])) _
    refine st2 _ ?_
    show Steps p.tables e below (T2.setTop (mkF m 4 #[.val (.ref a32_0), .unset, .unset, .unset] [(.ref b2)])) _
    refine XS.astoreN X2.here hx rfl (hb hby d32_4) rfl rfl (l' := #[.val (.ref a32_0), .val (.ref b2), .unset, .unset]) rfl ?_
    show Steps p.tables e below (T2.setTop (mkF m 5 #[.val (.ref a32_0), .val (.ref b2), .unset, .unset] [])) _
    refine XS.iconst X2.here hx rfl (hb hby d32_5) ?_
    show Steps p.tables e below (T2.setTop (mkF m 6 #[.val (.ref a32_0), .val (.ref b2), .unset, .unset] [(.int (0 : Int32))])) _
    refine XS.istoreN X2.here hx rfl (hb hby d32_6) rfl (l' := #[.val (.ref a32_0), .val (.ref b2), .val (.int (0 : Int32)), .unset]) rfl ?_
    show Steps p.tables e below (T2.setTop (mkF m 7 #[.val (.ref a32_0), .val (.ref b2), .val (.int (0 : Int32)), .unset] [])) _
    refine XS.iconst X2.here hx rfl (hb hby d32_7) ?_
    show Steps p.tables e below (T2.setTop (mkF m 8 #[.val (.ref a32_0), .val (.ref b2), .val (.int (0 : Int32)), .unset] [(.int (0 : Int32))])) _
    refine XS.istoreN X2.here hx rfl (hb hby d32_8) rfl (l' := #[.val (.ref a32_0), .val (.ref b2), .val (.int (0 : Int32)), .val (.int (0 : Int32))]) rfl ?_
    show Steps p.tables e below (T2.setTop (mkF m 9 #[.val (.ref a32_0), .val (.ref b2), .val (.int (0 : Int32)), .val (.int (0 : Int32))] [])) _
    refine XS.iloadN X2.here hx rfl (hb hby d32_9) rfl ?_
    show Steps p.tables e below (T2.setTop (mkF m 10 #[.val (.ref a32_0), .val (.ref b2), .val (.int (0 : Int32)), .val (.int (0 : Int32))] [(.int (0 : Int32))])) _
    refine XS.aloadN X2.here hx rfl (hb hby d32_10) rfl rfl ?_
    show Steps p.tables e below (T2.setTop (mkF m 11 #[.val (.ref a32_0), .val (.ref b2), .val (.int (0 : Int32)), .val (.int (0 : Int32))] [(.ref a32_0), (.int (0 : Int32))])) _
    refine X2.arraylength hx (by rw [e2]; exact Ar5.1) (State.isArrayOf_alike hZ.alike Ar5.2.1) (g := (mkF m 11 #[.val (.ref a32_0), .val (.ref b2), .val (.int (0 : Int32)), .val (.int (0 : Int32))] [(.ref a32_0), (.int (0 : Int32))])) rfl rfl (hb hby d32_11) _ ?_
    rw [len_of Sz5 Nn5]
    show Steps p.tables e below (T2.setTop (mkF m 12 #[.val (.ref a32_0), .val (.ref b2), .val (.int (0 : Int32)), .val (.int (0 : Int32))] [(.int (2 : Int32)), (.int (0 : Int32))])) _
    refine XS.icmpNo X2.here hx rfl (hb hby d32_12) rfl (tlt (by decide : (0 : Int32) < (2 : Int32))).2.1 ?_
    show Steps p.tables e below (T2.setTop (mkF m 15 #[.val (.ref a32_0), .val (.ref b2), .val (.int (0 : Int32)), .val (.int (0 : Int32))] [])) _
    refine XS.aloadN X2.here hx rfl (hb hby d32_15) rfl rfl ?_
    show Steps p.tables e below (T2.setTop (mkF m 16 #[.val (.ref a32_0), .val (.ref b2), .val (.int (0 : Int32)), .val (.int (0 : Int32))] [(.ref b2)])) _
    refine XS.iloadN X2.here hx rfl (hb hby d32_16) rfl ?_
    show Steps p.tables e below (T2.setTop (mkF m 17 #[.val (.ref a32_0), .val (.ref b2), .val (.int (0 : Int32)), .val (.int (0 : Int32))] [(.int (0 : Int32)), (.ref b2)])) _
    refine XS.aloadN X2.here hx rfl (hb hby d32_17) rfl rfl ?_
    show Steps p.tables e below (T2.setTop (mkF m 18 #[.val (.ref a32_0), .val (.ref b2), .val (.int (0 : Int32)), .val (.int (0 : Int32))] [(.ref a32_0), (.int (0 : Int32)), (.ref b2)])) _
    refine XS.iloadN X2.here hx rfl (hb hby d32_18) rfl ?_
    show Steps p.tables e below (T2.setTop (mkF m 19 #[.val (.ref a32_0), .val (.ref b2), .val (.int (0 : Int32)), .val (.int (0 : Int32))] [(.int (0 : Int32)), (.ref a32_0), (.int (0 : Int32)), (.ref b2)])) _
    refine X2.baloadBooleans hx (j := (0 : Int32)) (v := (.int x0)) (by rw [e2]; exact Ar6.1) (State.isArrayOf_alike hZ.alike Ar6.2.1) Ar6.2.2 hin6 (Hh6.at hin6 rfl) (g := (mkF m 19 #[.val (.ref a32_0), .val (.ref b2), .val (.int (0 : Int32)), .val (.int (0 : Int32))] [(.int (0 : Int32)), (.ref a32_0), (.int (0 : Int32)), (.ref b2)])) rfl rfl (hb hby d32_19) _ ?_
    exact k
  obtain ⟨v9, hv9⟩ : ∃ z, z = (if x0 = (0 : Int32) then (0 : Int32) else (1 : Int32)) := ⟨_, rfl⟩
  obtain ⟨v10, hv10⟩ : ∃ z, z = (if x0 = (0 : Int32) then (-1 : Int32) else (0 : Int32)) := ⟨_, rfl⟩
  have k11 : ∀ t, Steps p.tables e below (T2.setTop (mkF m 31 #[.val (.ref a32_0), .val (.ref b2), .val (.int v9), .val (.int (0 : Int32))] [(.int v10), (.int (0 : Int32)), (.ref b2)])) t → Steps p.tables e below (s₁.setTop (entryFrame m #[(.ref a32_0)] 4)) t := by
    intro t k
    refine k7 t ?_
    by_cases hc20_8 : x0 = (0 : Int32)
    · skip
      show Steps p.tables e below (T2.setTop (mkF m 20 #[.val (.ref a32_0), .val (.ref b2), .val (.int (0 : Int32)), .val (.int (0 : Int32))] [(.int x0), (.int (0 : Int32)), (.ref b2)])) _
      refine XS.ifYes X2.here hx rfl (pc0 := 20) (pc' := 30) rfl (hb hby d32_20) rfl ((if0 _ _).trans (teq hc20_8).1) (by decide) (by decide) ?_
      show Steps p.tables e below (T2.setTop (mkF m 30 #[.val (.ref a32_0), .val (.ref b2), .val (.int (0 : Int32)), .val (.int (0 : Int32))] [(.int (0 : Int32)), (.ref b2)])) _
      refine XS.iconst X2.here hx rfl (hb hby d32_30) ?_
      rw [show v9 = (0 : Int32) from hv9.trans (by rw [if_pos hc20_8])] at k
      rw [show v10 = (-1 : Int32) from hv10.trans (by rw [if_pos hc20_8])] at k
      exact k
    · skip
      show Steps p.tables e below (T2.setTop (mkF m 20 #[.val (.ref a32_0), .val (.ref b2), .val (.int (0 : Int32)), .val (.int (0 : Int32))] [(.int x0), (.int (0 : Int32)), (.ref b2)])) _
      refine XS.ifNo X2.here hx rfl (hb hby d32_20) rfl ((if0 _ _).trans (feq hc20_8).1) ?_
      show Steps p.tables e below (T2.setTop (mkF m 23 #[.val (.ref a32_0), .val (.ref b2), .val (.int (0 : Int32)), .val (.int (0 : Int32))] [(.int (0 : Int32)), (.ref b2)])) _
      refine XS.iloadN X2.here hx rfl (hb hby d32_23) rfl ?_
      show Steps p.tables e below (T2.setTop (mkF m 24 #[.val (.ref a32_0), .val (.ref b2), .val (.int (0 : Int32)), .val (.int (0 : Int32))] [(.int (0 : Int32)), (.int (0 : Int32)), (.ref b2)])) _
      refine XS.iinc X2.here hx rfl (hb hby d32_24) rfl (l' := #[.val (.ref a32_0), .val (.ref b2), .val (.int (1 : Int32)), .val (.int (0 : Int32))]) rfl ?_
      show Steps p.tables e below (T2.setTop (mkF m 27 #[.val (.ref a32_0), .val (.ref b2), .val (.int (1 : Int32)), .val (.int (0 : Int32))] [(.int (0 : Int32)), (.int (0 : Int32)), (.ref b2)])) _
      refine XS.goto X2.here hx rfl (pc0 := 27) (pc' := 31) rfl (hb hby d32_27) (by decide) (by decide) ?_
      rw [show v9 = (1 : Int32) from hv9.trans (by rw [if_neg hc20_8])] at k
      rw [show v10 = (0 : Int32) from hv10.trans (by rw [if_neg hc20_8])] at k
      exact k
  obtain ⟨cl12, Ar12, qc12, Sz12, Nn12, Hh12, Gg12⟩ := (id V2)
  have hin12 : ¬ ((0 : Int32) < 0 ∨ cl12.slots.size ≤ ((0 : Int32)).toNatClampNeg) := inb_of Sz12 ⟨by decide, by decide⟩
  obtain ⟨T12, h12, X12, e12, W12, st12⟩ := stI X2 hx hZ e2 Ar12 (j := (0 : Int32)) hin12 (g := (mkF m 31 #[.val (.ref a32_0), .val (.ref b2), .val (.int v9), .val (.int (0 : Int32))] [(.int v10), (.int (0 : Int32)), (.ref b2)])) rfl rfl (hb hby d32_31)
  have F13 : Arv Z h12 a32_0 kk .boolean (2 : Int32) [(.int x0), (.int x1), (.int x2), (.int x3), (.int x4), (.int x5)] (.int (0 : Int32)) := F4.other W12 ne3
  have V12 : Arv Z h12 b2 k2 .int (2 : Int32) [(.int v10), (.int (0 : Int32)), (.int (0 : Int32)), (.int (0 : Int32)), (.int (0 : Int32)), (.int (0 : Int32))] (.int (0 : Int32)) := Arv.set Ar12 qc12 Sz12 Nn12 Hh12 Gg12 rfl W12 0 rfl (Nat.le_of_ble_eq_true rfl)
  have N12 := Fr.snoc X12 N0 gg2
  have K12 : Keep h0 h12 [] := K2.wr W12 (Or.inr sz2)
  have Zs12 : n0 ≤ h12.size := by rw [W12.size]; exact Zs2
  obtain ⟨cl15, Ar15, qc15, Sz15, Nn15, Hh15, Gg15⟩ := (id F13)
  obtain ⟨cl16, Ar16, qc16, Sz16, Nn16, Hh16, Gg16⟩ := (id F13)
  have hin16 : ¬ ((1 : Int32) < 0 ∨ cl16.slots.size ≤ ((1 : Int32)).toNatClampNeg) := inb_of Sz16 ⟨by decide, by decide⟩
  have k17 : ∀ t, Steps p.tables e below (T12.setTop (mkF m 20 #[.val (.ref a32_0), .val (.ref b2), .val (.int v9), .val (.int (1 : Int32))] [(.int x1), (.int (1 : Int32)), (.ref b2)])) t → Steps p.tables e below (s₁.setTop (entryFrame m #[(.ref a32_0)] 4)) t := by
    intro t k
    refine k11 t ?_
    show Steps p.tables e below (T2.setTop (mkF m 31 #[.val (.ref a32_0), .val (.ref b2), .val (.int v9), .val (.int (0 : Int32))] [(.int v10), (.int (0 : Int32)), (.ref b2)])) _
    refine st12 _ ?_
    show Steps p.tables e below (T12.setTop (mkF m 32 #[.val (.ref a32_0), .val (.ref b2), .val (.int v9), .val (.int (0 : Int32))] [])) _
    refine XS.iinc X12.here hx rfl (hb hby d32_32) rfl (l' := #[.val (.ref a32_0), .val (.ref b2), .val (.int v9), .val (.int (1 : Int32))]) rfl ?_
    show Steps p.tables e below (T12.setTop (mkF m 35 #[.val (.ref a32_0), .val (.ref b2), .val (.int v9), .val (.int (1 : Int32))] [])) _
    refine XS.goto X12.here hx rfl (pc0 := 35) (pc' := 9) rfl (hb hby d32_35) (by decide) (by decide) ?_
    show Steps p.tables e below (T12.setTop (mkF m 9 #[.val (.ref a32_0), .val (.ref b2), .val (.int v9), .val (.int (1 : Int32))] [])) _
    refine XS.iloadN X12.here hx rfl (hb hby d32_9) rfl ?_
    show Steps p.tables e below (T12.setTop (mkF m 10 #[.val (.ref a32_0), .val (.ref b2), .val (.int v9), .val (.int (1 : Int32))] [(.int (1 : Int32))])) _
    refine XS.aloadN X12.here hx rfl (hb hby d32_10) rfl rfl ?_
    show Steps p.tables e below (T12.setTop (mkF m 11 #[.val (.ref a32_0), .val (.ref b2), .val (.int v9), .val (.int (1 : Int32))] [(.ref a32_0), (.int (1 : Int32))])) _
    refine X12.arraylength hx (by rw [e12]; exact Ar15.1) (State.isArrayOf_alike hZ.alike Ar15.2.1) (g := (mkF m 11 #[.val (.ref a32_0), .val (.ref b2), .val (.int v9), .val (.int (1 : Int32))] [(.ref a32_0), (.int (1 : Int32))])) rfl rfl (hb hby d32_11) _ ?_
    rw [len_of Sz15 Nn15]
    show Steps p.tables e below (T12.setTop (mkF m 12 #[.val (.ref a32_0), .val (.ref b2), .val (.int v9), .val (.int (1 : Int32))] [(.int (2 : Int32)), (.int (1 : Int32))])) _
    refine XS.icmpNo X12.here hx rfl (hb hby d32_12) rfl (tlt (by decide : (1 : Int32) < (2 : Int32))).2.1 ?_
    show Steps p.tables e below (T12.setTop (mkF m 15 #[.val (.ref a32_0), .val (.ref b2), .val (.int v9), .val (.int (1 : Int32))] [])) _
    refine XS.aloadN X12.here hx rfl (hb hby d32_15) rfl rfl ?_
    show Steps p.tables e below (T12.setTop (mkF m 16 #[.val (.ref a32_0), .val (.ref b2), .val (.int v9), .val (.int (1 : Int32))] [(.ref b2)])) _
    refine XS.iloadN X12.here hx rfl (hb hby d32_16) rfl ?_
    show Steps p.tables e below (T12.setTop (mkF m 17 #[.val (.ref a32_0), .val (.ref b2), .val (.int v9), .val (.int (1 : Int32))] [(.int (1 : Int32)), (.ref b2)])) _
    refine XS.aloadN X12.here hx rfl (hb hby d32_17) rfl rfl ?_
    show Steps p.tables e below (T12.setTop (mkF m 18 #[.val (.ref a32_0), .val (.ref b2), .val (.int v9), .val (.int (1 : Int32))] [(.ref a32_0), (.int (1 : Int32)), (.ref b2)])) _
    refine XS.iloadN X12.here hx rfl (hb hby d32_18) rfl ?_
    show Steps p.tables e below (T12.setTop (mkF m 19 #[.val (.ref a32_0), .val (.ref b2), .val (.int v9), .val (.int (1 : Int32))] [(.int (1 : Int32)), (.ref a32_0), (.int (1 : Int32)), (.ref b2)])) _
    refine X12.baloadBooleans hx (j := (1 : Int32)) (v := (.int x1)) (by rw [e12]; exact Ar16.1) (State.isArrayOf_alike hZ.alike Ar16.2.1) Ar16.2.2 hin16 (Hh16.at hin16 rfl) (g := (mkF m 19 #[.val (.ref a32_0), .val (.ref b2), .val (.int v9), .val (.int (1 : Int32))] [(.int (1 : Int32)), (.ref a32_0), (.int (1 : Int32)), (.ref b2)])) rfl rfl (hb hby d32_19) _ ?_
    exact k
  obtain ⟨v19, hv19⟩ : ∃ z, z = (if x1 = (0 : Int32) then v9 else (v9 + (1 : Int32))) := ⟨_, rfl⟩
  obtain ⟨v20, hv20⟩ : ∃ z, z = (if x1 = (0 : Int32) then (-1 : Int32) else v9) := ⟨_, rfl⟩
  have k21 : ∀ t, Steps p.tables e below (T12.setTop (mkF m 31 #[.val (.ref a32_0), .val (.ref b2), .val (.int v19), .val (.int (1 : Int32))] [(.int v20), (.int (1 : Int32)), (.ref b2)])) t → Steps p.tables e below (s₁.setTop (entryFrame m #[(.ref a32_0)] 4)) t := by
    intro t k
    refine k17 t ?_
    by_cases hc20_18 : x1 = (0 : Int32)
    · skip
      show Steps p.tables e below (T12.setTop (mkF m 20 #[.val (.ref a32_0), .val (.ref b2), .val (.int v9), .val (.int (1 : Int32))] [(.int x1), (.int (1 : Int32)), (.ref b2)])) _
      refine XS.ifYes X12.here hx rfl (pc0 := 20) (pc' := 30) rfl (hb hby d32_20) rfl ((if0 _ _).trans (teq hc20_18).1) (by decide) (by decide) ?_
      show Steps p.tables e below (T12.setTop (mkF m 30 #[.val (.ref a32_0), .val (.ref b2), .val (.int v9), .val (.int (1 : Int32))] [(.int (1 : Int32)), (.ref b2)])) _
      refine XS.iconst X12.here hx rfl (hb hby d32_30) ?_
      rw [show v19 = v9 from hv19.trans (by rw [if_pos hc20_18])] at k
      rw [show v20 = (-1 : Int32) from hv20.trans (by rw [if_pos hc20_18])] at k
      exact k
    · skip
      show Steps p.tables e below (T12.setTop (mkF m 20 #[.val (.ref a32_0), .val (.ref b2), .val (.int v9), .val (.int (1 : Int32))] [(.int x1), (.int (1 : Int32)), (.ref b2)])) _
      refine XS.ifNo X12.here hx rfl (hb hby d32_20) rfl ((if0 _ _).trans (feq hc20_18).1) ?_
      show Steps p.tables e below (T12.setTop (mkF m 23 #[.val (.ref a32_0), .val (.ref b2), .val (.int v9), .val (.int (1 : Int32))] [(.int (1 : Int32)), (.ref b2)])) _
      refine XS.iloadN X12.here hx rfl (hb hby d32_23) rfl ?_
      show Steps p.tables e below (T12.setTop (mkF m 24 #[.val (.ref a32_0), .val (.ref b2), .val (.int v9), .val (.int (1 : Int32))] [(.int v9), (.int (1 : Int32)), (.ref b2)])) _
      refine XS.iinc X12.here hx rfl (hb hby d32_24) rfl (l' := #[.val (.ref a32_0), .val (.ref b2), .val (.int (v9 + (1 : Int32))), .val (.int (1 : Int32))]) rfl ?_
      show Steps p.tables e below (T12.setTop (mkF m 27 #[.val (.ref a32_0), .val (.ref b2), .val (.int (v9 + (1 : Int32))), .val (.int (1 : Int32))] [(.int v9), (.int (1 : Int32)), (.ref b2)])) _
      refine XS.goto X12.here hx rfl (pc0 := 27) (pc' := 31) rfl (hb hby d32_27) (by decide) (by decide) ?_
      rw [show v19 = (v9 + (1 : Int32)) from hv19.trans (by rw [if_neg hc20_18])] at k
      rw [show v20 = v9 from hv20.trans (by rw [if_neg hc20_18])] at k
      exact k
  obtain ⟨cl22, Ar22, qc22, Sz22, Nn22, Hh22, Gg22⟩ := (id V12)
  have hin22 : ¬ ((1 : Int32) < 0 ∨ cl22.slots.size ≤ ((1 : Int32)).toNatClampNeg) := inb_of Sz22 ⟨by decide, by decide⟩
  obtain ⟨T22, h22, X22, e22, W22, st22⟩ := stI X12 hx hZ e12 Ar22 (j := (1 : Int32)) hin22 (g := (mkF m 31 #[.val (.ref a32_0), .val (.ref b2), .val (.int v19), .val (.int (1 : Int32))] [(.int v20), (.int (1 : Int32)), (.ref b2)])) rfl rfl (hb hby d32_31)
  have F23 : Arv Z h22 a32_0 kk .boolean (2 : Int32) [(.int x0), (.int x1), (.int x2), (.int x3), (.int x4), (.int x5)] (.int (0 : Int32)) := F13.other W22 ne3
  have V22 : Arv Z h22 b2 k2 .int (2 : Int32) [(.int v10), (.int v20), (.int (0 : Int32)), (.int (0 : Int32)), (.int (0 : Int32)), (.int (0 : Int32))] (.int (0 : Int32)) := Arv.set Ar22 qc22 Sz22 Nn22 Hh22 Gg22 rfl W22 1 rfl (Nat.le_of_ble_eq_true rfl)
  have N22 := Fr.snoc X22 N12 gg2
  have K22 : Keep h0 h22 [] := K12.wr W22 (Or.inr sz2)
  have Zs22 : n0 ≤ h22.size := by rw [W22.size]; exact Zs12
  obtain ⟨cl25, Ar25, qc25, Sz25, Nn25, Hh25, Gg25⟩ := (id F23)
  have k26 : ∀ t, Steps p.tables e below (T22.setTop (mkF m 39 #[.val (.ref a32_0), .val (.ref b2), .val (.int v19), .val (.int (2 : Int32))] [(.ref b2)])) t → Steps p.tables e below (s₁.setTop (entryFrame m #[(.ref a32_0)] 4)) t := by
    intro t k
    refine k21 t ?_
    show Steps p.tables e below (T12.setTop (mkF m 31 #[.val (.ref a32_0), .val (.ref b2), .val (.int v19), .val (.int (1 : Int32))] [(.int v20), (.int (1 : Int32)), (.ref b2)])) _
    refine st22 _ ?_
    show Steps p.tables e below (T22.setTop (mkF m 32 #[.val (.ref a32_0), .val (.ref b2), .val (.int v19), .val (.int (1 : Int32))] [])) _
    refine XS.iinc X22.here hx rfl (hb hby d32_32) rfl (l' := #[.val (.ref a32_0), .val (.ref b2), .val (.int v19), .val (.int (2 : Int32))]) rfl ?_
    show Steps p.tables e below (T22.setTop (mkF m 35 #[.val (.ref a32_0), .val (.ref b2), .val (.int v19), .val (.int (2 : Int32))] [])) _
    refine XS.goto X22.here hx rfl (pc0 := 35) (pc' := 9) rfl (hb hby d32_35) (by decide) (by decide) ?_
    show Steps p.tables e below (T22.setTop (mkF m 9 #[.val (.ref a32_0), .val (.ref b2), .val (.int v19), .val (.int (2 : Int32))] [])) _
    refine XS.iloadN X22.here hx rfl (hb hby d32_9) rfl ?_
    show Steps p.tables e below (T22.setTop (mkF m 10 #[.val (.ref a32_0), .val (.ref b2), .val (.int v19), .val (.int (2 : Int32))] [(.int (2 : Int32))])) _
    refine XS.aloadN X22.here hx rfl (hb hby d32_10) rfl rfl ?_
    show Steps p.tables e below (T22.setTop (mkF m 11 #[.val (.ref a32_0), .val (.ref b2), .val (.int v19), .val (.int (2 : Int32))] [(.ref a32_0), (.int (2 : Int32))])) _
    refine X22.arraylength hx (by rw [e22]; exact Ar25.1) (State.isArrayOf_alike hZ.alike Ar25.2.1) (g := (mkF m 11 #[.val (.ref a32_0), .val (.ref b2), .val (.int v19), .val (.int (2 : Int32))] [(.ref a32_0), (.int (2 : Int32))])) rfl rfl (hb hby d32_11) _ ?_
    rw [len_of Sz25 Nn25]
    show Steps p.tables e below (T22.setTop (mkF m 12 #[.val (.ref a32_0), .val (.ref b2), .val (.int v19), .val (.int (2 : Int32))] [(.int (2 : Int32)), (.int (2 : Int32))])) _
    refine XS.icmpYes X22.here hx rfl (pc0 := 12) (pc' := 38) rfl (hb hby d32_12) rfl (flt (by decide : ¬ ((2 : Int32) < (2 : Int32)))).2.1 (by decide) (by decide) ?_
    show Steps p.tables e below (T22.setTop (mkF m 38 #[.val (.ref a32_0), .val (.ref b2), .val (.int v19), .val (.int (2 : Int32))] [])) _
    refine XS.aloadN X22.here hx rfl (hb hby d32_38) rfl rfl ?_
    exact k
  subst hv20 hv19 hv10 hv9
  obtain ⟨fs, hr, hrun, hended, hW, hsame⟩ := X22.leave (v := some (.ref b2)) (fun h => by rw [Bd.returns] at h; cases h)
  refine ⟨_, _, k26 _ ?_, hrun, hended, _, _, rfl, ?_, ⟨_, rfl⟩, hW, hsame.mono (by decide) (by decide)⟩
  · exact retOut X22 hx Bd.returns rfl (Or.inr (Or.inr (Or.inr (Or.inr ⟨rfl, rfl, rfl⟩)))) (hb hby d32_39) hr
  · show Q32 Z a32_0 kk x0 x1 x2 x3 x4 x5 h0 n0 _ T22.heap _
    rw [e22]
    exact ⟨b2, k2, rfl, N22, K22, gg2, sz2, V22⟩
theorem d33_0 : decode prog_16_method_15_code 0 = .ok (.aload_n 0, 1) := by decide +kernel
theorem d33_1 : decode prog_16_method_15_code 1 = .ok (.arraylength, 1) := by decide +kernel
theorem d33_2 : decode prog_16_method_15_code 2 = .ok (.newarray .int, 2) := by decide +kernel
theorem d33_4 : decode prog_16_method_15_code 4 = .ok (.astore_n 1, 1) := by decide +kernel
theorem d33_5 : decode prog_16_method_15_code 5 = .ok (.iconst 0, 1) := by decide +kernel
theorem d33_6 : decode prog_16_method_15_code 6 = .ok (.istore_n 2, 1) := by decide +kernel
theorem d33_7 : decode prog_16_method_15_code 7 = .ok (.iconst 0, 1) := by decide +kernel
theorem d33_8 : decode prog_16_method_15_code 8 = .ok (.istore_n 3, 1) := by decide +kernel
theorem d33_9 : decode prog_16_method_15_code 9 = .ok (.iload_n 3, 1) := by decide +kernel
theorem d33_10 : decode prog_16_method_15_code 10 = .ok (.aload_n 0, 1) := by decide +kernel
theorem d33_11 : decode prog_16_method_15_code 11 = .ok (.arraylength, 1) := by decide +kernel
theorem d33_12 : decode prog_16_method_15_code 12 = .ok (.if_icmp .ge 26, 3) := by decide +kernel
theorem d33_15 : decode prog_16_method_15_code 15 = .ok (.aload_n 1, 1) := by decide +kernel
theorem d33_16 : decode prog_16_method_15_code 16 = .ok (.iload_n 3, 1) := by decide +kernel
theorem d33_17 : decode prog_16_method_15_code 17 = .ok (.aload_n 0, 1) := by decide +kernel
theorem d33_18 : decode prog_16_method_15_code 18 = .ok (.iload_n 3, 1) := by decide +kernel
theorem d33_19 : decode prog_16_method_15_code 19 = .ok (.baload, 1) := by decide +kernel
theorem d33_20 : decode prog_16_method_15_code 20 = .ok (.ifCond .eq 10, 3) := by decide +kernel
theorem d33_23 : decode prog_16_method_15_code 23 = .ok (.iload_n 2, 1) := by decide +kernel
theorem d33_24 : decode prog_16_method_15_code 24 = .ok (.iinc 2 1, 3) := by decide +kernel
theorem d33_27 : decode prog_16_method_15_code 27 = .ok (.goto 4, 3) := by decide +kernel
theorem d33_30 : decode prog_16_method_15_code 30 = .ok (.iconst (-1), 1) := by decide +kernel
theorem d33_31 : decode prog_16_method_15_code 31 = .ok (.iastore, 1) := by decide +kernel
theorem d33_32 : decode prog_16_method_15_code 32 = .ok (.iinc 3 1, 3) := by decide +kernel
theorem d33_35 : decode prog_16_method_15_code 35 = .ok (.goto (-26), 3) := by decide +kernel
theorem d33_38 : decode prog_16_method_15_code 38 = .ok (.aload_n 1, 1) := by decide +kernel
theorem d33_39 : decode prog_16_method_15_code 39 = .ok (.areturn, 1) := by decide +kernel
theorem ef_33 (m : MethodId) (a33_0 : Addr) : entryFrame m #[(.ref a33_0)] 4 = mkF m 0 #[.val (.ref a33_0), .unset, .unset, .unset] [] := by first | (simp [entryFrame, mkF, argsToLocals, Value.category]; done) | rfl
def Q33 (Z : State) (a33_0 : Addr) (kk : ClassId) (x0 : Int32) (x1 : Int32) (x2 : Int32) (x3 : Int32) (x4 : Int32) (x5 : Int32) (h0 : Heap) (n0 : Nat) (v : Option Value) (h : Heap) (L : List Loc) : Prop := ∃ b33 : Addr, ∃ kn33 : ClassId, v = some (.ref b33) ∧ Fr n0 L ∧ Keep h0 h [] ∧ n0 ≤ b33 ∧ h0.size ≤ b33 ∧ Arv Z h b33 kn33 .int (3 : Int32) [(.int (own_e x0 (0 : Int32))), (.int (own_e x1 (own_c x0 (0 : Int32)))), (.int (own_e x2 (own_c x1 (own_c x0 (0 : Int32))))), (.int (0 : Int32)), (.int (0 : Int32)), (.int (0 : Int32))] (.int (0 : Int32))
set_option maxRecDepth 65536 in
set_option maxHeartbeats 40000000 in
theorem rm33 (l : Launch) (Z : State) (a0 : Array Value) (hw : ∀ d ∈ tables_1, d.before a0 Z = true) (ws : List Jvm.Cond) (a33_0 : Addr) (kk : ClassId) (x0 : Int32) (x1 : Int32) (x2 : Int32) (x3 : Int32) (x4 : Int32) (x5 : Int32) (h0 : Heap) (n0 : Nat) (Z0 : n0 ≤ h0.size) (Vb : Arv Z h0 a33_0 kk .boolean (3 : Int32) [(.int x0), (.int x1), (.int x2), (.int x3), (.int x4), (.int x5)] (.int (0 : Int32))) :
    MetFree l (⟨"com/example/leanweave/leanweave/Network", "numbering", "([Z)[I"⟩ : MethodName) (head1 (Jvm.Cond.code (⟨"com/example/leanweave/leanweave/Network", "numbering", "([Z)[I"⟩ : MethodName) prog_16_method_15_code 4 (some (.array .int)) :: ws) ({ frames := 0, cells := 1, slots := 3, locals := 0 } : Room)) (fun a U => a = #[(.ref a33_0)] ∧ Z.Warmed39 U.vm ∧ U.heap = h0) (fun _ _ _ _ _ => True) (fun _ U o U' => ∃ v L, o = .returned v ∧ Q33 Z a33_0 kk x0 x1 x2 x3 x4 x5 h0 n0 v U'.heap L ∧ FrameEnd U o U' L ({ frames := 0, cells := 1, slots := 3, locals := 0 } : Room).cells ({ frames := 0, cells := 1, slots := 3, locals := 0 } : Room).slots) := by
  refine MetFree.of_bodySF (plainFor_of_name pn_1) hisR ?_
  intro p e s m args below meth c s₁ Bd hml0 hP hK
  obtain ⟨rfl, hZ, hh⟩ := hP
  have hx := Bd.exec
  have hby := Bd.bytes
  have hml : c.maxLocals = 4 := hml0
  have hown : s.vm.findClass "com/example/leanweave/leanweave/Network" = some m.cls := findClass_of_methodNamed Bd.named
  have hnm := (name_of_methodNamed Bd.named Bd.method).1
  have X0 : Stand p l e ({ frames := 0, cells := 1, slots := 3, locals := 0 } : Room) s m #[(.ref a33_0)] below meth c s₁ [] 0 0 := Stand.of_body Bd
  have e0 : s₁.heap = h0 := by rw [← hh, Bd.state]; rfl
  have N0 := Fr.nil n0
  have pre0 : ∀ t, Steps p.tables e below (s₁.setTop (mkF m 0 #[.val (.ref a33_0), .unset, .unset, .unset] [])) t → Steps p.tables e below (s₁.setTop (entryFrame m #[(.ref a33_0)] 4)) t := fun t k => castTop (ef_33 m a33_0) k
  obtain ⟨cl1, Ar1, qc1, Sz1, Nn1, Hh1, Gg1⟩ := (id Vb)
  obtain ⟨b2, g2⟩ : ∃ z, z = h0.size := ⟨_, rfl⟩
  obtain ⟨T2, h2, k2, X2, e2, E2, A2, st2⟩ := newP X0 hx hZ (hw _ (List.mem_of_getElem? (i := 10) rfl)) e0 (g := (mkF m 2 #[.val (.ref a33_0), .unset, .unset, .unset] [(.int (3 : Int32))])) rfl (hb hby d33_2) rfl (by decide) (cap := 3) (by decide) (by decide) (by decide) (by decide)
  rw [← g2] at A2 st2
  have ne3 : a33_0 ≠ b2 := Nat.ne_of_lt (Nat.lt_of_lt_of_le Vb.lt (Nat.le_of_eq g2.symm))
  have gg2 : n0 ≤ b2 := Nat.le_trans Z0 (Nat.le_of_eq g2.symm)
  have sz2 : h0.size ≤ b2 := Nat.le_trans (Keep.refl h0 []).1 (Nat.le_of_eq g2.symm)
  have Zs2 : n0 ≤ h2.size := Nat.le_trans Z0 E2.1
  have K2 : Keep h0 h2 [] := (Keep.refl h0 []).ext E2
  have F4 : Arv Z h2 a33_0 kk .boolean (3 : Int32) [(.int x0), (.int x1), (.int x2), (.int x3), (.int x4), (.int x5)] (.int (0 : Int32)) := Vb.ext E2
  have V2 : Arv Z h2 b2 k2 .int (3 : Int32) [(.int (0 : Int32)), (.int (0 : Int32)), (.int (0 : Int32)), (.int (0 : Int32)), (.int (0 : Int32)), (.int (0 : Int32))] (.int (0 : Int32)) := (Arv.new A2 (by decide)).pad (pad_rep [] (.int (0 : Int32)) 6)
  obtain ⟨cl5, Ar5, qc5, Sz5, Nn5, Hh5, Gg5⟩ := (id F4)
  obtain ⟨cl6, Ar6, qc6, Sz6, Nn6, Hh6, Gg6⟩ := (id F4)
  have hin6 : ¬ ((0 : Int32) < 0 ∨ cl6.slots.size ≤ ((0 : Int32)).toNatClampNeg) := inb_of Sz6 ⟨by decide, by decide⟩
  have k7 : ∀ t, Steps p.tables e below (T2.setTop (mkF m 20 #[.val (.ref a33_0), .val (.ref b2), .val (.int (0 : Int32)), .val (.int (0 : Int32))] [(.int x0), (.int (0 : Int32)), (.ref b2)])) t → Steps p.tables e below (s₁.setTop (entryFrame m #[(.ref a33_0)] 4)) t := by
    intro t k
    refine pre0 t ?_
    show Steps p.tables e below (s₁.setTop (mkF m 0 #[.val (.ref a33_0), .unset, .unset, .unset] [])) _
    refine XS.aloadN X0.here hx rfl (hb hby d33_0) rfl rfl ?_
    show Steps p.tables e below (s₁.setTop (mkF m 1 #[.val (.ref a33_0), .unset, .unset, .unset] [(.ref a33_0)])) _
    refine X0.arraylength hx (by rw [e0]; exact Ar1.1) (State.isArrayOf_alike hZ.alike Ar1.2.1) (g := (mkF m 1 #[.val (.ref a33_0), .unset, .unset, .unset] [(.ref a33_0)])) rfl rfl (hb hby d33_1) _ ?_
    rw [len_of Sz1 Nn1]
    show Steps p.tables e below (s₁.setTop (mkF m 2 #[.val (.ref a33_0), .unset, .unset, .unset] [(.int (3 : Int32))])) _
    refine st2 _ ?_
    show Steps p.tables e below (T2.setTop (mkF m 4 #[.val (.ref a33_0), .unset, .unset, .unset] [(.ref b2)])) _
    refine XS.astoreN X2.here hx rfl (hb hby d33_4) rfl rfl (l' := #[.val (.ref a33_0), .val (.ref b2), .unset, .unset]) rfl ?_
    show Steps p.tables e below (T2.setTop (mkF m 5 #[.val (.ref a33_0), .val (.ref b2), .unset, .unset] [])) _
    refine XS.iconst X2.here hx rfl (hb hby d33_5) ?_
    show Steps p.tables e below (T2.setTop (mkF m 6 #[.val (.ref a33_0), .val (.ref b2), .unset, .unset] [(.int (0 : Int32))])) _
    refine XS.istoreN X2.here hx rfl (hb hby d33_6) rfl (l' := #[.val (.ref a33_0), .val (.ref b2), .val (.int (0 : Int32)), .unset]) rfl ?_
    show Steps p.tables e below (T2.setTop (mkF m 7 #[.val (.ref a33_0), .val (.ref b2), .val (.int (0 : Int32)), .unset] [])) _
    refine XS.iconst X2.here hx rfl (hb hby d33_7) ?_
    show Steps p.tables e below (T2.setTop (mkF m 8 #[.val (.ref a33_0), .val (.ref b2), .val (.int (0 : Int32)), .unset] [(.int (0 : Int32))])) _
    refine XS.istoreN X2.here hx rfl (hb hby d33_8) rfl (l' := #[.val (.ref a33_0), .val (.ref b2), .val (.int (0 : Int32)), .val (.int (0 : Int32))]) rfl ?_
    show Steps p.tables e below (T2.setTop (mkF m 9 #[.val (.ref a33_0), .val (.ref b2), .val (.int (0 : Int32)), .val (.int (0 : Int32))] [])) _
    refine XS.iloadN X2.here hx rfl (hb hby d33_9) rfl ?_
    show Steps p.tables e below (T2.setTop (mkF m 10 #[.val (.ref a33_0), .val (.ref b2), .val (.int (0 : Int32)), .val (.int (0 : Int32))] [(.int (0 : Int32))])) _
    refine XS.aloadN X2.here hx rfl (hb hby d33_10) rfl rfl ?_
    show Steps p.tables e below (T2.setTop (mkF m 11 #[.val (.ref a33_0), .val (.ref b2), .val (.int (0 : Int32)), .val (.int (0 : Int32))] [(.ref a33_0), (.int (0 : Int32))])) _
    refine X2.arraylength hx (by rw [e2]; exact Ar5.1) (State.isArrayOf_alike hZ.alike Ar5.2.1) (g := (mkF m 11 #[.val (.ref a33_0), .val (.ref b2), .val (.int (0 : Int32)), .val (.int (0 : Int32))] [(.ref a33_0), (.int (0 : Int32))])) rfl rfl (hb hby d33_11) _ ?_
    rw [len_of Sz5 Nn5]
    show Steps p.tables e below (T2.setTop (mkF m 12 #[.val (.ref a33_0), .val (.ref b2), .val (.int (0 : Int32)), .val (.int (0 : Int32))] [(.int (3 : Int32)), (.int (0 : Int32))])) _
    refine XS.icmpNo X2.here hx rfl (hb hby d33_12) rfl (tlt (by decide : (0 : Int32) < (3 : Int32))).2.1 ?_
    show Steps p.tables e below (T2.setTop (mkF m 15 #[.val (.ref a33_0), .val (.ref b2), .val (.int (0 : Int32)), .val (.int (0 : Int32))] [])) _
    refine XS.aloadN X2.here hx rfl (hb hby d33_15) rfl rfl ?_
    show Steps p.tables e below (T2.setTop (mkF m 16 #[.val (.ref a33_0), .val (.ref b2), .val (.int (0 : Int32)), .val (.int (0 : Int32))] [(.ref b2)])) _
    refine XS.iloadN X2.here hx rfl (hb hby d33_16) rfl ?_
    show Steps p.tables e below (T2.setTop (mkF m 17 #[.val (.ref a33_0), .val (.ref b2), .val (.int (0 : Int32)), .val (.int (0 : Int32))] [(.int (0 : Int32)), (.ref b2)])) _
    refine XS.aloadN X2.here hx rfl (hb hby d33_17) rfl rfl ?_
    show Steps p.tables e below (T2.setTop (mkF m 18 #[.val (.ref a33_0), .val (.ref b2), .val (.int (0 : Int32)), .val (.int (0 : Int32))] [(.ref a33_0), (.int (0 : Int32)), (.ref b2)])) _
    refine XS.iloadN X2.here hx rfl (hb hby d33_18) rfl ?_
    show Steps p.tables e below (T2.setTop (mkF m 19 #[.val (.ref a33_0), .val (.ref b2), .val (.int (0 : Int32)), .val (.int (0 : Int32))] [(.int (0 : Int32)), (.ref a33_0), (.int (0 : Int32)), (.ref b2)])) _
    refine X2.baloadBooleans hx (j := (0 : Int32)) (v := (.int x0)) (by rw [e2]; exact Ar6.1) (State.isArrayOf_alike hZ.alike Ar6.2.1) Ar6.2.2 hin6 (Hh6.at hin6 rfl) (g := (mkF m 19 #[.val (.ref a33_0), .val (.ref b2), .val (.int (0 : Int32)), .val (.int (0 : Int32))] [(.int (0 : Int32)), (.ref a33_0), (.int (0 : Int32)), (.ref b2)])) rfl rfl (hb hby d33_19) _ ?_
    exact k
  obtain ⟨v9, hv9⟩ : ∃ z, z = (if x0 = (0 : Int32) then (0 : Int32) else (1 : Int32)) := ⟨_, rfl⟩
  obtain ⟨v10, hv10⟩ : ∃ z, z = (if x0 = (0 : Int32) then (-1 : Int32) else (0 : Int32)) := ⟨_, rfl⟩
  have k11 : ∀ t, Steps p.tables e below (T2.setTop (mkF m 31 #[.val (.ref a33_0), .val (.ref b2), .val (.int v9), .val (.int (0 : Int32))] [(.int v10), (.int (0 : Int32)), (.ref b2)])) t → Steps p.tables e below (s₁.setTop (entryFrame m #[(.ref a33_0)] 4)) t := by
    intro t k
    refine k7 t ?_
    by_cases hc20_8 : x0 = (0 : Int32)
    · skip
      show Steps p.tables e below (T2.setTop (mkF m 20 #[.val (.ref a33_0), .val (.ref b2), .val (.int (0 : Int32)), .val (.int (0 : Int32))] [(.int x0), (.int (0 : Int32)), (.ref b2)])) _
      refine XS.ifYes X2.here hx rfl (pc0 := 20) (pc' := 30) rfl (hb hby d33_20) rfl ((if0 _ _).trans (teq hc20_8).1) (by decide) (by decide) ?_
      show Steps p.tables e below (T2.setTop (mkF m 30 #[.val (.ref a33_0), .val (.ref b2), .val (.int (0 : Int32)), .val (.int (0 : Int32))] [(.int (0 : Int32)), (.ref b2)])) _
      refine XS.iconst X2.here hx rfl (hb hby d33_30) ?_
      rw [show v9 = (0 : Int32) from hv9.trans (by rw [if_pos hc20_8])] at k
      rw [show v10 = (-1 : Int32) from hv10.trans (by rw [if_pos hc20_8])] at k
      exact k
    · skip
      show Steps p.tables e below (T2.setTop (mkF m 20 #[.val (.ref a33_0), .val (.ref b2), .val (.int (0 : Int32)), .val (.int (0 : Int32))] [(.int x0), (.int (0 : Int32)), (.ref b2)])) _
      refine XS.ifNo X2.here hx rfl (hb hby d33_20) rfl ((if0 _ _).trans (feq hc20_8).1) ?_
      show Steps p.tables e below (T2.setTop (mkF m 23 #[.val (.ref a33_0), .val (.ref b2), .val (.int (0 : Int32)), .val (.int (0 : Int32))] [(.int (0 : Int32)), (.ref b2)])) _
      refine XS.iloadN X2.here hx rfl (hb hby d33_23) rfl ?_
      show Steps p.tables e below (T2.setTop (mkF m 24 #[.val (.ref a33_0), .val (.ref b2), .val (.int (0 : Int32)), .val (.int (0 : Int32))] [(.int (0 : Int32)), (.int (0 : Int32)), (.ref b2)])) _
      refine XS.iinc X2.here hx rfl (hb hby d33_24) rfl (l' := #[.val (.ref a33_0), .val (.ref b2), .val (.int (1 : Int32)), .val (.int (0 : Int32))]) rfl ?_
      show Steps p.tables e below (T2.setTop (mkF m 27 #[.val (.ref a33_0), .val (.ref b2), .val (.int (1 : Int32)), .val (.int (0 : Int32))] [(.int (0 : Int32)), (.int (0 : Int32)), (.ref b2)])) _
      refine XS.goto X2.here hx rfl (pc0 := 27) (pc' := 31) rfl (hb hby d33_27) (by decide) (by decide) ?_
      rw [show v9 = (1 : Int32) from hv9.trans (by rw [if_neg hc20_8])] at k
      rw [show v10 = (0 : Int32) from hv10.trans (by rw [if_neg hc20_8])] at k
      exact k
  obtain ⟨cl12, Ar12, qc12, Sz12, Nn12, Hh12, Gg12⟩ := (id V2)
  have hin12 : ¬ ((0 : Int32) < 0 ∨ cl12.slots.size ≤ ((0 : Int32)).toNatClampNeg) := inb_of Sz12 ⟨by decide, by decide⟩
  obtain ⟨T12, h12, X12, e12, W12, st12⟩ := stI X2 hx hZ e2 Ar12 (j := (0 : Int32)) hin12 (g := (mkF m 31 #[.val (.ref a33_0), .val (.ref b2), .val (.int v9), .val (.int (0 : Int32))] [(.int v10), (.int (0 : Int32)), (.ref b2)])) rfl rfl (hb hby d33_31)
  have F13 : Arv Z h12 a33_0 kk .boolean (3 : Int32) [(.int x0), (.int x1), (.int x2), (.int x3), (.int x4), (.int x5)] (.int (0 : Int32)) := F4.other W12 ne3
  have V12 : Arv Z h12 b2 k2 .int (3 : Int32) [(.int v10), (.int (0 : Int32)), (.int (0 : Int32)), (.int (0 : Int32)), (.int (0 : Int32)), (.int (0 : Int32))] (.int (0 : Int32)) := Arv.set Ar12 qc12 Sz12 Nn12 Hh12 Gg12 rfl W12 0 rfl (Nat.le_of_ble_eq_true rfl)
  have N12 := Fr.snoc X12 N0 gg2
  have K12 : Keep h0 h12 [] := K2.wr W12 (Or.inr sz2)
  have Zs12 : n0 ≤ h12.size := by rw [W12.size]; exact Zs2
  obtain ⟨cl15, Ar15, qc15, Sz15, Nn15, Hh15, Gg15⟩ := (id F13)
  obtain ⟨cl16, Ar16, qc16, Sz16, Nn16, Hh16, Gg16⟩ := (id F13)
  have hin16 : ¬ ((1 : Int32) < 0 ∨ cl16.slots.size ≤ ((1 : Int32)).toNatClampNeg) := inb_of Sz16 ⟨by decide, by decide⟩
  have k17 : ∀ t, Steps p.tables e below (T12.setTop (mkF m 20 #[.val (.ref a33_0), .val (.ref b2), .val (.int v9), .val (.int (1 : Int32))] [(.int x1), (.int (1 : Int32)), (.ref b2)])) t → Steps p.tables e below (s₁.setTop (entryFrame m #[(.ref a33_0)] 4)) t := by
    intro t k
    refine k11 t ?_
    show Steps p.tables e below (T2.setTop (mkF m 31 #[.val (.ref a33_0), .val (.ref b2), .val (.int v9), .val (.int (0 : Int32))] [(.int v10), (.int (0 : Int32)), (.ref b2)])) _
    refine st12 _ ?_
    show Steps p.tables e below (T12.setTop (mkF m 32 #[.val (.ref a33_0), .val (.ref b2), .val (.int v9), .val (.int (0 : Int32))] [])) _
    refine XS.iinc X12.here hx rfl (hb hby d33_32) rfl (l' := #[.val (.ref a33_0), .val (.ref b2), .val (.int v9), .val (.int (1 : Int32))]) rfl ?_
    show Steps p.tables e below (T12.setTop (mkF m 35 #[.val (.ref a33_0), .val (.ref b2), .val (.int v9), .val (.int (1 : Int32))] [])) _
    refine XS.goto X12.here hx rfl (pc0 := 35) (pc' := 9) rfl (hb hby d33_35) (by decide) (by decide) ?_
    show Steps p.tables e below (T12.setTop (mkF m 9 #[.val (.ref a33_0), .val (.ref b2), .val (.int v9), .val (.int (1 : Int32))] [])) _
    refine XS.iloadN X12.here hx rfl (hb hby d33_9) rfl ?_
    show Steps p.tables e below (T12.setTop (mkF m 10 #[.val (.ref a33_0), .val (.ref b2), .val (.int v9), .val (.int (1 : Int32))] [(.int (1 : Int32))])) _
    refine XS.aloadN X12.here hx rfl (hb hby d33_10) rfl rfl ?_
    show Steps p.tables e below (T12.setTop (mkF m 11 #[.val (.ref a33_0), .val (.ref b2), .val (.int v9), .val (.int (1 : Int32))] [(.ref a33_0), (.int (1 : Int32))])) _
    refine X12.arraylength hx (by rw [e12]; exact Ar15.1) (State.isArrayOf_alike hZ.alike Ar15.2.1) (g := (mkF m 11 #[.val (.ref a33_0), .val (.ref b2), .val (.int v9), .val (.int (1 : Int32))] [(.ref a33_0), (.int (1 : Int32))])) rfl rfl (hb hby d33_11) _ ?_
    rw [len_of Sz15 Nn15]
    show Steps p.tables e below (T12.setTop (mkF m 12 #[.val (.ref a33_0), .val (.ref b2), .val (.int v9), .val (.int (1 : Int32))] [(.int (3 : Int32)), (.int (1 : Int32))])) _
    refine XS.icmpNo X12.here hx rfl (hb hby d33_12) rfl (tlt (by decide : (1 : Int32) < (3 : Int32))).2.1 ?_
    show Steps p.tables e below (T12.setTop (mkF m 15 #[.val (.ref a33_0), .val (.ref b2), .val (.int v9), .val (.int (1 : Int32))] [])) _
    refine XS.aloadN X12.here hx rfl (hb hby d33_15) rfl rfl ?_
    show Steps p.tables e below (T12.setTop (mkF m 16 #[.val (.ref a33_0), .val (.ref b2), .val (.int v9), .val (.int (1 : Int32))] [(.ref b2)])) _
    refine XS.iloadN X12.here hx rfl (hb hby d33_16) rfl ?_
    show Steps p.tables e below (T12.setTop (mkF m 17 #[.val (.ref a33_0), .val (.ref b2), .val (.int v9), .val (.int (1 : Int32))] [(.int (1 : Int32)), (.ref b2)])) _
    refine XS.aloadN X12.here hx rfl (hb hby d33_17) rfl rfl ?_
    show Steps p.tables e below (T12.setTop (mkF m 18 #[.val (.ref a33_0), .val (.ref b2), .val (.int v9), .val (.int (1 : Int32))] [(.ref a33_0), (.int (1 : Int32)), (.ref b2)])) _
    refine XS.iloadN X12.here hx rfl (hb hby d33_18) rfl ?_
    show Steps p.tables e below (T12.setTop (mkF m 19 #[.val (.ref a33_0), .val (.ref b2), .val (.int v9), .val (.int (1 : Int32))] [(.int (1 : Int32)), (.ref a33_0), (.int (1 : Int32)), (.ref b2)])) _
    refine X12.baloadBooleans hx (j := (1 : Int32)) (v := (.int x1)) (by rw [e12]; exact Ar16.1) (State.isArrayOf_alike hZ.alike Ar16.2.1) Ar16.2.2 hin16 (Hh16.at hin16 rfl) (g := (mkF m 19 #[.val (.ref a33_0), .val (.ref b2), .val (.int v9), .val (.int (1 : Int32))] [(.int (1 : Int32)), (.ref a33_0), (.int (1 : Int32)), (.ref b2)])) rfl rfl (hb hby d33_19) _ ?_
    exact k
  obtain ⟨v19, hv19⟩ : ∃ z, z = (if x1 = (0 : Int32) then v9 else (v9 + (1 : Int32))) := ⟨_, rfl⟩
  obtain ⟨v20, hv20⟩ : ∃ z, z = (if x1 = (0 : Int32) then (-1 : Int32) else v9) := ⟨_, rfl⟩
  have k21 : ∀ t, Steps p.tables e below (T12.setTop (mkF m 31 #[.val (.ref a33_0), .val (.ref b2), .val (.int v19), .val (.int (1 : Int32))] [(.int v20), (.int (1 : Int32)), (.ref b2)])) t → Steps p.tables e below (s₁.setTop (entryFrame m #[(.ref a33_0)] 4)) t := by
    intro t k
    refine k17 t ?_
    by_cases hc20_18 : x1 = (0 : Int32)
    · skip
      show Steps p.tables e below (T12.setTop (mkF m 20 #[.val (.ref a33_0), .val (.ref b2), .val (.int v9), .val (.int (1 : Int32))] [(.int x1), (.int (1 : Int32)), (.ref b2)])) _
      refine XS.ifYes X12.here hx rfl (pc0 := 20) (pc' := 30) rfl (hb hby d33_20) rfl ((if0 _ _).trans (teq hc20_18).1) (by decide) (by decide) ?_
      show Steps p.tables e below (T12.setTop (mkF m 30 #[.val (.ref a33_0), .val (.ref b2), .val (.int v9), .val (.int (1 : Int32))] [(.int (1 : Int32)), (.ref b2)])) _
      refine XS.iconst X12.here hx rfl (hb hby d33_30) ?_
      rw [show v19 = v9 from hv19.trans (by rw [if_pos hc20_18])] at k
      rw [show v20 = (-1 : Int32) from hv20.trans (by rw [if_pos hc20_18])] at k
      exact k
    · skip
      show Steps p.tables e below (T12.setTop (mkF m 20 #[.val (.ref a33_0), .val (.ref b2), .val (.int v9), .val (.int (1 : Int32))] [(.int x1), (.int (1 : Int32)), (.ref b2)])) _
      refine XS.ifNo X12.here hx rfl (hb hby d33_20) rfl ((if0 _ _).trans (feq hc20_18).1) ?_
      show Steps p.tables e below (T12.setTop (mkF m 23 #[.val (.ref a33_0), .val (.ref b2), .val (.int v9), .val (.int (1 : Int32))] [(.int (1 : Int32)), (.ref b2)])) _
      refine XS.iloadN X12.here hx rfl (hb hby d33_23) rfl ?_
      show Steps p.tables e below (T12.setTop (mkF m 24 #[.val (.ref a33_0), .val (.ref b2), .val (.int v9), .val (.int (1 : Int32))] [(.int v9), (.int (1 : Int32)), (.ref b2)])) _
      refine XS.iinc X12.here hx rfl (hb hby d33_24) rfl (l' := #[.val (.ref a33_0), .val (.ref b2), .val (.int (v9 + (1 : Int32))), .val (.int (1 : Int32))]) rfl ?_
      show Steps p.tables e below (T12.setTop (mkF m 27 #[.val (.ref a33_0), .val (.ref b2), .val (.int (v9 + (1 : Int32))), .val (.int (1 : Int32))] [(.int v9), (.int (1 : Int32)), (.ref b2)])) _
      refine XS.goto X12.here hx rfl (pc0 := 27) (pc' := 31) rfl (hb hby d33_27) (by decide) (by decide) ?_
      rw [show v19 = (v9 + (1 : Int32)) from hv19.trans (by rw [if_neg hc20_18])] at k
      rw [show v20 = v9 from hv20.trans (by rw [if_neg hc20_18])] at k
      exact k
  obtain ⟨cl22, Ar22, qc22, Sz22, Nn22, Hh22, Gg22⟩ := (id V12)
  have hin22 : ¬ ((1 : Int32) < 0 ∨ cl22.slots.size ≤ ((1 : Int32)).toNatClampNeg) := inb_of Sz22 ⟨by decide, by decide⟩
  obtain ⟨T22, h22, X22, e22, W22, st22⟩ := stI X12 hx hZ e12 Ar22 (j := (1 : Int32)) hin22 (g := (mkF m 31 #[.val (.ref a33_0), .val (.ref b2), .val (.int v19), .val (.int (1 : Int32))] [(.int v20), (.int (1 : Int32)), (.ref b2)])) rfl rfl (hb hby d33_31)
  have F23 : Arv Z h22 a33_0 kk .boolean (3 : Int32) [(.int x0), (.int x1), (.int x2), (.int x3), (.int x4), (.int x5)] (.int (0 : Int32)) := F13.other W22 ne3
  have V22 : Arv Z h22 b2 k2 .int (3 : Int32) [(.int v10), (.int v20), (.int (0 : Int32)), (.int (0 : Int32)), (.int (0 : Int32)), (.int (0 : Int32))] (.int (0 : Int32)) := Arv.set Ar22 qc22 Sz22 Nn22 Hh22 Gg22 rfl W22 1 rfl (Nat.le_of_ble_eq_true rfl)
  have N22 := Fr.snoc X22 N12 gg2
  have K22 : Keep h0 h22 [] := K12.wr W22 (Or.inr sz2)
  have Zs22 : n0 ≤ h22.size := by rw [W22.size]; exact Zs12
  obtain ⟨cl25, Ar25, qc25, Sz25, Nn25, Hh25, Gg25⟩ := (id F23)
  obtain ⟨cl26, Ar26, qc26, Sz26, Nn26, Hh26, Gg26⟩ := (id F23)
  have hin26 : ¬ ((2 : Int32) < 0 ∨ cl26.slots.size ≤ ((2 : Int32)).toNatClampNeg) := inb_of Sz26 ⟨by decide, by decide⟩
  have k27 : ∀ t, Steps p.tables e below (T22.setTop (mkF m 20 #[.val (.ref a33_0), .val (.ref b2), .val (.int v19), .val (.int (2 : Int32))] [(.int x2), (.int (2 : Int32)), (.ref b2)])) t → Steps p.tables e below (s₁.setTop (entryFrame m #[(.ref a33_0)] 4)) t := by
    intro t k
    refine k21 t ?_
    show Steps p.tables e below (T12.setTop (mkF m 31 #[.val (.ref a33_0), .val (.ref b2), .val (.int v19), .val (.int (1 : Int32))] [(.int v20), (.int (1 : Int32)), (.ref b2)])) _
    refine st22 _ ?_
    show Steps p.tables e below (T22.setTop (mkF m 32 #[.val (.ref a33_0), .val (.ref b2), .val (.int v19), .val (.int (1 : Int32))] [])) _
    refine XS.iinc X22.here hx rfl (hb hby d33_32) rfl (l' := #[.val (.ref a33_0), .val (.ref b2), .val (.int v19), .val (.int (2 : Int32))]) rfl ?_
    show Steps p.tables e below (T22.setTop (mkF m 35 #[.val (.ref a33_0), .val (.ref b2), .val (.int v19), .val (.int (2 : Int32))] [])) _
    refine XS.goto X22.here hx rfl (pc0 := 35) (pc' := 9) rfl (hb hby d33_35) (by decide) (by decide) ?_
    show Steps p.tables e below (T22.setTop (mkF m 9 #[.val (.ref a33_0), .val (.ref b2), .val (.int v19), .val (.int (2 : Int32))] [])) _
    refine XS.iloadN X22.here hx rfl (hb hby d33_9) rfl ?_
    show Steps p.tables e below (T22.setTop (mkF m 10 #[.val (.ref a33_0), .val (.ref b2), .val (.int v19), .val (.int (2 : Int32))] [(.int (2 : Int32))])) _
    refine XS.aloadN X22.here hx rfl (hb hby d33_10) rfl rfl ?_
    show Steps p.tables e below (T22.setTop (mkF m 11 #[.val (.ref a33_0), .val (.ref b2), .val (.int v19), .val (.int (2 : Int32))] [(.ref a33_0), (.int (2 : Int32))])) _
    refine X22.arraylength hx (by rw [e22]; exact Ar25.1) (State.isArrayOf_alike hZ.alike Ar25.2.1) (g := (mkF m 11 #[.val (.ref a33_0), .val (.ref b2), .val (.int v19), .val (.int (2 : Int32))] [(.ref a33_0), (.int (2 : Int32))])) rfl rfl (hb hby d33_11) _ ?_
    rw [len_of Sz25 Nn25]
    show Steps p.tables e below (T22.setTop (mkF m 12 #[.val (.ref a33_0), .val (.ref b2), .val (.int v19), .val (.int (2 : Int32))] [(.int (3 : Int32)), (.int (2 : Int32))])) _
    refine XS.icmpNo X22.here hx rfl (hb hby d33_12) rfl (tlt (by decide : (2 : Int32) < (3 : Int32))).2.1 ?_
    show Steps p.tables e below (T22.setTop (mkF m 15 #[.val (.ref a33_0), .val (.ref b2), .val (.int v19), .val (.int (2 : Int32))] [])) _
    refine XS.aloadN X22.here hx rfl (hb hby d33_15) rfl rfl ?_
    show Steps p.tables e below (T22.setTop (mkF m 16 #[.val (.ref a33_0), .val (.ref b2), .val (.int v19), .val (.int (2 : Int32))] [(.ref b2)])) _
    refine XS.iloadN X22.here hx rfl (hb hby d33_16) rfl ?_
    show Steps p.tables e below (T22.setTop (mkF m 17 #[.val (.ref a33_0), .val (.ref b2), .val (.int v19), .val (.int (2 : Int32))] [(.int (2 : Int32)), (.ref b2)])) _
    refine XS.aloadN X22.here hx rfl (hb hby d33_17) rfl rfl ?_
    show Steps p.tables e below (T22.setTop (mkF m 18 #[.val (.ref a33_0), .val (.ref b2), .val (.int v19), .val (.int (2 : Int32))] [(.ref a33_0), (.int (2 : Int32)), (.ref b2)])) _
    refine XS.iloadN X22.here hx rfl (hb hby d33_18) rfl ?_
    show Steps p.tables e below (T22.setTop (mkF m 19 #[.val (.ref a33_0), .val (.ref b2), .val (.int v19), .val (.int (2 : Int32))] [(.int (2 : Int32)), (.ref a33_0), (.int (2 : Int32)), (.ref b2)])) _
    refine X22.baloadBooleans hx (j := (2 : Int32)) (v := (.int x2)) (by rw [e22]; exact Ar26.1) (State.isArrayOf_alike hZ.alike Ar26.2.1) Ar26.2.2 hin26 (Hh26.at hin26 rfl) (g := (mkF m 19 #[.val (.ref a33_0), .val (.ref b2), .val (.int v19), .val (.int (2 : Int32))] [(.int (2 : Int32)), (.ref a33_0), (.int (2 : Int32)), (.ref b2)])) rfl rfl (hb hby d33_19) _ ?_
    exact k
  obtain ⟨v29, hv29⟩ : ∃ z, z = (if x2 = (0 : Int32) then v19 else (v19 + (1 : Int32))) := ⟨_, rfl⟩
  obtain ⟨v30, hv30⟩ : ∃ z, z = (if x2 = (0 : Int32) then (-1 : Int32) else v19) := ⟨_, rfl⟩
  have k31 : ∀ t, Steps p.tables e below (T22.setTop (mkF m 31 #[.val (.ref a33_0), .val (.ref b2), .val (.int v29), .val (.int (2 : Int32))] [(.int v30), (.int (2 : Int32)), (.ref b2)])) t → Steps p.tables e below (s₁.setTop (entryFrame m #[(.ref a33_0)] 4)) t := by
    intro t k
    refine k27 t ?_
    by_cases hc20_28 : x2 = (0 : Int32)
    · skip
      show Steps p.tables e below (T22.setTop (mkF m 20 #[.val (.ref a33_0), .val (.ref b2), .val (.int v19), .val (.int (2 : Int32))] [(.int x2), (.int (2 : Int32)), (.ref b2)])) _
      refine XS.ifYes X22.here hx rfl (pc0 := 20) (pc' := 30) rfl (hb hby d33_20) rfl ((if0 _ _).trans (teq hc20_28).1) (by decide) (by decide) ?_
      show Steps p.tables e below (T22.setTop (mkF m 30 #[.val (.ref a33_0), .val (.ref b2), .val (.int v19), .val (.int (2 : Int32))] [(.int (2 : Int32)), (.ref b2)])) _
      refine XS.iconst X22.here hx rfl (hb hby d33_30) ?_
      rw [show v29 = v19 from hv29.trans (by rw [if_pos hc20_28])] at k
      rw [show v30 = (-1 : Int32) from hv30.trans (by rw [if_pos hc20_28])] at k
      exact k
    · skip
      show Steps p.tables e below (T22.setTop (mkF m 20 #[.val (.ref a33_0), .val (.ref b2), .val (.int v19), .val (.int (2 : Int32))] [(.int x2), (.int (2 : Int32)), (.ref b2)])) _
      refine XS.ifNo X22.here hx rfl (hb hby d33_20) rfl ((if0 _ _).trans (feq hc20_28).1) ?_
      show Steps p.tables e below (T22.setTop (mkF m 23 #[.val (.ref a33_0), .val (.ref b2), .val (.int v19), .val (.int (2 : Int32))] [(.int (2 : Int32)), (.ref b2)])) _
      refine XS.iloadN X22.here hx rfl (hb hby d33_23) rfl ?_
      show Steps p.tables e below (T22.setTop (mkF m 24 #[.val (.ref a33_0), .val (.ref b2), .val (.int v19), .val (.int (2 : Int32))] [(.int v19), (.int (2 : Int32)), (.ref b2)])) _
      refine XS.iinc X22.here hx rfl (hb hby d33_24) rfl (l' := #[.val (.ref a33_0), .val (.ref b2), .val (.int (v19 + (1 : Int32))), .val (.int (2 : Int32))]) rfl ?_
      show Steps p.tables e below (T22.setTop (mkF m 27 #[.val (.ref a33_0), .val (.ref b2), .val (.int (v19 + (1 : Int32))), .val (.int (2 : Int32))] [(.int v19), (.int (2 : Int32)), (.ref b2)])) _
      refine XS.goto X22.here hx rfl (pc0 := 27) (pc' := 31) rfl (hb hby d33_27) (by decide) (by decide) ?_
      rw [show v29 = (v19 + (1 : Int32)) from hv29.trans (by rw [if_neg hc20_28])] at k
      rw [show v30 = v19 from hv30.trans (by rw [if_neg hc20_28])] at k
      exact k
  obtain ⟨cl32, Ar32, qc32, Sz32, Nn32, Hh32, Gg32⟩ := (id V22)
  have hin32 : ¬ ((2 : Int32) < 0 ∨ cl32.slots.size ≤ ((2 : Int32)).toNatClampNeg) := inb_of Sz32 ⟨by decide, by decide⟩
  obtain ⟨T32, h32, X32, e32, W32, st32⟩ := stI X22 hx hZ e22 Ar32 (j := (2 : Int32)) hin32 (g := (mkF m 31 #[.val (.ref a33_0), .val (.ref b2), .val (.int v29), .val (.int (2 : Int32))] [(.int v30), (.int (2 : Int32)), (.ref b2)])) rfl rfl (hb hby d33_31)
  have F33 : Arv Z h32 a33_0 kk .boolean (3 : Int32) [(.int x0), (.int x1), (.int x2), (.int x3), (.int x4), (.int x5)] (.int (0 : Int32)) := F23.other W32 ne3
  have V32 : Arv Z h32 b2 k2 .int (3 : Int32) [(.int v10), (.int v20), (.int v30), (.int (0 : Int32)), (.int (0 : Int32)), (.int (0 : Int32))] (.int (0 : Int32)) := Arv.set Ar32 qc32 Sz32 Nn32 Hh32 Gg32 rfl W32 2 rfl (Nat.le_of_ble_eq_true rfl)
  have N32 := Fr.snoc X32 N22 gg2
  have K32 : Keep h0 h32 [] := K22.wr W32 (Or.inr sz2)
  have Zs32 : n0 ≤ h32.size := by rw [W32.size]; exact Zs22
  obtain ⟨cl35, Ar35, qc35, Sz35, Nn35, Hh35, Gg35⟩ := (id F33)
  have k36 : ∀ t, Steps p.tables e below (T32.setTop (mkF m 39 #[.val (.ref a33_0), .val (.ref b2), .val (.int v29), .val (.int (3 : Int32))] [(.ref b2)])) t → Steps p.tables e below (s₁.setTop (entryFrame m #[(.ref a33_0)] 4)) t := by
    intro t k
    refine k31 t ?_
    show Steps p.tables e below (T22.setTop (mkF m 31 #[.val (.ref a33_0), .val (.ref b2), .val (.int v29), .val (.int (2 : Int32))] [(.int v30), (.int (2 : Int32)), (.ref b2)])) _
    refine st32 _ ?_
    show Steps p.tables e below (T32.setTop (mkF m 32 #[.val (.ref a33_0), .val (.ref b2), .val (.int v29), .val (.int (2 : Int32))] [])) _
    refine XS.iinc X32.here hx rfl (hb hby d33_32) rfl (l' := #[.val (.ref a33_0), .val (.ref b2), .val (.int v29), .val (.int (3 : Int32))]) rfl ?_
    show Steps p.tables e below (T32.setTop (mkF m 35 #[.val (.ref a33_0), .val (.ref b2), .val (.int v29), .val (.int (3 : Int32))] [])) _
    refine XS.goto X32.here hx rfl (pc0 := 35) (pc' := 9) rfl (hb hby d33_35) (by decide) (by decide) ?_
    show Steps p.tables e below (T32.setTop (mkF m 9 #[.val (.ref a33_0), .val (.ref b2), .val (.int v29), .val (.int (3 : Int32))] [])) _
    refine XS.iloadN X32.here hx rfl (hb hby d33_9) rfl ?_
    show Steps p.tables e below (T32.setTop (mkF m 10 #[.val (.ref a33_0), .val (.ref b2), .val (.int v29), .val (.int (3 : Int32))] [(.int (3 : Int32))])) _
    refine XS.aloadN X32.here hx rfl (hb hby d33_10) rfl rfl ?_
    show Steps p.tables e below (T32.setTop (mkF m 11 #[.val (.ref a33_0), .val (.ref b2), .val (.int v29), .val (.int (3 : Int32))] [(.ref a33_0), (.int (3 : Int32))])) _
    refine X32.arraylength hx (by rw [e32]; exact Ar35.1) (State.isArrayOf_alike hZ.alike Ar35.2.1) (g := (mkF m 11 #[.val (.ref a33_0), .val (.ref b2), .val (.int v29), .val (.int (3 : Int32))] [(.ref a33_0), (.int (3 : Int32))])) rfl rfl (hb hby d33_11) _ ?_
    rw [len_of Sz35 Nn35]
    show Steps p.tables e below (T32.setTop (mkF m 12 #[.val (.ref a33_0), .val (.ref b2), .val (.int v29), .val (.int (3 : Int32))] [(.int (3 : Int32)), (.int (3 : Int32))])) _
    refine XS.icmpYes X32.here hx rfl (pc0 := 12) (pc' := 38) rfl (hb hby d33_12) rfl (flt (by decide : ¬ ((3 : Int32) < (3 : Int32)))).2.1 (by decide) (by decide) ?_
    show Steps p.tables e below (T32.setTop (mkF m 38 #[.val (.ref a33_0), .val (.ref b2), .val (.int v29), .val (.int (3 : Int32))] [])) _
    refine XS.aloadN X32.here hx rfl (hb hby d33_38) rfl rfl ?_
    exact k
  subst hv30 hv29 hv20 hv19 hv10 hv9
  obtain ⟨fs, hr, hrun, hended, hW, hsame⟩ := X32.leave (v := some (.ref b2)) (fun h => by rw [Bd.returns] at h; cases h)
  refine ⟨_, _, k36 _ ?_, hrun, hended, _, _, rfl, ?_, ⟨_, rfl⟩, hW, hsame.mono (by decide) (by decide)⟩
  · exact retOut X32 hx Bd.returns rfl (Or.inr (Or.inr (Or.inr (Or.inr ⟨rfl, rfl, rfl⟩)))) (hb hby d33_39) hr
  · show Q33 Z a33_0 kk x0 x1 x2 x3 x4 x5 h0 n0 _ T32.heap _
    rw [e32]
    exact ⟨b2, k2, rfl, N32, K32, gg2, sz2, V32⟩
theorem d34_0 : decode prog_16_method_15_code 0 = .ok (.aload_n 0, 1) := by decide +kernel
theorem d34_1 : decode prog_16_method_15_code 1 = .ok (.arraylength, 1) := by decide +kernel
theorem d34_2 : decode prog_16_method_15_code 2 = .ok (.newarray .int, 2) := by decide +kernel
theorem d34_4 : decode prog_16_method_15_code 4 = .ok (.astore_n 1, 1) := by decide +kernel
theorem d34_5 : decode prog_16_method_15_code 5 = .ok (.iconst 0, 1) := by decide +kernel
theorem d34_6 : decode prog_16_method_15_code 6 = .ok (.istore_n 2, 1) := by decide +kernel
theorem d34_7 : decode prog_16_method_15_code 7 = .ok (.iconst 0, 1) := by decide +kernel
theorem d34_8 : decode prog_16_method_15_code 8 = .ok (.istore_n 3, 1) := by decide +kernel
theorem d34_9 : decode prog_16_method_15_code 9 = .ok (.iload_n 3, 1) := by decide +kernel
theorem d34_10 : decode prog_16_method_15_code 10 = .ok (.aload_n 0, 1) := by decide +kernel
theorem d34_11 : decode prog_16_method_15_code 11 = .ok (.arraylength, 1) := by decide +kernel
theorem d34_12 : decode prog_16_method_15_code 12 = .ok (.if_icmp .ge 26, 3) := by decide +kernel
theorem d34_15 : decode prog_16_method_15_code 15 = .ok (.aload_n 1, 1) := by decide +kernel
theorem d34_16 : decode prog_16_method_15_code 16 = .ok (.iload_n 3, 1) := by decide +kernel
theorem d34_17 : decode prog_16_method_15_code 17 = .ok (.aload_n 0, 1) := by decide +kernel
theorem d34_18 : decode prog_16_method_15_code 18 = .ok (.iload_n 3, 1) := by decide +kernel
theorem d34_19 : decode prog_16_method_15_code 19 = .ok (.baload, 1) := by decide +kernel
theorem d34_20 : decode prog_16_method_15_code 20 = .ok (.ifCond .eq 10, 3) := by decide +kernel
theorem d34_23 : decode prog_16_method_15_code 23 = .ok (.iload_n 2, 1) := by decide +kernel
theorem d34_24 : decode prog_16_method_15_code 24 = .ok (.iinc 2 1, 3) := by decide +kernel
theorem d34_27 : decode prog_16_method_15_code 27 = .ok (.goto 4, 3) := by decide +kernel
theorem d34_30 : decode prog_16_method_15_code 30 = .ok (.iconst (-1), 1) := by decide +kernel
theorem d34_31 : decode prog_16_method_15_code 31 = .ok (.iastore, 1) := by decide +kernel
theorem d34_32 : decode prog_16_method_15_code 32 = .ok (.iinc 3 1, 3) := by decide +kernel
theorem d34_35 : decode prog_16_method_15_code 35 = .ok (.goto (-26), 3) := by decide +kernel
theorem d34_38 : decode prog_16_method_15_code 38 = .ok (.aload_n 1, 1) := by decide +kernel
theorem d34_39 : decode prog_16_method_15_code 39 = .ok (.areturn, 1) := by decide +kernel
theorem ef_34 (m : MethodId) (a34_0 : Addr) : entryFrame m #[(.ref a34_0)] 4 = mkF m 0 #[.val (.ref a34_0), .unset, .unset, .unset] [] := by first | (simp [entryFrame, mkF, argsToLocals, Value.category]; done) | rfl
def Q34 (Z : State) (a34_0 : Addr) (kk : ClassId) (x0 : Int32) (x1 : Int32) (x2 : Int32) (x3 : Int32) (x4 : Int32) (x5 : Int32) (h0 : Heap) (n0 : Nat) (v : Option Value) (h : Heap) (L : List Loc) : Prop := ∃ b34 : Addr, ∃ kn34 : ClassId, v = some (.ref b34) ∧ Fr n0 L ∧ Keep h0 h [] ∧ n0 ≤ b34 ∧ h0.size ≤ b34 ∧ Arv Z h b34 kn34 .int (4 : Int32) [(.int (own_e x0 (0 : Int32))), (.int (own_e x1 (own_c x0 (0 : Int32)))), (.int (own_e x2 (own_c x1 (own_c x0 (0 : Int32))))), (.int (own_e x3 (own_c x2 (own_c x1 (own_c x0 (0 : Int32)))))), (.int (0 : Int32)), (.int (0 : Int32))] (.int (0 : Int32))
set_option maxRecDepth 65536 in
set_option maxHeartbeats 40000000 in
theorem rm34 (l : Launch) (Z : State) (a0 : Array Value) (hw : ∀ d ∈ tables_1, d.before a0 Z = true) (ws : List Jvm.Cond) (a34_0 : Addr) (kk : ClassId) (x0 : Int32) (x1 : Int32) (x2 : Int32) (x3 : Int32) (x4 : Int32) (x5 : Int32) (h0 : Heap) (n0 : Nat) (Z0 : n0 ≤ h0.size) (Vb : Arv Z h0 a34_0 kk .boolean (4 : Int32) [(.int x0), (.int x1), (.int x2), (.int x3), (.int x4), (.int x5)] (.int (0 : Int32))) :
    MetFree l (⟨"com/example/leanweave/leanweave/Network", "numbering", "([Z)[I"⟩ : MethodName) (head1 (Jvm.Cond.code (⟨"com/example/leanweave/leanweave/Network", "numbering", "([Z)[I"⟩ : MethodName) prog_16_method_15_code 4 (some (.array .int)) :: ws) ({ frames := 0, cells := 1, slots := 4, locals := 0 } : Room)) (fun a U => a = #[(.ref a34_0)] ∧ Z.Warmed39 U.vm ∧ U.heap = h0) (fun _ _ _ _ _ => True) (fun _ U o U' => ∃ v L, o = .returned v ∧ Q34 Z a34_0 kk x0 x1 x2 x3 x4 x5 h0 n0 v U'.heap L ∧ FrameEnd U o U' L ({ frames := 0, cells := 1, slots := 4, locals := 0 } : Room).cells ({ frames := 0, cells := 1, slots := 4, locals := 0 } : Room).slots) := by
  refine MetFree.of_bodySF (plainFor_of_name pn_1) hisR ?_
  intro p e s m args below meth c s₁ Bd hml0 hP hK
  obtain ⟨rfl, hZ, hh⟩ := hP
  have hx := Bd.exec
  have hby := Bd.bytes
  have hml : c.maxLocals = 4 := hml0
  have hown : s.vm.findClass "com/example/leanweave/leanweave/Network" = some m.cls := findClass_of_methodNamed Bd.named
  have hnm := (name_of_methodNamed Bd.named Bd.method).1
  have X0 : Stand p l e ({ frames := 0, cells := 1, slots := 4, locals := 0 } : Room) s m #[(.ref a34_0)] below meth c s₁ [] 0 0 := Stand.of_body Bd
  have e0 : s₁.heap = h0 := by rw [← hh, Bd.state]; rfl
  have N0 := Fr.nil n0
  have pre0 : ∀ t, Steps p.tables e below (s₁.setTop (mkF m 0 #[.val (.ref a34_0), .unset, .unset, .unset] [])) t → Steps p.tables e below (s₁.setTop (entryFrame m #[(.ref a34_0)] 4)) t := fun t k => castTop (ef_34 m a34_0) k
  obtain ⟨cl1, Ar1, qc1, Sz1, Nn1, Hh1, Gg1⟩ := (id Vb)
  obtain ⟨b2, g2⟩ : ∃ z, z = h0.size := ⟨_, rfl⟩
  obtain ⟨T2, h2, k2, X2, e2, E2, A2, st2⟩ := newP X0 hx hZ (hw _ (List.mem_of_getElem? (i := 10) rfl)) e0 (g := (mkF m 2 #[.val (.ref a34_0), .unset, .unset, .unset] [(.int (4 : Int32))])) rfl (hb hby d34_2) rfl (by decide) (cap := 4) (by decide) (by decide) (by decide) (by decide)
  rw [← g2] at A2 st2
  have ne3 : a34_0 ≠ b2 := Nat.ne_of_lt (Nat.lt_of_lt_of_le Vb.lt (Nat.le_of_eq g2.symm))
  have gg2 : n0 ≤ b2 := Nat.le_trans Z0 (Nat.le_of_eq g2.symm)
  have sz2 : h0.size ≤ b2 := Nat.le_trans (Keep.refl h0 []).1 (Nat.le_of_eq g2.symm)
  have Zs2 : n0 ≤ h2.size := Nat.le_trans Z0 E2.1
  have K2 : Keep h0 h2 [] := (Keep.refl h0 []).ext E2
  have F4 : Arv Z h2 a34_0 kk .boolean (4 : Int32) [(.int x0), (.int x1), (.int x2), (.int x3), (.int x4), (.int x5)] (.int (0 : Int32)) := Vb.ext E2
  have V2 : Arv Z h2 b2 k2 .int (4 : Int32) [(.int (0 : Int32)), (.int (0 : Int32)), (.int (0 : Int32)), (.int (0 : Int32)), (.int (0 : Int32)), (.int (0 : Int32))] (.int (0 : Int32)) := (Arv.new A2 (by decide)).pad (pad_rep [] (.int (0 : Int32)) 6)
  obtain ⟨cl5, Ar5, qc5, Sz5, Nn5, Hh5, Gg5⟩ := (id F4)
  obtain ⟨cl6, Ar6, qc6, Sz6, Nn6, Hh6, Gg6⟩ := (id F4)
  have hin6 : ¬ ((0 : Int32) < 0 ∨ cl6.slots.size ≤ ((0 : Int32)).toNatClampNeg) := inb_of Sz6 ⟨by decide, by decide⟩
  have k7 : ∀ t, Steps p.tables e below (T2.setTop (mkF m 20 #[.val (.ref a34_0), .val (.ref b2), .val (.int (0 : Int32)), .val (.int (0 : Int32))] [(.int x0), (.int (0 : Int32)), (.ref b2)])) t → Steps p.tables e below (s₁.setTop (entryFrame m #[(.ref a34_0)] 4)) t := by
    intro t k
    refine pre0 t ?_
    show Steps p.tables e below (s₁.setTop (mkF m 0 #[.val (.ref a34_0), .unset, .unset, .unset] [])) _
    refine XS.aloadN X0.here hx rfl (hb hby d34_0) rfl rfl ?_
    show Steps p.tables e below (s₁.setTop (mkF m 1 #[.val (.ref a34_0), .unset, .unset, .unset] [(.ref a34_0)])) _
    refine X0.arraylength hx (by rw [e0]; exact Ar1.1) (State.isArrayOf_alike hZ.alike Ar1.2.1) (g := (mkF m 1 #[.val (.ref a34_0), .unset, .unset, .unset] [(.ref a34_0)])) rfl rfl (hb hby d34_1) _ ?_
    rw [len_of Sz1 Nn1]
    show Steps p.tables e below (s₁.setTop (mkF m 2 #[.val (.ref a34_0), .unset, .unset, .unset] [(.int (4 : Int32))])) _
    refine st2 _ ?_
    show Steps p.tables e below (T2.setTop (mkF m 4 #[.val (.ref a34_0), .unset, .unset, .unset] [(.ref b2)])) _
    refine XS.astoreN X2.here hx rfl (hb hby d34_4) rfl rfl (l' := #[.val (.ref a34_0), .val (.ref b2), .unset, .unset]) rfl ?_
    show Steps p.tables e below (T2.setTop (mkF m 5 #[.val (.ref a34_0), .val (.ref b2), .unset, .unset] [])) _
    refine XS.iconst X2.here hx rfl (hb hby d34_5) ?_
    show Steps p.tables e below (T2.setTop (mkF m 6 #[.val (.ref a34_0), .val (.ref b2), .unset, .unset] [(.int (0 : Int32))])) _
    refine XS.istoreN X2.here hx rfl (hb hby d34_6) rfl (l' := #[.val (.ref a34_0), .val (.ref b2), .val (.int (0 : Int32)), .unset]) rfl ?_
    show Steps p.tables e below (T2.setTop (mkF m 7 #[.val (.ref a34_0), .val (.ref b2), .val (.int (0 : Int32)), .unset] [])) _
    refine XS.iconst X2.here hx rfl (hb hby d34_7) ?_
    show Steps p.tables e below (T2.setTop (mkF m 8 #[.val (.ref a34_0), .val (.ref b2), .val (.int (0 : Int32)), .unset] [(.int (0 : Int32))])) _
    refine XS.istoreN X2.here hx rfl (hb hby d34_8) rfl (l' := #[.val (.ref a34_0), .val (.ref b2), .val (.int (0 : Int32)), .val (.int (0 : Int32))]) rfl ?_
    show Steps p.tables e below (T2.setTop (mkF m 9 #[.val (.ref a34_0), .val (.ref b2), .val (.int (0 : Int32)), .val (.int (0 : Int32))] [])) _
    refine XS.iloadN X2.here hx rfl (hb hby d34_9) rfl ?_
    show Steps p.tables e below (T2.setTop (mkF m 10 #[.val (.ref a34_0), .val (.ref b2), .val (.int (0 : Int32)), .val (.int (0 : Int32))] [(.int (0 : Int32))])) _
    refine XS.aloadN X2.here hx rfl (hb hby d34_10) rfl rfl ?_
    show Steps p.tables e below (T2.setTop (mkF m 11 #[.val (.ref a34_0), .val (.ref b2), .val (.int (0 : Int32)), .val (.int (0 : Int32))] [(.ref a34_0), (.int (0 : Int32))])) _
    refine X2.arraylength hx (by rw [e2]; exact Ar5.1) (State.isArrayOf_alike hZ.alike Ar5.2.1) (g := (mkF m 11 #[.val (.ref a34_0), .val (.ref b2), .val (.int (0 : Int32)), .val (.int (0 : Int32))] [(.ref a34_0), (.int (0 : Int32))])) rfl rfl (hb hby d34_11) _ ?_
    rw [len_of Sz5 Nn5]
    show Steps p.tables e below (T2.setTop (mkF m 12 #[.val (.ref a34_0), .val (.ref b2), .val (.int (0 : Int32)), .val (.int (0 : Int32))] [(.int (4 : Int32)), (.int (0 : Int32))])) _
    refine XS.icmpNo X2.here hx rfl (hb hby d34_12) rfl (tlt (by decide : (0 : Int32) < (4 : Int32))).2.1 ?_
    show Steps p.tables e below (T2.setTop (mkF m 15 #[.val (.ref a34_0), .val (.ref b2), .val (.int (0 : Int32)), .val (.int (0 : Int32))] [])) _
    refine XS.aloadN X2.here hx rfl (hb hby d34_15) rfl rfl ?_
    show Steps p.tables e below (T2.setTop (mkF m 16 #[.val (.ref a34_0), .val (.ref b2), .val (.int (0 : Int32)), .val (.int (0 : Int32))] [(.ref b2)])) _
    refine XS.iloadN X2.here hx rfl (hb hby d34_16) rfl ?_
    show Steps p.tables e below (T2.setTop (mkF m 17 #[.val (.ref a34_0), .val (.ref b2), .val (.int (0 : Int32)), .val (.int (0 : Int32))] [(.int (0 : Int32)), (.ref b2)])) _
    refine XS.aloadN X2.here hx rfl (hb hby d34_17) rfl rfl ?_
    show Steps p.tables e below (T2.setTop (mkF m 18 #[.val (.ref a34_0), .val (.ref b2), .val (.int (0 : Int32)), .val (.int (0 : Int32))] [(.ref a34_0), (.int (0 : Int32)), (.ref b2)])) _
    refine XS.iloadN X2.here hx rfl (hb hby d34_18) rfl ?_
    show Steps p.tables e below (T2.setTop (mkF m 19 #[.val (.ref a34_0), .val (.ref b2), .val (.int (0 : Int32)), .val (.int (0 : Int32))] [(.int (0 : Int32)), (.ref a34_0), (.int (0 : Int32)), (.ref b2)])) _
    refine X2.baloadBooleans hx (j := (0 : Int32)) (v := (.int x0)) (by rw [e2]; exact Ar6.1) (State.isArrayOf_alike hZ.alike Ar6.2.1) Ar6.2.2 hin6 (Hh6.at hin6 rfl) (g := (mkF m 19 #[.val (.ref a34_0), .val (.ref b2), .val (.int (0 : Int32)), .val (.int (0 : Int32))] [(.int (0 : Int32)), (.ref a34_0), (.int (0 : Int32)), (.ref b2)])) rfl rfl (hb hby d34_19) _ ?_
    exact k
  obtain ⟨v9, hv9⟩ : ∃ z, z = (if x0 = (0 : Int32) then (0 : Int32) else (1 : Int32)) := ⟨_, rfl⟩
  obtain ⟨v10, hv10⟩ : ∃ z, z = (if x0 = (0 : Int32) then (-1 : Int32) else (0 : Int32)) := ⟨_, rfl⟩
  have k11 : ∀ t, Steps p.tables e below (T2.setTop (mkF m 31 #[.val (.ref a34_0), .val (.ref b2), .val (.int v9), .val (.int (0 : Int32))] [(.int v10), (.int (0 : Int32)), (.ref b2)])) t → Steps p.tables e below (s₁.setTop (entryFrame m #[(.ref a34_0)] 4)) t := by
    intro t k
    refine k7 t ?_
    by_cases hc20_8 : x0 = (0 : Int32)
    · skip
      show Steps p.tables e below (T2.setTop (mkF m 20 #[.val (.ref a34_0), .val (.ref b2), .val (.int (0 : Int32)), .val (.int (0 : Int32))] [(.int x0), (.int (0 : Int32)), (.ref b2)])) _
      refine XS.ifYes X2.here hx rfl (pc0 := 20) (pc' := 30) rfl (hb hby d34_20) rfl ((if0 _ _).trans (teq hc20_8).1) (by decide) (by decide) ?_
      show Steps p.tables e below (T2.setTop (mkF m 30 #[.val (.ref a34_0), .val (.ref b2), .val (.int (0 : Int32)), .val (.int (0 : Int32))] [(.int (0 : Int32)), (.ref b2)])) _
      refine XS.iconst X2.here hx rfl (hb hby d34_30) ?_
      rw [show v9 = (0 : Int32) from hv9.trans (by rw [if_pos hc20_8])] at k
      rw [show v10 = (-1 : Int32) from hv10.trans (by rw [if_pos hc20_8])] at k
      exact k
    · skip
      show Steps p.tables e below (T2.setTop (mkF m 20 #[.val (.ref a34_0), .val (.ref b2), .val (.int (0 : Int32)), .val (.int (0 : Int32))] [(.int x0), (.int (0 : Int32)), (.ref b2)])) _
      refine XS.ifNo X2.here hx rfl (hb hby d34_20) rfl ((if0 _ _).trans (feq hc20_8).1) ?_
      show Steps p.tables e below (T2.setTop (mkF m 23 #[.val (.ref a34_0), .val (.ref b2), .val (.int (0 : Int32)), .val (.int (0 : Int32))] [(.int (0 : Int32)), (.ref b2)])) _
      refine XS.iloadN X2.here hx rfl (hb hby d34_23) rfl ?_
      show Steps p.tables e below (T2.setTop (mkF m 24 #[.val (.ref a34_0), .val (.ref b2), .val (.int (0 : Int32)), .val (.int (0 : Int32))] [(.int (0 : Int32)), (.int (0 : Int32)), (.ref b2)])) _
      refine XS.iinc X2.here hx rfl (hb hby d34_24) rfl (l' := #[.val (.ref a34_0), .val (.ref b2), .val (.int (1 : Int32)), .val (.int (0 : Int32))]) rfl ?_
      show Steps p.tables e below (T2.setTop (mkF m 27 #[.val (.ref a34_0), .val (.ref b2), .val (.int (1 : Int32)), .val (.int (0 : Int32))] [(.int (0 : Int32)), (.int (0 : Int32)), (.ref b2)])) _
      refine XS.goto X2.here hx rfl (pc0 := 27) (pc' := 31) rfl (hb hby d34_27) (by decide) (by decide) ?_
      rw [show v9 = (1 : Int32) from hv9.trans (by rw [if_neg hc20_8])] at k
      rw [show v10 = (0 : Int32) from hv10.trans (by rw [if_neg hc20_8])] at k
      exact k
  obtain ⟨cl12, Ar12, qc12, Sz12, Nn12, Hh12, Gg12⟩ := (id V2)
  have hin12 : ¬ ((0 : Int32) < 0 ∨ cl12.slots.size ≤ ((0 : Int32)).toNatClampNeg) := inb_of Sz12 ⟨by decide, by decide⟩
  obtain ⟨T12, h12, X12, e12, W12, st12⟩ := stI X2 hx hZ e2 Ar12 (j := (0 : Int32)) hin12 (g := (mkF m 31 #[.val (.ref a34_0), .val (.ref b2), .val (.int v9), .val (.int (0 : Int32))] [(.int v10), (.int (0 : Int32)), (.ref b2)])) rfl rfl (hb hby d34_31)
  have F13 : Arv Z h12 a34_0 kk .boolean (4 : Int32) [(.int x0), (.int x1), (.int x2), (.int x3), (.int x4), (.int x5)] (.int (0 : Int32)) := F4.other W12 ne3
  have V12 : Arv Z h12 b2 k2 .int (4 : Int32) [(.int v10), (.int (0 : Int32)), (.int (0 : Int32)), (.int (0 : Int32)), (.int (0 : Int32)), (.int (0 : Int32))] (.int (0 : Int32)) := Arv.set Ar12 qc12 Sz12 Nn12 Hh12 Gg12 rfl W12 0 rfl (Nat.le_of_ble_eq_true rfl)
  have N12 := Fr.snoc X12 N0 gg2
  have K12 : Keep h0 h12 [] := K2.wr W12 (Or.inr sz2)
  have Zs12 : n0 ≤ h12.size := by rw [W12.size]; exact Zs2
  obtain ⟨cl15, Ar15, qc15, Sz15, Nn15, Hh15, Gg15⟩ := (id F13)
  obtain ⟨cl16, Ar16, qc16, Sz16, Nn16, Hh16, Gg16⟩ := (id F13)
  have hin16 : ¬ ((1 : Int32) < 0 ∨ cl16.slots.size ≤ ((1 : Int32)).toNatClampNeg) := inb_of Sz16 ⟨by decide, by decide⟩
  have k17 : ∀ t, Steps p.tables e below (T12.setTop (mkF m 20 #[.val (.ref a34_0), .val (.ref b2), .val (.int v9), .val (.int (1 : Int32))] [(.int x1), (.int (1 : Int32)), (.ref b2)])) t → Steps p.tables e below (s₁.setTop (entryFrame m #[(.ref a34_0)] 4)) t := by
    intro t k
    refine k11 t ?_
    show Steps p.tables e below (T2.setTop (mkF m 31 #[.val (.ref a34_0), .val (.ref b2), .val (.int v9), .val (.int (0 : Int32))] [(.int v10), (.int (0 : Int32)), (.ref b2)])) _
    refine st12 _ ?_
    show Steps p.tables e below (T12.setTop (mkF m 32 #[.val (.ref a34_0), .val (.ref b2), .val (.int v9), .val (.int (0 : Int32))] [])) _
    refine XS.iinc X12.here hx rfl (hb hby d34_32) rfl (l' := #[.val (.ref a34_0), .val (.ref b2), .val (.int v9), .val (.int (1 : Int32))]) rfl ?_
    show Steps p.tables e below (T12.setTop (mkF m 35 #[.val (.ref a34_0), .val (.ref b2), .val (.int v9), .val (.int (1 : Int32))] [])) _
    refine XS.goto X12.here hx rfl (pc0 := 35) (pc' := 9) rfl (hb hby d34_35) (by decide) (by decide) ?_
    show Steps p.tables e below (T12.setTop (mkF m 9 #[.val (.ref a34_0), .val (.ref b2), .val (.int v9), .val (.int (1 : Int32))] [])) _
    refine XS.iloadN X12.here hx rfl (hb hby d34_9) rfl ?_
    show Steps p.tables e below (T12.setTop (mkF m 10 #[.val (.ref a34_0), .val (.ref b2), .val (.int v9), .val (.int (1 : Int32))] [(.int (1 : Int32))])) _
    refine XS.aloadN X12.here hx rfl (hb hby d34_10) rfl rfl ?_
    show Steps p.tables e below (T12.setTop (mkF m 11 #[.val (.ref a34_0), .val (.ref b2), .val (.int v9), .val (.int (1 : Int32))] [(.ref a34_0), (.int (1 : Int32))])) _
    refine X12.arraylength hx (by rw [e12]; exact Ar15.1) (State.isArrayOf_alike hZ.alike Ar15.2.1) (g := (mkF m 11 #[.val (.ref a34_0), .val (.ref b2), .val (.int v9), .val (.int (1 : Int32))] [(.ref a34_0), (.int (1 : Int32))])) rfl rfl (hb hby d34_11) _ ?_
    rw [len_of Sz15 Nn15]
    show Steps p.tables e below (T12.setTop (mkF m 12 #[.val (.ref a34_0), .val (.ref b2), .val (.int v9), .val (.int (1 : Int32))] [(.int (4 : Int32)), (.int (1 : Int32))])) _
    refine XS.icmpNo X12.here hx rfl (hb hby d34_12) rfl (tlt (by decide : (1 : Int32) < (4 : Int32))).2.1 ?_
    show Steps p.tables e below (T12.setTop (mkF m 15 #[.val (.ref a34_0), .val (.ref b2), .val (.int v9), .val (.int (1 : Int32))] [])) _
    refine XS.aloadN X12.here hx rfl (hb hby d34_15) rfl rfl ?_
    show Steps p.tables e below (T12.setTop (mkF m 16 #[.val (.ref a34_0), .val (.ref b2), .val (.int v9), .val (.int (1 : Int32))] [(.ref b2)])) _
    refine XS.iloadN X12.here hx rfl (hb hby d34_16) rfl ?_
    show Steps p.tables e below (T12.setTop (mkF m 17 #[.val (.ref a34_0), .val (.ref b2), .val (.int v9), .val (.int (1 : Int32))] [(.int (1 : Int32)), (.ref b2)])) _
    refine XS.aloadN X12.here hx rfl (hb hby d34_17) rfl rfl ?_
    show Steps p.tables e below (T12.setTop (mkF m 18 #[.val (.ref a34_0), .val (.ref b2), .val (.int v9), .val (.int (1 : Int32))] [(.ref a34_0), (.int (1 : Int32)), (.ref b2)])) _
    refine XS.iloadN X12.here hx rfl (hb hby d34_18) rfl ?_
    show Steps p.tables e below (T12.setTop (mkF m 19 #[.val (.ref a34_0), .val (.ref b2), .val (.int v9), .val (.int (1 : Int32))] [(.int (1 : Int32)), (.ref a34_0), (.int (1 : Int32)), (.ref b2)])) _
    refine X12.baloadBooleans hx (j := (1 : Int32)) (v := (.int x1)) (by rw [e12]; exact Ar16.1) (State.isArrayOf_alike hZ.alike Ar16.2.1) Ar16.2.2 hin16 (Hh16.at hin16 rfl) (g := (mkF m 19 #[.val (.ref a34_0), .val (.ref b2), .val (.int v9), .val (.int (1 : Int32))] [(.int (1 : Int32)), (.ref a34_0), (.int (1 : Int32)), (.ref b2)])) rfl rfl (hb hby d34_19) _ ?_
    exact k
  obtain ⟨v19, hv19⟩ : ∃ z, z = (if x1 = (0 : Int32) then v9 else (v9 + (1 : Int32))) := ⟨_, rfl⟩
  obtain ⟨v20, hv20⟩ : ∃ z, z = (if x1 = (0 : Int32) then (-1 : Int32) else v9) := ⟨_, rfl⟩
  have k21 : ∀ t, Steps p.tables e below (T12.setTop (mkF m 31 #[.val (.ref a34_0), .val (.ref b2), .val (.int v19), .val (.int (1 : Int32))] [(.int v20), (.int (1 : Int32)), (.ref b2)])) t → Steps p.tables e below (s₁.setTop (entryFrame m #[(.ref a34_0)] 4)) t := by
    intro t k
    refine k17 t ?_
    by_cases hc20_18 : x1 = (0 : Int32)
    · skip
      show Steps p.tables e below (T12.setTop (mkF m 20 #[.val (.ref a34_0), .val (.ref b2), .val (.int v9), .val (.int (1 : Int32))] [(.int x1), (.int (1 : Int32)), (.ref b2)])) _
      refine XS.ifYes X12.here hx rfl (pc0 := 20) (pc' := 30) rfl (hb hby d34_20) rfl ((if0 _ _).trans (teq hc20_18).1) (by decide) (by decide) ?_
      show Steps p.tables e below (T12.setTop (mkF m 30 #[.val (.ref a34_0), .val (.ref b2), .val (.int v9), .val (.int (1 : Int32))] [(.int (1 : Int32)), (.ref b2)])) _
      refine XS.iconst X12.here hx rfl (hb hby d34_30) ?_
      rw [show v19 = v9 from hv19.trans (by rw [if_pos hc20_18])] at k
      rw [show v20 = (-1 : Int32) from hv20.trans (by rw [if_pos hc20_18])] at k
      exact k
    · skip
      show Steps p.tables e below (T12.setTop (mkF m 20 #[.val (.ref a34_0), .val (.ref b2), .val (.int v9), .val (.int (1 : Int32))] [(.int x1), (.int (1 : Int32)), (.ref b2)])) _
      refine XS.ifNo X12.here hx rfl (hb hby d34_20) rfl ((if0 _ _).trans (feq hc20_18).1) ?_
      show Steps p.tables e below (T12.setTop (mkF m 23 #[.val (.ref a34_0), .val (.ref b2), .val (.int v9), .val (.int (1 : Int32))] [(.int (1 : Int32)), (.ref b2)])) _
      refine XS.iloadN X12.here hx rfl (hb hby d34_23) rfl ?_
      show Steps p.tables e below (T12.setTop (mkF m 24 #[.val (.ref a34_0), .val (.ref b2), .val (.int v9), .val (.int (1 : Int32))] [(.int v9), (.int (1 : Int32)), (.ref b2)])) _
      refine XS.iinc X12.here hx rfl (hb hby d34_24) rfl (l' := #[.val (.ref a34_0), .val (.ref b2), .val (.int (v9 + (1 : Int32))), .val (.int (1 : Int32))]) rfl ?_
      show Steps p.tables e below (T12.setTop (mkF m 27 #[.val (.ref a34_0), .val (.ref b2), .val (.int (v9 + (1 : Int32))), .val (.int (1 : Int32))] [(.int v9), (.int (1 : Int32)), (.ref b2)])) _
      refine XS.goto X12.here hx rfl (pc0 := 27) (pc' := 31) rfl (hb hby d34_27) (by decide) (by decide) ?_
      rw [show v19 = (v9 + (1 : Int32)) from hv19.trans (by rw [if_neg hc20_18])] at k
      rw [show v20 = v9 from hv20.trans (by rw [if_neg hc20_18])] at k
      exact k
  obtain ⟨cl22, Ar22, qc22, Sz22, Nn22, Hh22, Gg22⟩ := (id V12)
  have hin22 : ¬ ((1 : Int32) < 0 ∨ cl22.slots.size ≤ ((1 : Int32)).toNatClampNeg) := inb_of Sz22 ⟨by decide, by decide⟩
  obtain ⟨T22, h22, X22, e22, W22, st22⟩ := stI X12 hx hZ e12 Ar22 (j := (1 : Int32)) hin22 (g := (mkF m 31 #[.val (.ref a34_0), .val (.ref b2), .val (.int v19), .val (.int (1 : Int32))] [(.int v20), (.int (1 : Int32)), (.ref b2)])) rfl rfl (hb hby d34_31)
  have F23 : Arv Z h22 a34_0 kk .boolean (4 : Int32) [(.int x0), (.int x1), (.int x2), (.int x3), (.int x4), (.int x5)] (.int (0 : Int32)) := F13.other W22 ne3
  have V22 : Arv Z h22 b2 k2 .int (4 : Int32) [(.int v10), (.int v20), (.int (0 : Int32)), (.int (0 : Int32)), (.int (0 : Int32)), (.int (0 : Int32))] (.int (0 : Int32)) := Arv.set Ar22 qc22 Sz22 Nn22 Hh22 Gg22 rfl W22 1 rfl (Nat.le_of_ble_eq_true rfl)
  have N22 := Fr.snoc X22 N12 gg2
  have K22 : Keep h0 h22 [] := K12.wr W22 (Or.inr sz2)
  have Zs22 : n0 ≤ h22.size := by rw [W22.size]; exact Zs12
  obtain ⟨cl25, Ar25, qc25, Sz25, Nn25, Hh25, Gg25⟩ := (id F23)
  obtain ⟨cl26, Ar26, qc26, Sz26, Nn26, Hh26, Gg26⟩ := (id F23)
  have hin26 : ¬ ((2 : Int32) < 0 ∨ cl26.slots.size ≤ ((2 : Int32)).toNatClampNeg) := inb_of Sz26 ⟨by decide, by decide⟩
  have k27 : ∀ t, Steps p.tables e below (T22.setTop (mkF m 20 #[.val (.ref a34_0), .val (.ref b2), .val (.int v19), .val (.int (2 : Int32))] [(.int x2), (.int (2 : Int32)), (.ref b2)])) t → Steps p.tables e below (s₁.setTop (entryFrame m #[(.ref a34_0)] 4)) t := by
    intro t k
    refine k21 t ?_
    show Steps p.tables e below (T12.setTop (mkF m 31 #[.val (.ref a34_0), .val (.ref b2), .val (.int v19), .val (.int (1 : Int32))] [(.int v20), (.int (1 : Int32)), (.ref b2)])) _
    refine st22 _ ?_
    show Steps p.tables e below (T22.setTop (mkF m 32 #[.val (.ref a34_0), .val (.ref b2), .val (.int v19), .val (.int (1 : Int32))] [])) _
    refine XS.iinc X22.here hx rfl (hb hby d34_32) rfl (l' := #[.val (.ref a34_0), .val (.ref b2), .val (.int v19), .val (.int (2 : Int32))]) rfl ?_
    show Steps p.tables e below (T22.setTop (mkF m 35 #[.val (.ref a34_0), .val (.ref b2), .val (.int v19), .val (.int (2 : Int32))] [])) _
    refine XS.goto X22.here hx rfl (pc0 := 35) (pc' := 9) rfl (hb hby d34_35) (by decide) (by decide) ?_
    show Steps p.tables e below (T22.setTop (mkF m 9 #[.val (.ref a34_0), .val (.ref b2), .val (.int v19), .val (.int (2 : Int32))] [])) _
    refine XS.iloadN X22.here hx rfl (hb hby d34_9) rfl ?_
    show Steps p.tables e below (T22.setTop (mkF m 10 #[.val (.ref a34_0), .val (.ref b2), .val (.int v19), .val (.int (2 : Int32))] [(.int (2 : Int32))])) _
    refine XS.aloadN X22.here hx rfl (hb hby d34_10) rfl rfl ?_
    show Steps p.tables e below (T22.setTop (mkF m 11 #[.val (.ref a34_0), .val (.ref b2), .val (.int v19), .val (.int (2 : Int32))] [(.ref a34_0), (.int (2 : Int32))])) _
    refine X22.arraylength hx (by rw [e22]; exact Ar25.1) (State.isArrayOf_alike hZ.alike Ar25.2.1) (g := (mkF m 11 #[.val (.ref a34_0), .val (.ref b2), .val (.int v19), .val (.int (2 : Int32))] [(.ref a34_0), (.int (2 : Int32))])) rfl rfl (hb hby d34_11) _ ?_
    rw [len_of Sz25 Nn25]
    show Steps p.tables e below (T22.setTop (mkF m 12 #[.val (.ref a34_0), .val (.ref b2), .val (.int v19), .val (.int (2 : Int32))] [(.int (4 : Int32)), (.int (2 : Int32))])) _
    refine XS.icmpNo X22.here hx rfl (hb hby d34_12) rfl (tlt (by decide : (2 : Int32) < (4 : Int32))).2.1 ?_
    show Steps p.tables e below (T22.setTop (mkF m 15 #[.val (.ref a34_0), .val (.ref b2), .val (.int v19), .val (.int (2 : Int32))] [])) _
    refine XS.aloadN X22.here hx rfl (hb hby d34_15) rfl rfl ?_
    show Steps p.tables e below (T22.setTop (mkF m 16 #[.val (.ref a34_0), .val (.ref b2), .val (.int v19), .val (.int (2 : Int32))] [(.ref b2)])) _
    refine XS.iloadN X22.here hx rfl (hb hby d34_16) rfl ?_
    show Steps p.tables e below (T22.setTop (mkF m 17 #[.val (.ref a34_0), .val (.ref b2), .val (.int v19), .val (.int (2 : Int32))] [(.int (2 : Int32)), (.ref b2)])) _
    refine XS.aloadN X22.here hx rfl (hb hby d34_17) rfl rfl ?_
    show Steps p.tables e below (T22.setTop (mkF m 18 #[.val (.ref a34_0), .val (.ref b2), .val (.int v19), .val (.int (2 : Int32))] [(.ref a34_0), (.int (2 : Int32)), (.ref b2)])) _
    refine XS.iloadN X22.here hx rfl (hb hby d34_18) rfl ?_
    show Steps p.tables e below (T22.setTop (mkF m 19 #[.val (.ref a34_0), .val (.ref b2), .val (.int v19), .val (.int (2 : Int32))] [(.int (2 : Int32)), (.ref a34_0), (.int (2 : Int32)), (.ref b2)])) _
    refine X22.baloadBooleans hx (j := (2 : Int32)) (v := (.int x2)) (by rw [e22]; exact Ar26.1) (State.isArrayOf_alike hZ.alike Ar26.2.1) Ar26.2.2 hin26 (Hh26.at hin26 rfl) (g := (mkF m 19 #[.val (.ref a34_0), .val (.ref b2), .val (.int v19), .val (.int (2 : Int32))] [(.int (2 : Int32)), (.ref a34_0), (.int (2 : Int32)), (.ref b2)])) rfl rfl (hb hby d34_19) _ ?_
    exact k
  obtain ⟨v29, hv29⟩ : ∃ z, z = (if x2 = (0 : Int32) then v19 else (v19 + (1 : Int32))) := ⟨_, rfl⟩
  obtain ⟨v30, hv30⟩ : ∃ z, z = (if x2 = (0 : Int32) then (-1 : Int32) else v19) := ⟨_, rfl⟩
  have k31 : ∀ t, Steps p.tables e below (T22.setTop (mkF m 31 #[.val (.ref a34_0), .val (.ref b2), .val (.int v29), .val (.int (2 : Int32))] [(.int v30), (.int (2 : Int32)), (.ref b2)])) t → Steps p.tables e below (s₁.setTop (entryFrame m #[(.ref a34_0)] 4)) t := by
    intro t k
    refine k27 t ?_
    by_cases hc20_28 : x2 = (0 : Int32)
    · skip
      show Steps p.tables e below (T22.setTop (mkF m 20 #[.val (.ref a34_0), .val (.ref b2), .val (.int v19), .val (.int (2 : Int32))] [(.int x2), (.int (2 : Int32)), (.ref b2)])) _
      refine XS.ifYes X22.here hx rfl (pc0 := 20) (pc' := 30) rfl (hb hby d34_20) rfl ((if0 _ _).trans (teq hc20_28).1) (by decide) (by decide) ?_
      show Steps p.tables e below (T22.setTop (mkF m 30 #[.val (.ref a34_0), .val (.ref b2), .val (.int v19), .val (.int (2 : Int32))] [(.int (2 : Int32)), (.ref b2)])) _
      refine XS.iconst X22.here hx rfl (hb hby d34_30) ?_
      rw [show v29 = v19 from hv29.trans (by rw [if_pos hc20_28])] at k
      rw [show v30 = (-1 : Int32) from hv30.trans (by rw [if_pos hc20_28])] at k
      exact k
    · skip
      show Steps p.tables e below (T22.setTop (mkF m 20 #[.val (.ref a34_0), .val (.ref b2), .val (.int v19), .val (.int (2 : Int32))] [(.int x2), (.int (2 : Int32)), (.ref b2)])) _
      refine XS.ifNo X22.here hx rfl (hb hby d34_20) rfl ((if0 _ _).trans (feq hc20_28).1) ?_
      show Steps p.tables e below (T22.setTop (mkF m 23 #[.val (.ref a34_0), .val (.ref b2), .val (.int v19), .val (.int (2 : Int32))] [(.int (2 : Int32)), (.ref b2)])) _
      refine XS.iloadN X22.here hx rfl (hb hby d34_23) rfl ?_
      show Steps p.tables e below (T22.setTop (mkF m 24 #[.val (.ref a34_0), .val (.ref b2), .val (.int v19), .val (.int (2 : Int32))] [(.int v19), (.int (2 : Int32)), (.ref b2)])) _
      refine XS.iinc X22.here hx rfl (hb hby d34_24) rfl (l' := #[.val (.ref a34_0), .val (.ref b2), .val (.int (v19 + (1 : Int32))), .val (.int (2 : Int32))]) rfl ?_
      show Steps p.tables e below (T22.setTop (mkF m 27 #[.val (.ref a34_0), .val (.ref b2), .val (.int (v19 + (1 : Int32))), .val (.int (2 : Int32))] [(.int v19), (.int (2 : Int32)), (.ref b2)])) _
      refine XS.goto X22.here hx rfl (pc0 := 27) (pc' := 31) rfl (hb hby d34_27) (by decide) (by decide) ?_
      rw [show v29 = (v19 + (1 : Int32)) from hv29.trans (by rw [if_neg hc20_28])] at k
      rw [show v30 = v19 from hv30.trans (by rw [if_neg hc20_28])] at k
      exact k
  obtain ⟨cl32, Ar32, qc32, Sz32, Nn32, Hh32, Gg32⟩ := (id V22)
  have hin32 : ¬ ((2 : Int32) < 0 ∨ cl32.slots.size ≤ ((2 : Int32)).toNatClampNeg) := inb_of Sz32 ⟨by decide, by decide⟩
  obtain ⟨T32, h32, X32, e32, W32, st32⟩ := stI X22 hx hZ e22 Ar32 (j := (2 : Int32)) hin32 (g := (mkF m 31 #[.val (.ref a34_0), .val (.ref b2), .val (.int v29), .val (.int (2 : Int32))] [(.int v30), (.int (2 : Int32)), (.ref b2)])) rfl rfl (hb hby d34_31)
  have F33 : Arv Z h32 a34_0 kk .boolean (4 : Int32) [(.int x0), (.int x1), (.int x2), (.int x3), (.int x4), (.int x5)] (.int (0 : Int32)) := F23.other W32 ne3
  have V32 : Arv Z h32 b2 k2 .int (4 : Int32) [(.int v10), (.int v20), (.int v30), (.int (0 : Int32)), (.int (0 : Int32)), (.int (0 : Int32))] (.int (0 : Int32)) := Arv.set Ar32 qc32 Sz32 Nn32 Hh32 Gg32 rfl W32 2 rfl (Nat.le_of_ble_eq_true rfl)
  have N32 := Fr.snoc X32 N22 gg2
  have K32 : Keep h0 h32 [] := K22.wr W32 (Or.inr sz2)
  have Zs32 : n0 ≤ h32.size := by rw [W32.size]; exact Zs22
  obtain ⟨cl35, Ar35, qc35, Sz35, Nn35, Hh35, Gg35⟩ := (id F33)
  obtain ⟨cl36, Ar36, qc36, Sz36, Nn36, Hh36, Gg36⟩ := (id F33)
  have hin36 : ¬ ((3 : Int32) < 0 ∨ cl36.slots.size ≤ ((3 : Int32)).toNatClampNeg) := inb_of Sz36 ⟨by decide, by decide⟩
  have k37 : ∀ t, Steps p.tables e below (T32.setTop (mkF m 20 #[.val (.ref a34_0), .val (.ref b2), .val (.int v29), .val (.int (3 : Int32))] [(.int x3), (.int (3 : Int32)), (.ref b2)])) t → Steps p.tables e below (s₁.setTop (entryFrame m #[(.ref a34_0)] 4)) t := by
    intro t k
    refine k31 t ?_
    show Steps p.tables e below (T22.setTop (mkF m 31 #[.val (.ref a34_0), .val (.ref b2), .val (.int v29), .val (.int (2 : Int32))] [(.int v30), (.int (2 : Int32)), (.ref b2)])) _
    refine st32 _ ?_
    show Steps p.tables e below (T32.setTop (mkF m 32 #[.val (.ref a34_0), .val (.ref b2), .val (.int v29), .val (.int (2 : Int32))] [])) _
    refine XS.iinc X32.here hx rfl (hb hby d34_32) rfl (l' := #[.val (.ref a34_0), .val (.ref b2), .val (.int v29), .val (.int (3 : Int32))]) rfl ?_
    show Steps p.tables e below (T32.setTop (mkF m 35 #[.val (.ref a34_0), .val (.ref b2), .val (.int v29), .val (.int (3 : Int32))] [])) _
    refine XS.goto X32.here hx rfl (pc0 := 35) (pc' := 9) rfl (hb hby d34_35) (by decide) (by decide) ?_
    show Steps p.tables e below (T32.setTop (mkF m 9 #[.val (.ref a34_0), .val (.ref b2), .val (.int v29), .val (.int (3 : Int32))] [])) _
    refine XS.iloadN X32.here hx rfl (hb hby d34_9) rfl ?_
    show Steps p.tables e below (T32.setTop (mkF m 10 #[.val (.ref a34_0), .val (.ref b2), .val (.int v29), .val (.int (3 : Int32))] [(.int (3 : Int32))])) _
    refine XS.aloadN X32.here hx rfl (hb hby d34_10) rfl rfl ?_
    show Steps p.tables e below (T32.setTop (mkF m 11 #[.val (.ref a34_0), .val (.ref b2), .val (.int v29), .val (.int (3 : Int32))] [(.ref a34_0), (.int (3 : Int32))])) _
    refine X32.arraylength hx (by rw [e32]; exact Ar35.1) (State.isArrayOf_alike hZ.alike Ar35.2.1) (g := (mkF m 11 #[.val (.ref a34_0), .val (.ref b2), .val (.int v29), .val (.int (3 : Int32))] [(.ref a34_0), (.int (3 : Int32))])) rfl rfl (hb hby d34_11) _ ?_
    rw [len_of Sz35 Nn35]
    show Steps p.tables e below (T32.setTop (mkF m 12 #[.val (.ref a34_0), .val (.ref b2), .val (.int v29), .val (.int (3 : Int32))] [(.int (4 : Int32)), (.int (3 : Int32))])) _
    refine XS.icmpNo X32.here hx rfl (hb hby d34_12) rfl (tlt (by decide : (3 : Int32) < (4 : Int32))).2.1 ?_
    show Steps p.tables e below (T32.setTop (mkF m 15 #[.val (.ref a34_0), .val (.ref b2), .val (.int v29), .val (.int (3 : Int32))] [])) _
    refine XS.aloadN X32.here hx rfl (hb hby d34_15) rfl rfl ?_
    show Steps p.tables e below (T32.setTop (mkF m 16 #[.val (.ref a34_0), .val (.ref b2), .val (.int v29), .val (.int (3 : Int32))] [(.ref b2)])) _
    refine XS.iloadN X32.here hx rfl (hb hby d34_16) rfl ?_
    show Steps p.tables e below (T32.setTop (mkF m 17 #[.val (.ref a34_0), .val (.ref b2), .val (.int v29), .val (.int (3 : Int32))] [(.int (3 : Int32)), (.ref b2)])) _
    refine XS.aloadN X32.here hx rfl (hb hby d34_17) rfl rfl ?_
    show Steps p.tables e below (T32.setTop (mkF m 18 #[.val (.ref a34_0), .val (.ref b2), .val (.int v29), .val (.int (3 : Int32))] [(.ref a34_0), (.int (3 : Int32)), (.ref b2)])) _
    refine XS.iloadN X32.here hx rfl (hb hby d34_18) rfl ?_
    show Steps p.tables e below (T32.setTop (mkF m 19 #[.val (.ref a34_0), .val (.ref b2), .val (.int v29), .val (.int (3 : Int32))] [(.int (3 : Int32)), (.ref a34_0), (.int (3 : Int32)), (.ref b2)])) _
    refine X32.baloadBooleans hx (j := (3 : Int32)) (v := (.int x3)) (by rw [e32]; exact Ar36.1) (State.isArrayOf_alike hZ.alike Ar36.2.1) Ar36.2.2 hin36 (Hh36.at hin36 rfl) (g := (mkF m 19 #[.val (.ref a34_0), .val (.ref b2), .val (.int v29), .val (.int (3 : Int32))] [(.int (3 : Int32)), (.ref a34_0), (.int (3 : Int32)), (.ref b2)])) rfl rfl (hb hby d34_19) _ ?_
    exact k
  obtain ⟨v39, hv39⟩ : ∃ z, z = (if x3 = (0 : Int32) then v29 else (v29 + (1 : Int32))) := ⟨_, rfl⟩
  obtain ⟨v40, hv40⟩ : ∃ z, z = (if x3 = (0 : Int32) then (-1 : Int32) else v29) := ⟨_, rfl⟩
  have k41 : ∀ t, Steps p.tables e below (T32.setTop (mkF m 31 #[.val (.ref a34_0), .val (.ref b2), .val (.int v39), .val (.int (3 : Int32))] [(.int v40), (.int (3 : Int32)), (.ref b2)])) t → Steps p.tables e below (s₁.setTop (entryFrame m #[(.ref a34_0)] 4)) t := by
    intro t k
    refine k37 t ?_
    by_cases hc20_38 : x3 = (0 : Int32)
    · skip
      show Steps p.tables e below (T32.setTop (mkF m 20 #[.val (.ref a34_0), .val (.ref b2), .val (.int v29), .val (.int (3 : Int32))] [(.int x3), (.int (3 : Int32)), (.ref b2)])) _
      refine XS.ifYes X32.here hx rfl (pc0 := 20) (pc' := 30) rfl (hb hby d34_20) rfl ((if0 _ _).trans (teq hc20_38).1) (by decide) (by decide) ?_
      show Steps p.tables e below (T32.setTop (mkF m 30 #[.val (.ref a34_0), .val (.ref b2), .val (.int v29), .val (.int (3 : Int32))] [(.int (3 : Int32)), (.ref b2)])) _
      refine XS.iconst X32.here hx rfl (hb hby d34_30) ?_
      rw [show v39 = v29 from hv39.trans (by rw [if_pos hc20_38])] at k
      rw [show v40 = (-1 : Int32) from hv40.trans (by rw [if_pos hc20_38])] at k
      exact k
    · skip
      show Steps p.tables e below (T32.setTop (mkF m 20 #[.val (.ref a34_0), .val (.ref b2), .val (.int v29), .val (.int (3 : Int32))] [(.int x3), (.int (3 : Int32)), (.ref b2)])) _
      refine XS.ifNo X32.here hx rfl (hb hby d34_20) rfl ((if0 _ _).trans (feq hc20_38).1) ?_
      show Steps p.tables e below (T32.setTop (mkF m 23 #[.val (.ref a34_0), .val (.ref b2), .val (.int v29), .val (.int (3 : Int32))] [(.int (3 : Int32)), (.ref b2)])) _
      refine XS.iloadN X32.here hx rfl (hb hby d34_23) rfl ?_
      show Steps p.tables e below (T32.setTop (mkF m 24 #[.val (.ref a34_0), .val (.ref b2), .val (.int v29), .val (.int (3 : Int32))] [(.int v29), (.int (3 : Int32)), (.ref b2)])) _
      refine XS.iinc X32.here hx rfl (hb hby d34_24) rfl (l' := #[.val (.ref a34_0), .val (.ref b2), .val (.int (v29 + (1 : Int32))), .val (.int (3 : Int32))]) rfl ?_
      show Steps p.tables e below (T32.setTop (mkF m 27 #[.val (.ref a34_0), .val (.ref b2), .val (.int (v29 + (1 : Int32))), .val (.int (3 : Int32))] [(.int v29), (.int (3 : Int32)), (.ref b2)])) _
      refine XS.goto X32.here hx rfl (pc0 := 27) (pc' := 31) rfl (hb hby d34_27) (by decide) (by decide) ?_
      rw [show v39 = (v29 + (1 : Int32)) from hv39.trans (by rw [if_neg hc20_38])] at k
      rw [show v40 = v29 from hv40.trans (by rw [if_neg hc20_38])] at k
      exact k
  obtain ⟨cl42, Ar42, qc42, Sz42, Nn42, Hh42, Gg42⟩ := (id V32)
  have hin42 : ¬ ((3 : Int32) < 0 ∨ cl42.slots.size ≤ ((3 : Int32)).toNatClampNeg) := inb_of Sz42 ⟨by decide, by decide⟩
  obtain ⟨T42, h42, X42, e42, W42, st42⟩ := stI X32 hx hZ e32 Ar42 (j := (3 : Int32)) hin42 (g := (mkF m 31 #[.val (.ref a34_0), .val (.ref b2), .val (.int v39), .val (.int (3 : Int32))] [(.int v40), (.int (3 : Int32)), (.ref b2)])) rfl rfl (hb hby d34_31)
  have F43 : Arv Z h42 a34_0 kk .boolean (4 : Int32) [(.int x0), (.int x1), (.int x2), (.int x3), (.int x4), (.int x5)] (.int (0 : Int32)) := F33.other W42 ne3
  have V42 : Arv Z h42 b2 k2 .int (4 : Int32) [(.int v10), (.int v20), (.int v30), (.int v40), (.int (0 : Int32)), (.int (0 : Int32))] (.int (0 : Int32)) := Arv.set Ar42 qc42 Sz42 Nn42 Hh42 Gg42 rfl W42 3 rfl (Nat.le_of_ble_eq_true rfl)
  have N42 := Fr.snoc X42 N32 gg2
  have K42 : Keep h0 h42 [] := K32.wr W42 (Or.inr sz2)
  have Zs42 : n0 ≤ h42.size := by rw [W42.size]; exact Zs32
  obtain ⟨cl45, Ar45, qc45, Sz45, Nn45, Hh45, Gg45⟩ := (id F43)
  have k46 : ∀ t, Steps p.tables e below (T42.setTop (mkF m 39 #[.val (.ref a34_0), .val (.ref b2), .val (.int v39), .val (.int (4 : Int32))] [(.ref b2)])) t → Steps p.tables e below (s₁.setTop (entryFrame m #[(.ref a34_0)] 4)) t := by
    intro t k
    refine k41 t ?_
    show Steps p.tables e below (T32.setTop (mkF m 31 #[.val (.ref a34_0), .val (.ref b2), .val (.int v39), .val (.int (3 : Int32))] [(.int v40), (.int (3 : Int32)), (.ref b2)])) _
    refine st42 _ ?_
    show Steps p.tables e below (T42.setTop (mkF m 32 #[.val (.ref a34_0), .val (.ref b2), .val (.int v39), .val (.int (3 : Int32))] [])) _
    refine XS.iinc X42.here hx rfl (hb hby d34_32) rfl (l' := #[.val (.ref a34_0), .val (.ref b2), .val (.int v39), .val (.int (4 : Int32))]) rfl ?_
    show Steps p.tables e below (T42.setTop (mkF m 35 #[.val (.ref a34_0), .val (.ref b2), .val (.int v39), .val (.int (4 : Int32))] [])) _
    refine XS.goto X42.here hx rfl (pc0 := 35) (pc' := 9) rfl (hb hby d34_35) (by decide) (by decide) ?_
    show Steps p.tables e below (T42.setTop (mkF m 9 #[.val (.ref a34_0), .val (.ref b2), .val (.int v39), .val (.int (4 : Int32))] [])) _
    refine XS.iloadN X42.here hx rfl (hb hby d34_9) rfl ?_
    show Steps p.tables e below (T42.setTop (mkF m 10 #[.val (.ref a34_0), .val (.ref b2), .val (.int v39), .val (.int (4 : Int32))] [(.int (4 : Int32))])) _
    refine XS.aloadN X42.here hx rfl (hb hby d34_10) rfl rfl ?_
    show Steps p.tables e below (T42.setTop (mkF m 11 #[.val (.ref a34_0), .val (.ref b2), .val (.int v39), .val (.int (4 : Int32))] [(.ref a34_0), (.int (4 : Int32))])) _
    refine X42.arraylength hx (by rw [e42]; exact Ar45.1) (State.isArrayOf_alike hZ.alike Ar45.2.1) (g := (mkF m 11 #[.val (.ref a34_0), .val (.ref b2), .val (.int v39), .val (.int (4 : Int32))] [(.ref a34_0), (.int (4 : Int32))])) rfl rfl (hb hby d34_11) _ ?_
    rw [len_of Sz45 Nn45]
    show Steps p.tables e below (T42.setTop (mkF m 12 #[.val (.ref a34_0), .val (.ref b2), .val (.int v39), .val (.int (4 : Int32))] [(.int (4 : Int32)), (.int (4 : Int32))])) _
    refine XS.icmpYes X42.here hx rfl (pc0 := 12) (pc' := 38) rfl (hb hby d34_12) rfl (flt (by decide : ¬ ((4 : Int32) < (4 : Int32)))).2.1 (by decide) (by decide) ?_
    show Steps p.tables e below (T42.setTop (mkF m 38 #[.val (.ref a34_0), .val (.ref b2), .val (.int v39), .val (.int (4 : Int32))] [])) _
    refine XS.aloadN X42.here hx rfl (hb hby d34_38) rfl rfl ?_
    exact k
  subst hv40 hv39 hv30 hv29 hv20 hv19 hv10 hv9
  obtain ⟨fs, hr, hrun, hended, hW, hsame⟩ := X42.leave (v := some (.ref b2)) (fun h => by rw [Bd.returns] at h; cases h)
  refine ⟨_, _, k46 _ ?_, hrun, hended, _, _, rfl, ?_, ⟨_, rfl⟩, hW, hsame.mono (by decide) (by decide)⟩
  · exact retOut X42 hx Bd.returns rfl (Or.inr (Or.inr (Or.inr (Or.inr ⟨rfl, rfl, rfl⟩)))) (hb hby d34_39) hr
  · show Q34 Z a34_0 kk x0 x1 x2 x3 x4 x5 h0 n0 _ T42.heap _
    rw [e42]
    exact ⟨b2, k2, rfl, N42, K42, gg2, sz2, V42⟩
theorem d35_0 : decode prog_16_method_15_code 0 = .ok (.aload_n 0, 1) := by decide +kernel
theorem d35_1 : decode prog_16_method_15_code 1 = .ok (.arraylength, 1) := by decide +kernel
theorem d35_2 : decode prog_16_method_15_code 2 = .ok (.newarray .int, 2) := by decide +kernel
theorem d35_4 : decode prog_16_method_15_code 4 = .ok (.astore_n 1, 1) := by decide +kernel
theorem d35_5 : decode prog_16_method_15_code 5 = .ok (.iconst 0, 1) := by decide +kernel
theorem d35_6 : decode prog_16_method_15_code 6 = .ok (.istore_n 2, 1) := by decide +kernel
theorem d35_7 : decode prog_16_method_15_code 7 = .ok (.iconst 0, 1) := by decide +kernel
theorem d35_8 : decode prog_16_method_15_code 8 = .ok (.istore_n 3, 1) := by decide +kernel
theorem d35_9 : decode prog_16_method_15_code 9 = .ok (.iload_n 3, 1) := by decide +kernel
theorem d35_10 : decode prog_16_method_15_code 10 = .ok (.aload_n 0, 1) := by decide +kernel
theorem d35_11 : decode prog_16_method_15_code 11 = .ok (.arraylength, 1) := by decide +kernel
theorem d35_12 : decode prog_16_method_15_code 12 = .ok (.if_icmp .ge 26, 3) := by decide +kernel
theorem d35_15 : decode prog_16_method_15_code 15 = .ok (.aload_n 1, 1) := by decide +kernel
theorem d35_16 : decode prog_16_method_15_code 16 = .ok (.iload_n 3, 1) := by decide +kernel
theorem d35_17 : decode prog_16_method_15_code 17 = .ok (.aload_n 0, 1) := by decide +kernel
theorem d35_18 : decode prog_16_method_15_code 18 = .ok (.iload_n 3, 1) := by decide +kernel
theorem d35_19 : decode prog_16_method_15_code 19 = .ok (.baload, 1) := by decide +kernel
theorem d35_20 : decode prog_16_method_15_code 20 = .ok (.ifCond .eq 10, 3) := by decide +kernel
theorem d35_23 : decode prog_16_method_15_code 23 = .ok (.iload_n 2, 1) := by decide +kernel
theorem d35_24 : decode prog_16_method_15_code 24 = .ok (.iinc 2 1, 3) := by decide +kernel
theorem d35_27 : decode prog_16_method_15_code 27 = .ok (.goto 4, 3) := by decide +kernel
theorem d35_30 : decode prog_16_method_15_code 30 = .ok (.iconst (-1), 1) := by decide +kernel
theorem d35_31 : decode prog_16_method_15_code 31 = .ok (.iastore, 1) := by decide +kernel
theorem d35_32 : decode prog_16_method_15_code 32 = .ok (.iinc 3 1, 3) := by decide +kernel
theorem d35_35 : decode prog_16_method_15_code 35 = .ok (.goto (-26), 3) := by decide +kernel
theorem d35_38 : decode prog_16_method_15_code 38 = .ok (.aload_n 1, 1) := by decide +kernel
theorem d35_39 : decode prog_16_method_15_code 39 = .ok (.areturn, 1) := by decide +kernel
theorem ef_35 (m : MethodId) (a35_0 : Addr) : entryFrame m #[(.ref a35_0)] 4 = mkF m 0 #[.val (.ref a35_0), .unset, .unset, .unset] [] := by first | (simp [entryFrame, mkF, argsToLocals, Value.category]; done) | rfl
def Q35 (Z : State) (a35_0 : Addr) (kk : ClassId) (x0 : Int32) (x1 : Int32) (x2 : Int32) (x3 : Int32) (x4 : Int32) (x5 : Int32) (h0 : Heap) (n0 : Nat) (v : Option Value) (h : Heap) (L : List Loc) : Prop := ∃ b35 : Addr, ∃ kn35 : ClassId, v = some (.ref b35) ∧ Fr n0 L ∧ Keep h0 h [] ∧ n0 ≤ b35 ∧ h0.size ≤ b35 ∧ Arv Z h b35 kn35 .int (5 : Int32) [(.int (own_e x0 (0 : Int32))), (.int (own_e x1 (own_c x0 (0 : Int32)))), (.int (own_e x2 (own_c x1 (own_c x0 (0 : Int32))))), (.int (own_e x3 (own_c x2 (own_c x1 (own_c x0 (0 : Int32)))))), (.int (own_e x4 (own_c x3 (own_c x2 (own_c x1 (own_c x0 (0 : Int32))))))), (.int (0 : Int32))] (.int (0 : Int32))
set_option maxRecDepth 65536 in
set_option maxHeartbeats 40000000 in
theorem rm35 (l : Launch) (Z : State) (a0 : Array Value) (hw : ∀ d ∈ tables_1, d.before a0 Z = true) (ws : List Jvm.Cond) (a35_0 : Addr) (kk : ClassId) (x0 : Int32) (x1 : Int32) (x2 : Int32) (x3 : Int32) (x4 : Int32) (x5 : Int32) (h0 : Heap) (n0 : Nat) (Z0 : n0 ≤ h0.size) (Vb : Arv Z h0 a35_0 kk .boolean (5 : Int32) [(.int x0), (.int x1), (.int x2), (.int x3), (.int x4), (.int x5)] (.int (0 : Int32))) :
    MetFree l (⟨"com/example/leanweave/leanweave/Network", "numbering", "([Z)[I"⟩ : MethodName) (head1 (Jvm.Cond.code (⟨"com/example/leanweave/leanweave/Network", "numbering", "([Z)[I"⟩ : MethodName) prog_16_method_15_code 4 (some (.array .int)) :: ws) ({ frames := 0, cells := 1, slots := 5, locals := 0 } : Room)) (fun a U => a = #[(.ref a35_0)] ∧ Z.Warmed39 U.vm ∧ U.heap = h0) (fun _ _ _ _ _ => True) (fun _ U o U' => ∃ v L, o = .returned v ∧ Q35 Z a35_0 kk x0 x1 x2 x3 x4 x5 h0 n0 v U'.heap L ∧ FrameEnd U o U' L ({ frames := 0, cells := 1, slots := 5, locals := 0 } : Room).cells ({ frames := 0, cells := 1, slots := 5, locals := 0 } : Room).slots) := by
  refine MetFree.of_bodySF (plainFor_of_name pn_1) hisR ?_
  intro p e s m args below meth c s₁ Bd hml0 hP hK
  obtain ⟨rfl, hZ, hh⟩ := hP
  have hx := Bd.exec
  have hby := Bd.bytes
  have hml : c.maxLocals = 4 := hml0
  have hown : s.vm.findClass "com/example/leanweave/leanweave/Network" = some m.cls := findClass_of_methodNamed Bd.named
  have hnm := (name_of_methodNamed Bd.named Bd.method).1
  have X0 : Stand p l e ({ frames := 0, cells := 1, slots := 5, locals := 0 } : Room) s m #[(.ref a35_0)] below meth c s₁ [] 0 0 := Stand.of_body Bd
  have e0 : s₁.heap = h0 := by rw [← hh, Bd.state]; rfl
  have N0 := Fr.nil n0
  have pre0 : ∀ t, Steps p.tables e below (s₁.setTop (mkF m 0 #[.val (.ref a35_0), .unset, .unset, .unset] [])) t → Steps p.tables e below (s₁.setTop (entryFrame m #[(.ref a35_0)] 4)) t := fun t k => castTop (ef_35 m a35_0) k
  obtain ⟨cl1, Ar1, qc1, Sz1, Nn1, Hh1, Gg1⟩ := (id Vb)
  obtain ⟨b2, g2⟩ : ∃ z, z = h0.size := ⟨_, rfl⟩
  obtain ⟨T2, h2, k2, X2, e2, E2, A2, st2⟩ := newP X0 hx hZ (hw _ (List.mem_of_getElem? (i := 10) rfl)) e0 (g := (mkF m 2 #[.val (.ref a35_0), .unset, .unset, .unset] [(.int (5 : Int32))])) rfl (hb hby d35_2) rfl (by decide) (cap := 5) (by decide) (by decide) (by decide) (by decide)
  rw [← g2] at A2 st2
  have ne3 : a35_0 ≠ b2 := Nat.ne_of_lt (Nat.lt_of_lt_of_le Vb.lt (Nat.le_of_eq g2.symm))
  have gg2 : n0 ≤ b2 := Nat.le_trans Z0 (Nat.le_of_eq g2.symm)
  have sz2 : h0.size ≤ b2 := Nat.le_trans (Keep.refl h0 []).1 (Nat.le_of_eq g2.symm)
  have Zs2 : n0 ≤ h2.size := Nat.le_trans Z0 E2.1
  have K2 : Keep h0 h2 [] := (Keep.refl h0 []).ext E2
  have F4 : Arv Z h2 a35_0 kk .boolean (5 : Int32) [(.int x0), (.int x1), (.int x2), (.int x3), (.int x4), (.int x5)] (.int (0 : Int32)) := Vb.ext E2
  have V2 : Arv Z h2 b2 k2 .int (5 : Int32) [(.int (0 : Int32)), (.int (0 : Int32)), (.int (0 : Int32)), (.int (0 : Int32)), (.int (0 : Int32)), (.int (0 : Int32))] (.int (0 : Int32)) := (Arv.new A2 (by decide)).pad (pad_rep [] (.int (0 : Int32)) 6)
  obtain ⟨cl5, Ar5, qc5, Sz5, Nn5, Hh5, Gg5⟩ := (id F4)
  obtain ⟨cl6, Ar6, qc6, Sz6, Nn6, Hh6, Gg6⟩ := (id F4)
  have hin6 : ¬ ((0 : Int32) < 0 ∨ cl6.slots.size ≤ ((0 : Int32)).toNatClampNeg) := inb_of Sz6 ⟨by decide, by decide⟩
  have k7 : ∀ t, Steps p.tables e below (T2.setTop (mkF m 20 #[.val (.ref a35_0), .val (.ref b2), .val (.int (0 : Int32)), .val (.int (0 : Int32))] [(.int x0), (.int (0 : Int32)), (.ref b2)])) t → Steps p.tables e below (s₁.setTop (entryFrame m #[(.ref a35_0)] 4)) t := by
    intro t k
    refine pre0 t ?_
    show Steps p.tables e below (s₁.setTop (mkF m 0 #[.val (.ref a35_0), .unset, .unset, .unset] [])) _
    refine XS.aloadN X0.here hx rfl (hb hby d35_0) rfl rfl ?_
    show Steps p.tables e below (s₁.setTop (mkF m 1 #[.val (.ref a35_0), .unset, .unset, .unset] [(.ref a35_0)])) _
    refine X0.arraylength hx (by rw [e0]; exact Ar1.1) (State.isArrayOf_alike hZ.alike Ar1.2.1) (g := (mkF m 1 #[.val (.ref a35_0), .unset, .unset, .unset] [(.ref a35_0)])) rfl rfl (hb hby d35_1) _ ?_
    rw [len_of Sz1 Nn1]
    show Steps p.tables e below (s₁.setTop (mkF m 2 #[.val (.ref a35_0), .unset, .unset, .unset] [(.int (5 : Int32))])) _
    refine st2 _ ?_
    show Steps p.tables e below (T2.setTop (mkF m 4 #[.val (.ref a35_0), .unset, .unset, .unset] [(.ref b2)])) _
    refine XS.astoreN X2.here hx rfl (hb hby d35_4) rfl rfl (l' := #[.val (.ref a35_0), .val (.ref b2), .unset, .unset]) rfl ?_
    show Steps p.tables e below (T2.setTop (mkF m 5 #[.val (.ref a35_0), .val (.ref b2), .unset, .unset] [])) _
    refine XS.iconst X2.here hx rfl (hb hby d35_5) ?_
    show Steps p.tables e below (T2.setTop (mkF m 6 #[.val (.ref a35_0), .val (.ref b2), .unset, .unset] [(.int (0 : Int32))])) _
    refine XS.istoreN X2.here hx rfl (hb hby d35_6) rfl (l' := #[.val (.ref a35_0), .val (.ref b2), .val (.int (0 : Int32)), .unset]) rfl ?_
    show Steps p.tables e below (T2.setTop (mkF m 7 #[.val (.ref a35_0), .val (.ref b2), .val (.int (0 : Int32)), .unset] [])) _
    refine XS.iconst X2.here hx rfl (hb hby d35_7) ?_
    show Steps p.tables e below (T2.setTop (mkF m 8 #[.val (.ref a35_0), .val (.ref b2), .val (.int (0 : Int32)), .unset] [(.int (0 : Int32))])) _
    refine XS.istoreN X2.here hx rfl (hb hby d35_8) rfl (l' := #[.val (.ref a35_0), .val (.ref b2), .val (.int (0 : Int32)), .val (.int (0 : Int32))]) rfl ?_
    show Steps p.tables e below (T2.setTop (mkF m 9 #[.val (.ref a35_0), .val (.ref b2), .val (.int (0 : Int32)), .val (.int (0 : Int32))] [])) _
    refine XS.iloadN X2.here hx rfl (hb hby d35_9) rfl ?_
    show Steps p.tables e below (T2.setTop (mkF m 10 #[.val (.ref a35_0), .val (.ref b2), .val (.int (0 : Int32)), .val (.int (0 : Int32))] [(.int (0 : Int32))])) _
    refine XS.aloadN X2.here hx rfl (hb hby d35_10) rfl rfl ?_
    show Steps p.tables e below (T2.setTop (mkF m 11 #[.val (.ref a35_0), .val (.ref b2), .val (.int (0 : Int32)), .val (.int (0 : Int32))] [(.ref a35_0), (.int (0 : Int32))])) _
    refine X2.arraylength hx (by rw [e2]; exact Ar5.1) (State.isArrayOf_alike hZ.alike Ar5.2.1) (g := (mkF m 11 #[.val (.ref a35_0), .val (.ref b2), .val (.int (0 : Int32)), .val (.int (0 : Int32))] [(.ref a35_0), (.int (0 : Int32))])) rfl rfl (hb hby d35_11) _ ?_
    rw [len_of Sz5 Nn5]
    show Steps p.tables e below (T2.setTop (mkF m 12 #[.val (.ref a35_0), .val (.ref b2), .val (.int (0 : Int32)), .val (.int (0 : Int32))] [(.int (5 : Int32)), (.int (0 : Int32))])) _
    refine XS.icmpNo X2.here hx rfl (hb hby d35_12) rfl (tlt (by decide : (0 : Int32) < (5 : Int32))).2.1 ?_
    show Steps p.tables e below (T2.setTop (mkF m 15 #[.val (.ref a35_0), .val (.ref b2), .val (.int (0 : Int32)), .val (.int (0 : Int32))] [])) _
    refine XS.aloadN X2.here hx rfl (hb hby d35_15) rfl rfl ?_
    show Steps p.tables e below (T2.setTop (mkF m 16 #[.val (.ref a35_0), .val (.ref b2), .val (.int (0 : Int32)), .val (.int (0 : Int32))] [(.ref b2)])) _
    refine XS.iloadN X2.here hx rfl (hb hby d35_16) rfl ?_
    show Steps p.tables e below (T2.setTop (mkF m 17 #[.val (.ref a35_0), .val (.ref b2), .val (.int (0 : Int32)), .val (.int (0 : Int32))] [(.int (0 : Int32)), (.ref b2)])) _
    refine XS.aloadN X2.here hx rfl (hb hby d35_17) rfl rfl ?_
    show Steps p.tables e below (T2.setTop (mkF m 18 #[.val (.ref a35_0), .val (.ref b2), .val (.int (0 : Int32)), .val (.int (0 : Int32))] [(.ref a35_0), (.int (0 : Int32)), (.ref b2)])) _
    refine XS.iloadN X2.here hx rfl (hb hby d35_18) rfl ?_
    show Steps p.tables e below (T2.setTop (mkF m 19 #[.val (.ref a35_0), .val (.ref b2), .val (.int (0 : Int32)), .val (.int (0 : Int32))] [(.int (0 : Int32)), (.ref a35_0), (.int (0 : Int32)), (.ref b2)])) _
    refine X2.baloadBooleans hx (j := (0 : Int32)) (v := (.int x0)) (by rw [e2]; exact Ar6.1) (State.isArrayOf_alike hZ.alike Ar6.2.1) Ar6.2.2 hin6 (Hh6.at hin6 rfl) (g := (mkF m 19 #[.val (.ref a35_0), .val (.ref b2), .val (.int (0 : Int32)), .val (.int (0 : Int32))] [(.int (0 : Int32)), (.ref a35_0), (.int (0 : Int32)), (.ref b2)])) rfl rfl (hb hby d35_19) _ ?_
    exact k
  obtain ⟨v9, hv9⟩ : ∃ z, z = (if x0 = (0 : Int32) then (0 : Int32) else (1 : Int32)) := ⟨_, rfl⟩
  obtain ⟨v10, hv10⟩ : ∃ z, z = (if x0 = (0 : Int32) then (-1 : Int32) else (0 : Int32)) := ⟨_, rfl⟩
  have k11 : ∀ t, Steps p.tables e below (T2.setTop (mkF m 31 #[.val (.ref a35_0), .val (.ref b2), .val (.int v9), .val (.int (0 : Int32))] [(.int v10), (.int (0 : Int32)), (.ref b2)])) t → Steps p.tables e below (s₁.setTop (entryFrame m #[(.ref a35_0)] 4)) t := by
    intro t k
    refine k7 t ?_
    by_cases hc20_8 : x0 = (0 : Int32)
    · skip
      show Steps p.tables e below (T2.setTop (mkF m 20 #[.val (.ref a35_0), .val (.ref b2), .val (.int (0 : Int32)), .val (.int (0 : Int32))] [(.int x0), (.int (0 : Int32)), (.ref b2)])) _
      refine XS.ifYes X2.here hx rfl (pc0 := 20) (pc' := 30) rfl (hb hby d35_20) rfl ((if0 _ _).trans (teq hc20_8).1) (by decide) (by decide) ?_
      show Steps p.tables e below (T2.setTop (mkF m 30 #[.val (.ref a35_0), .val (.ref b2), .val (.int (0 : Int32)), .val (.int (0 : Int32))] [(.int (0 : Int32)), (.ref b2)])) _
      refine XS.iconst X2.here hx rfl (hb hby d35_30) ?_
      rw [show v9 = (0 : Int32) from hv9.trans (by rw [if_pos hc20_8])] at k
      rw [show v10 = (-1 : Int32) from hv10.trans (by rw [if_pos hc20_8])] at k
      exact k
    · skip
      show Steps p.tables e below (T2.setTop (mkF m 20 #[.val (.ref a35_0), .val (.ref b2), .val (.int (0 : Int32)), .val (.int (0 : Int32))] [(.int x0), (.int (0 : Int32)), (.ref b2)])) _
      refine XS.ifNo X2.here hx rfl (hb hby d35_20) rfl ((if0 _ _).trans (feq hc20_8).1) ?_
      show Steps p.tables e below (T2.setTop (mkF m 23 #[.val (.ref a35_0), .val (.ref b2), .val (.int (0 : Int32)), .val (.int (0 : Int32))] [(.int (0 : Int32)), (.ref b2)])) _
      refine XS.iloadN X2.here hx rfl (hb hby d35_23) rfl ?_
      show Steps p.tables e below (T2.setTop (mkF m 24 #[.val (.ref a35_0), .val (.ref b2), .val (.int (0 : Int32)), .val (.int (0 : Int32))] [(.int (0 : Int32)), (.int (0 : Int32)), (.ref b2)])) _
      refine XS.iinc X2.here hx rfl (hb hby d35_24) rfl (l' := #[.val (.ref a35_0), .val (.ref b2), .val (.int (1 : Int32)), .val (.int (0 : Int32))]) rfl ?_
      show Steps p.tables e below (T2.setTop (mkF m 27 #[.val (.ref a35_0), .val (.ref b2), .val (.int (1 : Int32)), .val (.int (0 : Int32))] [(.int (0 : Int32)), (.int (0 : Int32)), (.ref b2)])) _
      refine XS.goto X2.here hx rfl (pc0 := 27) (pc' := 31) rfl (hb hby d35_27) (by decide) (by decide) ?_
      rw [show v9 = (1 : Int32) from hv9.trans (by rw [if_neg hc20_8])] at k
      rw [show v10 = (0 : Int32) from hv10.trans (by rw [if_neg hc20_8])] at k
      exact k
  obtain ⟨cl12, Ar12, qc12, Sz12, Nn12, Hh12, Gg12⟩ := (id V2)
  have hin12 : ¬ ((0 : Int32) < 0 ∨ cl12.slots.size ≤ ((0 : Int32)).toNatClampNeg) := inb_of Sz12 ⟨by decide, by decide⟩
  obtain ⟨T12, h12, X12, e12, W12, st12⟩ := stI X2 hx hZ e2 Ar12 (j := (0 : Int32)) hin12 (g := (mkF m 31 #[.val (.ref a35_0), .val (.ref b2), .val (.int v9), .val (.int (0 : Int32))] [(.int v10), (.int (0 : Int32)), (.ref b2)])) rfl rfl (hb hby d35_31)
  have F13 : Arv Z h12 a35_0 kk .boolean (5 : Int32) [(.int x0), (.int x1), (.int x2), (.int x3), (.int x4), (.int x5)] (.int (0 : Int32)) := F4.other W12 ne3
  have V12 : Arv Z h12 b2 k2 .int (5 : Int32) [(.int v10), (.int (0 : Int32)), (.int (0 : Int32)), (.int (0 : Int32)), (.int (0 : Int32)), (.int (0 : Int32))] (.int (0 : Int32)) := Arv.set Ar12 qc12 Sz12 Nn12 Hh12 Gg12 rfl W12 0 rfl (Nat.le_of_ble_eq_true rfl)
  have N12 := Fr.snoc X12 N0 gg2
  have K12 : Keep h0 h12 [] := K2.wr W12 (Or.inr sz2)
  have Zs12 : n0 ≤ h12.size := by rw [W12.size]; exact Zs2
  obtain ⟨cl15, Ar15, qc15, Sz15, Nn15, Hh15, Gg15⟩ := (id F13)
  obtain ⟨cl16, Ar16, qc16, Sz16, Nn16, Hh16, Gg16⟩ := (id F13)
  have hin16 : ¬ ((1 : Int32) < 0 ∨ cl16.slots.size ≤ ((1 : Int32)).toNatClampNeg) := inb_of Sz16 ⟨by decide, by decide⟩
  have k17 : ∀ t, Steps p.tables e below (T12.setTop (mkF m 20 #[.val (.ref a35_0), .val (.ref b2), .val (.int v9), .val (.int (1 : Int32))] [(.int x1), (.int (1 : Int32)), (.ref b2)])) t → Steps p.tables e below (s₁.setTop (entryFrame m #[(.ref a35_0)] 4)) t := by
    intro t k
    refine k11 t ?_
    show Steps p.tables e below (T2.setTop (mkF m 31 #[.val (.ref a35_0), .val (.ref b2), .val (.int v9), .val (.int (0 : Int32))] [(.int v10), (.int (0 : Int32)), (.ref b2)])) _
    refine st12 _ ?_
    show Steps p.tables e below (T12.setTop (mkF m 32 #[.val (.ref a35_0), .val (.ref b2), .val (.int v9), .val (.int (0 : Int32))] [])) _
    refine XS.iinc X12.here hx rfl (hb hby d35_32) rfl (l' := #[.val (.ref a35_0), .val (.ref b2), .val (.int v9), .val (.int (1 : Int32))]) rfl ?_
    show Steps p.tables e below (T12.setTop (mkF m 35 #[.val (.ref a35_0), .val (.ref b2), .val (.int v9), .val (.int (1 : Int32))] [])) _
    refine XS.goto X12.here hx rfl (pc0 := 35) (pc' := 9) rfl (hb hby d35_35) (by decide) (by decide) ?_
    show Steps p.tables e below (T12.setTop (mkF m 9 #[.val (.ref a35_0), .val (.ref b2), .val (.int v9), .val (.int (1 : Int32))] [])) _
    refine XS.iloadN X12.here hx rfl (hb hby d35_9) rfl ?_
    show Steps p.tables e below (T12.setTop (mkF m 10 #[.val (.ref a35_0), .val (.ref b2), .val (.int v9), .val (.int (1 : Int32))] [(.int (1 : Int32))])) _
    refine XS.aloadN X12.here hx rfl (hb hby d35_10) rfl rfl ?_
    show Steps p.tables e below (T12.setTop (mkF m 11 #[.val (.ref a35_0), .val (.ref b2), .val (.int v9), .val (.int (1 : Int32))] [(.ref a35_0), (.int (1 : Int32))])) _
    refine X12.arraylength hx (by rw [e12]; exact Ar15.1) (State.isArrayOf_alike hZ.alike Ar15.2.1) (g := (mkF m 11 #[.val (.ref a35_0), .val (.ref b2), .val (.int v9), .val (.int (1 : Int32))] [(.ref a35_0), (.int (1 : Int32))])) rfl rfl (hb hby d35_11) _ ?_
    rw [len_of Sz15 Nn15]
    show Steps p.tables e below (T12.setTop (mkF m 12 #[.val (.ref a35_0), .val (.ref b2), .val (.int v9), .val (.int (1 : Int32))] [(.int (5 : Int32)), (.int (1 : Int32))])) _
    refine XS.icmpNo X12.here hx rfl (hb hby d35_12) rfl (tlt (by decide : (1 : Int32) < (5 : Int32))).2.1 ?_
    show Steps p.tables e below (T12.setTop (mkF m 15 #[.val (.ref a35_0), .val (.ref b2), .val (.int v9), .val (.int (1 : Int32))] [])) _
    refine XS.aloadN X12.here hx rfl (hb hby d35_15) rfl rfl ?_
    show Steps p.tables e below (T12.setTop (mkF m 16 #[.val (.ref a35_0), .val (.ref b2), .val (.int v9), .val (.int (1 : Int32))] [(.ref b2)])) _
    refine XS.iloadN X12.here hx rfl (hb hby d35_16) rfl ?_
    show Steps p.tables e below (T12.setTop (mkF m 17 #[.val (.ref a35_0), .val (.ref b2), .val (.int v9), .val (.int (1 : Int32))] [(.int (1 : Int32)), (.ref b2)])) _
    refine XS.aloadN X12.here hx rfl (hb hby d35_17) rfl rfl ?_
    show Steps p.tables e below (T12.setTop (mkF m 18 #[.val (.ref a35_0), .val (.ref b2), .val (.int v9), .val (.int (1 : Int32))] [(.ref a35_0), (.int (1 : Int32)), (.ref b2)])) _
    refine XS.iloadN X12.here hx rfl (hb hby d35_18) rfl ?_
    show Steps p.tables e below (T12.setTop (mkF m 19 #[.val (.ref a35_0), .val (.ref b2), .val (.int v9), .val (.int (1 : Int32))] [(.int (1 : Int32)), (.ref a35_0), (.int (1 : Int32)), (.ref b2)])) _
    refine X12.baloadBooleans hx (j := (1 : Int32)) (v := (.int x1)) (by rw [e12]; exact Ar16.1) (State.isArrayOf_alike hZ.alike Ar16.2.1) Ar16.2.2 hin16 (Hh16.at hin16 rfl) (g := (mkF m 19 #[.val (.ref a35_0), .val (.ref b2), .val (.int v9), .val (.int (1 : Int32))] [(.int (1 : Int32)), (.ref a35_0), (.int (1 : Int32)), (.ref b2)])) rfl rfl (hb hby d35_19) _ ?_
    exact k
  obtain ⟨v19, hv19⟩ : ∃ z, z = (if x1 = (0 : Int32) then v9 else (v9 + (1 : Int32))) := ⟨_, rfl⟩
  obtain ⟨v20, hv20⟩ : ∃ z, z = (if x1 = (0 : Int32) then (-1 : Int32) else v9) := ⟨_, rfl⟩
  have k21 : ∀ t, Steps p.tables e below (T12.setTop (mkF m 31 #[.val (.ref a35_0), .val (.ref b2), .val (.int v19), .val (.int (1 : Int32))] [(.int v20), (.int (1 : Int32)), (.ref b2)])) t → Steps p.tables e below (s₁.setTop (entryFrame m #[(.ref a35_0)] 4)) t := by
    intro t k
    refine k17 t ?_
    by_cases hc20_18 : x1 = (0 : Int32)
    · skip
      show Steps p.tables e below (T12.setTop (mkF m 20 #[.val (.ref a35_0), .val (.ref b2), .val (.int v9), .val (.int (1 : Int32))] [(.int x1), (.int (1 : Int32)), (.ref b2)])) _
      refine XS.ifYes X12.here hx rfl (pc0 := 20) (pc' := 30) rfl (hb hby d35_20) rfl ((if0 _ _).trans (teq hc20_18).1) (by decide) (by decide) ?_
      show Steps p.tables e below (T12.setTop (mkF m 30 #[.val (.ref a35_0), .val (.ref b2), .val (.int v9), .val (.int (1 : Int32))] [(.int (1 : Int32)), (.ref b2)])) _
      refine XS.iconst X12.here hx rfl (hb hby d35_30) ?_
      rw [show v19 = v9 from hv19.trans (by rw [if_pos hc20_18])] at k
      rw [show v20 = (-1 : Int32) from hv20.trans (by rw [if_pos hc20_18])] at k
      exact k
    · skip
      show Steps p.tables e below (T12.setTop (mkF m 20 #[.val (.ref a35_0), .val (.ref b2), .val (.int v9), .val (.int (1 : Int32))] [(.int x1), (.int (1 : Int32)), (.ref b2)])) _
      refine XS.ifNo X12.here hx rfl (hb hby d35_20) rfl ((if0 _ _).trans (feq hc20_18).1) ?_
      show Steps p.tables e below (T12.setTop (mkF m 23 #[.val (.ref a35_0), .val (.ref b2), .val (.int v9), .val (.int (1 : Int32))] [(.int (1 : Int32)), (.ref b2)])) _
      refine XS.iloadN X12.here hx rfl (hb hby d35_23) rfl ?_
      show Steps p.tables e below (T12.setTop (mkF m 24 #[.val (.ref a35_0), .val (.ref b2), .val (.int v9), .val (.int (1 : Int32))] [(.int v9), (.int (1 : Int32)), (.ref b2)])) _
      refine XS.iinc X12.here hx rfl (hb hby d35_24) rfl (l' := #[.val (.ref a35_0), .val (.ref b2), .val (.int (v9 + (1 : Int32))), .val (.int (1 : Int32))]) rfl ?_
      show Steps p.tables e below (T12.setTop (mkF m 27 #[.val (.ref a35_0), .val (.ref b2), .val (.int (v9 + (1 : Int32))), .val (.int (1 : Int32))] [(.int v9), (.int (1 : Int32)), (.ref b2)])) _
      refine XS.goto X12.here hx rfl (pc0 := 27) (pc' := 31) rfl (hb hby d35_27) (by decide) (by decide) ?_
      rw [show v19 = (v9 + (1 : Int32)) from hv19.trans (by rw [if_neg hc20_18])] at k
      rw [show v20 = v9 from hv20.trans (by rw [if_neg hc20_18])] at k
      exact k
  obtain ⟨cl22, Ar22, qc22, Sz22, Nn22, Hh22, Gg22⟩ := (id V12)
  have hin22 : ¬ ((1 : Int32) < 0 ∨ cl22.slots.size ≤ ((1 : Int32)).toNatClampNeg) := inb_of Sz22 ⟨by decide, by decide⟩
  obtain ⟨T22, h22, X22, e22, W22, st22⟩ := stI X12 hx hZ e12 Ar22 (j := (1 : Int32)) hin22 (g := (mkF m 31 #[.val (.ref a35_0), .val (.ref b2), .val (.int v19), .val (.int (1 : Int32))] [(.int v20), (.int (1 : Int32)), (.ref b2)])) rfl rfl (hb hby d35_31)
  have F23 : Arv Z h22 a35_0 kk .boolean (5 : Int32) [(.int x0), (.int x1), (.int x2), (.int x3), (.int x4), (.int x5)] (.int (0 : Int32)) := F13.other W22 ne3
  have V22 : Arv Z h22 b2 k2 .int (5 : Int32) [(.int v10), (.int v20), (.int (0 : Int32)), (.int (0 : Int32)), (.int (0 : Int32)), (.int (0 : Int32))] (.int (0 : Int32)) := Arv.set Ar22 qc22 Sz22 Nn22 Hh22 Gg22 rfl W22 1 rfl (Nat.le_of_ble_eq_true rfl)
  have N22 := Fr.snoc X22 N12 gg2
  have K22 : Keep h0 h22 [] := K12.wr W22 (Or.inr sz2)
  have Zs22 : n0 ≤ h22.size := by rw [W22.size]; exact Zs12
  obtain ⟨cl25, Ar25, qc25, Sz25, Nn25, Hh25, Gg25⟩ := (id F23)
  obtain ⟨cl26, Ar26, qc26, Sz26, Nn26, Hh26, Gg26⟩ := (id F23)
  have hin26 : ¬ ((2 : Int32) < 0 ∨ cl26.slots.size ≤ ((2 : Int32)).toNatClampNeg) := inb_of Sz26 ⟨by decide, by decide⟩
  have k27 : ∀ t, Steps p.tables e below (T22.setTop (mkF m 20 #[.val (.ref a35_0), .val (.ref b2), .val (.int v19), .val (.int (2 : Int32))] [(.int x2), (.int (2 : Int32)), (.ref b2)])) t → Steps p.tables e below (s₁.setTop (entryFrame m #[(.ref a35_0)] 4)) t := by
    intro t k
    refine k21 t ?_
    show Steps p.tables e below (T12.setTop (mkF m 31 #[.val (.ref a35_0), .val (.ref b2), .val (.int v19), .val (.int (1 : Int32))] [(.int v20), (.int (1 : Int32)), (.ref b2)])) _
    refine st22 _ ?_
    show Steps p.tables e below (T22.setTop (mkF m 32 #[.val (.ref a35_0), .val (.ref b2), .val (.int v19), .val (.int (1 : Int32))] [])) _
    refine XS.iinc X22.here hx rfl (hb hby d35_32) rfl (l' := #[.val (.ref a35_0), .val (.ref b2), .val (.int v19), .val (.int (2 : Int32))]) rfl ?_
    show Steps p.tables e below (T22.setTop (mkF m 35 #[.val (.ref a35_0), .val (.ref b2), .val (.int v19), .val (.int (2 : Int32))] [])) _
    refine XS.goto X22.here hx rfl (pc0 := 35) (pc' := 9) rfl (hb hby d35_35) (by decide) (by decide) ?_
    show Steps p.tables e below (T22.setTop (mkF m 9 #[.val (.ref a35_0), .val (.ref b2), .val (.int v19), .val (.int (2 : Int32))] [])) _
    refine XS.iloadN X22.here hx rfl (hb hby d35_9) rfl ?_
    show Steps p.tables e below (T22.setTop (mkF m 10 #[.val (.ref a35_0), .val (.ref b2), .val (.int v19), .val (.int (2 : Int32))] [(.int (2 : Int32))])) _
    refine XS.aloadN X22.here hx rfl (hb hby d35_10) rfl rfl ?_
    show Steps p.tables e below (T22.setTop (mkF m 11 #[.val (.ref a35_0), .val (.ref b2), .val (.int v19), .val (.int (2 : Int32))] [(.ref a35_0), (.int (2 : Int32))])) _
    refine X22.arraylength hx (by rw [e22]; exact Ar25.1) (State.isArrayOf_alike hZ.alike Ar25.2.1) (g := (mkF m 11 #[.val (.ref a35_0), .val (.ref b2), .val (.int v19), .val (.int (2 : Int32))] [(.ref a35_0), (.int (2 : Int32))])) rfl rfl (hb hby d35_11) _ ?_
    rw [len_of Sz25 Nn25]
    show Steps p.tables e below (T22.setTop (mkF m 12 #[.val (.ref a35_0), .val (.ref b2), .val (.int v19), .val (.int (2 : Int32))] [(.int (5 : Int32)), (.int (2 : Int32))])) _
    refine XS.icmpNo X22.here hx rfl (hb hby d35_12) rfl (tlt (by decide : (2 : Int32) < (5 : Int32))).2.1 ?_
    show Steps p.tables e below (T22.setTop (mkF m 15 #[.val (.ref a35_0), .val (.ref b2), .val (.int v19), .val (.int (2 : Int32))] [])) _
    refine XS.aloadN X22.here hx rfl (hb hby d35_15) rfl rfl ?_
    show Steps p.tables e below (T22.setTop (mkF m 16 #[.val (.ref a35_0), .val (.ref b2), .val (.int v19), .val (.int (2 : Int32))] [(.ref b2)])) _
    refine XS.iloadN X22.here hx rfl (hb hby d35_16) rfl ?_
    show Steps p.tables e below (T22.setTop (mkF m 17 #[.val (.ref a35_0), .val (.ref b2), .val (.int v19), .val (.int (2 : Int32))] [(.int (2 : Int32)), (.ref b2)])) _
    refine XS.aloadN X22.here hx rfl (hb hby d35_17) rfl rfl ?_
    show Steps p.tables e below (T22.setTop (mkF m 18 #[.val (.ref a35_0), .val (.ref b2), .val (.int v19), .val (.int (2 : Int32))] [(.ref a35_0), (.int (2 : Int32)), (.ref b2)])) _
    refine XS.iloadN X22.here hx rfl (hb hby d35_18) rfl ?_
    show Steps p.tables e below (T22.setTop (mkF m 19 #[.val (.ref a35_0), .val (.ref b2), .val (.int v19), .val (.int (2 : Int32))] [(.int (2 : Int32)), (.ref a35_0), (.int (2 : Int32)), (.ref b2)])) _
    refine X22.baloadBooleans hx (j := (2 : Int32)) (v := (.int x2)) (by rw [e22]; exact Ar26.1) (State.isArrayOf_alike hZ.alike Ar26.2.1) Ar26.2.2 hin26 (Hh26.at hin26 rfl) (g := (mkF m 19 #[.val (.ref a35_0), .val (.ref b2), .val (.int v19), .val (.int (2 : Int32))] [(.int (2 : Int32)), (.ref a35_0), (.int (2 : Int32)), (.ref b2)])) rfl rfl (hb hby d35_19) _ ?_
    exact k
  obtain ⟨v29, hv29⟩ : ∃ z, z = (if x2 = (0 : Int32) then v19 else (v19 + (1 : Int32))) := ⟨_, rfl⟩
  obtain ⟨v30, hv30⟩ : ∃ z, z = (if x2 = (0 : Int32) then (-1 : Int32) else v19) := ⟨_, rfl⟩
  have k31 : ∀ t, Steps p.tables e below (T22.setTop (mkF m 31 #[.val (.ref a35_0), .val (.ref b2), .val (.int v29), .val (.int (2 : Int32))] [(.int v30), (.int (2 : Int32)), (.ref b2)])) t → Steps p.tables e below (s₁.setTop (entryFrame m #[(.ref a35_0)] 4)) t := by
    intro t k
    refine k27 t ?_
    by_cases hc20_28 : x2 = (0 : Int32)
    · skip
      show Steps p.tables e below (T22.setTop (mkF m 20 #[.val (.ref a35_0), .val (.ref b2), .val (.int v19), .val (.int (2 : Int32))] [(.int x2), (.int (2 : Int32)), (.ref b2)])) _
      refine XS.ifYes X22.here hx rfl (pc0 := 20) (pc' := 30) rfl (hb hby d35_20) rfl ((if0 _ _).trans (teq hc20_28).1) (by decide) (by decide) ?_
      show Steps p.tables e below (T22.setTop (mkF m 30 #[.val (.ref a35_0), .val (.ref b2), .val (.int v19), .val (.int (2 : Int32))] [(.int (2 : Int32)), (.ref b2)])) _
      refine XS.iconst X22.here hx rfl (hb hby d35_30) ?_
      rw [show v29 = v19 from hv29.trans (by rw [if_pos hc20_28])] at k
      rw [show v30 = (-1 : Int32) from hv30.trans (by rw [if_pos hc20_28])] at k
      exact k
    · skip
      show Steps p.tables e below (T22.setTop (mkF m 20 #[.val (.ref a35_0), .val (.ref b2), .val (.int v19), .val (.int (2 : Int32))] [(.int x2), (.int (2 : Int32)), (.ref b2)])) _
      refine XS.ifNo X22.here hx rfl (hb hby d35_20) rfl ((if0 _ _).trans (feq hc20_28).1) ?_
      show Steps p.tables e below (T22.setTop (mkF m 23 #[.val (.ref a35_0), .val (.ref b2), .val (.int v19), .val (.int (2 : Int32))] [(.int (2 : Int32)), (.ref b2)])) _
      refine XS.iloadN X22.here hx rfl (hb hby d35_23) rfl ?_
      show Steps p.tables e below (T22.setTop (mkF m 24 #[.val (.ref a35_0), .val (.ref b2), .val (.int v19), .val (.int (2 : Int32))] [(.int v19), (.int (2 : Int32)), (.ref b2)])) _
      refine XS.iinc X22.here hx rfl (hb hby d35_24) rfl (l' := #[.val (.ref a35_0), .val (.ref b2), .val (.int (v19 + (1 : Int32))), .val (.int (2 : Int32))]) rfl ?_
      show Steps p.tables e below (T22.setTop (mkF m 27 #[.val (.ref a35_0), .val (.ref b2), .val (.int (v19 + (1 : Int32))), .val (.int (2 : Int32))] [(.int v19), (.int (2 : Int32)), (.ref b2)])) _
      refine XS.goto X22.here hx rfl (pc0 := 27) (pc' := 31) rfl (hb hby d35_27) (by decide) (by decide) ?_
      rw [show v29 = (v19 + (1 : Int32)) from hv29.trans (by rw [if_neg hc20_28])] at k
      rw [show v30 = v19 from hv30.trans (by rw [if_neg hc20_28])] at k
      exact k
  obtain ⟨cl32, Ar32, qc32, Sz32, Nn32, Hh32, Gg32⟩ := (id V22)
  have hin32 : ¬ ((2 : Int32) < 0 ∨ cl32.slots.size ≤ ((2 : Int32)).toNatClampNeg) := inb_of Sz32 ⟨by decide, by decide⟩
  obtain ⟨T32, h32, X32, e32, W32, st32⟩ := stI X22 hx hZ e22 Ar32 (j := (2 : Int32)) hin32 (g := (mkF m 31 #[.val (.ref a35_0), .val (.ref b2), .val (.int v29), .val (.int (2 : Int32))] [(.int v30), (.int (2 : Int32)), (.ref b2)])) rfl rfl (hb hby d35_31)
  have F33 : Arv Z h32 a35_0 kk .boolean (5 : Int32) [(.int x0), (.int x1), (.int x2), (.int x3), (.int x4), (.int x5)] (.int (0 : Int32)) := F23.other W32 ne3
  have V32 : Arv Z h32 b2 k2 .int (5 : Int32) [(.int v10), (.int v20), (.int v30), (.int (0 : Int32)), (.int (0 : Int32)), (.int (0 : Int32))] (.int (0 : Int32)) := Arv.set Ar32 qc32 Sz32 Nn32 Hh32 Gg32 rfl W32 2 rfl (Nat.le_of_ble_eq_true rfl)
  have N32 := Fr.snoc X32 N22 gg2
  have K32 : Keep h0 h32 [] := K22.wr W32 (Or.inr sz2)
  have Zs32 : n0 ≤ h32.size := by rw [W32.size]; exact Zs22
  obtain ⟨cl35, Ar35, qc35, Sz35, Nn35, Hh35, Gg35⟩ := (id F33)
  obtain ⟨cl36, Ar36, qc36, Sz36, Nn36, Hh36, Gg36⟩ := (id F33)
  have hin36 : ¬ ((3 : Int32) < 0 ∨ cl36.slots.size ≤ ((3 : Int32)).toNatClampNeg) := inb_of Sz36 ⟨by decide, by decide⟩
  have k37 : ∀ t, Steps p.tables e below (T32.setTop (mkF m 20 #[.val (.ref a35_0), .val (.ref b2), .val (.int v29), .val (.int (3 : Int32))] [(.int x3), (.int (3 : Int32)), (.ref b2)])) t → Steps p.tables e below (s₁.setTop (entryFrame m #[(.ref a35_0)] 4)) t := by
    intro t k
    refine k31 t ?_
    show Steps p.tables e below (T22.setTop (mkF m 31 #[.val (.ref a35_0), .val (.ref b2), .val (.int v29), .val (.int (2 : Int32))] [(.int v30), (.int (2 : Int32)), (.ref b2)])) _
    refine st32 _ ?_
    show Steps p.tables e below (T32.setTop (mkF m 32 #[.val (.ref a35_0), .val (.ref b2), .val (.int v29), .val (.int (2 : Int32))] [])) _
    refine XS.iinc X32.here hx rfl (hb hby d35_32) rfl (l' := #[.val (.ref a35_0), .val (.ref b2), .val (.int v29), .val (.int (3 : Int32))]) rfl ?_
    show Steps p.tables e below (T32.setTop (mkF m 35 #[.val (.ref a35_0), .val (.ref b2), .val (.int v29), .val (.int (3 : Int32))] [])) _
    refine XS.goto X32.here hx rfl (pc0 := 35) (pc' := 9) rfl (hb hby d35_35) (by decide) (by decide) ?_
    show Steps p.tables e below (T32.setTop (mkF m 9 #[.val (.ref a35_0), .val (.ref b2), .val (.int v29), .val (.int (3 : Int32))] [])) _
    refine XS.iloadN X32.here hx rfl (hb hby d35_9) rfl ?_
    show Steps p.tables e below (T32.setTop (mkF m 10 #[.val (.ref a35_0), .val (.ref b2), .val (.int v29), .val (.int (3 : Int32))] [(.int (3 : Int32))])) _
    refine XS.aloadN X32.here hx rfl (hb hby d35_10) rfl rfl ?_
    show Steps p.tables e below (T32.setTop (mkF m 11 #[.val (.ref a35_0), .val (.ref b2), .val (.int v29), .val (.int (3 : Int32))] [(.ref a35_0), (.int (3 : Int32))])) _
    refine X32.arraylength hx (by rw [e32]; exact Ar35.1) (State.isArrayOf_alike hZ.alike Ar35.2.1) (g := (mkF m 11 #[.val (.ref a35_0), .val (.ref b2), .val (.int v29), .val (.int (3 : Int32))] [(.ref a35_0), (.int (3 : Int32))])) rfl rfl (hb hby d35_11) _ ?_
    rw [len_of Sz35 Nn35]
    show Steps p.tables e below (T32.setTop (mkF m 12 #[.val (.ref a35_0), .val (.ref b2), .val (.int v29), .val (.int (3 : Int32))] [(.int (5 : Int32)), (.int (3 : Int32))])) _
    refine XS.icmpNo X32.here hx rfl (hb hby d35_12) rfl (tlt (by decide : (3 : Int32) < (5 : Int32))).2.1 ?_
    show Steps p.tables e below (T32.setTop (mkF m 15 #[.val (.ref a35_0), .val (.ref b2), .val (.int v29), .val (.int (3 : Int32))] [])) _
    refine XS.aloadN X32.here hx rfl (hb hby d35_15) rfl rfl ?_
    show Steps p.tables e below (T32.setTop (mkF m 16 #[.val (.ref a35_0), .val (.ref b2), .val (.int v29), .val (.int (3 : Int32))] [(.ref b2)])) _
    refine XS.iloadN X32.here hx rfl (hb hby d35_16) rfl ?_
    show Steps p.tables e below (T32.setTop (mkF m 17 #[.val (.ref a35_0), .val (.ref b2), .val (.int v29), .val (.int (3 : Int32))] [(.int (3 : Int32)), (.ref b2)])) _
    refine XS.aloadN X32.here hx rfl (hb hby d35_17) rfl rfl ?_
    show Steps p.tables e below (T32.setTop (mkF m 18 #[.val (.ref a35_0), .val (.ref b2), .val (.int v29), .val (.int (3 : Int32))] [(.ref a35_0), (.int (3 : Int32)), (.ref b2)])) _
    refine XS.iloadN X32.here hx rfl (hb hby d35_18) rfl ?_
    show Steps p.tables e below (T32.setTop (mkF m 19 #[.val (.ref a35_0), .val (.ref b2), .val (.int v29), .val (.int (3 : Int32))] [(.int (3 : Int32)), (.ref a35_0), (.int (3 : Int32)), (.ref b2)])) _
    refine X32.baloadBooleans hx (j := (3 : Int32)) (v := (.int x3)) (by rw [e32]; exact Ar36.1) (State.isArrayOf_alike hZ.alike Ar36.2.1) Ar36.2.2 hin36 (Hh36.at hin36 rfl) (g := (mkF m 19 #[.val (.ref a35_0), .val (.ref b2), .val (.int v29), .val (.int (3 : Int32))] [(.int (3 : Int32)), (.ref a35_0), (.int (3 : Int32)), (.ref b2)])) rfl rfl (hb hby d35_19) _ ?_
    exact k
  obtain ⟨v39, hv39⟩ : ∃ z, z = (if x3 = (0 : Int32) then v29 else (v29 + (1 : Int32))) := ⟨_, rfl⟩
  obtain ⟨v40, hv40⟩ : ∃ z, z = (if x3 = (0 : Int32) then (-1 : Int32) else v29) := ⟨_, rfl⟩
  have k41 : ∀ t, Steps p.tables e below (T32.setTop (mkF m 31 #[.val (.ref a35_0), .val (.ref b2), .val (.int v39), .val (.int (3 : Int32))] [(.int v40), (.int (3 : Int32)), (.ref b2)])) t → Steps p.tables e below (s₁.setTop (entryFrame m #[(.ref a35_0)] 4)) t := by
    intro t k
    refine k37 t ?_
    by_cases hc20_38 : x3 = (0 : Int32)
    · skip
      show Steps p.tables e below (T32.setTop (mkF m 20 #[.val (.ref a35_0), .val (.ref b2), .val (.int v29), .val (.int (3 : Int32))] [(.int x3), (.int (3 : Int32)), (.ref b2)])) _
      refine XS.ifYes X32.here hx rfl (pc0 := 20) (pc' := 30) rfl (hb hby d35_20) rfl ((if0 _ _).trans (teq hc20_38).1) (by decide) (by decide) ?_
      show Steps p.tables e below (T32.setTop (mkF m 30 #[.val (.ref a35_0), .val (.ref b2), .val (.int v29), .val (.int (3 : Int32))] [(.int (3 : Int32)), (.ref b2)])) _
      refine XS.iconst X32.here hx rfl (hb hby d35_30) ?_
      rw [show v39 = v29 from hv39.trans (by rw [if_pos hc20_38])] at k
      rw [show v40 = (-1 : Int32) from hv40.trans (by rw [if_pos hc20_38])] at k
      exact k
    · skip
      show Steps p.tables e below (T32.setTop (mkF m 20 #[.val (.ref a35_0), .val (.ref b2), .val (.int v29), .val (.int (3 : Int32))] [(.int x3), (.int (3 : Int32)), (.ref b2)])) _
      refine XS.ifNo X32.here hx rfl (hb hby d35_20) rfl ((if0 _ _).trans (feq hc20_38).1) ?_
      show Steps p.tables e below (T32.setTop (mkF m 23 #[.val (.ref a35_0), .val (.ref b2), .val (.int v29), .val (.int (3 : Int32))] [(.int (3 : Int32)), (.ref b2)])) _
      refine XS.iloadN X32.here hx rfl (hb hby d35_23) rfl ?_
      show Steps p.tables e below (T32.setTop (mkF m 24 #[.val (.ref a35_0), .val (.ref b2), .val (.int v29), .val (.int (3 : Int32))] [(.int v29), (.int (3 : Int32)), (.ref b2)])) _
      refine XS.iinc X32.here hx rfl (hb hby d35_24) rfl (l' := #[.val (.ref a35_0), .val (.ref b2), .val (.int (v29 + (1 : Int32))), .val (.int (3 : Int32))]) rfl ?_
      show Steps p.tables e below (T32.setTop (mkF m 27 #[.val (.ref a35_0), .val (.ref b2), .val (.int (v29 + (1 : Int32))), .val (.int (3 : Int32))] [(.int v29), (.int (3 : Int32)), (.ref b2)])) _
      refine XS.goto X32.here hx rfl (pc0 := 27) (pc' := 31) rfl (hb hby d35_27) (by decide) (by decide) ?_
      rw [show v39 = (v29 + (1 : Int32)) from hv39.trans (by rw [if_neg hc20_38])] at k
      rw [show v40 = v29 from hv40.trans (by rw [if_neg hc20_38])] at k
      exact k
  obtain ⟨cl42, Ar42, qc42, Sz42, Nn42, Hh42, Gg42⟩ := (id V32)
  have hin42 : ¬ ((3 : Int32) < 0 ∨ cl42.slots.size ≤ ((3 : Int32)).toNatClampNeg) := inb_of Sz42 ⟨by decide, by decide⟩
  obtain ⟨T42, h42, X42, e42, W42, st42⟩ := stI X32 hx hZ e32 Ar42 (j := (3 : Int32)) hin42 (g := (mkF m 31 #[.val (.ref a35_0), .val (.ref b2), .val (.int v39), .val (.int (3 : Int32))] [(.int v40), (.int (3 : Int32)), (.ref b2)])) rfl rfl (hb hby d35_31)
  have F43 : Arv Z h42 a35_0 kk .boolean (5 : Int32) [(.int x0), (.int x1), (.int x2), (.int x3), (.int x4), (.int x5)] (.int (0 : Int32)) := F33.other W42 ne3
  have V42 : Arv Z h42 b2 k2 .int (5 : Int32) [(.int v10), (.int v20), (.int v30), (.int v40), (.int (0 : Int32)), (.int (0 : Int32))] (.int (0 : Int32)) := Arv.set Ar42 qc42 Sz42 Nn42 Hh42 Gg42 rfl W42 3 rfl (Nat.le_of_ble_eq_true rfl)
  have N42 := Fr.snoc X42 N32 gg2
  have K42 : Keep h0 h42 [] := K32.wr W42 (Or.inr sz2)
  have Zs42 : n0 ≤ h42.size := by rw [W42.size]; exact Zs32
  obtain ⟨cl45, Ar45, qc45, Sz45, Nn45, Hh45, Gg45⟩ := (id F43)
  obtain ⟨cl46, Ar46, qc46, Sz46, Nn46, Hh46, Gg46⟩ := (id F43)
  have hin46 : ¬ ((4 : Int32) < 0 ∨ cl46.slots.size ≤ ((4 : Int32)).toNatClampNeg) := inb_of Sz46 ⟨by decide, by decide⟩
  have k47 : ∀ t, Steps p.tables e below (T42.setTop (mkF m 20 #[.val (.ref a35_0), .val (.ref b2), .val (.int v39), .val (.int (4 : Int32))] [(.int x4), (.int (4 : Int32)), (.ref b2)])) t → Steps p.tables e below (s₁.setTop (entryFrame m #[(.ref a35_0)] 4)) t := by
    intro t k
    refine k41 t ?_
    show Steps p.tables e below (T32.setTop (mkF m 31 #[.val (.ref a35_0), .val (.ref b2), .val (.int v39), .val (.int (3 : Int32))] [(.int v40), (.int (3 : Int32)), (.ref b2)])) _
    refine st42 _ ?_
    show Steps p.tables e below (T42.setTop (mkF m 32 #[.val (.ref a35_0), .val (.ref b2), .val (.int v39), .val (.int (3 : Int32))] [])) _
    refine XS.iinc X42.here hx rfl (hb hby d35_32) rfl (l' := #[.val (.ref a35_0), .val (.ref b2), .val (.int v39), .val (.int (4 : Int32))]) rfl ?_
    show Steps p.tables e below (T42.setTop (mkF m 35 #[.val (.ref a35_0), .val (.ref b2), .val (.int v39), .val (.int (4 : Int32))] [])) _
    refine XS.goto X42.here hx rfl (pc0 := 35) (pc' := 9) rfl (hb hby d35_35) (by decide) (by decide) ?_
    show Steps p.tables e below (T42.setTop (mkF m 9 #[.val (.ref a35_0), .val (.ref b2), .val (.int v39), .val (.int (4 : Int32))] [])) _
    refine XS.iloadN X42.here hx rfl (hb hby d35_9) rfl ?_
    show Steps p.tables e below (T42.setTop (mkF m 10 #[.val (.ref a35_0), .val (.ref b2), .val (.int v39), .val (.int (4 : Int32))] [(.int (4 : Int32))])) _
    refine XS.aloadN X42.here hx rfl (hb hby d35_10) rfl rfl ?_
    show Steps p.tables e below (T42.setTop (mkF m 11 #[.val (.ref a35_0), .val (.ref b2), .val (.int v39), .val (.int (4 : Int32))] [(.ref a35_0), (.int (4 : Int32))])) _
    refine X42.arraylength hx (by rw [e42]; exact Ar45.1) (State.isArrayOf_alike hZ.alike Ar45.2.1) (g := (mkF m 11 #[.val (.ref a35_0), .val (.ref b2), .val (.int v39), .val (.int (4 : Int32))] [(.ref a35_0), (.int (4 : Int32))])) rfl rfl (hb hby d35_11) _ ?_
    rw [len_of Sz45 Nn45]
    show Steps p.tables e below (T42.setTop (mkF m 12 #[.val (.ref a35_0), .val (.ref b2), .val (.int v39), .val (.int (4 : Int32))] [(.int (5 : Int32)), (.int (4 : Int32))])) _
    refine XS.icmpNo X42.here hx rfl (hb hby d35_12) rfl (tlt (by decide : (4 : Int32) < (5 : Int32))).2.1 ?_
    show Steps p.tables e below (T42.setTop (mkF m 15 #[.val (.ref a35_0), .val (.ref b2), .val (.int v39), .val (.int (4 : Int32))] [])) _
    refine XS.aloadN X42.here hx rfl (hb hby d35_15) rfl rfl ?_
    show Steps p.tables e below (T42.setTop (mkF m 16 #[.val (.ref a35_0), .val (.ref b2), .val (.int v39), .val (.int (4 : Int32))] [(.ref b2)])) _
    refine XS.iloadN X42.here hx rfl (hb hby d35_16) rfl ?_
    show Steps p.tables e below (T42.setTop (mkF m 17 #[.val (.ref a35_0), .val (.ref b2), .val (.int v39), .val (.int (4 : Int32))] [(.int (4 : Int32)), (.ref b2)])) _
    refine XS.aloadN X42.here hx rfl (hb hby d35_17) rfl rfl ?_
    show Steps p.tables e below (T42.setTop (mkF m 18 #[.val (.ref a35_0), .val (.ref b2), .val (.int v39), .val (.int (4 : Int32))] [(.ref a35_0), (.int (4 : Int32)), (.ref b2)])) _
    refine XS.iloadN X42.here hx rfl (hb hby d35_18) rfl ?_
    show Steps p.tables e below (T42.setTop (mkF m 19 #[.val (.ref a35_0), .val (.ref b2), .val (.int v39), .val (.int (4 : Int32))] [(.int (4 : Int32)), (.ref a35_0), (.int (4 : Int32)), (.ref b2)])) _
    refine X42.baloadBooleans hx (j := (4 : Int32)) (v := (.int x4)) (by rw [e42]; exact Ar46.1) (State.isArrayOf_alike hZ.alike Ar46.2.1) Ar46.2.2 hin46 (Hh46.at hin46 rfl) (g := (mkF m 19 #[.val (.ref a35_0), .val (.ref b2), .val (.int v39), .val (.int (4 : Int32))] [(.int (4 : Int32)), (.ref a35_0), (.int (4 : Int32)), (.ref b2)])) rfl rfl (hb hby d35_19) _ ?_
    exact k
  obtain ⟨v49, hv49⟩ : ∃ z, z = (if x4 = (0 : Int32) then v39 else (v39 + (1 : Int32))) := ⟨_, rfl⟩
  obtain ⟨v50, hv50⟩ : ∃ z, z = (if x4 = (0 : Int32) then (-1 : Int32) else v39) := ⟨_, rfl⟩
  have k51 : ∀ t, Steps p.tables e below (T42.setTop (mkF m 31 #[.val (.ref a35_0), .val (.ref b2), .val (.int v49), .val (.int (4 : Int32))] [(.int v50), (.int (4 : Int32)), (.ref b2)])) t → Steps p.tables e below (s₁.setTop (entryFrame m #[(.ref a35_0)] 4)) t := by
    intro t k
    refine k47 t ?_
    by_cases hc20_48 : x4 = (0 : Int32)
    · skip
      show Steps p.tables e below (T42.setTop (mkF m 20 #[.val (.ref a35_0), .val (.ref b2), .val (.int v39), .val (.int (4 : Int32))] [(.int x4), (.int (4 : Int32)), (.ref b2)])) _
      refine XS.ifYes X42.here hx rfl (pc0 := 20) (pc' := 30) rfl (hb hby d35_20) rfl ((if0 _ _).trans (teq hc20_48).1) (by decide) (by decide) ?_
      show Steps p.tables e below (T42.setTop (mkF m 30 #[.val (.ref a35_0), .val (.ref b2), .val (.int v39), .val (.int (4 : Int32))] [(.int (4 : Int32)), (.ref b2)])) _
      refine XS.iconst X42.here hx rfl (hb hby d35_30) ?_
      rw [show v49 = v39 from hv49.trans (by rw [if_pos hc20_48])] at k
      rw [show v50 = (-1 : Int32) from hv50.trans (by rw [if_pos hc20_48])] at k
      exact k
    · skip
      show Steps p.tables e below (T42.setTop (mkF m 20 #[.val (.ref a35_0), .val (.ref b2), .val (.int v39), .val (.int (4 : Int32))] [(.int x4), (.int (4 : Int32)), (.ref b2)])) _
      refine XS.ifNo X42.here hx rfl (hb hby d35_20) rfl ((if0 _ _).trans (feq hc20_48).1) ?_
      show Steps p.tables e below (T42.setTop (mkF m 23 #[.val (.ref a35_0), .val (.ref b2), .val (.int v39), .val (.int (4 : Int32))] [(.int (4 : Int32)), (.ref b2)])) _
      refine XS.iloadN X42.here hx rfl (hb hby d35_23) rfl ?_
      show Steps p.tables e below (T42.setTop (mkF m 24 #[.val (.ref a35_0), .val (.ref b2), .val (.int v39), .val (.int (4 : Int32))] [(.int v39), (.int (4 : Int32)), (.ref b2)])) _
      refine XS.iinc X42.here hx rfl (hb hby d35_24) rfl (l' := #[.val (.ref a35_0), .val (.ref b2), .val (.int (v39 + (1 : Int32))), .val (.int (4 : Int32))]) rfl ?_
      show Steps p.tables e below (T42.setTop (mkF m 27 #[.val (.ref a35_0), .val (.ref b2), .val (.int (v39 + (1 : Int32))), .val (.int (4 : Int32))] [(.int v39), (.int (4 : Int32)), (.ref b2)])) _
      refine XS.goto X42.here hx rfl (pc0 := 27) (pc' := 31) rfl (hb hby d35_27) (by decide) (by decide) ?_
      rw [show v49 = (v39 + (1 : Int32)) from hv49.trans (by rw [if_neg hc20_48])] at k
      rw [show v50 = v39 from hv50.trans (by rw [if_neg hc20_48])] at k
      exact k
  obtain ⟨cl52, Ar52, qc52, Sz52, Nn52, Hh52, Gg52⟩ := (id V42)
  have hin52 : ¬ ((4 : Int32) < 0 ∨ cl52.slots.size ≤ ((4 : Int32)).toNatClampNeg) := inb_of Sz52 ⟨by decide, by decide⟩
  obtain ⟨T52, h52, X52, e52, W52, st52⟩ := stI X42 hx hZ e42 Ar52 (j := (4 : Int32)) hin52 (g := (mkF m 31 #[.val (.ref a35_0), .val (.ref b2), .val (.int v49), .val (.int (4 : Int32))] [(.int v50), (.int (4 : Int32)), (.ref b2)])) rfl rfl (hb hby d35_31)
  have F53 : Arv Z h52 a35_0 kk .boolean (5 : Int32) [(.int x0), (.int x1), (.int x2), (.int x3), (.int x4), (.int x5)] (.int (0 : Int32)) := F43.other W52 ne3
  have V52 : Arv Z h52 b2 k2 .int (5 : Int32) [(.int v10), (.int v20), (.int v30), (.int v40), (.int v50), (.int (0 : Int32))] (.int (0 : Int32)) := Arv.set Ar52 qc52 Sz52 Nn52 Hh52 Gg52 rfl W52 4 rfl (Nat.le_of_ble_eq_true rfl)
  have N52 := Fr.snoc X52 N42 gg2
  have K52 : Keep h0 h52 [] := K42.wr W52 (Or.inr sz2)
  have Zs52 : n0 ≤ h52.size := by rw [W52.size]; exact Zs42
  obtain ⟨cl55, Ar55, qc55, Sz55, Nn55, Hh55, Gg55⟩ := (id F53)
  have k56 : ∀ t, Steps p.tables e below (T52.setTop (mkF m 39 #[.val (.ref a35_0), .val (.ref b2), .val (.int v49), .val (.int (5 : Int32))] [(.ref b2)])) t → Steps p.tables e below (s₁.setTop (entryFrame m #[(.ref a35_0)] 4)) t := by
    intro t k
    refine k51 t ?_
    show Steps p.tables e below (T42.setTop (mkF m 31 #[.val (.ref a35_0), .val (.ref b2), .val (.int v49), .val (.int (4 : Int32))] [(.int v50), (.int (4 : Int32)), (.ref b2)])) _
    refine st52 _ ?_
    show Steps p.tables e below (T52.setTop (mkF m 32 #[.val (.ref a35_0), .val (.ref b2), .val (.int v49), .val (.int (4 : Int32))] [])) _
    refine XS.iinc X52.here hx rfl (hb hby d35_32) rfl (l' := #[.val (.ref a35_0), .val (.ref b2), .val (.int v49), .val (.int (5 : Int32))]) rfl ?_
    show Steps p.tables e below (T52.setTop (mkF m 35 #[.val (.ref a35_0), .val (.ref b2), .val (.int v49), .val (.int (5 : Int32))] [])) _
    refine XS.goto X52.here hx rfl (pc0 := 35) (pc' := 9) rfl (hb hby d35_35) (by decide) (by decide) ?_
    show Steps p.tables e below (T52.setTop (mkF m 9 #[.val (.ref a35_0), .val (.ref b2), .val (.int v49), .val (.int (5 : Int32))] [])) _
    refine XS.iloadN X52.here hx rfl (hb hby d35_9) rfl ?_
    show Steps p.tables e below (T52.setTop (mkF m 10 #[.val (.ref a35_0), .val (.ref b2), .val (.int v49), .val (.int (5 : Int32))] [(.int (5 : Int32))])) _
    refine XS.aloadN X52.here hx rfl (hb hby d35_10) rfl rfl ?_
    show Steps p.tables e below (T52.setTop (mkF m 11 #[.val (.ref a35_0), .val (.ref b2), .val (.int v49), .val (.int (5 : Int32))] [(.ref a35_0), (.int (5 : Int32))])) _
    refine X52.arraylength hx (by rw [e52]; exact Ar55.1) (State.isArrayOf_alike hZ.alike Ar55.2.1) (g := (mkF m 11 #[.val (.ref a35_0), .val (.ref b2), .val (.int v49), .val (.int (5 : Int32))] [(.ref a35_0), (.int (5 : Int32))])) rfl rfl (hb hby d35_11) _ ?_
    rw [len_of Sz55 Nn55]
    show Steps p.tables e below (T52.setTop (mkF m 12 #[.val (.ref a35_0), .val (.ref b2), .val (.int v49), .val (.int (5 : Int32))] [(.int (5 : Int32)), (.int (5 : Int32))])) _
    refine XS.icmpYes X52.here hx rfl (pc0 := 12) (pc' := 38) rfl (hb hby d35_12) rfl (flt (by decide : ¬ ((5 : Int32) < (5 : Int32)))).2.1 (by decide) (by decide) ?_
    show Steps p.tables e below (T52.setTop (mkF m 38 #[.val (.ref a35_0), .val (.ref b2), .val (.int v49), .val (.int (5 : Int32))] [])) _
    refine XS.aloadN X52.here hx rfl (hb hby d35_38) rfl rfl ?_
    exact k
  subst hv50 hv49 hv40 hv39 hv30 hv29 hv20 hv19 hv10 hv9
  obtain ⟨fs, hr, hrun, hended, hW, hsame⟩ := X52.leave (v := some (.ref b2)) (fun h => by rw [Bd.returns] at h; cases h)
  refine ⟨_, _, k56 _ ?_, hrun, hended, _, _, rfl, ?_, ⟨_, rfl⟩, hW, hsame.mono (by decide) (by decide)⟩
  · exact retOut X52 hx Bd.returns rfl (Or.inr (Or.inr (Or.inr (Or.inr ⟨rfl, rfl, rfl⟩)))) (hb hby d35_39) hr
  · show Q35 Z a35_0 kk x0 x1 x2 x3 x4 x5 h0 n0 _ T52.heap _
    rw [e52]
    exact ⟨b2, k2, rfl, N52, K52, gg2, sz2, V52⟩
theorem d36_0 : decode prog_16_method_15_code 0 = .ok (.aload_n 0, 1) := by decide +kernel
theorem d36_1 : decode prog_16_method_15_code 1 = .ok (.arraylength, 1) := by decide +kernel
theorem d36_2 : decode prog_16_method_15_code 2 = .ok (.newarray .int, 2) := by decide +kernel
theorem d36_4 : decode prog_16_method_15_code 4 = .ok (.astore_n 1, 1) := by decide +kernel
theorem d36_5 : decode prog_16_method_15_code 5 = .ok (.iconst 0, 1) := by decide +kernel
theorem d36_6 : decode prog_16_method_15_code 6 = .ok (.istore_n 2, 1) := by decide +kernel
theorem d36_7 : decode prog_16_method_15_code 7 = .ok (.iconst 0, 1) := by decide +kernel
theorem d36_8 : decode prog_16_method_15_code 8 = .ok (.istore_n 3, 1) := by decide +kernel
theorem d36_9 : decode prog_16_method_15_code 9 = .ok (.iload_n 3, 1) := by decide +kernel
theorem d36_10 : decode prog_16_method_15_code 10 = .ok (.aload_n 0, 1) := by decide +kernel
theorem d36_11 : decode prog_16_method_15_code 11 = .ok (.arraylength, 1) := by decide +kernel
theorem d36_12 : decode prog_16_method_15_code 12 = .ok (.if_icmp .ge 26, 3) := by decide +kernel
theorem d36_15 : decode prog_16_method_15_code 15 = .ok (.aload_n 1, 1) := by decide +kernel
theorem d36_16 : decode prog_16_method_15_code 16 = .ok (.iload_n 3, 1) := by decide +kernel
theorem d36_17 : decode prog_16_method_15_code 17 = .ok (.aload_n 0, 1) := by decide +kernel
theorem d36_18 : decode prog_16_method_15_code 18 = .ok (.iload_n 3, 1) := by decide +kernel
theorem d36_19 : decode prog_16_method_15_code 19 = .ok (.baload, 1) := by decide +kernel
theorem d36_20 : decode prog_16_method_15_code 20 = .ok (.ifCond .eq 10, 3) := by decide +kernel
theorem d36_23 : decode prog_16_method_15_code 23 = .ok (.iload_n 2, 1) := by decide +kernel
theorem d36_24 : decode prog_16_method_15_code 24 = .ok (.iinc 2 1, 3) := by decide +kernel
theorem d36_27 : decode prog_16_method_15_code 27 = .ok (.goto 4, 3) := by decide +kernel
theorem d36_30 : decode prog_16_method_15_code 30 = .ok (.iconst (-1), 1) := by decide +kernel
theorem d36_31 : decode prog_16_method_15_code 31 = .ok (.iastore, 1) := by decide +kernel
theorem d36_32 : decode prog_16_method_15_code 32 = .ok (.iinc 3 1, 3) := by decide +kernel
theorem d36_35 : decode prog_16_method_15_code 35 = .ok (.goto (-26), 3) := by decide +kernel
theorem d36_38 : decode prog_16_method_15_code 38 = .ok (.aload_n 1, 1) := by decide +kernel
theorem d36_39 : decode prog_16_method_15_code 39 = .ok (.areturn, 1) := by decide +kernel
theorem ef_36 (m : MethodId) (a36_0 : Addr) : entryFrame m #[(.ref a36_0)] 4 = mkF m 0 #[.val (.ref a36_0), .unset, .unset, .unset] [] := by first | (simp [entryFrame, mkF, argsToLocals, Value.category]; done) | rfl
def Q36 (Z : State) (a36_0 : Addr) (kk : ClassId) (x0 : Int32) (x1 : Int32) (x2 : Int32) (x3 : Int32) (x4 : Int32) (x5 : Int32) (h0 : Heap) (n0 : Nat) (v : Option Value) (h : Heap) (L : List Loc) : Prop := ∃ b36 : Addr, ∃ kn36 : ClassId, v = some (.ref b36) ∧ Fr n0 L ∧ Keep h0 h [] ∧ n0 ≤ b36 ∧ h0.size ≤ b36 ∧ Arv Z h b36 kn36 .int (6 : Int32) [(.int (own_e x0 (0 : Int32))), (.int (own_e x1 (own_c x0 (0 : Int32)))), (.int (own_e x2 (own_c x1 (own_c x0 (0 : Int32))))), (.int (own_e x3 (own_c x2 (own_c x1 (own_c x0 (0 : Int32)))))), (.int (own_e x4 (own_c x3 (own_c x2 (own_c x1 (own_c x0 (0 : Int32))))))), (.int (own_e x5 (own_c x4 (own_c x3 (own_c x2 (own_c x1 (own_c x0 (0 : Int32))))))))] (.int (0 : Int32))
set_option maxRecDepth 65536 in
set_option maxHeartbeats 40000000 in
theorem rm36 (l : Launch) (Z : State) (a0 : Array Value) (hw : ∀ d ∈ tables_1, d.before a0 Z = true) (ws : List Jvm.Cond) (a36_0 : Addr) (kk : ClassId) (x0 : Int32) (x1 : Int32) (x2 : Int32) (x3 : Int32) (x4 : Int32) (x5 : Int32) (h0 : Heap) (n0 : Nat) (Z0 : n0 ≤ h0.size) (Vb : Arv Z h0 a36_0 kk .boolean (6 : Int32) [(.int x0), (.int x1), (.int x2), (.int x3), (.int x4), (.int x5)] (.int (0 : Int32))) :
    MetFree l (⟨"com/example/leanweave/leanweave/Network", "numbering", "([Z)[I"⟩ : MethodName) (head1 (Jvm.Cond.code (⟨"com/example/leanweave/leanweave/Network", "numbering", "([Z)[I"⟩ : MethodName) prog_16_method_15_code 4 (some (.array .int)) :: ws) ({ frames := 0, cells := 1, slots := 6, locals := 0 } : Room)) (fun a U => a = #[(.ref a36_0)] ∧ Z.Warmed39 U.vm ∧ U.heap = h0) (fun _ _ _ _ _ => True) (fun _ U o U' => ∃ v L, o = .returned v ∧ Q36 Z a36_0 kk x0 x1 x2 x3 x4 x5 h0 n0 v U'.heap L ∧ FrameEnd U o U' L ({ frames := 0, cells := 1, slots := 6, locals := 0 } : Room).cells ({ frames := 0, cells := 1, slots := 6, locals := 0 } : Room).slots) := by
  refine MetFree.of_bodySF (plainFor_of_name pn_1) hisR ?_
  intro p e s m args below meth c s₁ Bd hml0 hP hK
  obtain ⟨rfl, hZ, hh⟩ := hP
  have hx := Bd.exec
  have hby := Bd.bytes
  have hml : c.maxLocals = 4 := hml0
  have hown : s.vm.findClass "com/example/leanweave/leanweave/Network" = some m.cls := findClass_of_methodNamed Bd.named
  have hnm := (name_of_methodNamed Bd.named Bd.method).1
  have X0 : Stand p l e ({ frames := 0, cells := 1, slots := 6, locals := 0 } : Room) s m #[(.ref a36_0)] below meth c s₁ [] 0 0 := Stand.of_body Bd
  have e0 : s₁.heap = h0 := by rw [← hh, Bd.state]; rfl
  have N0 := Fr.nil n0
  have pre0 : ∀ t, Steps p.tables e below (s₁.setTop (mkF m 0 #[.val (.ref a36_0), .unset, .unset, .unset] [])) t → Steps p.tables e below (s₁.setTop (entryFrame m #[(.ref a36_0)] 4)) t := fun t k => castTop (ef_36 m a36_0) k
  obtain ⟨cl1, Ar1, qc1, Sz1, Nn1, Hh1, Gg1⟩ := (id Vb)
  obtain ⟨b2, g2⟩ : ∃ z, z = h0.size := ⟨_, rfl⟩
  obtain ⟨T2, h2, k2, X2, e2, E2, A2, st2⟩ := newP X0 hx hZ (hw _ (List.mem_of_getElem? (i := 10) rfl)) e0 (g := (mkF m 2 #[.val (.ref a36_0), .unset, .unset, .unset] [(.int (6 : Int32))])) rfl (hb hby d36_2) rfl (by decide) (cap := 6) (by decide) (by decide) (by decide) (by decide)
  rw [← g2] at A2 st2
  have ne3 : a36_0 ≠ b2 := Nat.ne_of_lt (Nat.lt_of_lt_of_le Vb.lt (Nat.le_of_eq g2.symm))
  have gg2 : n0 ≤ b2 := Nat.le_trans Z0 (Nat.le_of_eq g2.symm)
  have sz2 : h0.size ≤ b2 := Nat.le_trans (Keep.refl h0 []).1 (Nat.le_of_eq g2.symm)
  have Zs2 : n0 ≤ h2.size := Nat.le_trans Z0 E2.1
  have K2 : Keep h0 h2 [] := (Keep.refl h0 []).ext E2
  have F4 : Arv Z h2 a36_0 kk .boolean (6 : Int32) [(.int x0), (.int x1), (.int x2), (.int x3), (.int x4), (.int x5)] (.int (0 : Int32)) := Vb.ext E2
  have V2 : Arv Z h2 b2 k2 .int (6 : Int32) [(.int (0 : Int32)), (.int (0 : Int32)), (.int (0 : Int32)), (.int (0 : Int32)), (.int (0 : Int32)), (.int (0 : Int32))] (.int (0 : Int32)) := (Arv.new A2 (by decide)).pad (pad_rep [] (.int (0 : Int32)) 6)
  obtain ⟨cl5, Ar5, qc5, Sz5, Nn5, Hh5, Gg5⟩ := (id F4)
  obtain ⟨cl6, Ar6, qc6, Sz6, Nn6, Hh6, Gg6⟩ := (id F4)
  have hin6 : ¬ ((0 : Int32) < 0 ∨ cl6.slots.size ≤ ((0 : Int32)).toNatClampNeg) := inb_of Sz6 ⟨by decide, by decide⟩
  have k7 : ∀ t, Steps p.tables e below (T2.setTop (mkF m 20 #[.val (.ref a36_0), .val (.ref b2), .val (.int (0 : Int32)), .val (.int (0 : Int32))] [(.int x0), (.int (0 : Int32)), (.ref b2)])) t → Steps p.tables e below (s₁.setTop (entryFrame m #[(.ref a36_0)] 4)) t := by
    intro t k
    refine pre0 t ?_
    show Steps p.tables e below (s₁.setTop (mkF m 0 #[.val (.ref a36_0), .unset, .unset, .unset] [])) _
    refine XS.aloadN X0.here hx rfl (hb hby d36_0) rfl rfl ?_
    show Steps p.tables e below (s₁.setTop (mkF m 1 #[.val (.ref a36_0), .unset, .unset, .unset] [(.ref a36_0)])) _
    refine X0.arraylength hx (by rw [e0]; exact Ar1.1) (State.isArrayOf_alike hZ.alike Ar1.2.1) (g := (mkF m 1 #[.val (.ref a36_0), .unset, .unset, .unset] [(.ref a36_0)])) rfl rfl (hb hby d36_1) _ ?_
    rw [len_of Sz1 Nn1]
    show Steps p.tables e below (s₁.setTop (mkF m 2 #[.val (.ref a36_0), .unset, .unset, .unset] [(.int (6 : Int32))])) _
    refine st2 _ ?_
    show Steps p.tables e below (T2.setTop (mkF m 4 #[.val (.ref a36_0), .unset, .unset, .unset] [(.ref b2)])) _
    refine XS.astoreN X2.here hx rfl (hb hby d36_4) rfl rfl (l' := #[.val (.ref a36_0), .val (.ref b2), .unset, .unset]) rfl ?_
    show Steps p.tables e below (T2.setTop (mkF m 5 #[.val (.ref a36_0), .val (.ref b2), .unset, .unset] [])) _
    refine XS.iconst X2.here hx rfl (hb hby d36_5) ?_
    show Steps p.tables e below (T2.setTop (mkF m 6 #[.val (.ref a36_0), .val (.ref b2), .unset, .unset] [(.int (0 : Int32))])) _
    refine XS.istoreN X2.here hx rfl (hb hby d36_6) rfl (l' := #[.val (.ref a36_0), .val (.ref b2), .val (.int (0 : Int32)), .unset]) rfl ?_
    show Steps p.tables e below (T2.setTop (mkF m 7 #[.val (.ref a36_0), .val (.ref b2), .val (.int (0 : Int32)), .unset] [])) _
    refine XS.iconst X2.here hx rfl (hb hby d36_7) ?_
    show Steps p.tables e below (T2.setTop (mkF m 8 #[.val (.ref a36_0), .val (.ref b2), .val (.int (0 : Int32)), .unset] [(.int (0 : Int32))])) _
    refine XS.istoreN X2.here hx rfl (hb hby d36_8) rfl (l' := #[.val (.ref a36_0), .val (.ref b2), .val (.int (0 : Int32)), .val (.int (0 : Int32))]) rfl ?_
    show Steps p.tables e below (T2.setTop (mkF m 9 #[.val (.ref a36_0), .val (.ref b2), .val (.int (0 : Int32)), .val (.int (0 : Int32))] [])) _
    refine XS.iloadN X2.here hx rfl (hb hby d36_9) rfl ?_
    show Steps p.tables e below (T2.setTop (mkF m 10 #[.val (.ref a36_0), .val (.ref b2), .val (.int (0 : Int32)), .val (.int (0 : Int32))] [(.int (0 : Int32))])) _
    refine XS.aloadN X2.here hx rfl (hb hby d36_10) rfl rfl ?_
    show Steps p.tables e below (T2.setTop (mkF m 11 #[.val (.ref a36_0), .val (.ref b2), .val (.int (0 : Int32)), .val (.int (0 : Int32))] [(.ref a36_0), (.int (0 : Int32))])) _
    refine X2.arraylength hx (by rw [e2]; exact Ar5.1) (State.isArrayOf_alike hZ.alike Ar5.2.1) (g := (mkF m 11 #[.val (.ref a36_0), .val (.ref b2), .val (.int (0 : Int32)), .val (.int (0 : Int32))] [(.ref a36_0), (.int (0 : Int32))])) rfl rfl (hb hby d36_11) _ ?_
    rw [len_of Sz5 Nn5]
    show Steps p.tables e below (T2.setTop (mkF m 12 #[.val (.ref a36_0), .val (.ref b2), .val (.int (0 : Int32)), .val (.int (0 : Int32))] [(.int (6 : Int32)), (.int (0 : Int32))])) _
    refine XS.icmpNo X2.here hx rfl (hb hby d36_12) rfl (tlt (by decide : (0 : Int32) < (6 : Int32))).2.1 ?_
    show Steps p.tables e below (T2.setTop (mkF m 15 #[.val (.ref a36_0), .val (.ref b2), .val (.int (0 : Int32)), .val (.int (0 : Int32))] [])) _
    refine XS.aloadN X2.here hx rfl (hb hby d36_15) rfl rfl ?_
    show Steps p.tables e below (T2.setTop (mkF m 16 #[.val (.ref a36_0), .val (.ref b2), .val (.int (0 : Int32)), .val (.int (0 : Int32))] [(.ref b2)])) _
    refine XS.iloadN X2.here hx rfl (hb hby d36_16) rfl ?_
    show Steps p.tables e below (T2.setTop (mkF m 17 #[.val (.ref a36_0), .val (.ref b2), .val (.int (0 : Int32)), .val (.int (0 : Int32))] [(.int (0 : Int32)), (.ref b2)])) _
    refine XS.aloadN X2.here hx rfl (hb hby d36_17) rfl rfl ?_
    show Steps p.tables e below (T2.setTop (mkF m 18 #[.val (.ref a36_0), .val (.ref b2), .val (.int (0 : Int32)), .val (.int (0 : Int32))] [(.ref a36_0), (.int (0 : Int32)), (.ref b2)])) _
    refine XS.iloadN X2.here hx rfl (hb hby d36_18) rfl ?_
    show Steps p.tables e below (T2.setTop (mkF m 19 #[.val (.ref a36_0), .val (.ref b2), .val (.int (0 : Int32)), .val (.int (0 : Int32))] [(.int (0 : Int32)), (.ref a36_0), (.int (0 : Int32)), (.ref b2)])) _
    refine X2.baloadBooleans hx (j := (0 : Int32)) (v := (.int x0)) (by rw [e2]; exact Ar6.1) (State.isArrayOf_alike hZ.alike Ar6.2.1) Ar6.2.2 hin6 (Hh6.at hin6 rfl) (g := (mkF m 19 #[.val (.ref a36_0), .val (.ref b2), .val (.int (0 : Int32)), .val (.int (0 : Int32))] [(.int (0 : Int32)), (.ref a36_0), (.int (0 : Int32)), (.ref b2)])) rfl rfl (hb hby d36_19) _ ?_
    exact k
  obtain ⟨v9, hv9⟩ : ∃ z, z = (if x0 = (0 : Int32) then (0 : Int32) else (1 : Int32)) := ⟨_, rfl⟩
  obtain ⟨v10, hv10⟩ : ∃ z, z = (if x0 = (0 : Int32) then (-1 : Int32) else (0 : Int32)) := ⟨_, rfl⟩
  have k11 : ∀ t, Steps p.tables e below (T2.setTop (mkF m 31 #[.val (.ref a36_0), .val (.ref b2), .val (.int v9), .val (.int (0 : Int32))] [(.int v10), (.int (0 : Int32)), (.ref b2)])) t → Steps p.tables e below (s₁.setTop (entryFrame m #[(.ref a36_0)] 4)) t := by
    intro t k
    refine k7 t ?_
    by_cases hc20_8 : x0 = (0 : Int32)
    · skip
      show Steps p.tables e below (T2.setTop (mkF m 20 #[.val (.ref a36_0), .val (.ref b2), .val (.int (0 : Int32)), .val (.int (0 : Int32))] [(.int x0), (.int (0 : Int32)), (.ref b2)])) _
      refine XS.ifYes X2.here hx rfl (pc0 := 20) (pc' := 30) rfl (hb hby d36_20) rfl ((if0 _ _).trans (teq hc20_8).1) (by decide) (by decide) ?_
      show Steps p.tables e below (T2.setTop (mkF m 30 #[.val (.ref a36_0), .val (.ref b2), .val (.int (0 : Int32)), .val (.int (0 : Int32))] [(.int (0 : Int32)), (.ref b2)])) _
      refine XS.iconst X2.here hx rfl (hb hby d36_30) ?_
      rw [show v9 = (0 : Int32) from hv9.trans (by rw [if_pos hc20_8])] at k
      rw [show v10 = (-1 : Int32) from hv10.trans (by rw [if_pos hc20_8])] at k
      exact k
    · skip
      show Steps p.tables e below (T2.setTop (mkF m 20 #[.val (.ref a36_0), .val (.ref b2), .val (.int (0 : Int32)), .val (.int (0 : Int32))] [(.int x0), (.int (0 : Int32)), (.ref b2)])) _
      refine XS.ifNo X2.here hx rfl (hb hby d36_20) rfl ((if0 _ _).trans (feq hc20_8).1) ?_
      show Steps p.tables e below (T2.setTop (mkF m 23 #[.val (.ref a36_0), .val (.ref b2), .val (.int (0 : Int32)), .val (.int (0 : Int32))] [(.int (0 : Int32)), (.ref b2)])) _
      refine XS.iloadN X2.here hx rfl (hb hby d36_23) rfl ?_
      show Steps p.tables e below (T2.setTop (mkF m 24 #[.val (.ref a36_0), .val (.ref b2), .val (.int (0 : Int32)), .val (.int (0 : Int32))] [(.int (0 : Int32)), (.int (0 : Int32)), (.ref b2)])) _
      refine XS.iinc X2.here hx rfl (hb hby d36_24) rfl (l' := #[.val (.ref a36_0), .val (.ref b2), .val (.int (1 : Int32)), .val (.int (0 : Int32))]) rfl ?_
      show Steps p.tables e below (T2.setTop (mkF m 27 #[.val (.ref a36_0), .val (.ref b2), .val (.int (1 : Int32)), .val (.int (0 : Int32))] [(.int (0 : Int32)), (.int (0 : Int32)), (.ref b2)])) _
      refine XS.goto X2.here hx rfl (pc0 := 27) (pc' := 31) rfl (hb hby d36_27) (by decide) (by decide) ?_
      rw [show v9 = (1 : Int32) from hv9.trans (by rw [if_neg hc20_8])] at k
      rw [show v10 = (0 : Int32) from hv10.trans (by rw [if_neg hc20_8])] at k
      exact k
  obtain ⟨cl12, Ar12, qc12, Sz12, Nn12, Hh12, Gg12⟩ := (id V2)
  have hin12 : ¬ ((0 : Int32) < 0 ∨ cl12.slots.size ≤ ((0 : Int32)).toNatClampNeg) := inb_of Sz12 ⟨by decide, by decide⟩
  obtain ⟨T12, h12, X12, e12, W12, st12⟩ := stI X2 hx hZ e2 Ar12 (j := (0 : Int32)) hin12 (g := (mkF m 31 #[.val (.ref a36_0), .val (.ref b2), .val (.int v9), .val (.int (0 : Int32))] [(.int v10), (.int (0 : Int32)), (.ref b2)])) rfl rfl (hb hby d36_31)
  have F13 : Arv Z h12 a36_0 kk .boolean (6 : Int32) [(.int x0), (.int x1), (.int x2), (.int x3), (.int x4), (.int x5)] (.int (0 : Int32)) := F4.other W12 ne3
  have V12 : Arv Z h12 b2 k2 .int (6 : Int32) [(.int v10), (.int (0 : Int32)), (.int (0 : Int32)), (.int (0 : Int32)), (.int (0 : Int32)), (.int (0 : Int32))] (.int (0 : Int32)) := Arv.set Ar12 qc12 Sz12 Nn12 Hh12 Gg12 rfl W12 0 rfl (Nat.le_of_ble_eq_true rfl)
  have N12 := Fr.snoc X12 N0 gg2
  have K12 : Keep h0 h12 [] := K2.wr W12 (Or.inr sz2)
  have Zs12 : n0 ≤ h12.size := by rw [W12.size]; exact Zs2
  obtain ⟨cl15, Ar15, qc15, Sz15, Nn15, Hh15, Gg15⟩ := (id F13)
  obtain ⟨cl16, Ar16, qc16, Sz16, Nn16, Hh16, Gg16⟩ := (id F13)
  have hin16 : ¬ ((1 : Int32) < 0 ∨ cl16.slots.size ≤ ((1 : Int32)).toNatClampNeg) := inb_of Sz16 ⟨by decide, by decide⟩
  have k17 : ∀ t, Steps p.tables e below (T12.setTop (mkF m 20 #[.val (.ref a36_0), .val (.ref b2), .val (.int v9), .val (.int (1 : Int32))] [(.int x1), (.int (1 : Int32)), (.ref b2)])) t → Steps p.tables e below (s₁.setTop (entryFrame m #[(.ref a36_0)] 4)) t := by
    intro t k
    refine k11 t ?_
    show Steps p.tables e below (T2.setTop (mkF m 31 #[.val (.ref a36_0), .val (.ref b2), .val (.int v9), .val (.int (0 : Int32))] [(.int v10), (.int (0 : Int32)), (.ref b2)])) _
    refine st12 _ ?_
    show Steps p.tables e below (T12.setTop (mkF m 32 #[.val (.ref a36_0), .val (.ref b2), .val (.int v9), .val (.int (0 : Int32))] [])) _
    refine XS.iinc X12.here hx rfl (hb hby d36_32) rfl (l' := #[.val (.ref a36_0), .val (.ref b2), .val (.int v9), .val (.int (1 : Int32))]) rfl ?_
    show Steps p.tables e below (T12.setTop (mkF m 35 #[.val (.ref a36_0), .val (.ref b2), .val (.int v9), .val (.int (1 : Int32))] [])) _
    refine XS.goto X12.here hx rfl (pc0 := 35) (pc' := 9) rfl (hb hby d36_35) (by decide) (by decide) ?_
    show Steps p.tables e below (T12.setTop (mkF m 9 #[.val (.ref a36_0), .val (.ref b2), .val (.int v9), .val (.int (1 : Int32))] [])) _
    refine XS.iloadN X12.here hx rfl (hb hby d36_9) rfl ?_
    show Steps p.tables e below (T12.setTop (mkF m 10 #[.val (.ref a36_0), .val (.ref b2), .val (.int v9), .val (.int (1 : Int32))] [(.int (1 : Int32))])) _
    refine XS.aloadN X12.here hx rfl (hb hby d36_10) rfl rfl ?_
    show Steps p.tables e below (T12.setTop (mkF m 11 #[.val (.ref a36_0), .val (.ref b2), .val (.int v9), .val (.int (1 : Int32))] [(.ref a36_0), (.int (1 : Int32))])) _
    refine X12.arraylength hx (by rw [e12]; exact Ar15.1) (State.isArrayOf_alike hZ.alike Ar15.2.1) (g := (mkF m 11 #[.val (.ref a36_0), .val (.ref b2), .val (.int v9), .val (.int (1 : Int32))] [(.ref a36_0), (.int (1 : Int32))])) rfl rfl (hb hby d36_11) _ ?_
    rw [len_of Sz15 Nn15]
    show Steps p.tables e below (T12.setTop (mkF m 12 #[.val (.ref a36_0), .val (.ref b2), .val (.int v9), .val (.int (1 : Int32))] [(.int (6 : Int32)), (.int (1 : Int32))])) _
    refine XS.icmpNo X12.here hx rfl (hb hby d36_12) rfl (tlt (by decide : (1 : Int32) < (6 : Int32))).2.1 ?_
    show Steps p.tables e below (T12.setTop (mkF m 15 #[.val (.ref a36_0), .val (.ref b2), .val (.int v9), .val (.int (1 : Int32))] [])) _
    refine XS.aloadN X12.here hx rfl (hb hby d36_15) rfl rfl ?_
    show Steps p.tables e below (T12.setTop (mkF m 16 #[.val (.ref a36_0), .val (.ref b2), .val (.int v9), .val (.int (1 : Int32))] [(.ref b2)])) _
    refine XS.iloadN X12.here hx rfl (hb hby d36_16) rfl ?_
    show Steps p.tables e below (T12.setTop (mkF m 17 #[.val (.ref a36_0), .val (.ref b2), .val (.int v9), .val (.int (1 : Int32))] [(.int (1 : Int32)), (.ref b2)])) _
    refine XS.aloadN X12.here hx rfl (hb hby d36_17) rfl rfl ?_
    show Steps p.tables e below (T12.setTop (mkF m 18 #[.val (.ref a36_0), .val (.ref b2), .val (.int v9), .val (.int (1 : Int32))] [(.ref a36_0), (.int (1 : Int32)), (.ref b2)])) _
    refine XS.iloadN X12.here hx rfl (hb hby d36_18) rfl ?_
    show Steps p.tables e below (T12.setTop (mkF m 19 #[.val (.ref a36_0), .val (.ref b2), .val (.int v9), .val (.int (1 : Int32))] [(.int (1 : Int32)), (.ref a36_0), (.int (1 : Int32)), (.ref b2)])) _
    refine X12.baloadBooleans hx (j := (1 : Int32)) (v := (.int x1)) (by rw [e12]; exact Ar16.1) (State.isArrayOf_alike hZ.alike Ar16.2.1) Ar16.2.2 hin16 (Hh16.at hin16 rfl) (g := (mkF m 19 #[.val (.ref a36_0), .val (.ref b2), .val (.int v9), .val (.int (1 : Int32))] [(.int (1 : Int32)), (.ref a36_0), (.int (1 : Int32)), (.ref b2)])) rfl rfl (hb hby d36_19) _ ?_
    exact k
  obtain ⟨v19, hv19⟩ : ∃ z, z = (if x1 = (0 : Int32) then v9 else (v9 + (1 : Int32))) := ⟨_, rfl⟩
  obtain ⟨v20, hv20⟩ : ∃ z, z = (if x1 = (0 : Int32) then (-1 : Int32) else v9) := ⟨_, rfl⟩
  have k21 : ∀ t, Steps p.tables e below (T12.setTop (mkF m 31 #[.val (.ref a36_0), .val (.ref b2), .val (.int v19), .val (.int (1 : Int32))] [(.int v20), (.int (1 : Int32)), (.ref b2)])) t → Steps p.tables e below (s₁.setTop (entryFrame m #[(.ref a36_0)] 4)) t := by
    intro t k
    refine k17 t ?_
    by_cases hc20_18 : x1 = (0 : Int32)
    · skip
      show Steps p.tables e below (T12.setTop (mkF m 20 #[.val (.ref a36_0), .val (.ref b2), .val (.int v9), .val (.int (1 : Int32))] [(.int x1), (.int (1 : Int32)), (.ref b2)])) _
      refine XS.ifYes X12.here hx rfl (pc0 := 20) (pc' := 30) rfl (hb hby d36_20) rfl ((if0 _ _).trans (teq hc20_18).1) (by decide) (by decide) ?_
      show Steps p.tables e below (T12.setTop (mkF m 30 #[.val (.ref a36_0), .val (.ref b2), .val (.int v9), .val (.int (1 : Int32))] [(.int (1 : Int32)), (.ref b2)])) _
      refine XS.iconst X12.here hx rfl (hb hby d36_30) ?_
      rw [show v19 = v9 from hv19.trans (by rw [if_pos hc20_18])] at k
      rw [show v20 = (-1 : Int32) from hv20.trans (by rw [if_pos hc20_18])] at k
      exact k
    · skip
      show Steps p.tables e below (T12.setTop (mkF m 20 #[.val (.ref a36_0), .val (.ref b2), .val (.int v9), .val (.int (1 : Int32))] [(.int x1), (.int (1 : Int32)), (.ref b2)])) _
      refine XS.ifNo X12.here hx rfl (hb hby d36_20) rfl ((if0 _ _).trans (feq hc20_18).1) ?_
      show Steps p.tables e below (T12.setTop (mkF m 23 #[.val (.ref a36_0), .val (.ref b2), .val (.int v9), .val (.int (1 : Int32))] [(.int (1 : Int32)), (.ref b2)])) _
      refine XS.iloadN X12.here hx rfl (hb hby d36_23) rfl ?_
      show Steps p.tables e below (T12.setTop (mkF m 24 #[.val (.ref a36_0), .val (.ref b2), .val (.int v9), .val (.int (1 : Int32))] [(.int v9), (.int (1 : Int32)), (.ref b2)])) _
      refine XS.iinc X12.here hx rfl (hb hby d36_24) rfl (l' := #[.val (.ref a36_0), .val (.ref b2), .val (.int (v9 + (1 : Int32))), .val (.int (1 : Int32))]) rfl ?_
      show Steps p.tables e below (T12.setTop (mkF m 27 #[.val (.ref a36_0), .val (.ref b2), .val (.int (v9 + (1 : Int32))), .val (.int (1 : Int32))] [(.int v9), (.int (1 : Int32)), (.ref b2)])) _
      refine XS.goto X12.here hx rfl (pc0 := 27) (pc' := 31) rfl (hb hby d36_27) (by decide) (by decide) ?_
      rw [show v19 = (v9 + (1 : Int32)) from hv19.trans (by rw [if_neg hc20_18])] at k
      rw [show v20 = v9 from hv20.trans (by rw [if_neg hc20_18])] at k
      exact k
  obtain ⟨cl22, Ar22, qc22, Sz22, Nn22, Hh22, Gg22⟩ := (id V12)
  have hin22 : ¬ ((1 : Int32) < 0 ∨ cl22.slots.size ≤ ((1 : Int32)).toNatClampNeg) := inb_of Sz22 ⟨by decide, by decide⟩
  obtain ⟨T22, h22, X22, e22, W22, st22⟩ := stI X12 hx hZ e12 Ar22 (j := (1 : Int32)) hin22 (g := (mkF m 31 #[.val (.ref a36_0), .val (.ref b2), .val (.int v19), .val (.int (1 : Int32))] [(.int v20), (.int (1 : Int32)), (.ref b2)])) rfl rfl (hb hby d36_31)
  have F23 : Arv Z h22 a36_0 kk .boolean (6 : Int32) [(.int x0), (.int x1), (.int x2), (.int x3), (.int x4), (.int x5)] (.int (0 : Int32)) := F13.other W22 ne3
  have V22 : Arv Z h22 b2 k2 .int (6 : Int32) [(.int v10), (.int v20), (.int (0 : Int32)), (.int (0 : Int32)), (.int (0 : Int32)), (.int (0 : Int32))] (.int (0 : Int32)) := Arv.set Ar22 qc22 Sz22 Nn22 Hh22 Gg22 rfl W22 1 rfl (Nat.le_of_ble_eq_true rfl)
  have N22 := Fr.snoc X22 N12 gg2
  have K22 : Keep h0 h22 [] := K12.wr W22 (Or.inr sz2)
  have Zs22 : n0 ≤ h22.size := by rw [W22.size]; exact Zs12
  obtain ⟨cl25, Ar25, qc25, Sz25, Nn25, Hh25, Gg25⟩ := (id F23)
  obtain ⟨cl26, Ar26, qc26, Sz26, Nn26, Hh26, Gg26⟩ := (id F23)
  have hin26 : ¬ ((2 : Int32) < 0 ∨ cl26.slots.size ≤ ((2 : Int32)).toNatClampNeg) := inb_of Sz26 ⟨by decide, by decide⟩
  have k27 : ∀ t, Steps p.tables e below (T22.setTop (mkF m 20 #[.val (.ref a36_0), .val (.ref b2), .val (.int v19), .val (.int (2 : Int32))] [(.int x2), (.int (2 : Int32)), (.ref b2)])) t → Steps p.tables e below (s₁.setTop (entryFrame m #[(.ref a36_0)] 4)) t := by
    intro t k
    refine k21 t ?_
    show Steps p.tables e below (T12.setTop (mkF m 31 #[.val (.ref a36_0), .val (.ref b2), .val (.int v19), .val (.int (1 : Int32))] [(.int v20), (.int (1 : Int32)), (.ref b2)])) _
    refine st22 _ ?_
    show Steps p.tables e below (T22.setTop (mkF m 32 #[.val (.ref a36_0), .val (.ref b2), .val (.int v19), .val (.int (1 : Int32))] [])) _
    refine XS.iinc X22.here hx rfl (hb hby d36_32) rfl (l' := #[.val (.ref a36_0), .val (.ref b2), .val (.int v19), .val (.int (2 : Int32))]) rfl ?_
    show Steps p.tables e below (T22.setTop (mkF m 35 #[.val (.ref a36_0), .val (.ref b2), .val (.int v19), .val (.int (2 : Int32))] [])) _
    refine XS.goto X22.here hx rfl (pc0 := 35) (pc' := 9) rfl (hb hby d36_35) (by decide) (by decide) ?_
    show Steps p.tables e below (T22.setTop (mkF m 9 #[.val (.ref a36_0), .val (.ref b2), .val (.int v19), .val (.int (2 : Int32))] [])) _
    refine XS.iloadN X22.here hx rfl (hb hby d36_9) rfl ?_
    show Steps p.tables e below (T22.setTop (mkF m 10 #[.val (.ref a36_0), .val (.ref b2), .val (.int v19), .val (.int (2 : Int32))] [(.int (2 : Int32))])) _
    refine XS.aloadN X22.here hx rfl (hb hby d36_10) rfl rfl ?_
    show Steps p.tables e below (T22.setTop (mkF m 11 #[.val (.ref a36_0), .val (.ref b2), .val (.int v19), .val (.int (2 : Int32))] [(.ref a36_0), (.int (2 : Int32))])) _
    refine X22.arraylength hx (by rw [e22]; exact Ar25.1) (State.isArrayOf_alike hZ.alike Ar25.2.1) (g := (mkF m 11 #[.val (.ref a36_0), .val (.ref b2), .val (.int v19), .val (.int (2 : Int32))] [(.ref a36_0), (.int (2 : Int32))])) rfl rfl (hb hby d36_11) _ ?_
    rw [len_of Sz25 Nn25]
    show Steps p.tables e below (T22.setTop (mkF m 12 #[.val (.ref a36_0), .val (.ref b2), .val (.int v19), .val (.int (2 : Int32))] [(.int (6 : Int32)), (.int (2 : Int32))])) _
    refine XS.icmpNo X22.here hx rfl (hb hby d36_12) rfl (tlt (by decide : (2 : Int32) < (6 : Int32))).2.1 ?_
    show Steps p.tables e below (T22.setTop (mkF m 15 #[.val (.ref a36_0), .val (.ref b2), .val (.int v19), .val (.int (2 : Int32))] [])) _
    refine XS.aloadN X22.here hx rfl (hb hby d36_15) rfl rfl ?_
    show Steps p.tables e below (T22.setTop (mkF m 16 #[.val (.ref a36_0), .val (.ref b2), .val (.int v19), .val (.int (2 : Int32))] [(.ref b2)])) _
    refine XS.iloadN X22.here hx rfl (hb hby d36_16) rfl ?_
    show Steps p.tables e below (T22.setTop (mkF m 17 #[.val (.ref a36_0), .val (.ref b2), .val (.int v19), .val (.int (2 : Int32))] [(.int (2 : Int32)), (.ref b2)])) _
    refine XS.aloadN X22.here hx rfl (hb hby d36_17) rfl rfl ?_
    show Steps p.tables e below (T22.setTop (mkF m 18 #[.val (.ref a36_0), .val (.ref b2), .val (.int v19), .val (.int (2 : Int32))] [(.ref a36_0), (.int (2 : Int32)), (.ref b2)])) _
    refine XS.iloadN X22.here hx rfl (hb hby d36_18) rfl ?_
    show Steps p.tables e below (T22.setTop (mkF m 19 #[.val (.ref a36_0), .val (.ref b2), .val (.int v19), .val (.int (2 : Int32))] [(.int (2 : Int32)), (.ref a36_0), (.int (2 : Int32)), (.ref b2)])) _
    refine X22.baloadBooleans hx (j := (2 : Int32)) (v := (.int x2)) (by rw [e22]; exact Ar26.1) (State.isArrayOf_alike hZ.alike Ar26.2.1) Ar26.2.2 hin26 (Hh26.at hin26 rfl) (g := (mkF m 19 #[.val (.ref a36_0), .val (.ref b2), .val (.int v19), .val (.int (2 : Int32))] [(.int (2 : Int32)), (.ref a36_0), (.int (2 : Int32)), (.ref b2)])) rfl rfl (hb hby d36_19) _ ?_
    exact k
  obtain ⟨v29, hv29⟩ : ∃ z, z = (if x2 = (0 : Int32) then v19 else (v19 + (1 : Int32))) := ⟨_, rfl⟩
  obtain ⟨v30, hv30⟩ : ∃ z, z = (if x2 = (0 : Int32) then (-1 : Int32) else v19) := ⟨_, rfl⟩
  have k31 : ∀ t, Steps p.tables e below (T22.setTop (mkF m 31 #[.val (.ref a36_0), .val (.ref b2), .val (.int v29), .val (.int (2 : Int32))] [(.int v30), (.int (2 : Int32)), (.ref b2)])) t → Steps p.tables e below (s₁.setTop (entryFrame m #[(.ref a36_0)] 4)) t := by
    intro t k
    refine k27 t ?_
    by_cases hc20_28 : x2 = (0 : Int32)
    · skip
      show Steps p.tables e below (T22.setTop (mkF m 20 #[.val (.ref a36_0), .val (.ref b2), .val (.int v19), .val (.int (2 : Int32))] [(.int x2), (.int (2 : Int32)), (.ref b2)])) _
      refine XS.ifYes X22.here hx rfl (pc0 := 20) (pc' := 30) rfl (hb hby d36_20) rfl ((if0 _ _).trans (teq hc20_28).1) (by decide) (by decide) ?_
      show Steps p.tables e below (T22.setTop (mkF m 30 #[.val (.ref a36_0), .val (.ref b2), .val (.int v19), .val (.int (2 : Int32))] [(.int (2 : Int32)), (.ref b2)])) _
      refine XS.iconst X22.here hx rfl (hb hby d36_30) ?_
      rw [show v29 = v19 from hv29.trans (by rw [if_pos hc20_28])] at k
      rw [show v30 = (-1 : Int32) from hv30.trans (by rw [if_pos hc20_28])] at k
      exact k
    · skip
      show Steps p.tables e below (T22.setTop (mkF m 20 #[.val (.ref a36_0), .val (.ref b2), .val (.int v19), .val (.int (2 : Int32))] [(.int x2), (.int (2 : Int32)), (.ref b2)])) _
      refine XS.ifNo X22.here hx rfl (hb hby d36_20) rfl ((if0 _ _).trans (feq hc20_28).1) ?_
      show Steps p.tables e below (T22.setTop (mkF m 23 #[.val (.ref a36_0), .val (.ref b2), .val (.int v19), .val (.int (2 : Int32))] [(.int (2 : Int32)), (.ref b2)])) _
      refine XS.iloadN X22.here hx rfl (hb hby d36_23) rfl ?_
      show Steps p.tables e below (T22.setTop (mkF m 24 #[.val (.ref a36_0), .val (.ref b2), .val (.int v19), .val (.int (2 : Int32))] [(.int v19), (.int (2 : Int32)), (.ref b2)])) _
      refine XS.iinc X22.here hx rfl (hb hby d36_24) rfl (l' := #[.val (.ref a36_0), .val (.ref b2), .val (.int (v19 + (1 : Int32))), .val (.int (2 : Int32))]) rfl ?_
      show Steps p.tables e below (T22.setTop (mkF m 27 #[.val (.ref a36_0), .val (.ref b2), .val (.int (v19 + (1 : Int32))), .val (.int (2 : Int32))] [(.int v19), (.int (2 : Int32)), (.ref b2)])) _
      refine XS.goto X22.here hx rfl (pc0 := 27) (pc' := 31) rfl (hb hby d36_27) (by decide) (by decide) ?_
      rw [show v29 = (v19 + (1 : Int32)) from hv29.trans (by rw [if_neg hc20_28])] at k
      rw [show v30 = v19 from hv30.trans (by rw [if_neg hc20_28])] at k
      exact k
  obtain ⟨cl32, Ar32, qc32, Sz32, Nn32, Hh32, Gg32⟩ := (id V22)
  have hin32 : ¬ ((2 : Int32) < 0 ∨ cl32.slots.size ≤ ((2 : Int32)).toNatClampNeg) := inb_of Sz32 ⟨by decide, by decide⟩
  obtain ⟨T32, h32, X32, e32, W32, st32⟩ := stI X22 hx hZ e22 Ar32 (j := (2 : Int32)) hin32 (g := (mkF m 31 #[.val (.ref a36_0), .val (.ref b2), .val (.int v29), .val (.int (2 : Int32))] [(.int v30), (.int (2 : Int32)), (.ref b2)])) rfl rfl (hb hby d36_31)
  have F33 : Arv Z h32 a36_0 kk .boolean (6 : Int32) [(.int x0), (.int x1), (.int x2), (.int x3), (.int x4), (.int x5)] (.int (0 : Int32)) := F23.other W32 ne3
  have V32 : Arv Z h32 b2 k2 .int (6 : Int32) [(.int v10), (.int v20), (.int v30), (.int (0 : Int32)), (.int (0 : Int32)), (.int (0 : Int32))] (.int (0 : Int32)) := Arv.set Ar32 qc32 Sz32 Nn32 Hh32 Gg32 rfl W32 2 rfl (Nat.le_of_ble_eq_true rfl)
  have N32 := Fr.snoc X32 N22 gg2
  have K32 : Keep h0 h32 [] := K22.wr W32 (Or.inr sz2)
  have Zs32 : n0 ≤ h32.size := by rw [W32.size]; exact Zs22
  obtain ⟨cl35, Ar35, qc35, Sz35, Nn35, Hh35, Gg35⟩ := (id F33)
  obtain ⟨cl36, Ar36, qc36, Sz36, Nn36, Hh36, Gg36⟩ := (id F33)
  have hin36 : ¬ ((3 : Int32) < 0 ∨ cl36.slots.size ≤ ((3 : Int32)).toNatClampNeg) := inb_of Sz36 ⟨by decide, by decide⟩
  have k37 : ∀ t, Steps p.tables e below (T32.setTop (mkF m 20 #[.val (.ref a36_0), .val (.ref b2), .val (.int v29), .val (.int (3 : Int32))] [(.int x3), (.int (3 : Int32)), (.ref b2)])) t → Steps p.tables e below (s₁.setTop (entryFrame m #[(.ref a36_0)] 4)) t := by
    intro t k
    refine k31 t ?_
    show Steps p.tables e below (T22.setTop (mkF m 31 #[.val (.ref a36_0), .val (.ref b2), .val (.int v29), .val (.int (2 : Int32))] [(.int v30), (.int (2 : Int32)), (.ref b2)])) _
    refine st32 _ ?_
    show Steps p.tables e below (T32.setTop (mkF m 32 #[.val (.ref a36_0), .val (.ref b2), .val (.int v29), .val (.int (2 : Int32))] [])) _
    refine XS.iinc X32.here hx rfl (hb hby d36_32) rfl (l' := #[.val (.ref a36_0), .val (.ref b2), .val (.int v29), .val (.int (3 : Int32))]) rfl ?_
    show Steps p.tables e below (T32.setTop (mkF m 35 #[.val (.ref a36_0), .val (.ref b2), .val (.int v29), .val (.int (3 : Int32))] [])) _
    refine XS.goto X32.here hx rfl (pc0 := 35) (pc' := 9) rfl (hb hby d36_35) (by decide) (by decide) ?_
    show Steps p.tables e below (T32.setTop (mkF m 9 #[.val (.ref a36_0), .val (.ref b2), .val (.int v29), .val (.int (3 : Int32))] [])) _
    refine XS.iloadN X32.here hx rfl (hb hby d36_9) rfl ?_
    show Steps p.tables e below (T32.setTop (mkF m 10 #[.val (.ref a36_0), .val (.ref b2), .val (.int v29), .val (.int (3 : Int32))] [(.int (3 : Int32))])) _
    refine XS.aloadN X32.here hx rfl (hb hby d36_10) rfl rfl ?_
    show Steps p.tables e below (T32.setTop (mkF m 11 #[.val (.ref a36_0), .val (.ref b2), .val (.int v29), .val (.int (3 : Int32))] [(.ref a36_0), (.int (3 : Int32))])) _
    refine X32.arraylength hx (by rw [e32]; exact Ar35.1) (State.isArrayOf_alike hZ.alike Ar35.2.1) (g := (mkF m 11 #[.val (.ref a36_0), .val (.ref b2), .val (.int v29), .val (.int (3 : Int32))] [(.ref a36_0), (.int (3 : Int32))])) rfl rfl (hb hby d36_11) _ ?_
    rw [len_of Sz35 Nn35]
    show Steps p.tables e below (T32.setTop (mkF m 12 #[.val (.ref a36_0), .val (.ref b2), .val (.int v29), .val (.int (3 : Int32))] [(.int (6 : Int32)), (.int (3 : Int32))])) _
    refine XS.icmpNo X32.here hx rfl (hb hby d36_12) rfl (tlt (by decide : (3 : Int32) < (6 : Int32))).2.1 ?_
    show Steps p.tables e below (T32.setTop (mkF m 15 #[.val (.ref a36_0), .val (.ref b2), .val (.int v29), .val (.int (3 : Int32))] [])) _
    refine XS.aloadN X32.here hx rfl (hb hby d36_15) rfl rfl ?_
    show Steps p.tables e below (T32.setTop (mkF m 16 #[.val (.ref a36_0), .val (.ref b2), .val (.int v29), .val (.int (3 : Int32))] [(.ref b2)])) _
    refine XS.iloadN X32.here hx rfl (hb hby d36_16) rfl ?_
    show Steps p.tables e below (T32.setTop (mkF m 17 #[.val (.ref a36_0), .val (.ref b2), .val (.int v29), .val (.int (3 : Int32))] [(.int (3 : Int32)), (.ref b2)])) _
    refine XS.aloadN X32.here hx rfl (hb hby d36_17) rfl rfl ?_
    show Steps p.tables e below (T32.setTop (mkF m 18 #[.val (.ref a36_0), .val (.ref b2), .val (.int v29), .val (.int (3 : Int32))] [(.ref a36_0), (.int (3 : Int32)), (.ref b2)])) _
    refine XS.iloadN X32.here hx rfl (hb hby d36_18) rfl ?_
    show Steps p.tables e below (T32.setTop (mkF m 19 #[.val (.ref a36_0), .val (.ref b2), .val (.int v29), .val (.int (3 : Int32))] [(.int (3 : Int32)), (.ref a36_0), (.int (3 : Int32)), (.ref b2)])) _
    refine X32.baloadBooleans hx (j := (3 : Int32)) (v := (.int x3)) (by rw [e32]; exact Ar36.1) (State.isArrayOf_alike hZ.alike Ar36.2.1) Ar36.2.2 hin36 (Hh36.at hin36 rfl) (g := (mkF m 19 #[.val (.ref a36_0), .val (.ref b2), .val (.int v29), .val (.int (3 : Int32))] [(.int (3 : Int32)), (.ref a36_0), (.int (3 : Int32)), (.ref b2)])) rfl rfl (hb hby d36_19) _ ?_
    exact k
  obtain ⟨v39, hv39⟩ : ∃ z, z = (if x3 = (0 : Int32) then v29 else (v29 + (1 : Int32))) := ⟨_, rfl⟩
  obtain ⟨v40, hv40⟩ : ∃ z, z = (if x3 = (0 : Int32) then (-1 : Int32) else v29) := ⟨_, rfl⟩
  have k41 : ∀ t, Steps p.tables e below (T32.setTop (mkF m 31 #[.val (.ref a36_0), .val (.ref b2), .val (.int v39), .val (.int (3 : Int32))] [(.int v40), (.int (3 : Int32)), (.ref b2)])) t → Steps p.tables e below (s₁.setTop (entryFrame m #[(.ref a36_0)] 4)) t := by
    intro t k
    refine k37 t ?_
    by_cases hc20_38 : x3 = (0 : Int32)
    · skip
      show Steps p.tables e below (T32.setTop (mkF m 20 #[.val (.ref a36_0), .val (.ref b2), .val (.int v29), .val (.int (3 : Int32))] [(.int x3), (.int (3 : Int32)), (.ref b2)])) _
      refine XS.ifYes X32.here hx rfl (pc0 := 20) (pc' := 30) rfl (hb hby d36_20) rfl ((if0 _ _).trans (teq hc20_38).1) (by decide) (by decide) ?_
      show Steps p.tables e below (T32.setTop (mkF m 30 #[.val (.ref a36_0), .val (.ref b2), .val (.int v29), .val (.int (3 : Int32))] [(.int (3 : Int32)), (.ref b2)])) _
      refine XS.iconst X32.here hx rfl (hb hby d36_30) ?_
      rw [show v39 = v29 from hv39.trans (by rw [if_pos hc20_38])] at k
      rw [show v40 = (-1 : Int32) from hv40.trans (by rw [if_pos hc20_38])] at k
      exact k
    · skip
      show Steps p.tables e below (T32.setTop (mkF m 20 #[.val (.ref a36_0), .val (.ref b2), .val (.int v29), .val (.int (3 : Int32))] [(.int x3), (.int (3 : Int32)), (.ref b2)])) _
      refine XS.ifNo X32.here hx rfl (hb hby d36_20) rfl ((if0 _ _).trans (feq hc20_38).1) ?_
      show Steps p.tables e below (T32.setTop (mkF m 23 #[.val (.ref a36_0), .val (.ref b2), .val (.int v29), .val (.int (3 : Int32))] [(.int (3 : Int32)), (.ref b2)])) _
      refine XS.iloadN X32.here hx rfl (hb hby d36_23) rfl ?_
      show Steps p.tables e below (T32.setTop (mkF m 24 #[.val (.ref a36_0), .val (.ref b2), .val (.int v29), .val (.int (3 : Int32))] [(.int v29), (.int (3 : Int32)), (.ref b2)])) _
      refine XS.iinc X32.here hx rfl (hb hby d36_24) rfl (l' := #[.val (.ref a36_0), .val (.ref b2), .val (.int (v29 + (1 : Int32))), .val (.int (3 : Int32))]) rfl ?_
      show Steps p.tables e below (T32.setTop (mkF m 27 #[.val (.ref a36_0), .val (.ref b2), .val (.int (v29 + (1 : Int32))), .val (.int (3 : Int32))] [(.int v29), (.int (3 : Int32)), (.ref b2)])) _
      refine XS.goto X32.here hx rfl (pc0 := 27) (pc' := 31) rfl (hb hby d36_27) (by decide) (by decide) ?_
      rw [show v39 = (v29 + (1 : Int32)) from hv39.trans (by rw [if_neg hc20_38])] at k
      rw [show v40 = v29 from hv40.trans (by rw [if_neg hc20_38])] at k
      exact k
  obtain ⟨cl42, Ar42, qc42, Sz42, Nn42, Hh42, Gg42⟩ := (id V32)
  have hin42 : ¬ ((3 : Int32) < 0 ∨ cl42.slots.size ≤ ((3 : Int32)).toNatClampNeg) := inb_of Sz42 ⟨by decide, by decide⟩
  obtain ⟨T42, h42, X42, e42, W42, st42⟩ := stI X32 hx hZ e32 Ar42 (j := (3 : Int32)) hin42 (g := (mkF m 31 #[.val (.ref a36_0), .val (.ref b2), .val (.int v39), .val (.int (3 : Int32))] [(.int v40), (.int (3 : Int32)), (.ref b2)])) rfl rfl (hb hby d36_31)
  have F43 : Arv Z h42 a36_0 kk .boolean (6 : Int32) [(.int x0), (.int x1), (.int x2), (.int x3), (.int x4), (.int x5)] (.int (0 : Int32)) := F33.other W42 ne3
  have V42 : Arv Z h42 b2 k2 .int (6 : Int32) [(.int v10), (.int v20), (.int v30), (.int v40), (.int (0 : Int32)), (.int (0 : Int32))] (.int (0 : Int32)) := Arv.set Ar42 qc42 Sz42 Nn42 Hh42 Gg42 rfl W42 3 rfl (Nat.le_of_ble_eq_true rfl)
  have N42 := Fr.snoc X42 N32 gg2
  have K42 : Keep h0 h42 [] := K32.wr W42 (Or.inr sz2)
  have Zs42 : n0 ≤ h42.size := by rw [W42.size]; exact Zs32
  obtain ⟨cl45, Ar45, qc45, Sz45, Nn45, Hh45, Gg45⟩ := (id F43)
  obtain ⟨cl46, Ar46, qc46, Sz46, Nn46, Hh46, Gg46⟩ := (id F43)
  have hin46 : ¬ ((4 : Int32) < 0 ∨ cl46.slots.size ≤ ((4 : Int32)).toNatClampNeg) := inb_of Sz46 ⟨by decide, by decide⟩
  have k47 : ∀ t, Steps p.tables e below (T42.setTop (mkF m 20 #[.val (.ref a36_0), .val (.ref b2), .val (.int v39), .val (.int (4 : Int32))] [(.int x4), (.int (4 : Int32)), (.ref b2)])) t → Steps p.tables e below (s₁.setTop (entryFrame m #[(.ref a36_0)] 4)) t := by
    intro t k
    refine k41 t ?_
    show Steps p.tables e below (T32.setTop (mkF m 31 #[.val (.ref a36_0), .val (.ref b2), .val (.int v39), .val (.int (3 : Int32))] [(.int v40), (.int (3 : Int32)), (.ref b2)])) _
    refine st42 _ ?_
    show Steps p.tables e below (T42.setTop (mkF m 32 #[.val (.ref a36_0), .val (.ref b2), .val (.int v39), .val (.int (3 : Int32))] [])) _
    refine XS.iinc X42.here hx rfl (hb hby d36_32) rfl (l' := #[.val (.ref a36_0), .val (.ref b2), .val (.int v39), .val (.int (4 : Int32))]) rfl ?_
    show Steps p.tables e below (T42.setTop (mkF m 35 #[.val (.ref a36_0), .val (.ref b2), .val (.int v39), .val (.int (4 : Int32))] [])) _
    refine XS.goto X42.here hx rfl (pc0 := 35) (pc' := 9) rfl (hb hby d36_35) (by decide) (by decide) ?_
    show Steps p.tables e below (T42.setTop (mkF m 9 #[.val (.ref a36_0), .val (.ref b2), .val (.int v39), .val (.int (4 : Int32))] [])) _
    refine XS.iloadN X42.here hx rfl (hb hby d36_9) rfl ?_
    show Steps p.tables e below (T42.setTop (mkF m 10 #[.val (.ref a36_0), .val (.ref b2), .val (.int v39), .val (.int (4 : Int32))] [(.int (4 : Int32))])) _
    refine XS.aloadN X42.here hx rfl (hb hby d36_10) rfl rfl ?_
    show Steps p.tables e below (T42.setTop (mkF m 11 #[.val (.ref a36_0), .val (.ref b2), .val (.int v39), .val (.int (4 : Int32))] [(.ref a36_0), (.int (4 : Int32))])) _
    refine X42.arraylength hx (by rw [e42]; exact Ar45.1) (State.isArrayOf_alike hZ.alike Ar45.2.1) (g := (mkF m 11 #[.val (.ref a36_0), .val (.ref b2), .val (.int v39), .val (.int (4 : Int32))] [(.ref a36_0), (.int (4 : Int32))])) rfl rfl (hb hby d36_11) _ ?_
    rw [len_of Sz45 Nn45]
    show Steps p.tables e below (T42.setTop (mkF m 12 #[.val (.ref a36_0), .val (.ref b2), .val (.int v39), .val (.int (4 : Int32))] [(.int (6 : Int32)), (.int (4 : Int32))])) _
    refine XS.icmpNo X42.here hx rfl (hb hby d36_12) rfl (tlt (by decide : (4 : Int32) < (6 : Int32))).2.1 ?_
    show Steps p.tables e below (T42.setTop (mkF m 15 #[.val (.ref a36_0), .val (.ref b2), .val (.int v39), .val (.int (4 : Int32))] [])) _
    refine XS.aloadN X42.here hx rfl (hb hby d36_15) rfl rfl ?_
    show Steps p.tables e below (T42.setTop (mkF m 16 #[.val (.ref a36_0), .val (.ref b2), .val (.int v39), .val (.int (4 : Int32))] [(.ref b2)])) _
    refine XS.iloadN X42.here hx rfl (hb hby d36_16) rfl ?_
    show Steps p.tables e below (T42.setTop (mkF m 17 #[.val (.ref a36_0), .val (.ref b2), .val (.int v39), .val (.int (4 : Int32))] [(.int (4 : Int32)), (.ref b2)])) _
    refine XS.aloadN X42.here hx rfl (hb hby d36_17) rfl rfl ?_
    show Steps p.tables e below (T42.setTop (mkF m 18 #[.val (.ref a36_0), .val (.ref b2), .val (.int v39), .val (.int (4 : Int32))] [(.ref a36_0), (.int (4 : Int32)), (.ref b2)])) _
    refine XS.iloadN X42.here hx rfl (hb hby d36_18) rfl ?_
    show Steps p.tables e below (T42.setTop (mkF m 19 #[.val (.ref a36_0), .val (.ref b2), .val (.int v39), .val (.int (4 : Int32))] [(.int (4 : Int32)), (.ref a36_0), (.int (4 : Int32)), (.ref b2)])) _
    refine X42.baloadBooleans hx (j := (4 : Int32)) (v := (.int x4)) (by rw [e42]; exact Ar46.1) (State.isArrayOf_alike hZ.alike Ar46.2.1) Ar46.2.2 hin46 (Hh46.at hin46 rfl) (g := (mkF m 19 #[.val (.ref a36_0), .val (.ref b2), .val (.int v39), .val (.int (4 : Int32))] [(.int (4 : Int32)), (.ref a36_0), (.int (4 : Int32)), (.ref b2)])) rfl rfl (hb hby d36_19) _ ?_
    exact k
  obtain ⟨v49, hv49⟩ : ∃ z, z = (if x4 = (0 : Int32) then v39 else (v39 + (1 : Int32))) := ⟨_, rfl⟩
  obtain ⟨v50, hv50⟩ : ∃ z, z = (if x4 = (0 : Int32) then (-1 : Int32) else v39) := ⟨_, rfl⟩
  have k51 : ∀ t, Steps p.tables e below (T42.setTop (mkF m 31 #[.val (.ref a36_0), .val (.ref b2), .val (.int v49), .val (.int (4 : Int32))] [(.int v50), (.int (4 : Int32)), (.ref b2)])) t → Steps p.tables e below (s₁.setTop (entryFrame m #[(.ref a36_0)] 4)) t := by
    intro t k
    refine k47 t ?_
    by_cases hc20_48 : x4 = (0 : Int32)
    · skip
      show Steps p.tables e below (T42.setTop (mkF m 20 #[.val (.ref a36_0), .val (.ref b2), .val (.int v39), .val (.int (4 : Int32))] [(.int x4), (.int (4 : Int32)), (.ref b2)])) _
      refine XS.ifYes X42.here hx rfl (pc0 := 20) (pc' := 30) rfl (hb hby d36_20) rfl ((if0 _ _).trans (teq hc20_48).1) (by decide) (by decide) ?_
      show Steps p.tables e below (T42.setTop (mkF m 30 #[.val (.ref a36_0), .val (.ref b2), .val (.int v39), .val (.int (4 : Int32))] [(.int (4 : Int32)), (.ref b2)])) _
      refine XS.iconst X42.here hx rfl (hb hby d36_30) ?_
      rw [show v49 = v39 from hv49.trans (by rw [if_pos hc20_48])] at k
      rw [show v50 = (-1 : Int32) from hv50.trans (by rw [if_pos hc20_48])] at k
      exact k
    · skip
      show Steps p.tables e below (T42.setTop (mkF m 20 #[.val (.ref a36_0), .val (.ref b2), .val (.int v39), .val (.int (4 : Int32))] [(.int x4), (.int (4 : Int32)), (.ref b2)])) _
      refine XS.ifNo X42.here hx rfl (hb hby d36_20) rfl ((if0 _ _).trans (feq hc20_48).1) ?_
      show Steps p.tables e below (T42.setTop (mkF m 23 #[.val (.ref a36_0), .val (.ref b2), .val (.int v39), .val (.int (4 : Int32))] [(.int (4 : Int32)), (.ref b2)])) _
      refine XS.iloadN X42.here hx rfl (hb hby d36_23) rfl ?_
      show Steps p.tables e below (T42.setTop (mkF m 24 #[.val (.ref a36_0), .val (.ref b2), .val (.int v39), .val (.int (4 : Int32))] [(.int v39), (.int (4 : Int32)), (.ref b2)])) _
      refine XS.iinc X42.here hx rfl (hb hby d36_24) rfl (l' := #[.val (.ref a36_0), .val (.ref b2), .val (.int (v39 + (1 : Int32))), .val (.int (4 : Int32))]) rfl ?_
      show Steps p.tables e below (T42.setTop (mkF m 27 #[.val (.ref a36_0), .val (.ref b2), .val (.int (v39 + (1 : Int32))), .val (.int (4 : Int32))] [(.int v39), (.int (4 : Int32)), (.ref b2)])) _
      refine XS.goto X42.here hx rfl (pc0 := 27) (pc' := 31) rfl (hb hby d36_27) (by decide) (by decide) ?_
      rw [show v49 = (v39 + (1 : Int32)) from hv49.trans (by rw [if_neg hc20_48])] at k
      rw [show v50 = v39 from hv50.trans (by rw [if_neg hc20_48])] at k
      exact k
  obtain ⟨cl52, Ar52, qc52, Sz52, Nn52, Hh52, Gg52⟩ := (id V42)
  have hin52 : ¬ ((4 : Int32) < 0 ∨ cl52.slots.size ≤ ((4 : Int32)).toNatClampNeg) := inb_of Sz52 ⟨by decide, by decide⟩
  obtain ⟨T52, h52, X52, e52, W52, st52⟩ := stI X42 hx hZ e42 Ar52 (j := (4 : Int32)) hin52 (g := (mkF m 31 #[.val (.ref a36_0), .val (.ref b2), .val (.int v49), .val (.int (4 : Int32))] [(.int v50), (.int (4 : Int32)), (.ref b2)])) rfl rfl (hb hby d36_31)
  have F53 : Arv Z h52 a36_0 kk .boolean (6 : Int32) [(.int x0), (.int x1), (.int x2), (.int x3), (.int x4), (.int x5)] (.int (0 : Int32)) := F43.other W52 ne3
  have V52 : Arv Z h52 b2 k2 .int (6 : Int32) [(.int v10), (.int v20), (.int v30), (.int v40), (.int v50), (.int (0 : Int32))] (.int (0 : Int32)) := Arv.set Ar52 qc52 Sz52 Nn52 Hh52 Gg52 rfl W52 4 rfl (Nat.le_of_ble_eq_true rfl)
  have N52 := Fr.snoc X52 N42 gg2
  have K52 : Keep h0 h52 [] := K42.wr W52 (Or.inr sz2)
  have Zs52 : n0 ≤ h52.size := by rw [W52.size]; exact Zs42
  obtain ⟨cl55, Ar55, qc55, Sz55, Nn55, Hh55, Gg55⟩ := (id F53)
  obtain ⟨cl56, Ar56, qc56, Sz56, Nn56, Hh56, Gg56⟩ := (id F53)
  have hin56 : ¬ ((5 : Int32) < 0 ∨ cl56.slots.size ≤ ((5 : Int32)).toNatClampNeg) := inb_of Sz56 ⟨by decide, by decide⟩
  have k57 : ∀ t, Steps p.tables e below (T52.setTop (mkF m 20 #[.val (.ref a36_0), .val (.ref b2), .val (.int v49), .val (.int (5 : Int32))] [(.int x5), (.int (5 : Int32)), (.ref b2)])) t → Steps p.tables e below (s₁.setTop (entryFrame m #[(.ref a36_0)] 4)) t := by
    intro t k
    refine k51 t ?_
    show Steps p.tables e below (T42.setTop (mkF m 31 #[.val (.ref a36_0), .val (.ref b2), .val (.int v49), .val (.int (4 : Int32))] [(.int v50), (.int (4 : Int32)), (.ref b2)])) _
    refine st52 _ ?_
    show Steps p.tables e below (T52.setTop (mkF m 32 #[.val (.ref a36_0), .val (.ref b2), .val (.int v49), .val (.int (4 : Int32))] [])) _
    refine XS.iinc X52.here hx rfl (hb hby d36_32) rfl (l' := #[.val (.ref a36_0), .val (.ref b2), .val (.int v49), .val (.int (5 : Int32))]) rfl ?_
    show Steps p.tables e below (T52.setTop (mkF m 35 #[.val (.ref a36_0), .val (.ref b2), .val (.int v49), .val (.int (5 : Int32))] [])) _
    refine XS.goto X52.here hx rfl (pc0 := 35) (pc' := 9) rfl (hb hby d36_35) (by decide) (by decide) ?_
    show Steps p.tables e below (T52.setTop (mkF m 9 #[.val (.ref a36_0), .val (.ref b2), .val (.int v49), .val (.int (5 : Int32))] [])) _
    refine XS.iloadN X52.here hx rfl (hb hby d36_9) rfl ?_
    show Steps p.tables e below (T52.setTop (mkF m 10 #[.val (.ref a36_0), .val (.ref b2), .val (.int v49), .val (.int (5 : Int32))] [(.int (5 : Int32))])) _
    refine XS.aloadN X52.here hx rfl (hb hby d36_10) rfl rfl ?_
    show Steps p.tables e below (T52.setTop (mkF m 11 #[.val (.ref a36_0), .val (.ref b2), .val (.int v49), .val (.int (5 : Int32))] [(.ref a36_0), (.int (5 : Int32))])) _
    refine X52.arraylength hx (by rw [e52]; exact Ar55.1) (State.isArrayOf_alike hZ.alike Ar55.2.1) (g := (mkF m 11 #[.val (.ref a36_0), .val (.ref b2), .val (.int v49), .val (.int (5 : Int32))] [(.ref a36_0), (.int (5 : Int32))])) rfl rfl (hb hby d36_11) _ ?_
    rw [len_of Sz55 Nn55]
    show Steps p.tables e below (T52.setTop (mkF m 12 #[.val (.ref a36_0), .val (.ref b2), .val (.int v49), .val (.int (5 : Int32))] [(.int (6 : Int32)), (.int (5 : Int32))])) _
    refine XS.icmpNo X52.here hx rfl (hb hby d36_12) rfl (tlt (by decide : (5 : Int32) < (6 : Int32))).2.1 ?_
    show Steps p.tables e below (T52.setTop (mkF m 15 #[.val (.ref a36_0), .val (.ref b2), .val (.int v49), .val (.int (5 : Int32))] [])) _
    refine XS.aloadN X52.here hx rfl (hb hby d36_15) rfl rfl ?_
    show Steps p.tables e below (T52.setTop (mkF m 16 #[.val (.ref a36_0), .val (.ref b2), .val (.int v49), .val (.int (5 : Int32))] [(.ref b2)])) _
    refine XS.iloadN X52.here hx rfl (hb hby d36_16) rfl ?_
    show Steps p.tables e below (T52.setTop (mkF m 17 #[.val (.ref a36_0), .val (.ref b2), .val (.int v49), .val (.int (5 : Int32))] [(.int (5 : Int32)), (.ref b2)])) _
    refine XS.aloadN X52.here hx rfl (hb hby d36_17) rfl rfl ?_
    show Steps p.tables e below (T52.setTop (mkF m 18 #[.val (.ref a36_0), .val (.ref b2), .val (.int v49), .val (.int (5 : Int32))] [(.ref a36_0), (.int (5 : Int32)), (.ref b2)])) _
    refine XS.iloadN X52.here hx rfl (hb hby d36_18) rfl ?_
    show Steps p.tables e below (T52.setTop (mkF m 19 #[.val (.ref a36_0), .val (.ref b2), .val (.int v49), .val (.int (5 : Int32))] [(.int (5 : Int32)), (.ref a36_0), (.int (5 : Int32)), (.ref b2)])) _
    refine X52.baloadBooleans hx (j := (5 : Int32)) (v := (.int x5)) (by rw [e52]; exact Ar56.1) (State.isArrayOf_alike hZ.alike Ar56.2.1) Ar56.2.2 hin56 (Hh56.at hin56 rfl) (g := (mkF m 19 #[.val (.ref a36_0), .val (.ref b2), .val (.int v49), .val (.int (5 : Int32))] [(.int (5 : Int32)), (.ref a36_0), (.int (5 : Int32)), (.ref b2)])) rfl rfl (hb hby d36_19) _ ?_
    exact k
  obtain ⟨v59, hv59⟩ : ∃ z, z = (if x5 = (0 : Int32) then v49 else (v49 + (1 : Int32))) := ⟨_, rfl⟩
  obtain ⟨v60, hv60⟩ : ∃ z, z = (if x5 = (0 : Int32) then (-1 : Int32) else v49) := ⟨_, rfl⟩
  have k61 : ∀ t, Steps p.tables e below (T52.setTop (mkF m 31 #[.val (.ref a36_0), .val (.ref b2), .val (.int v59), .val (.int (5 : Int32))] [(.int v60), (.int (5 : Int32)), (.ref b2)])) t → Steps p.tables e below (s₁.setTop (entryFrame m #[(.ref a36_0)] 4)) t := by
    intro t k
    refine k57 t ?_
    by_cases hc20_58 : x5 = (0 : Int32)
    · skip
      show Steps p.tables e below (T52.setTop (mkF m 20 #[.val (.ref a36_0), .val (.ref b2), .val (.int v49), .val (.int (5 : Int32))] [(.int x5), (.int (5 : Int32)), (.ref b2)])) _
      refine XS.ifYes X52.here hx rfl (pc0 := 20) (pc' := 30) rfl (hb hby d36_20) rfl ((if0 _ _).trans (teq hc20_58).1) (by decide) (by decide) ?_
      show Steps p.tables e below (T52.setTop (mkF m 30 #[.val (.ref a36_0), .val (.ref b2), .val (.int v49), .val (.int (5 : Int32))] [(.int (5 : Int32)), (.ref b2)])) _
      refine XS.iconst X52.here hx rfl (hb hby d36_30) ?_
      rw [show v59 = v49 from hv59.trans (by rw [if_pos hc20_58])] at k
      rw [show v60 = (-1 : Int32) from hv60.trans (by rw [if_pos hc20_58])] at k
      exact k
    · skip
      show Steps p.tables e below (T52.setTop (mkF m 20 #[.val (.ref a36_0), .val (.ref b2), .val (.int v49), .val (.int (5 : Int32))] [(.int x5), (.int (5 : Int32)), (.ref b2)])) _
      refine XS.ifNo X52.here hx rfl (hb hby d36_20) rfl ((if0 _ _).trans (feq hc20_58).1) ?_
      show Steps p.tables e below (T52.setTop (mkF m 23 #[.val (.ref a36_0), .val (.ref b2), .val (.int v49), .val (.int (5 : Int32))] [(.int (5 : Int32)), (.ref b2)])) _
      refine XS.iloadN X52.here hx rfl (hb hby d36_23) rfl ?_
      show Steps p.tables e below (T52.setTop (mkF m 24 #[.val (.ref a36_0), .val (.ref b2), .val (.int v49), .val (.int (5 : Int32))] [(.int v49), (.int (5 : Int32)), (.ref b2)])) _
      refine XS.iinc X52.here hx rfl (hb hby d36_24) rfl (l' := #[.val (.ref a36_0), .val (.ref b2), .val (.int (v49 + (1 : Int32))), .val (.int (5 : Int32))]) rfl ?_
      show Steps p.tables e below (T52.setTop (mkF m 27 #[.val (.ref a36_0), .val (.ref b2), .val (.int (v49 + (1 : Int32))), .val (.int (5 : Int32))] [(.int v49), (.int (5 : Int32)), (.ref b2)])) _
      refine XS.goto X52.here hx rfl (pc0 := 27) (pc' := 31) rfl (hb hby d36_27) (by decide) (by decide) ?_
      rw [show v59 = (v49 + (1 : Int32)) from hv59.trans (by rw [if_neg hc20_58])] at k
      rw [show v60 = v49 from hv60.trans (by rw [if_neg hc20_58])] at k
      exact k
  obtain ⟨cl62, Ar62, qc62, Sz62, Nn62, Hh62, Gg62⟩ := (id V52)
  have hin62 : ¬ ((5 : Int32) < 0 ∨ cl62.slots.size ≤ ((5 : Int32)).toNatClampNeg) := inb_of Sz62 ⟨by decide, by decide⟩
  obtain ⟨T62, h62, X62, e62, W62, st62⟩ := stI X52 hx hZ e52 Ar62 (j := (5 : Int32)) hin62 (g := (mkF m 31 #[.val (.ref a36_0), .val (.ref b2), .val (.int v59), .val (.int (5 : Int32))] [(.int v60), (.int (5 : Int32)), (.ref b2)])) rfl rfl (hb hby d36_31)
  have F63 : Arv Z h62 a36_0 kk .boolean (6 : Int32) [(.int x0), (.int x1), (.int x2), (.int x3), (.int x4), (.int x5)] (.int (0 : Int32)) := F53.other W62 ne3
  have V62 : Arv Z h62 b2 k2 .int (6 : Int32) [(.int v10), (.int v20), (.int v30), (.int v40), (.int v50), (.int v60)] (.int (0 : Int32)) := Arv.set Ar62 qc62 Sz62 Nn62 Hh62 Gg62 rfl W62 5 rfl (Nat.le_of_ble_eq_true rfl)
  have N62 := Fr.snoc X62 N52 gg2
  have K62 : Keep h0 h62 [] := K52.wr W62 (Or.inr sz2)
  have Zs62 : n0 ≤ h62.size := by rw [W62.size]; exact Zs52
  obtain ⟨cl65, Ar65, qc65, Sz65, Nn65, Hh65, Gg65⟩ := (id F63)
  have k66 : ∀ t, Steps p.tables e below (T62.setTop (mkF m 39 #[.val (.ref a36_0), .val (.ref b2), .val (.int v59), .val (.int (6 : Int32))] [(.ref b2)])) t → Steps p.tables e below (s₁.setTop (entryFrame m #[(.ref a36_0)] 4)) t := by
    intro t k
    refine k61 t ?_
    show Steps p.tables e below (T52.setTop (mkF m 31 #[.val (.ref a36_0), .val (.ref b2), .val (.int v59), .val (.int (5 : Int32))] [(.int v60), (.int (5 : Int32)), (.ref b2)])) _
    refine st62 _ ?_
    show Steps p.tables e below (T62.setTop (mkF m 32 #[.val (.ref a36_0), .val (.ref b2), .val (.int v59), .val (.int (5 : Int32))] [])) _
    refine XS.iinc X62.here hx rfl (hb hby d36_32) rfl (l' := #[.val (.ref a36_0), .val (.ref b2), .val (.int v59), .val (.int (6 : Int32))]) rfl ?_
    show Steps p.tables e below (T62.setTop (mkF m 35 #[.val (.ref a36_0), .val (.ref b2), .val (.int v59), .val (.int (6 : Int32))] [])) _
    refine XS.goto X62.here hx rfl (pc0 := 35) (pc' := 9) rfl (hb hby d36_35) (by decide) (by decide) ?_
    show Steps p.tables e below (T62.setTop (mkF m 9 #[.val (.ref a36_0), .val (.ref b2), .val (.int v59), .val (.int (6 : Int32))] [])) _
    refine XS.iloadN X62.here hx rfl (hb hby d36_9) rfl ?_
    show Steps p.tables e below (T62.setTop (mkF m 10 #[.val (.ref a36_0), .val (.ref b2), .val (.int v59), .val (.int (6 : Int32))] [(.int (6 : Int32))])) _
    refine XS.aloadN X62.here hx rfl (hb hby d36_10) rfl rfl ?_
    show Steps p.tables e below (T62.setTop (mkF m 11 #[.val (.ref a36_0), .val (.ref b2), .val (.int v59), .val (.int (6 : Int32))] [(.ref a36_0), (.int (6 : Int32))])) _
    refine X62.arraylength hx (by rw [e62]; exact Ar65.1) (State.isArrayOf_alike hZ.alike Ar65.2.1) (g := (mkF m 11 #[.val (.ref a36_0), .val (.ref b2), .val (.int v59), .val (.int (6 : Int32))] [(.ref a36_0), (.int (6 : Int32))])) rfl rfl (hb hby d36_11) _ ?_
    rw [len_of Sz65 Nn65]
    show Steps p.tables e below (T62.setTop (mkF m 12 #[.val (.ref a36_0), .val (.ref b2), .val (.int v59), .val (.int (6 : Int32))] [(.int (6 : Int32)), (.int (6 : Int32))])) _
    refine XS.icmpYes X62.here hx rfl (pc0 := 12) (pc' := 38) rfl (hb hby d36_12) rfl (flt (by decide : ¬ ((6 : Int32) < (6 : Int32)))).2.1 (by decide) (by decide) ?_
    show Steps p.tables e below (T62.setTop (mkF m 38 #[.val (.ref a36_0), .val (.ref b2), .val (.int v59), .val (.int (6 : Int32))] [])) _
    refine XS.aloadN X62.here hx rfl (hb hby d36_38) rfl rfl ?_
    exact k
  subst hv60 hv59 hv50 hv49 hv40 hv39 hv30 hv29 hv20 hv19 hv10 hv9
  obtain ⟨fs, hr, hrun, hended, hW, hsame⟩ := X62.leave (v := some (.ref b2)) (fun h => by rw [Bd.returns] at h; cases h)
  refine ⟨_, _, k66 _ ?_, hrun, hended, _, _, rfl, ?_, ⟨_, rfl⟩, hW, hsame.mono (by decide) (by decide)⟩
  · exact retOut X62 hx Bd.returns rfl (Or.inr (Or.inr (Or.inr (Or.inr ⟨rfl, rfl, rfl⟩)))) (hb hby d36_39) hr
  · show Q36 Z a36_0 kk x0 x1 x2 x3 x4 x5 h0 n0 _ T62.heap _
    rw [e62]
    exact ⟨b2, k2, rfl, N62, K62, gg2, sz2, V62⟩
theorem d4_0 : decode method_2_code 0 = .ok (.iload_n 0, 1) := by decide +kernel
theorem d4_1 : decode method_2_code 1 = .ok (.iconst 1, 1) := by decide +kernel
theorem d4_2 : decode method_2_code 2 = .ok (.iand, 1) := by decide +kernel
theorem d4_3 : decode method_2_code 3 = .ok (.iload_n 0, 1) := by decide +kernel
theorem d4_4 : decode method_2_code 4 = .ok (.iconst 1, 1) := by decide +kernel
theorem d4_5 : decode method_2_code 5 = .ok (.ishr, 1) := by decide +kernel
theorem d4_6 : decode method_2_code 6 = .ok (.iconst 1, 1) := by decide +kernel
theorem d4_7 : decode method_2_code 7 = .ok (.iand, 1) := by decide +kernel
theorem d4_8 : decode method_2_code 8 = .ok (.iadd, 1) := by decide +kernel
theorem d4_9 : decode method_2_code 9 = .ok (.iload_n 0, 1) := by decide +kernel
theorem d4_10 : decode method_2_code 10 = .ok (.iconst 2, 1) := by decide +kernel
theorem d4_11 : decode method_2_code 11 = .ok (.ishr, 1) := by decide +kernel
theorem d4_12 : decode method_2_code 12 = .ok (.iconst 1, 1) := by decide +kernel
theorem d4_13 : decode method_2_code 13 = .ok (.iand, 1) := by decide +kernel
theorem d4_14 : decode method_2_code 14 = .ok (.iadd, 1) := by decide +kernel
theorem d4_15 : decode method_2_code 15 = .ok (.iload_n 0, 1) := by decide +kernel
theorem d4_16 : decode method_2_code 16 = .ok (.iconst 3, 1) := by decide +kernel
theorem d4_17 : decode method_2_code 17 = .ok (.ishr, 1) := by decide +kernel
theorem d4_18 : decode method_2_code 18 = .ok (.iconst 1, 1) := by decide +kernel
theorem d4_19 : decode method_2_code 19 = .ok (.iand, 1) := by decide +kernel
theorem d4_20 : decode method_2_code 20 = .ok (.iadd, 1) := by decide +kernel
theorem d4_21 : decode method_2_code 21 = .ok (.iload_n 0, 1) := by decide +kernel
theorem d4_22 : decode method_2_code 22 = .ok (.iconst 4, 1) := by decide +kernel
theorem d4_23 : decode method_2_code 23 = .ok (.ishr, 1) := by decide +kernel
theorem d4_24 : decode method_2_code 24 = .ok (.iconst 1, 1) := by decide +kernel
theorem d4_25 : decode method_2_code 25 = .ok (.iand, 1) := by decide +kernel
theorem d4_26 : decode method_2_code 26 = .ok (.iadd, 1) := by decide +kernel
theorem d4_27 : decode method_2_code 27 = .ok (.iload_n 0, 1) := by decide +kernel
theorem d4_28 : decode method_2_code 28 = .ok (.iconst 5, 1) := by decide +kernel
theorem d4_29 : decode method_2_code 29 = .ok (.ishr, 1) := by decide +kernel
theorem d4_30 : decode method_2_code 30 = .ok (.iconst 1, 1) := by decide +kernel
theorem d4_31 : decode method_2_code 31 = .ok (.iand, 1) := by decide +kernel
theorem d4_32 : decode method_2_code 32 = .ok (.iadd, 1) := by decide +kernel
theorem d4_33 : decode method_2_code 33 = .ok (.ireturn, 1) := by decide +kernel
theorem ef_4 (m : MethodId) (p4_0 : Int32) : entryFrame m #[(.int p4_0)] 1 = mkF m 0 #[.val (.int p4_0)] [] := by first | (simp [entryFrame, mkF, argsToLocals, Value.category]; done) | rfl
def own_ones (p4_0 : Int32) : Int32 := ((((((p4_0 &&& (1 : Int32)) + ((p4_0 >>> ((1 : Int32) &&& 31)) &&& (1 : Int32))) + ((p4_0 >>> ((2 : Int32) &&& 31)) &&& (1 : Int32))) + ((p4_0 >>> ((3 : Int32) &&& 31)) &&& (1 : Int32))) + ((p4_0 >>> ((4 : Int32) &&& 31)) &&& (1 : Int32))) + ((p4_0 >>> ((5 : Int32) &&& 31)) &&& (1 : Int32)))
def Q4 (Z : State) (p4_0 : Int32) (h0 : Heap) (n0 : Nat) (v : Option Value) (h : Heap) (L : List Loc) : Prop := v = some (.int (own_ones p4_0)) ∧ Fr n0 L ∧ h = h0
set_option maxRecDepth 65536 in
set_option maxHeartbeats 40000000 in
theorem rm4 (l : Launch) (Z : State) (a0 : Array Value) (hw : ∀ d ∈ tables_1, d.before a0 Z = true) (ws : List Jvm.Cond) (p4_0 : Int32) (h0 : Heap) (n0 : Nat) (Z0 : n0 ≤ h0.size) :
    MetFree l (⟨"com/example/leanweave/leanweave/NetworkNumberingPinLaw", "ones", "(I)I"⟩ : MethodName) (head1 (Jvm.Cond.code (⟨"com/example/leanweave/leanweave/NetworkNumberingPinLaw", "ones", "(I)I"⟩ : MethodName) method_2_code 1 (some .int) :: ws) ({ frames := 0, cells := 0, slots := 0, locals := 0 } : Room)) (fun a U => a = #[(.int p4_0)] ∧ Z.Warmed39 U.vm ∧ U.heap = h0) (fun _ _ _ _ _ => True) (fun _ U o U' => ∃ v L, o = .returned v ∧ Q4 Z p4_0 h0 n0 v U'.heap L ∧ FrameEnd U o U' L ({ frames := 0, cells := 0, slots := 0, locals := 0 } : Room).cells ({ frames := 0, cells := 0, slots := 0, locals := 0 } : Room).slots) := by
  refine MetFree.of_bodySF (plainFor_of_name pn_0) hisR ?_
  intro p e s m args below meth c s₁ Bd hml0 hP hK
  obtain ⟨rfl, hZ, hh⟩ := hP
  have hx := Bd.exec
  have hby := Bd.bytes
  have hml : c.maxLocals = 1 := hml0
  have hown : s.vm.findClass "com/example/leanweave/leanweave/NetworkNumberingPinLaw" = some m.cls := findClass_of_methodNamed Bd.named
  have hnm := (name_of_methodNamed Bd.named Bd.method).1
  have X0 : Stand p l e ({ frames := 0, cells := 0, slots := 0, locals := 0 } : Room) s m #[(.int p4_0)] below meth c s₁ [] 0 0 := Stand.of_body Bd
  have e0 : s₁.heap = h0 := by rw [← hh, Bd.state]; rfl
  have N0 := Fr.nil n0
  have pre0 : ∀ t, Steps p.tables e below (s₁.setTop (mkF m 0 #[.val (.int p4_0)] [])) t → Steps p.tables e below (s₁.setTop (entryFrame m #[(.int p4_0)] 1)) t := fun t k => castTop (ef_4 m p4_0) k
  have k1 : ∀ t, Steps p.tables e below (s₁.setTop (mkF m 33 #[.val (.int p4_0)] [(.int ((((((p4_0 &&& (1 : Int32)) + ((p4_0 >>> ((1 : Int32) &&& 31)) &&& (1 : Int32))) + ((p4_0 >>> ((2 : Int32) &&& 31)) &&& (1 : Int32))) + ((p4_0 >>> ((3 : Int32) &&& 31)) &&& (1 : Int32))) + ((p4_0 >>> ((4 : Int32) &&& 31)) &&& (1 : Int32))) + ((p4_0 >>> ((5 : Int32) &&& 31)) &&& (1 : Int32))))])) t → Steps p.tables e below (s₁.setTop (entryFrame m #[(.int p4_0)] 1)) t := by
    intro t k
    refine pre0 t ?_
    show Steps p.tables e below (s₁.setTop (mkF m 0 #[.val (.int p4_0)] [])) _
    refine XS.iloadN X0.here hx rfl (hb hby d4_0) rfl ?_
    show Steps p.tables e below (s₁.setTop (mkF m 1 #[.val (.int p4_0)] [(.int p4_0)])) _
    refine XS.iconst X0.here hx rfl (hb hby d4_1) ?_
    show Steps p.tables e below (s₁.setTop (mkF m 2 #[.val (.int p4_0)] [(.int (1 : Int32)), (.int p4_0)])) _
    refine XS.iand X0.here hx rfl (hb hby d4_2) rfl ?_
    show Steps p.tables e below (s₁.setTop (mkF m 3 #[.val (.int p4_0)] [(.int (p4_0 &&& (1 : Int32)))])) _
    refine XS.iloadN X0.here hx rfl (hb hby d4_3) rfl ?_
    show Steps p.tables e below (s₁.setTop (mkF m 4 #[.val (.int p4_0)] [(.int p4_0), (.int (p4_0 &&& (1 : Int32)))])) _
    refine XS.iconst X0.here hx rfl (hb hby d4_4) ?_
    show Steps p.tables e below (s₁.setTop (mkF m 5 #[.val (.int p4_0)] [(.int (1 : Int32)), (.int p4_0), (.int (p4_0 &&& (1 : Int32)))])) _
    refine XS.ishr X0.here hx rfl (hb hby d4_5) rfl ?_
    show Steps p.tables e below (s₁.setTop (mkF m 6 #[.val (.int p4_0)] [(.int (p4_0 >>> ((1 : Int32) &&& 31))), (.int (p4_0 &&& (1 : Int32)))])) _
    refine XS.iconst X0.here hx rfl (hb hby d4_6) ?_
    show Steps p.tables e below (s₁.setTop (mkF m 7 #[.val (.int p4_0)] [(.int (1 : Int32)), (.int (p4_0 >>> ((1 : Int32) &&& 31))), (.int (p4_0 &&& (1 : Int32)))])) _
    refine XS.iand X0.here hx rfl (hb hby d4_7) rfl ?_
    show Steps p.tables e below (s₁.setTop (mkF m 8 #[.val (.int p4_0)] [(.int ((p4_0 >>> ((1 : Int32) &&& 31)) &&& (1 : Int32))), (.int (p4_0 &&& (1 : Int32)))])) _
    refine XS.iadd X0.here hx rfl (hb hby d4_8) rfl ?_
    show Steps p.tables e below (s₁.setTop (mkF m 9 #[.val (.int p4_0)] [(.int ((p4_0 &&& (1 : Int32)) + ((p4_0 >>> ((1 : Int32) &&& 31)) &&& (1 : Int32))))])) _
    refine XS.iloadN X0.here hx rfl (hb hby d4_9) rfl ?_
    show Steps p.tables e below (s₁.setTop (mkF m 10 #[.val (.int p4_0)] [(.int p4_0), (.int ((p4_0 &&& (1 : Int32)) + ((p4_0 >>> ((1 : Int32) &&& 31)) &&& (1 : Int32))))])) _
    refine XS.iconst X0.here hx rfl (hb hby d4_10) ?_
    show Steps p.tables e below (s₁.setTop (mkF m 11 #[.val (.int p4_0)] [(.int (2 : Int32)), (.int p4_0), (.int ((p4_0 &&& (1 : Int32)) + ((p4_0 >>> ((1 : Int32) &&& 31)) &&& (1 : Int32))))])) _
    refine XS.ishr X0.here hx rfl (hb hby d4_11) rfl ?_
    show Steps p.tables e below (s₁.setTop (mkF m 12 #[.val (.int p4_0)] [(.int (p4_0 >>> ((2 : Int32) &&& 31))), (.int ((p4_0 &&& (1 : Int32)) + ((p4_0 >>> ((1 : Int32) &&& 31)) &&& (1 : Int32))))])) _
    refine XS.iconst X0.here hx rfl (hb hby d4_12) ?_
    show Steps p.tables e below (s₁.setTop (mkF m 13 #[.val (.int p4_0)] [(.int (1 : Int32)), (.int (p4_0 >>> ((2 : Int32) &&& 31))), (.int ((p4_0 &&& (1 : Int32)) + ((p4_0 >>> ((1 : Int32) &&& 31)) &&& (1 : Int32))))])) _
    refine XS.iand X0.here hx rfl (hb hby d4_13) rfl ?_
    show Steps p.tables e below (s₁.setTop (mkF m 14 #[.val (.int p4_0)] [(.int ((p4_0 >>> ((2 : Int32) &&& 31)) &&& (1 : Int32))), (.int ((p4_0 &&& (1 : Int32)) + ((p4_0 >>> ((1 : Int32) &&& 31)) &&& (1 : Int32))))])) _
    refine XS.iadd X0.here hx rfl (hb hby d4_14) rfl ?_
    show Steps p.tables e below (s₁.setTop (mkF m 15 #[.val (.int p4_0)] [(.int (((p4_0 &&& (1 : Int32)) + ((p4_0 >>> ((1 : Int32) &&& 31)) &&& (1 : Int32))) + ((p4_0 >>> ((2 : Int32) &&& 31)) &&& (1 : Int32))))])) _
    refine XS.iloadN X0.here hx rfl (hb hby d4_15) rfl ?_
    show Steps p.tables e below (s₁.setTop (mkF m 16 #[.val (.int p4_0)] [(.int p4_0), (.int (((p4_0 &&& (1 : Int32)) + ((p4_0 >>> ((1 : Int32) &&& 31)) &&& (1 : Int32))) + ((p4_0 >>> ((2 : Int32) &&& 31)) &&& (1 : Int32))))])) _
    refine XS.iconst X0.here hx rfl (hb hby d4_16) ?_
    show Steps p.tables e below (s₁.setTop (mkF m 17 #[.val (.int p4_0)] [(.int (3 : Int32)), (.int p4_0), (.int (((p4_0 &&& (1 : Int32)) + ((p4_0 >>> ((1 : Int32) &&& 31)) &&& (1 : Int32))) + ((p4_0 >>> ((2 : Int32) &&& 31)) &&& (1 : Int32))))])) _
    refine XS.ishr X0.here hx rfl (hb hby d4_17) rfl ?_
    show Steps p.tables e below (s₁.setTop (mkF m 18 #[.val (.int p4_0)] [(.int (p4_0 >>> ((3 : Int32) &&& 31))), (.int (((p4_0 &&& (1 : Int32)) + ((p4_0 >>> ((1 : Int32) &&& 31)) &&& (1 : Int32))) + ((p4_0 >>> ((2 : Int32) &&& 31)) &&& (1 : Int32))))])) _
    refine XS.iconst X0.here hx rfl (hb hby d4_18) ?_
    show Steps p.tables e below (s₁.setTop (mkF m 19 #[.val (.int p4_0)] [(.int (1 : Int32)), (.int (p4_0 >>> ((3 : Int32) &&& 31))), (.int (((p4_0 &&& (1 : Int32)) + ((p4_0 >>> ((1 : Int32) &&& 31)) &&& (1 : Int32))) + ((p4_0 >>> ((2 : Int32) &&& 31)) &&& (1 : Int32))))])) _
    refine XS.iand X0.here hx rfl (hb hby d4_19) rfl ?_
    show Steps p.tables e below (s₁.setTop (mkF m 20 #[.val (.int p4_0)] [(.int ((p4_0 >>> ((3 : Int32) &&& 31)) &&& (1 : Int32))), (.int (((p4_0 &&& (1 : Int32)) + ((p4_0 >>> ((1 : Int32) &&& 31)) &&& (1 : Int32))) + ((p4_0 >>> ((2 : Int32) &&& 31)) &&& (1 : Int32))))])) _
    refine XS.iadd X0.here hx rfl (hb hby d4_20) rfl ?_
    show Steps p.tables e below (s₁.setTop (mkF m 21 #[.val (.int p4_0)] [(.int ((((p4_0 &&& (1 : Int32)) + ((p4_0 >>> ((1 : Int32) &&& 31)) &&& (1 : Int32))) + ((p4_0 >>> ((2 : Int32) &&& 31)) &&& (1 : Int32))) + ((p4_0 >>> ((3 : Int32) &&& 31)) &&& (1 : Int32))))])) _
    refine XS.iloadN X0.here hx rfl (hb hby d4_21) rfl ?_
    show Steps p.tables e below (s₁.setTop (mkF m 22 #[.val (.int p4_0)] [(.int p4_0), (.int ((((p4_0 &&& (1 : Int32)) + ((p4_0 >>> ((1 : Int32) &&& 31)) &&& (1 : Int32))) + ((p4_0 >>> ((2 : Int32) &&& 31)) &&& (1 : Int32))) + ((p4_0 >>> ((3 : Int32) &&& 31)) &&& (1 : Int32))))])) _
    refine XS.iconst X0.here hx rfl (hb hby d4_22) ?_
    show Steps p.tables e below (s₁.setTop (mkF m 23 #[.val (.int p4_0)] [(.int (4 : Int32)), (.int p4_0), (.int ((((p4_0 &&& (1 : Int32)) + ((p4_0 >>> ((1 : Int32) &&& 31)) &&& (1 : Int32))) + ((p4_0 >>> ((2 : Int32) &&& 31)) &&& (1 : Int32))) + ((p4_0 >>> ((3 : Int32) &&& 31)) &&& (1 : Int32))))])) _
    refine XS.ishr X0.here hx rfl (hb hby d4_23) rfl ?_
    show Steps p.tables e below (s₁.setTop (mkF m 24 #[.val (.int p4_0)] [(.int (p4_0 >>> ((4 : Int32) &&& 31))), (.int ((((p4_0 &&& (1 : Int32)) + ((p4_0 >>> ((1 : Int32) &&& 31)) &&& (1 : Int32))) + ((p4_0 >>> ((2 : Int32) &&& 31)) &&& (1 : Int32))) + ((p4_0 >>> ((3 : Int32) &&& 31)) &&& (1 : Int32))))])) _
    refine XS.iconst X0.here hx rfl (hb hby d4_24) ?_
    show Steps p.tables e below (s₁.setTop (mkF m 25 #[.val (.int p4_0)] [(.int (1 : Int32)), (.int (p4_0 >>> ((4 : Int32) &&& 31))), (.int ((((p4_0 &&& (1 : Int32)) + ((p4_0 >>> ((1 : Int32) &&& 31)) &&& (1 : Int32))) + ((p4_0 >>> ((2 : Int32) &&& 31)) &&& (1 : Int32))) + ((p4_0 >>> ((3 : Int32) &&& 31)) &&& (1 : Int32))))])) _
    refine XS.iand X0.here hx rfl (hb hby d4_25) rfl ?_
    show Steps p.tables e below (s₁.setTop (mkF m 26 #[.val (.int p4_0)] [(.int ((p4_0 >>> ((4 : Int32) &&& 31)) &&& (1 : Int32))), (.int ((((p4_0 &&& (1 : Int32)) + ((p4_0 >>> ((1 : Int32) &&& 31)) &&& (1 : Int32))) + ((p4_0 >>> ((2 : Int32) &&& 31)) &&& (1 : Int32))) + ((p4_0 >>> ((3 : Int32) &&& 31)) &&& (1 : Int32))))])) _
    refine XS.iadd X0.here hx rfl (hb hby d4_26) rfl ?_
    show Steps p.tables e below (s₁.setTop (mkF m 27 #[.val (.int p4_0)] [(.int (((((p4_0 &&& (1 : Int32)) + ((p4_0 >>> ((1 : Int32) &&& 31)) &&& (1 : Int32))) + ((p4_0 >>> ((2 : Int32) &&& 31)) &&& (1 : Int32))) + ((p4_0 >>> ((3 : Int32) &&& 31)) &&& (1 : Int32))) + ((p4_0 >>> ((4 : Int32) &&& 31)) &&& (1 : Int32))))])) _
    refine XS.iloadN X0.here hx rfl (hb hby d4_27) rfl ?_
    show Steps p.tables e below (s₁.setTop (mkF m 28 #[.val (.int p4_0)] [(.int p4_0), (.int (((((p4_0 &&& (1 : Int32)) + ((p4_0 >>> ((1 : Int32) &&& 31)) &&& (1 : Int32))) + ((p4_0 >>> ((2 : Int32) &&& 31)) &&& (1 : Int32))) + ((p4_0 >>> ((3 : Int32) &&& 31)) &&& (1 : Int32))) + ((p4_0 >>> ((4 : Int32) &&& 31)) &&& (1 : Int32))))])) _
    refine XS.iconst X0.here hx rfl (hb hby d4_28) ?_
    show Steps p.tables e below (s₁.setTop (mkF m 29 #[.val (.int p4_0)] [(.int (5 : Int32)), (.int p4_0), (.int (((((p4_0 &&& (1 : Int32)) + ((p4_0 >>> ((1 : Int32) &&& 31)) &&& (1 : Int32))) + ((p4_0 >>> ((2 : Int32) &&& 31)) &&& (1 : Int32))) + ((p4_0 >>> ((3 : Int32) &&& 31)) &&& (1 : Int32))) + ((p4_0 >>> ((4 : Int32) &&& 31)) &&& (1 : Int32))))])) _
    refine XS.ishr X0.here hx rfl (hb hby d4_29) rfl ?_
    show Steps p.tables e below (s₁.setTop (mkF m 30 #[.val (.int p4_0)] [(.int (p4_0 >>> ((5 : Int32) &&& 31))), (.int (((((p4_0 &&& (1 : Int32)) + ((p4_0 >>> ((1 : Int32) &&& 31)) &&& (1 : Int32))) + ((p4_0 >>> ((2 : Int32) &&& 31)) &&& (1 : Int32))) + ((p4_0 >>> ((3 : Int32) &&& 31)) &&& (1 : Int32))) + ((p4_0 >>> ((4 : Int32) &&& 31)) &&& (1 : Int32))))])) _
    refine XS.iconst X0.here hx rfl (hb hby d4_30) ?_
    show Steps p.tables e below (s₁.setTop (mkF m 31 #[.val (.int p4_0)] [(.int (1 : Int32)), (.int (p4_0 >>> ((5 : Int32) &&& 31))), (.int (((((p4_0 &&& (1 : Int32)) + ((p4_0 >>> ((1 : Int32) &&& 31)) &&& (1 : Int32))) + ((p4_0 >>> ((2 : Int32) &&& 31)) &&& (1 : Int32))) + ((p4_0 >>> ((3 : Int32) &&& 31)) &&& (1 : Int32))) + ((p4_0 >>> ((4 : Int32) &&& 31)) &&& (1 : Int32))))])) _
    refine XS.iand X0.here hx rfl (hb hby d4_31) rfl ?_
    show Steps p.tables e below (s₁.setTop (mkF m 32 #[.val (.int p4_0)] [(.int ((p4_0 >>> ((5 : Int32) &&& 31)) &&& (1 : Int32))), (.int (((((p4_0 &&& (1 : Int32)) + ((p4_0 >>> ((1 : Int32) &&& 31)) &&& (1 : Int32))) + ((p4_0 >>> ((2 : Int32) &&& 31)) &&& (1 : Int32))) + ((p4_0 >>> ((3 : Int32) &&& 31)) &&& (1 : Int32))) + ((p4_0 >>> ((4 : Int32) &&& 31)) &&& (1 : Int32))))])) _
    refine XS.iadd X0.here hx rfl (hb hby d4_32) rfl ?_
    exact k
  obtain ⟨fs, hr, hrun, hended, hW, hsame⟩ := X0.leave (v := some (.int ((((((p4_0 &&& (1 : Int32)) + ((p4_0 >>> ((1 : Int32) &&& 31)) &&& (1 : Int32))) + ((p4_0 >>> ((2 : Int32) &&& 31)) &&& (1 : Int32))) + ((p4_0 >>> ((3 : Int32) &&& 31)) &&& (1 : Int32))) + ((p4_0 >>> ((4 : Int32) &&& 31)) &&& (1 : Int32))) + ((p4_0 >>> ((5 : Int32) &&& 31)) &&& (1 : Int32))))) (fun h => by rw [Bd.returns] at h; cases h)
  refine ⟨_, _, k1 _ ?_, hrun, hended, _, _, rfl, ?_, ⟨_, rfl⟩, hW, hsame.mono (by decide) (by decide)⟩
  · exact retI X0 hx Bd.returns (hb hby d4_33) hr
  · show Q4 Z p4_0 h0 n0 _ s₁.heap _
    rw [e0]
    exact ⟨congrArg (fun z => some (Value.int z)) (show (((((((p4_0 &&& (1 : Int32)) + ((p4_0 >>> ((1 : Int32) &&& 31)) &&& (1 : Int32))) + ((p4_0 >>> ((2 : Int32) &&& 31)) &&& (1 : Int32))) + ((p4_0 >>> ((3 : Int32) &&& 31)) &&& (1 : Int32))) + ((p4_0 >>> ((4 : Int32) &&& 31)) &&& (1 : Int32))) + ((p4_0 >>> ((5 : Int32) &&& 31)) &&& (1 : Int32))) : Int32) = own_ones p4_0 from by unfold own_ones; rfl), N0, rfl⟩
theorem d5_0 : decode method_4_code 0 = .ok (.iload_n 3, 1) := by decide +kernel
theorem d5_1 : decode method_4_code 1 = .ok (.iload_n 1, 1) := by decide +kernel
theorem d5_2 : decode method_4_code 2 = .ok (.if_icmp .lt 5, 3) := by decide +kernel
theorem d5_5 : decode method_4_code 5 = .ok (.iconst 1, 1) := by decide +kernel
theorem d5_6 : decode method_4_code 6 = .ok (.ireturn, 1) := by decide +kernel
theorem ef_5 (m : MethodId) (a5_0 : Addr) (p5_1 : Int32) (p5_2 : Int32) (p5_3 : Int32) : entryFrame m #[(.ref a5_0), (.int p5_1), (.int p5_2), (.int p5_3)] 5 = mkF m 0 #[.val (.ref a5_0), .val (.int p5_1), .val (.int p5_2), .val (.int p5_3), .unset] [] := by first | (simp [entryFrame, mkF, argsToLocals, Value.category]; done) | rfl
def Q5 (Z : State) (a5_0 : Addr) (p5_1 : Int32) (p5_2 : Int32) (p5_3 : Int32) (h0 : Heap) (n0 : Nat) (v : Option Value) (h : Heap) (L : List Loc) : Prop := v = some (.int (1 : Int32)) ∧ Fr n0 L ∧ h = h0
set_option maxRecDepth 65536 in
set_option maxHeartbeats 40000000 in
theorem rm5 (l : Launch) (Z : State) (a0 : Array Value) (hw : ∀ d ∈ tables_1, d.before a0 Z = true) (ws : List Jvm.Cond) (a5_0 : Addr) (p5_1 : Int32) (p5_2 : Int32) (p5_3 : Int32) (h0 : Heap) (n0 : Nat) (Z0 : n0 ≤ h0.size) (hge : ¬ (p5_3 < p5_1)) :
    MetFree l (⟨"com/example/leanweave/leanweave/NetworkNumberingPinLaw", "ok", "([IIII)Z"⟩ : MethodName) (head1 (Jvm.Cond.code (⟨"com/example/leanweave/leanweave/NetworkNumberingPinLaw", "ok", "([IIII)Z"⟩ : MethodName) method_4_code 5 (some .boolean) :: ws) ({ frames := 0, cells := 0, slots := 0, locals := 0 } : Room)) (fun a U => a = #[(.ref a5_0), (.int p5_1), (.int p5_2), (.int p5_3)] ∧ Z.Warmed39 U.vm ∧ U.heap = h0) (fun _ _ _ _ _ => True) (fun _ U o U' => ∃ v L, o = .returned v ∧ Q5 Z a5_0 p5_1 p5_2 p5_3 h0 n0 v U'.heap L ∧ FrameEnd U o U' L ({ frames := 0, cells := 0, slots := 0, locals := 0 } : Room).cells ({ frames := 0, cells := 0, slots := 0, locals := 0 } : Room).slots) := by
  refine MetFree.of_bodySF (plainFor_of_name pn_0) hisR ?_
  intro p e s m args below meth c s₁ Bd hml0 hP hK
  obtain ⟨rfl, hZ, hh⟩ := hP
  have hx := Bd.exec
  have hby := Bd.bytes
  have hml : c.maxLocals = 5 := hml0
  have hown : s.vm.findClass "com/example/leanweave/leanweave/NetworkNumberingPinLaw" = some m.cls := findClass_of_methodNamed Bd.named
  have hnm := (name_of_methodNamed Bd.named Bd.method).1
  have X0 : Stand p l e ({ frames := 0, cells := 0, slots := 0, locals := 0 } : Room) s m #[(.ref a5_0), (.int p5_1), (.int p5_2), (.int p5_3)] below meth c s₁ [] 0 0 := Stand.of_body Bd
  have e0 : s₁.heap = h0 := by rw [← hh, Bd.state]; rfl
  have N0 := Fr.nil n0
  have pre0 : ∀ t, Steps p.tables e below (s₁.setTop (mkF m 0 #[.val (.ref a5_0), .val (.int p5_1), .val (.int p5_2), .val (.int p5_3), .unset] [])) t → Steps p.tables e below (s₁.setTop (entryFrame m #[(.ref a5_0), (.int p5_1), (.int p5_2), (.int p5_3)] 5)) t := fun t k => castTop (ef_5 m a5_0 p5_1 p5_2 p5_3) k
  have k1 : ∀ t, Steps p.tables e below (s₁.setTop (mkF m 6 #[.val (.ref a5_0), .val (.int p5_1), .val (.int p5_2), .val (.int p5_3), .unset] [(.int (1 : Int32))])) t → Steps p.tables e below (s₁.setTop (entryFrame m #[(.ref a5_0), (.int p5_1), (.int p5_2), (.int p5_3)] 5)) t := by
    intro t k
    refine pre0 t ?_
    show Steps p.tables e below (s₁.setTop (mkF m 0 #[.val (.ref a5_0), .val (.int p5_1), .val (.int p5_2), .val (.int p5_3), .unset] [])) _
    refine XS.iloadN X0.here hx rfl (hb hby d5_0) rfl ?_
    show Steps p.tables e below (s₁.setTop (mkF m 1 #[.val (.ref a5_0), .val (.int p5_1), .val (.int p5_2), .val (.int p5_3), .unset] [(.int p5_3)])) _
    refine XS.iloadN X0.here hx rfl (hb hby d5_1) rfl ?_
    show Steps p.tables e below (s₁.setTop (mkF m 2 #[.val (.ref a5_0), .val (.int p5_1), .val (.int p5_2), .val (.int p5_3), .unset] [(.int p5_1), (.int p5_3)])) _
    refine XS.icmpNo X0.here hx rfl (hb hby d5_2) rfl (flt hge).1 ?_
    show Steps p.tables e below (s₁.setTop (mkF m 5 #[.val (.ref a5_0), .val (.int p5_1), .val (.int p5_2), .val (.int p5_3), .unset] [])) _
    refine XS.iconst X0.here hx rfl (hb hby d5_5) ?_
    exact k
  obtain ⟨fs, hr, hrun, hended, hW, hsame⟩ := X0.leave (v := some (.int (1 : Int32))) (fun h => by rw [Bd.returns] at h; cases h)
  refine ⟨_, _, k1 _ ?_, hrun, hended, _, _, rfl, ?_, ⟨_, rfl⟩, hW, hsame.mono (by decide) (by decide)⟩
  · exact retN X0 hx (t := .boolean) Bd.returns (by simp) (hb hby d5_6) hr
  · show Q5 Z a5_0 p5_1 p5_2 p5_3 h0 n0 _ s₁.heap _
    rw [e0]
    exact ⟨rfl, N0, rfl⟩
theorem pd_0 : parseMethodDescriptor "(I)I" = some ⟨[.int], some .int⟩ := by decide +kernel
theorem d60_0 : decode method_4_code 0 = .ok (.iload_n 3, 1) := by decide +kernel
theorem d60_1 : decode method_4_code 1 = .ok (.iload_n 1, 1) := by decide +kernel
theorem d60_2 : decode method_4_code 2 = .ok (.if_icmp .lt 5, 3) := by decide +kernel
theorem d60_7 : decode method_4_code 7 = .ok (.iload_n 2, 1) := by decide +kernel
theorem d60_8 : decode method_4_code 8 = .ok (.iload_n 3, 1) := by decide +kernel
theorem d60_9 : decode method_4_code 9 = .ok (.ishr, 1) := by decide +kernel
theorem d60_10 : decode method_4_code 10 = .ok (.iconst 1, 1) := by decide +kernel
theorem d60_11 : decode method_4_code 11 = .ok (.iand, 1) := by decide +kernel
theorem d60_12 : decode method_4_code 12 = .ok (.ifCond .eq 16, 3) := by decide +kernel
theorem d60_15 : decode method_4_code 15 = .ok (.iload_n 2, 1) := by decide +kernel
theorem d60_16 : decode method_4_code 16 = .ok (.iconst 1, 1) := by decide +kernel
theorem d60_17 : decode method_4_code 17 = .ok (.iload_n 3, 1) := by decide +kernel
theorem d60_18 : decode method_4_code 18 = .ok (.ishl, 1) := by decide +kernel
theorem d60_19 : decode method_4_code 19 = .ok (.iconst 1, 1) := by decide +kernel
theorem d60_20 : decode method_4_code 20 = .ok (.isub, 1) := by decide +kernel
theorem d60_21 : decode method_4_code 21 = .ok (.iand, 1) := by decide +kernel
theorem d60_22 : decode method_4_code 22 = .ok (.invokestatic 7, 3) := by decide +kernel
theorem d60_25 : decode method_4_code 25 = .ok (.goto 4, 3) := by decide +kernel
theorem d60_28 : decode method_4_code 28 = .ok (.iconst (-1), 1) := by decide +kernel
theorem d60_29 : decode method_4_code 29 = .ok (.istore 4, 2) := by decide +kernel
theorem d60_31 : decode method_4_code 31 = .ok (.aload_n 0, 1) := by decide +kernel
theorem d60_32 : decode method_4_code 32 = .ok (.iload_n 3, 1) := by decide +kernel
theorem d60_33 : decode method_4_code 33 = .ok (.iaload, 1) := by decide +kernel
theorem d60_34 : decode method_4_code 34 = .ok (.iload 4, 2) := by decide +kernel
theorem d60_36 : decode method_4_code 36 = .ok (.if_icmp .ne 7, 3) := by decide +kernel
theorem d60_39 : decode method_4_code 39 = .ok (.iconst 1, 1) := by decide +kernel
theorem d60_40 : decode method_4_code 40 = .ok (.goto 4, 3) := by decide +kernel
theorem d60_43 : decode method_4_code 43 = .ok (.iconst 0, 1) := by decide +kernel
theorem d60_44 : decode method_4_code 44 = .ok (.ireturn, 1) := by decide +kernel
theorem ef_60 (m : MethodId) (a60_0 : Addr) (p60_1 : Int32) (p60_2 : Int32) : entryFrame m #[(.ref a60_0), (.int p60_1), (.int p60_2), (.int (0 : Int32))] 5 = mkF m 0 #[.val (.ref a60_0), .val (.int p60_1), .val (.int p60_2), .val (.int (0 : Int32)), .unset] [] := by first | (simp [entryFrame, mkF, argsToLocals, Value.category]; done) | rfl
def own_ok0 (p60_2 : Int32) (x0 : Int32) : Int32 := (if ((p60_2 >>> ((0 : Int32) &&& 31)) &&& (1 : Int32)) = (0 : Int32) then (if x0 = (-1 : Int32) then (1 : Int32) else (0 : Int32)) else (if x0 = (own_ones (p60_2 &&& (0 : Int32))) then (1 : Int32) else (0 : Int32)))
def Q60 (Z : State) (a60_0 : Addr) (p60_1 : Int32) (p60_2 : Int32) (kk : ClassId) (zz : Int32) (x0 : Int32) (x1 : Int32) (x2 : Int32) (x3 : Int32) (x4 : Int32) (x5 : Int32) (h0 : Heap) (n0 : Nat) (v : Option Value) (h : Heap) (L : List Loc) : Prop := v = some (.int (own_ok0 p60_2 x0)) ∧ Fr n0 L ∧ h = h0
set_option maxRecDepth 65536 in
set_option maxHeartbeats 40000000 in
theorem rm60 (l : Launch) (Z : State) (a0 : Array Value) (hw : ∀ d ∈ tables_1, d.before a0 Z = true) (ws : List Jvm.Cond) (a60_0 : Addr) (p60_1 : Int32) (p60_2 : Int32) (kk : ClassId) (zz : Int32) (x0 : Int32) (x1 : Int32) (x2 : Int32) (x3 : Int32) (x4 : Int32) (x5 : Int32) (h0 : Heap) (n0 : Nat) (Z0 : n0 ≤ h0.size) (Vb : Arv Z h0 a60_0 kk .int zz [(.int x0), (.int x1), (.int x2), (.int x3), (.int x4), (.int x5)] (.int (0 : Int32))) (hlt : (0 : Int32) < p60_1) (hz : (0 : Int32) < zz) :
    MetFree l (⟨"com/example/leanweave/leanweave/NetworkNumberingPinLaw", "ok", "([IIII)Z"⟩ : MethodName) (head1 (Jvm.Cond.code (⟨"com/example/leanweave/leanweave/NetworkNumberingPinLaw", "ok", "([IIII)Z"⟩ : MethodName) method_4_code 5 (some .boolean) :: ws) ({ frames := 1, cells := 0, slots := 0, locals := 12 } : Room)) (fun a U => a = #[(.ref a60_0), (.int p60_1), (.int p60_2), (.int (0 : Int32))] ∧ Z.Warmed39 U.vm ∧ U.heap = h0) (fun _ _ _ _ _ => True) (fun _ U o U' => ∃ v L, o = .returned v ∧ Q60 Z a60_0 p60_1 p60_2 kk zz x0 x1 x2 x3 x4 x5 h0 n0 v U'.heap L ∧ FrameEnd U o U' L ({ frames := 1, cells := 0, slots := 0, locals := 12 } : Room).cells ({ frames := 1, cells := 0, slots := 0, locals := 12 } : Room).slots) := by
  refine MetFree.of_bodySF (plainFor_of_name pn_0) hisR ?_
  intro p e s m args below meth c s₁ Bd hml0 hP hK
  obtain ⟨rfl, hZ, hh⟩ := hP
  have hx := Bd.exec
  have hby := Bd.bytes
  have hml : c.maxLocals = 5 := hml0
  have hown : s.vm.findClass "com/example/leanweave/leanweave/NetworkNumberingPinLaw" = some m.cls := findClass_of_methodNamed Bd.named
  have hnm := (name_of_methodNamed Bd.named Bd.method).1
  have X0 : Stand p l e ({ frames := 1, cells := 0, slots := 0, locals := 12 } : Room) s m #[(.ref a60_0), (.int p60_1), (.int p60_2), (.int (0 : Int32))] below meth c s₁ [] 0 0 := Stand.of_body Bd
  have e0 : s₁.heap = h0 := by rw [← hh, Bd.state]; rfl
  have N0 := Fr.nil n0
  have pre0 : ∀ t, Steps p.tables e below (s₁.setTop (mkF m 0 #[.val (.ref a60_0), .val (.int p60_1), .val (.int p60_2), .val (.int (0 : Int32)), .unset] [])) t → Steps p.tables e below (s₁.setTop (entryFrame m #[(.ref a60_0), (.int p60_1), (.int p60_2), (.int (0 : Int32))] 5)) t := fun t k => castTop (ef_60 m a60_0 p60_1 p60_2) k
  have k1 : ∀ t, Steps p.tables e below (s₁.setTop (mkF m 12 #[.val (.ref a60_0), .val (.int p60_1), .val (.int p60_2), .val (.int (0 : Int32)), .unset] [(.int ((p60_2 >>> ((0 : Int32) &&& 31)) &&& (1 : Int32)))])) t → Steps p.tables e below (s₁.setTop (entryFrame m #[(.ref a60_0), (.int p60_1), (.int p60_2), (.int (0 : Int32))] 5)) t := by
    intro t k
    refine pre0 t ?_
    show Steps p.tables e below (s₁.setTop (mkF m 0 #[.val (.ref a60_0), .val (.int p60_1), .val (.int p60_2), .val (.int (0 : Int32)), .unset] [])) _
    refine XS.iloadN X0.here hx rfl (hb hby d60_0) rfl ?_
    show Steps p.tables e below (s₁.setTop (mkF m 1 #[.val (.ref a60_0), .val (.int p60_1), .val (.int p60_2), .val (.int (0 : Int32)), .unset] [(.int (0 : Int32))])) _
    refine XS.iloadN X0.here hx rfl (hb hby d60_1) rfl ?_
    show Steps p.tables e below (s₁.setTop (mkF m 2 #[.val (.ref a60_0), .val (.int p60_1), .val (.int p60_2), .val (.int (0 : Int32)), .unset] [(.int p60_1), (.int (0 : Int32))])) _
    refine XS.icmpYes X0.here hx rfl (pc0 := 2) (pc' := 7) rfl (hb hby d60_2) rfl (tlt hlt).1 (by decide) (by decide) ?_
    show Steps p.tables e below (s₁.setTop (mkF m 7 #[.val (.ref a60_0), .val (.int p60_1), .val (.int p60_2), .val (.int (0 : Int32)), .unset] [])) _
    refine XS.iloadN X0.here hx rfl (hb hby d60_7) rfl ?_
    show Steps p.tables e below (s₁.setTop (mkF m 8 #[.val (.ref a60_0), .val (.int p60_1), .val (.int p60_2), .val (.int (0 : Int32)), .unset] [(.int p60_2)])) _
    refine XS.iloadN X0.here hx rfl (hb hby d60_8) rfl ?_
    show Steps p.tables e below (s₁.setTop (mkF m 9 #[.val (.ref a60_0), .val (.int p60_1), .val (.int p60_2), .val (.int (0 : Int32)), .unset] [(.int (0 : Int32)), (.int p60_2)])) _
    refine XS.ishr X0.here hx rfl (hb hby d60_9) rfl ?_
    show Steps p.tables e below (s₁.setTop (mkF m 10 #[.val (.ref a60_0), .val (.int p60_1), .val (.int p60_2), .val (.int (0 : Int32)), .unset] [(.int (p60_2 >>> ((0 : Int32) &&& 31)))])) _
    refine XS.iconst X0.here hx rfl (hb hby d60_10) ?_
    show Steps p.tables e below (s₁.setTop (mkF m 11 #[.val (.ref a60_0), .val (.int p60_1), .val (.int p60_2), .val (.int (0 : Int32)), .unset] [(.int (1 : Int32)), (.int (p60_2 >>> ((0 : Int32) &&& 31)))])) _
    refine XS.iand X0.here hx rfl (hb hby d60_11) rfl ?_
    exact k
  by_cases hc12_2 : ((p60_2 >>> ((0 : Int32) &&& 31)) &&& (1 : Int32)) = (0 : Int32)
  · skip
    obtain ⟨cl3, Ar3, qc3, Sz3, Nn3, Hh3, Gg3⟩ := (id Vb)
    have hin3 : ¬ ((0 : Int32) < 0 ∨ cl3.slots.size ≤ ((0 : Int32)).toNatClampNeg) := inb_of Sz3 ⟨by decide, hz⟩
    have k4 : ∀ t, Steps p.tables e below (s₁.setTop (mkF m 36 #[.val (.ref a60_0), .val (.int p60_1), .val (.int p60_2), .val (.int (0 : Int32)), .val (.int (-1 : Int32))] [(.int (-1 : Int32)), (.int x0)])) t → Steps p.tables e below (s₁.setTop (entryFrame m #[(.ref a60_0), (.int p60_1), (.int p60_2), (.int (0 : Int32))] 5)) t := by
      intro t k
      refine k1 t ?_
      show Steps p.tables e below (s₁.setTop (mkF m 12 #[.val (.ref a60_0), .val (.int p60_1), .val (.int p60_2), .val (.int (0 : Int32)), .unset] [(.int ((p60_2 >>> ((0 : Int32) &&& 31)) &&& (1 : Int32)))])) _
      refine XS.ifYes X0.here hx rfl (pc0 := 12) (pc' := 28) rfl (hb hby d60_12) rfl ((if0 _ _).trans (teq hc12_2).1) (by decide) (by decide) ?_
      show Steps p.tables e below (s₁.setTop (mkF m 28 #[.val (.ref a60_0), .val (.int p60_1), .val (.int p60_2), .val (.int (0 : Int32)), .unset] [])) _
      refine XS.iconst X0.here hx rfl (hb hby d60_28) ?_
      show Steps p.tables e below (s₁.setTop (mkF m 29 #[.val (.ref a60_0), .val (.int p60_1), .val (.int p60_2), .val (.int (0 : Int32)), .unset] [(.int (-1 : Int32))])) _
      refine XS.istore X0.here hx rfl (hb hby d60_29) rfl (l' := #[.val (.ref a60_0), .val (.int p60_1), .val (.int p60_2), .val (.int (0 : Int32)), .val (.int (-1 : Int32))]) rfl ?_
      show Steps p.tables e below (s₁.setTop (mkF m 31 #[.val (.ref a60_0), .val (.int p60_1), .val (.int p60_2), .val (.int (0 : Int32)), .val (.int (-1 : Int32))] [])) _
      refine XS.aloadN X0.here hx rfl (hb hby d60_31) rfl rfl ?_
      show Steps p.tables e below (s₁.setTop (mkF m 32 #[.val (.ref a60_0), .val (.int p60_1), .val (.int p60_2), .val (.int (0 : Int32)), .val (.int (-1 : Int32))] [(.ref a60_0)])) _
      refine XS.iloadN X0.here hx rfl (hb hby d60_32) rfl ?_
      show Steps p.tables e below (s₁.setTop (mkF m 33 #[.val (.ref a60_0), .val (.int p60_1), .val (.int p60_2), .val (.int (0 : Int32)), .val (.int (-1 : Int32))] [(.int (0 : Int32)), (.ref a60_0)])) _
      refine X0.iaload hx (j := (0 : Int32)) (v := (.int x0)) (by rw [e0]; exact Ar3.1) (State.isArrayOf_alike hZ.alike Ar3.2.1) Ar3.2.2 hin3 (Hh3.at hin3 rfl) (g := (mkF m 33 #[.val (.ref a60_0), .val (.int p60_1), .val (.int p60_2), .val (.int (0 : Int32)), .val (.int (-1 : Int32))] [(.int (0 : Int32)), (.ref a60_0)])) rfl rfl (hb hby d60_33) _ ?_
      show Steps p.tables e below (s₁.setTop (mkF m 34 #[.val (.ref a60_0), .val (.int p60_1), .val (.int p60_2), .val (.int (0 : Int32)), .val (.int (-1 : Int32))] [(.int x0)])) _
      refine XS.iload X0.here hx rfl (hb hby d60_34) rfl ?_
      exact k
    by_cases hc36_5 : x0 = (-1 : Int32)
    · skip
      have k6 : ∀ t, Steps p.tables e below (s₁.setTop (mkF m 44 #[.val (.ref a60_0), .val (.int p60_1), .val (.int p60_2), .val (.int (0 : Int32)), .val (.int (-1 : Int32))] [(.int (1 : Int32))])) t → Steps p.tables e below (s₁.setTop (entryFrame m #[(.ref a60_0), (.int p60_1), (.int p60_2), (.int (0 : Int32))] 5)) t := by
        intro t k
        refine k4 t ?_
        show Steps p.tables e below (s₁.setTop (mkF m 36 #[.val (.ref a60_0), .val (.int p60_1), .val (.int p60_2), .val (.int (0 : Int32)), .val (.int (-1 : Int32))] [(.int (-1 : Int32)), (.int x0)])) _
        refine XS.icmpNo X0.here hx rfl (hb hby d60_36) rfl (teq hc36_5).2 ?_
        show Steps p.tables e below (s₁.setTop (mkF m 39 #[.val (.ref a60_0), .val (.int p60_1), .val (.int p60_2), .val (.int (0 : Int32)), .val (.int (-1 : Int32))] [])) _
        refine XS.iconst X0.here hx rfl (hb hby d60_39) ?_
        show Steps p.tables e below (s₁.setTop (mkF m 40 #[.val (.ref a60_0), .val (.int p60_1), .val (.int p60_2), .val (.int (0 : Int32)), .val (.int (-1 : Int32))] [(.int (1 : Int32))])) _
        refine XS.goto X0.here hx rfl (pc0 := 40) (pc' := 44) rfl (hb hby d60_40) (by decide) (by decide) ?_
        exact k
      obtain ⟨fs, hr, hrun, hended, hW, hsame⟩ := X0.leave (v := some (.int (1 : Int32))) (fun h => by rw [Bd.returns] at h; cases h)
      refine ⟨_, _, k6 _ ?_, hrun, hended, _, _, rfl, ?_, ⟨_, rfl⟩, hW, hsame.mono (by decide) (by decide)⟩
      · exact retN X0 hx (t := .boolean) Bd.returns (by simp) (hb hby d60_44) hr
      · show Q60 Z a60_0 p60_1 p60_2 kk zz x0 x1 x2 x3 x4 x5 h0 n0 _ s₁.heap _
        rw [e0]
        exact ⟨congrArg (fun z => some (Value.int z)) (show ((1 : Int32) : Int32) = own_ok0 p60_2 x0 from by unfold own_ok0; rw [if_pos hc12_2, if_pos hc36_5]), N0, rfl⟩
    · skip
      have k7 : ∀ t, Steps p.tables e below (s₁.setTop (mkF m 44 #[.val (.ref a60_0), .val (.int p60_1), .val (.int p60_2), .val (.int (0 : Int32)), .val (.int (-1 : Int32))] [(.int (0 : Int32))])) t → Steps p.tables e below (s₁.setTop (entryFrame m #[(.ref a60_0), (.int p60_1), (.int p60_2), (.int (0 : Int32))] 5)) t := by
        intro t k
        refine k4 t ?_
        show Steps p.tables e below (s₁.setTop (mkF m 36 #[.val (.ref a60_0), .val (.int p60_1), .val (.int p60_2), .val (.int (0 : Int32)), .val (.int (-1 : Int32))] [(.int (-1 : Int32)), (.int x0)])) _
        refine XS.icmpYes X0.here hx rfl (pc0 := 36) (pc' := 43) rfl (hb hby d60_36) rfl (feq hc36_5).2 (by decide) (by decide) ?_
        show Steps p.tables e below (s₁.setTop (mkF m 43 #[.val (.ref a60_0), .val (.int p60_1), .val (.int p60_2), .val (.int (0 : Int32)), .val (.int (-1 : Int32))] [])) _
        refine XS.iconst X0.here hx rfl (hb hby d60_43) ?_
        exact k
      obtain ⟨fs, hr, hrun, hended, hW, hsame⟩ := X0.leave (v := some (.int (0 : Int32))) (fun h => by rw [Bd.returns] at h; cases h)
      refine ⟨_, _, k7 _ ?_, hrun, hended, _, _, rfl, ?_, ⟨_, rfl⟩, hW, hsame.mono (by decide) (by decide)⟩
      · exact retN X0 hx (t := .boolean) Bd.returns (by simp) (hb hby d60_44) hr
      · show Q60 Z a60_0 p60_1 p60_2 kk zz x0 x1 x2 x3 x4 x5 h0 n0 _ s₁.heap _
        rw [e0]
        exact ⟨congrArg (fun z => some (Value.int z)) (show ((0 : Int32) : Int32) = own_ok0 p60_2 x0 from by unfold own_ok0; rw [if_pos hc12_2, if_neg hc36_5]), N0, rfl⟩
  · skip
    obtain ⟨_, _, ⟨T8, L8, k8, n8⟩, -, X8, ⟨Lc8, hQ8, l8, y8, z8⟩, st8⟩ := Jvm.LawKit.callS X0 hx (y := (⟨"com/example/leanweave/leanweave/NetworkNumberingPinLaw", "ones", "(I)I"⟩ : MethodName)) hown (mvT hZ (hw _ (List.mem_of_getElem? (i := 14) rfl))) (mvT hZ (hw _ (List.mem_of_getElem? (i := 15) rfl))) (mvT hZ (hw _ (List.mem_of_getElem? (i := 4) rfl))) (mvT hZ (hw _ (List.mem_of_getElem? (i := 16) rfl))) (by decide) (backOf (W := 0) (rm4 l Z a0 hw [] (p60_2 &&& (0 : Int32)) h0 n0 Z0 ) hZ (hw _ (List.mem_of_getElem? (i := 16) rfl)) (hw _ (List.mem_of_getElem? (i := 4) rfl)) (by decide) (by decide)) (g := (mkF m 22 #[.val (.ref a60_0), .val (.int p60_1), .val (.int p60_2), .val (.int (0 : Int32)), .unset] [(.int (p60_2 &&& (0 : Int32)))])) rfl (by rw [hml]; rfl) (argsL := [(.int (p60_2 &&& (0 : Int32)))]) (rest := []) (lenOf pd_0 rfl) rfl (by show 2 * 0 + _ ≤ _; exact Nat.le_of_eq rfl) (hb hby d60_22) (fun _ _ => ⟨rfl, e0, (by decide : 0 + 0 ≤ _), (by decide : 0 + 0 ≤ _)⟩)
    dsimp only [Pt.U, Pt.locs, Pt.cells, Pt.slots] at X8 l8 y8 z8 st8 hQ8
    subst l8 y8 z8
    obtain ⟨rfl, N8q, eh8⟩ := hQ8
    have N8 := Fr.app N0 N8q
    obtain ⟨cl9, Ar9, qc9, Sz9, Nn9, Hh9, Gg9⟩ := (id Vb)
    have hin9 : ¬ ((0 : Int32) < 0 ∨ cl9.slots.size ≤ ((0 : Int32)).toNatClampNeg) := inb_of Sz9 ⟨by decide, hz⟩
    have k10 : ∀ t, Steps p.tables e below (T8.setTop (mkF m 36 #[.val (.ref a60_0), .val (.int p60_1), .val (.int p60_2), .val (.int (0 : Int32)), .val (.int (own_ones (p60_2 &&& (0 : Int32))))] [(.int (own_ones (p60_2 &&& (0 : Int32)))), (.int x0)])) t → Steps p.tables e below (s₁.setTop (entryFrame m #[(.ref a60_0), (.int p60_1), (.int p60_2), (.int (0 : Int32))] 5)) t := by
      intro t k
      refine k1 t ?_
      show Steps p.tables e below (s₁.setTop (mkF m 12 #[.val (.ref a60_0), .val (.int p60_1), .val (.int p60_2), .val (.int (0 : Int32)), .unset] [(.int ((p60_2 >>> ((0 : Int32) &&& 31)) &&& (1 : Int32)))])) _
      refine XS.ifNo X0.here hx rfl (hb hby d60_12) rfl ((if0 _ _).trans (feq hc12_2).1) ?_
      show Steps p.tables e below (s₁.setTop (mkF m 15 #[.val (.ref a60_0), .val (.int p60_1), .val (.int p60_2), .val (.int (0 : Int32)), .unset] [])) _
      refine XS.iloadN X0.here hx rfl (hb hby d60_15) rfl ?_
      show Steps p.tables e below (s₁.setTop (mkF m 16 #[.val (.ref a60_0), .val (.int p60_1), .val (.int p60_2), .val (.int (0 : Int32)), .unset] [(.int p60_2)])) _
      refine XS.iconst X0.here hx rfl (hb hby d60_16) ?_
      show Steps p.tables e below (s₁.setTop (mkF m 17 #[.val (.ref a60_0), .val (.int p60_1), .val (.int p60_2), .val (.int (0 : Int32)), .unset] [(.int (1 : Int32)), (.int p60_2)])) _
      refine XS.iloadN X0.here hx rfl (hb hby d60_17) rfl ?_
      show Steps p.tables e below (s₁.setTop (mkF m 18 #[.val (.ref a60_0), .val (.int p60_1), .val (.int p60_2), .val (.int (0 : Int32)), .unset] [(.int (0 : Int32)), (.int (1 : Int32)), (.int p60_2)])) _
      refine XS.ishl X0.here hx rfl (hb hby d60_18) rfl ?_
      show Steps p.tables e below (s₁.setTop (mkF m 19 #[.val (.ref a60_0), .val (.int p60_1), .val (.int p60_2), .val (.int (0 : Int32)), .unset] [(.int (1 : Int32)), (.int p60_2)])) _
      refine XS.iconst X0.here hx rfl (hb hby d60_19) ?_
      show Steps p.tables e below (s₁.setTop (mkF m 20 #[.val (.ref a60_0), .val (.int p60_1), .val (.int p60_2), .val (.int (0 : Int32)), .unset] [(.int (1 : Int32)), (.int (1 : Int32)), (.int p60_2)])) _
      refine XS.isub X0.here hx rfl (hb hby d60_20) rfl ?_
      show Steps p.tables e below (s₁.setTop (mkF m 21 #[.val (.ref a60_0), .val (.int p60_1), .val (.int p60_2), .val (.int (0 : Int32)), .unset] [(.int (0 : Int32)), (.int p60_2)])) _
      refine XS.iand X0.here hx rfl (hb hby d60_21) rfl ?_
      show Steps p.tables e below (s₁.setTop (mkF m 22 #[.val (.ref a60_0), .val (.int p60_1), .val (.int p60_2), .val (.int (0 : Int32)), .unset] [(.int (p60_2 &&& (0 : Int32)))])) _
      refine st8 _ ?_
      show Steps p.tables e below (T8.setTop (mkF m 25 #[.val (.ref a60_0), .val (.int p60_1), .val (.int p60_2), .val (.int (0 : Int32)), .unset] [(.int (own_ones (p60_2 &&& (0 : Int32))))])) _
      refine XS.goto X8.here hx rfl (pc0 := 25) (pc' := 29) rfl (hb hby d60_25) (by decide) (by decide) ?_
      show Steps p.tables e below (T8.setTop (mkF m 29 #[.val (.ref a60_0), .val (.int p60_1), .val (.int p60_2), .val (.int (0 : Int32)), .unset] [(.int (own_ones (p60_2 &&& (0 : Int32))))])) _
      refine XS.istore X8.here hx rfl (hb hby d60_29) rfl (l' := #[.val (.ref a60_0), .val (.int p60_1), .val (.int p60_2), .val (.int (0 : Int32)), .val (.int (own_ones (p60_2 &&& (0 : Int32))))]) rfl ?_
      show Steps p.tables e below (T8.setTop (mkF m 31 #[.val (.ref a60_0), .val (.int p60_1), .val (.int p60_2), .val (.int (0 : Int32)), .val (.int (own_ones (p60_2 &&& (0 : Int32))))] [])) _
      refine XS.aloadN X8.here hx rfl (hb hby d60_31) rfl rfl ?_
      show Steps p.tables e below (T8.setTop (mkF m 32 #[.val (.ref a60_0), .val (.int p60_1), .val (.int p60_2), .val (.int (0 : Int32)), .val (.int (own_ones (p60_2 &&& (0 : Int32))))] [(.ref a60_0)])) _
      refine XS.iloadN X8.here hx rfl (hb hby d60_32) rfl ?_
      show Steps p.tables e below (T8.setTop (mkF m 33 #[.val (.ref a60_0), .val (.int p60_1), .val (.int p60_2), .val (.int (0 : Int32)), .val (.int (own_ones (p60_2 &&& (0 : Int32))))] [(.int (0 : Int32)), (.ref a60_0)])) _
      refine X8.iaload hx (j := (0 : Int32)) (v := (.int x0)) (by rw [eh8]; exact Ar9.1) (State.isArrayOf_alike hZ.alike Ar9.2.1) Ar9.2.2 hin9 (Hh9.at hin9 rfl) (g := (mkF m 33 #[.val (.ref a60_0), .val (.int p60_1), .val (.int p60_2), .val (.int (0 : Int32)), .val (.int (own_ones (p60_2 &&& (0 : Int32))))] [(.int (0 : Int32)), (.ref a60_0)])) rfl rfl (hb hby d60_33) _ ?_
      show Steps p.tables e below (T8.setTop (mkF m 34 #[.val (.ref a60_0), .val (.int p60_1), .val (.int p60_2), .val (.int (0 : Int32)), .val (.int (own_ones (p60_2 &&& (0 : Int32))))] [(.int x0)])) _
      refine XS.iload X8.here hx rfl (hb hby d60_34) rfl ?_
      exact k
    by_cases hc36_11 : x0 = (own_ones (p60_2 &&& (0 : Int32)))
    · skip
      have k12 : ∀ t, Steps p.tables e below (T8.setTop (mkF m 44 #[.val (.ref a60_0), .val (.int p60_1), .val (.int p60_2), .val (.int (0 : Int32)), .val (.int (own_ones (p60_2 &&& (0 : Int32))))] [(.int (1 : Int32))])) t → Steps p.tables e below (s₁.setTop (entryFrame m #[(.ref a60_0), (.int p60_1), (.int p60_2), (.int (0 : Int32))] 5)) t := by
        intro t k
        refine k10 t ?_
        show Steps p.tables e below (T8.setTop (mkF m 36 #[.val (.ref a60_0), .val (.int p60_1), .val (.int p60_2), .val (.int (0 : Int32)), .val (.int (own_ones (p60_2 &&& (0 : Int32))))] [(.int (own_ones (p60_2 &&& (0 : Int32)))), (.int x0)])) _
        refine XS.icmpNo X8.here hx rfl (hb hby d60_36) rfl (teq hc36_11).2 ?_
        show Steps p.tables e below (T8.setTop (mkF m 39 #[.val (.ref a60_0), .val (.int p60_1), .val (.int p60_2), .val (.int (0 : Int32)), .val (.int (own_ones (p60_2 &&& (0 : Int32))))] [])) _
        refine XS.iconst X8.here hx rfl (hb hby d60_39) ?_
        show Steps p.tables e below (T8.setTop (mkF m 40 #[.val (.ref a60_0), .val (.int p60_1), .val (.int p60_2), .val (.int (0 : Int32)), .val (.int (own_ones (p60_2 &&& (0 : Int32))))] [(.int (1 : Int32))])) _
        refine XS.goto X8.here hx rfl (pc0 := 40) (pc' := 44) rfl (hb hby d60_40) (by decide) (by decide) ?_
        exact k
      obtain ⟨fs, hr, hrun, hended, hW, hsame⟩ := X8.leave (v := some (.int (1 : Int32))) (fun h => by rw [Bd.returns] at h; cases h)
      refine ⟨_, _, k12 _ ?_, hrun, hended, _, _, rfl, ?_, ⟨_, rfl⟩, hW, hsame.mono (by decide) (by decide)⟩
      · exact retN X8 hx (t := .boolean) Bd.returns (by simp) (hb hby d60_44) hr
      · show Q60 Z a60_0 p60_1 p60_2 kk zz x0 x1 x2 x3 x4 x5 h0 n0 _ T8.heap _
        rw [eh8]
        exact ⟨congrArg (fun z => some (Value.int z)) (show ((1 : Int32) : Int32) = own_ok0 p60_2 x0 from by unfold own_ok0; rw [if_neg hc12_2, if_pos hc36_11]), N8, rfl⟩
    · skip
      have k13 : ∀ t, Steps p.tables e below (T8.setTop (mkF m 44 #[.val (.ref a60_0), .val (.int p60_1), .val (.int p60_2), .val (.int (0 : Int32)), .val (.int (own_ones (p60_2 &&& (0 : Int32))))] [(.int (0 : Int32))])) t → Steps p.tables e below (s₁.setTop (entryFrame m #[(.ref a60_0), (.int p60_1), (.int p60_2), (.int (0 : Int32))] 5)) t := by
        intro t k
        refine k10 t ?_
        show Steps p.tables e below (T8.setTop (mkF m 36 #[.val (.ref a60_0), .val (.int p60_1), .val (.int p60_2), .val (.int (0 : Int32)), .val (.int (own_ones (p60_2 &&& (0 : Int32))))] [(.int (own_ones (p60_2 &&& (0 : Int32)))), (.int x0)])) _
        refine XS.icmpYes X8.here hx rfl (pc0 := 36) (pc' := 43) rfl (hb hby d60_36) rfl (feq hc36_11).2 (by decide) (by decide) ?_
        show Steps p.tables e below (T8.setTop (mkF m 43 #[.val (.ref a60_0), .val (.int p60_1), .val (.int p60_2), .val (.int (0 : Int32)), .val (.int (own_ones (p60_2 &&& (0 : Int32))))] [])) _
        refine XS.iconst X8.here hx rfl (hb hby d60_43) ?_
        exact k
      obtain ⟨fs, hr, hrun, hended, hW, hsame⟩ := X8.leave (v := some (.int (0 : Int32))) (fun h => by rw [Bd.returns] at h; cases h)
      refine ⟨_, _, k13 _ ?_, hrun, hended, _, _, rfl, ?_, ⟨_, rfl⟩, hW, hsame.mono (by decide) (by decide)⟩
      · exact retN X8 hx (t := .boolean) Bd.returns (by simp) (hb hby d60_44) hr
      · show Q60 Z a60_0 p60_1 p60_2 kk zz x0 x1 x2 x3 x4 x5 h0 n0 _ T8.heap _
        rw [eh8]
        exact ⟨congrArg (fun z => some (Value.int z)) (show ((0 : Int32) : Int32) = own_ok0 p60_2 x0 from by unfold own_ok0; rw [if_neg hc12_2, if_neg hc36_11]), N8, rfl⟩
theorem d61_0 : decode method_4_code 0 = .ok (.iload_n 3, 1) := by decide +kernel
theorem d61_1 : decode method_4_code 1 = .ok (.iload_n 1, 1) := by decide +kernel
theorem d61_2 : decode method_4_code 2 = .ok (.if_icmp .lt 5, 3) := by decide +kernel
theorem d61_7 : decode method_4_code 7 = .ok (.iload_n 2, 1) := by decide +kernel
theorem d61_8 : decode method_4_code 8 = .ok (.iload_n 3, 1) := by decide +kernel
theorem d61_9 : decode method_4_code 9 = .ok (.ishr, 1) := by decide +kernel
theorem d61_10 : decode method_4_code 10 = .ok (.iconst 1, 1) := by decide +kernel
theorem d61_11 : decode method_4_code 11 = .ok (.iand, 1) := by decide +kernel
theorem d61_12 : decode method_4_code 12 = .ok (.ifCond .eq 16, 3) := by decide +kernel
theorem d61_15 : decode method_4_code 15 = .ok (.iload_n 2, 1) := by decide +kernel
theorem d61_16 : decode method_4_code 16 = .ok (.iconst 1, 1) := by decide +kernel
theorem d61_17 : decode method_4_code 17 = .ok (.iload_n 3, 1) := by decide +kernel
theorem d61_18 : decode method_4_code 18 = .ok (.ishl, 1) := by decide +kernel
theorem d61_19 : decode method_4_code 19 = .ok (.iconst 1, 1) := by decide +kernel
theorem d61_20 : decode method_4_code 20 = .ok (.isub, 1) := by decide +kernel
theorem d61_21 : decode method_4_code 21 = .ok (.iand, 1) := by decide +kernel
theorem d61_22 : decode method_4_code 22 = .ok (.invokestatic 7, 3) := by decide +kernel
theorem d61_25 : decode method_4_code 25 = .ok (.goto 4, 3) := by decide +kernel
theorem d61_28 : decode method_4_code 28 = .ok (.iconst (-1), 1) := by decide +kernel
theorem d61_29 : decode method_4_code 29 = .ok (.istore 4, 2) := by decide +kernel
theorem d61_31 : decode method_4_code 31 = .ok (.aload_n 0, 1) := by decide +kernel
theorem d61_32 : decode method_4_code 32 = .ok (.iload_n 3, 1) := by decide +kernel
theorem d61_33 : decode method_4_code 33 = .ok (.iaload, 1) := by decide +kernel
theorem d61_34 : decode method_4_code 34 = .ok (.iload 4, 2) := by decide +kernel
theorem d61_36 : decode method_4_code 36 = .ok (.if_icmp .ne 7, 3) := by decide +kernel
theorem d61_39 : decode method_4_code 39 = .ok (.iconst 1, 1) := by decide +kernel
theorem d61_40 : decode method_4_code 40 = .ok (.goto 4, 3) := by decide +kernel
theorem d61_43 : decode method_4_code 43 = .ok (.iconst 0, 1) := by decide +kernel
theorem d61_44 : decode method_4_code 44 = .ok (.ireturn, 1) := by decide +kernel
theorem ef_61 (m : MethodId) (a61_0 : Addr) (p61_1 : Int32) (p61_2 : Int32) : entryFrame m #[(.ref a61_0), (.int p61_1), (.int p61_2), (.int (1 : Int32))] 5 = mkF m 0 #[.val (.ref a61_0), .val (.int p61_1), .val (.int p61_2), .val (.int (1 : Int32)), .unset] [] := by first | (simp [entryFrame, mkF, argsToLocals, Value.category]; done) | rfl
def own_ok1 (p61_2 : Int32) (x1 : Int32) : Int32 := (if ((p61_2 >>> ((1 : Int32) &&& 31)) &&& (1 : Int32)) = (0 : Int32) then (if x1 = (-1 : Int32) then (1 : Int32) else (0 : Int32)) else (if x1 = (own_ones (p61_2 &&& (1 : Int32))) then (1 : Int32) else (0 : Int32)))
def Q61 (Z : State) (a61_0 : Addr) (p61_1 : Int32) (p61_2 : Int32) (kk : ClassId) (zz : Int32) (x0 : Int32) (x1 : Int32) (x2 : Int32) (x3 : Int32) (x4 : Int32) (x5 : Int32) (h0 : Heap) (n0 : Nat) (v : Option Value) (h : Heap) (L : List Loc) : Prop := v = some (.int (own_ok1 p61_2 x1)) ∧ Fr n0 L ∧ h = h0
set_option maxRecDepth 65536 in
set_option maxHeartbeats 40000000 in
theorem rm61 (l : Launch) (Z : State) (a0 : Array Value) (hw : ∀ d ∈ tables_1, d.before a0 Z = true) (ws : List Jvm.Cond) (a61_0 : Addr) (p61_1 : Int32) (p61_2 : Int32) (kk : ClassId) (zz : Int32) (x0 : Int32) (x1 : Int32) (x2 : Int32) (x3 : Int32) (x4 : Int32) (x5 : Int32) (h0 : Heap) (n0 : Nat) (Z0 : n0 ≤ h0.size) (Vb : Arv Z h0 a61_0 kk .int zz [(.int x0), (.int x1), (.int x2), (.int x3), (.int x4), (.int x5)] (.int (0 : Int32))) (hlt : (1 : Int32) < p61_1) (hz : (1 : Int32) < zz) :
    MetFree l (⟨"com/example/leanweave/leanweave/NetworkNumberingPinLaw", "ok", "([IIII)Z"⟩ : MethodName) (head1 (Jvm.Cond.code (⟨"com/example/leanweave/leanweave/NetworkNumberingPinLaw", "ok", "([IIII)Z"⟩ : MethodName) method_4_code 5 (some .boolean) :: ws) ({ frames := 1, cells := 0, slots := 0, locals := 12 } : Room)) (fun a U => a = #[(.ref a61_0), (.int p61_1), (.int p61_2), (.int (1 : Int32))] ∧ Z.Warmed39 U.vm ∧ U.heap = h0) (fun _ _ _ _ _ => True) (fun _ U o U' => ∃ v L, o = .returned v ∧ Q61 Z a61_0 p61_1 p61_2 kk zz x0 x1 x2 x3 x4 x5 h0 n0 v U'.heap L ∧ FrameEnd U o U' L ({ frames := 1, cells := 0, slots := 0, locals := 12 } : Room).cells ({ frames := 1, cells := 0, slots := 0, locals := 12 } : Room).slots) := by
  refine MetFree.of_bodySF (plainFor_of_name pn_0) hisR ?_
  intro p e s m args below meth c s₁ Bd hml0 hP hK
  obtain ⟨rfl, hZ, hh⟩ := hP
  have hx := Bd.exec
  have hby := Bd.bytes
  have hml : c.maxLocals = 5 := hml0
  have hown : s.vm.findClass "com/example/leanweave/leanweave/NetworkNumberingPinLaw" = some m.cls := findClass_of_methodNamed Bd.named
  have hnm := (name_of_methodNamed Bd.named Bd.method).1
  have X0 : Stand p l e ({ frames := 1, cells := 0, slots := 0, locals := 12 } : Room) s m #[(.ref a61_0), (.int p61_1), (.int p61_2), (.int (1 : Int32))] below meth c s₁ [] 0 0 := Stand.of_body Bd
  have e0 : s₁.heap = h0 := by rw [← hh, Bd.state]; rfl
  have N0 := Fr.nil n0
  have pre0 : ∀ t, Steps p.tables e below (s₁.setTop (mkF m 0 #[.val (.ref a61_0), .val (.int p61_1), .val (.int p61_2), .val (.int (1 : Int32)), .unset] [])) t → Steps p.tables e below (s₁.setTop (entryFrame m #[(.ref a61_0), (.int p61_1), (.int p61_2), (.int (1 : Int32))] 5)) t := fun t k => castTop (ef_61 m a61_0 p61_1 p61_2) k
  have k1 : ∀ t, Steps p.tables e below (s₁.setTop (mkF m 12 #[.val (.ref a61_0), .val (.int p61_1), .val (.int p61_2), .val (.int (1 : Int32)), .unset] [(.int ((p61_2 >>> ((1 : Int32) &&& 31)) &&& (1 : Int32)))])) t → Steps p.tables e below (s₁.setTop (entryFrame m #[(.ref a61_0), (.int p61_1), (.int p61_2), (.int (1 : Int32))] 5)) t := by
    intro t k
    refine pre0 t ?_
    show Steps p.tables e below (s₁.setTop (mkF m 0 #[.val (.ref a61_0), .val (.int p61_1), .val (.int p61_2), .val (.int (1 : Int32)), .unset] [])) _
    refine XS.iloadN X0.here hx rfl (hb hby d61_0) rfl ?_
    show Steps p.tables e below (s₁.setTop (mkF m 1 #[.val (.ref a61_0), .val (.int p61_1), .val (.int p61_2), .val (.int (1 : Int32)), .unset] [(.int (1 : Int32))])) _
    refine XS.iloadN X0.here hx rfl (hb hby d61_1) rfl ?_
    show Steps p.tables e below (s₁.setTop (mkF m 2 #[.val (.ref a61_0), .val (.int p61_1), .val (.int p61_2), .val (.int (1 : Int32)), .unset] [(.int p61_1), (.int (1 : Int32))])) _
    refine XS.icmpYes X0.here hx rfl (pc0 := 2) (pc' := 7) rfl (hb hby d61_2) rfl (tlt hlt).1 (by decide) (by decide) ?_
    show Steps p.tables e below (s₁.setTop (mkF m 7 #[.val (.ref a61_0), .val (.int p61_1), .val (.int p61_2), .val (.int (1 : Int32)), .unset] [])) _
    refine XS.iloadN X0.here hx rfl (hb hby d61_7) rfl ?_
    show Steps p.tables e below (s₁.setTop (mkF m 8 #[.val (.ref a61_0), .val (.int p61_1), .val (.int p61_2), .val (.int (1 : Int32)), .unset] [(.int p61_2)])) _
    refine XS.iloadN X0.here hx rfl (hb hby d61_8) rfl ?_
    show Steps p.tables e below (s₁.setTop (mkF m 9 #[.val (.ref a61_0), .val (.int p61_1), .val (.int p61_2), .val (.int (1 : Int32)), .unset] [(.int (1 : Int32)), (.int p61_2)])) _
    refine XS.ishr X0.here hx rfl (hb hby d61_9) rfl ?_
    show Steps p.tables e below (s₁.setTop (mkF m 10 #[.val (.ref a61_0), .val (.int p61_1), .val (.int p61_2), .val (.int (1 : Int32)), .unset] [(.int (p61_2 >>> ((1 : Int32) &&& 31)))])) _
    refine XS.iconst X0.here hx rfl (hb hby d61_10) ?_
    show Steps p.tables e below (s₁.setTop (mkF m 11 #[.val (.ref a61_0), .val (.int p61_1), .val (.int p61_2), .val (.int (1 : Int32)), .unset] [(.int (1 : Int32)), (.int (p61_2 >>> ((1 : Int32) &&& 31)))])) _
    refine XS.iand X0.here hx rfl (hb hby d61_11) rfl ?_
    exact k
  by_cases hc12_2 : ((p61_2 >>> ((1 : Int32) &&& 31)) &&& (1 : Int32)) = (0 : Int32)
  · skip
    obtain ⟨cl3, Ar3, qc3, Sz3, Nn3, Hh3, Gg3⟩ := (id Vb)
    have hin3 : ¬ ((1 : Int32) < 0 ∨ cl3.slots.size ≤ ((1 : Int32)).toNatClampNeg) := inb_of Sz3 ⟨by decide, hz⟩
    have k4 : ∀ t, Steps p.tables e below (s₁.setTop (mkF m 36 #[.val (.ref a61_0), .val (.int p61_1), .val (.int p61_2), .val (.int (1 : Int32)), .val (.int (-1 : Int32))] [(.int (-1 : Int32)), (.int x1)])) t → Steps p.tables e below (s₁.setTop (entryFrame m #[(.ref a61_0), (.int p61_1), (.int p61_2), (.int (1 : Int32))] 5)) t := by
      intro t k
      refine k1 t ?_
      show Steps p.tables e below (s₁.setTop (mkF m 12 #[.val (.ref a61_0), .val (.int p61_1), .val (.int p61_2), .val (.int (1 : Int32)), .unset] [(.int ((p61_2 >>> ((1 : Int32) &&& 31)) &&& (1 : Int32)))])) _
      refine XS.ifYes X0.here hx rfl (pc0 := 12) (pc' := 28) rfl (hb hby d61_12) rfl ((if0 _ _).trans (teq hc12_2).1) (by decide) (by decide) ?_
      show Steps p.tables e below (s₁.setTop (mkF m 28 #[.val (.ref a61_0), .val (.int p61_1), .val (.int p61_2), .val (.int (1 : Int32)), .unset] [])) _
      refine XS.iconst X0.here hx rfl (hb hby d61_28) ?_
      show Steps p.tables e below (s₁.setTop (mkF m 29 #[.val (.ref a61_0), .val (.int p61_1), .val (.int p61_2), .val (.int (1 : Int32)), .unset] [(.int (-1 : Int32))])) _
      refine XS.istore X0.here hx rfl (hb hby d61_29) rfl (l' := #[.val (.ref a61_0), .val (.int p61_1), .val (.int p61_2), .val (.int (1 : Int32)), .val (.int (-1 : Int32))]) rfl ?_
      show Steps p.tables e below (s₁.setTop (mkF m 31 #[.val (.ref a61_0), .val (.int p61_1), .val (.int p61_2), .val (.int (1 : Int32)), .val (.int (-1 : Int32))] [])) _
      refine XS.aloadN X0.here hx rfl (hb hby d61_31) rfl rfl ?_
      show Steps p.tables e below (s₁.setTop (mkF m 32 #[.val (.ref a61_0), .val (.int p61_1), .val (.int p61_2), .val (.int (1 : Int32)), .val (.int (-1 : Int32))] [(.ref a61_0)])) _
      refine XS.iloadN X0.here hx rfl (hb hby d61_32) rfl ?_
      show Steps p.tables e below (s₁.setTop (mkF m 33 #[.val (.ref a61_0), .val (.int p61_1), .val (.int p61_2), .val (.int (1 : Int32)), .val (.int (-1 : Int32))] [(.int (1 : Int32)), (.ref a61_0)])) _
      refine X0.iaload hx (j := (1 : Int32)) (v := (.int x1)) (by rw [e0]; exact Ar3.1) (State.isArrayOf_alike hZ.alike Ar3.2.1) Ar3.2.2 hin3 (Hh3.at hin3 rfl) (g := (mkF m 33 #[.val (.ref a61_0), .val (.int p61_1), .val (.int p61_2), .val (.int (1 : Int32)), .val (.int (-1 : Int32))] [(.int (1 : Int32)), (.ref a61_0)])) rfl rfl (hb hby d61_33) _ ?_
      show Steps p.tables e below (s₁.setTop (mkF m 34 #[.val (.ref a61_0), .val (.int p61_1), .val (.int p61_2), .val (.int (1 : Int32)), .val (.int (-1 : Int32))] [(.int x1)])) _
      refine XS.iload X0.here hx rfl (hb hby d61_34) rfl ?_
      exact k
    by_cases hc36_5 : x1 = (-1 : Int32)
    · skip
      have k6 : ∀ t, Steps p.tables e below (s₁.setTop (mkF m 44 #[.val (.ref a61_0), .val (.int p61_1), .val (.int p61_2), .val (.int (1 : Int32)), .val (.int (-1 : Int32))] [(.int (1 : Int32))])) t → Steps p.tables e below (s₁.setTop (entryFrame m #[(.ref a61_0), (.int p61_1), (.int p61_2), (.int (1 : Int32))] 5)) t := by
        intro t k
        refine k4 t ?_
        show Steps p.tables e below (s₁.setTop (mkF m 36 #[.val (.ref a61_0), .val (.int p61_1), .val (.int p61_2), .val (.int (1 : Int32)), .val (.int (-1 : Int32))] [(.int (-1 : Int32)), (.int x1)])) _
        refine XS.icmpNo X0.here hx rfl (hb hby d61_36) rfl (teq hc36_5).2 ?_
        show Steps p.tables e below (s₁.setTop (mkF m 39 #[.val (.ref a61_0), .val (.int p61_1), .val (.int p61_2), .val (.int (1 : Int32)), .val (.int (-1 : Int32))] [])) _
        refine XS.iconst X0.here hx rfl (hb hby d61_39) ?_
        show Steps p.tables e below (s₁.setTop (mkF m 40 #[.val (.ref a61_0), .val (.int p61_1), .val (.int p61_2), .val (.int (1 : Int32)), .val (.int (-1 : Int32))] [(.int (1 : Int32))])) _
        refine XS.goto X0.here hx rfl (pc0 := 40) (pc' := 44) rfl (hb hby d61_40) (by decide) (by decide) ?_
        exact k
      obtain ⟨fs, hr, hrun, hended, hW, hsame⟩ := X0.leave (v := some (.int (1 : Int32))) (fun h => by rw [Bd.returns] at h; cases h)
      refine ⟨_, _, k6 _ ?_, hrun, hended, _, _, rfl, ?_, ⟨_, rfl⟩, hW, hsame.mono (by decide) (by decide)⟩
      · exact retN X0 hx (t := .boolean) Bd.returns (by simp) (hb hby d61_44) hr
      · show Q61 Z a61_0 p61_1 p61_2 kk zz x0 x1 x2 x3 x4 x5 h0 n0 _ s₁.heap _
        rw [e0]
        exact ⟨congrArg (fun z => some (Value.int z)) (show ((1 : Int32) : Int32) = own_ok1 p61_2 x1 from by unfold own_ok1; rw [if_pos hc12_2, if_pos hc36_5]), N0, rfl⟩
    · skip
      have k7 : ∀ t, Steps p.tables e below (s₁.setTop (mkF m 44 #[.val (.ref a61_0), .val (.int p61_1), .val (.int p61_2), .val (.int (1 : Int32)), .val (.int (-1 : Int32))] [(.int (0 : Int32))])) t → Steps p.tables e below (s₁.setTop (entryFrame m #[(.ref a61_0), (.int p61_1), (.int p61_2), (.int (1 : Int32))] 5)) t := by
        intro t k
        refine k4 t ?_
        show Steps p.tables e below (s₁.setTop (mkF m 36 #[.val (.ref a61_0), .val (.int p61_1), .val (.int p61_2), .val (.int (1 : Int32)), .val (.int (-1 : Int32))] [(.int (-1 : Int32)), (.int x1)])) _
        refine XS.icmpYes X0.here hx rfl (pc0 := 36) (pc' := 43) rfl (hb hby d61_36) rfl (feq hc36_5).2 (by decide) (by decide) ?_
        show Steps p.tables e below (s₁.setTop (mkF m 43 #[.val (.ref a61_0), .val (.int p61_1), .val (.int p61_2), .val (.int (1 : Int32)), .val (.int (-1 : Int32))] [])) _
        refine XS.iconst X0.here hx rfl (hb hby d61_43) ?_
        exact k
      obtain ⟨fs, hr, hrun, hended, hW, hsame⟩ := X0.leave (v := some (.int (0 : Int32))) (fun h => by rw [Bd.returns] at h; cases h)
      refine ⟨_, _, k7 _ ?_, hrun, hended, _, _, rfl, ?_, ⟨_, rfl⟩, hW, hsame.mono (by decide) (by decide)⟩
      · exact retN X0 hx (t := .boolean) Bd.returns (by simp) (hb hby d61_44) hr
      · show Q61 Z a61_0 p61_1 p61_2 kk zz x0 x1 x2 x3 x4 x5 h0 n0 _ s₁.heap _
        rw [e0]
        exact ⟨congrArg (fun z => some (Value.int z)) (show ((0 : Int32) : Int32) = own_ok1 p61_2 x1 from by unfold own_ok1; rw [if_pos hc12_2, if_neg hc36_5]), N0, rfl⟩
  · skip
    obtain ⟨_, _, ⟨T8, L8, k8, n8⟩, -, X8, ⟨Lc8, hQ8, l8, y8, z8⟩, st8⟩ := Jvm.LawKit.callS X0 hx (y := (⟨"com/example/leanweave/leanweave/NetworkNumberingPinLaw", "ones", "(I)I"⟩ : MethodName)) hown (mvT hZ (hw _ (List.mem_of_getElem? (i := 14) rfl))) (mvT hZ (hw _ (List.mem_of_getElem? (i := 15) rfl))) (mvT hZ (hw _ (List.mem_of_getElem? (i := 4) rfl))) (mvT hZ (hw _ (List.mem_of_getElem? (i := 16) rfl))) (by decide) (backOf (W := 0) (rm4 l Z a0 hw [] (p61_2 &&& (1 : Int32)) h0 n0 Z0 ) hZ (hw _ (List.mem_of_getElem? (i := 16) rfl)) (hw _ (List.mem_of_getElem? (i := 4) rfl)) (by decide) (by decide)) (g := (mkF m 22 #[.val (.ref a61_0), .val (.int p61_1), .val (.int p61_2), .val (.int (1 : Int32)), .unset] [(.int (p61_2 &&& (1 : Int32)))])) rfl (by rw [hml]; rfl) (argsL := [(.int (p61_2 &&& (1 : Int32)))]) (rest := []) (lenOf pd_0 rfl) rfl (by show 2 * 0 + _ ≤ _; exact Nat.le_of_eq rfl) (hb hby d61_22) (fun _ _ => ⟨rfl, e0, (by decide : 0 + 0 ≤ _), (by decide : 0 + 0 ≤ _)⟩)
    dsimp only [Pt.U, Pt.locs, Pt.cells, Pt.slots] at X8 l8 y8 z8 st8 hQ8
    subst l8 y8 z8
    obtain ⟨rfl, N8q, eh8⟩ := hQ8
    have N8 := Fr.app N0 N8q
    obtain ⟨cl9, Ar9, qc9, Sz9, Nn9, Hh9, Gg9⟩ := (id Vb)
    have hin9 : ¬ ((1 : Int32) < 0 ∨ cl9.slots.size ≤ ((1 : Int32)).toNatClampNeg) := inb_of Sz9 ⟨by decide, hz⟩
    have k10 : ∀ t, Steps p.tables e below (T8.setTop (mkF m 36 #[.val (.ref a61_0), .val (.int p61_1), .val (.int p61_2), .val (.int (1 : Int32)), .val (.int (own_ones (p61_2 &&& (1 : Int32))))] [(.int (own_ones (p61_2 &&& (1 : Int32)))), (.int x1)])) t → Steps p.tables e below (s₁.setTop (entryFrame m #[(.ref a61_0), (.int p61_1), (.int p61_2), (.int (1 : Int32))] 5)) t := by
      intro t k
      refine k1 t ?_
      show Steps p.tables e below (s₁.setTop (mkF m 12 #[.val (.ref a61_0), .val (.int p61_1), .val (.int p61_2), .val (.int (1 : Int32)), .unset] [(.int ((p61_2 >>> ((1 : Int32) &&& 31)) &&& (1 : Int32)))])) _
      refine XS.ifNo X0.here hx rfl (hb hby d61_12) rfl ((if0 _ _).trans (feq hc12_2).1) ?_
      show Steps p.tables e below (s₁.setTop (mkF m 15 #[.val (.ref a61_0), .val (.int p61_1), .val (.int p61_2), .val (.int (1 : Int32)), .unset] [])) _
      refine XS.iloadN X0.here hx rfl (hb hby d61_15) rfl ?_
      show Steps p.tables e below (s₁.setTop (mkF m 16 #[.val (.ref a61_0), .val (.int p61_1), .val (.int p61_2), .val (.int (1 : Int32)), .unset] [(.int p61_2)])) _
      refine XS.iconst X0.here hx rfl (hb hby d61_16) ?_
      show Steps p.tables e below (s₁.setTop (mkF m 17 #[.val (.ref a61_0), .val (.int p61_1), .val (.int p61_2), .val (.int (1 : Int32)), .unset] [(.int (1 : Int32)), (.int p61_2)])) _
      refine XS.iloadN X0.here hx rfl (hb hby d61_17) rfl ?_
      show Steps p.tables e below (s₁.setTop (mkF m 18 #[.val (.ref a61_0), .val (.int p61_1), .val (.int p61_2), .val (.int (1 : Int32)), .unset] [(.int (1 : Int32)), (.int (1 : Int32)), (.int p61_2)])) _
      refine XS.ishl X0.here hx rfl (hb hby d61_18) rfl ?_
      show Steps p.tables e below (s₁.setTop (mkF m 19 #[.val (.ref a61_0), .val (.int p61_1), .val (.int p61_2), .val (.int (1 : Int32)), .unset] [(.int (2 : Int32)), (.int p61_2)])) _
      refine XS.iconst X0.here hx rfl (hb hby d61_19) ?_
      show Steps p.tables e below (s₁.setTop (mkF m 20 #[.val (.ref a61_0), .val (.int p61_1), .val (.int p61_2), .val (.int (1 : Int32)), .unset] [(.int (1 : Int32)), (.int (2 : Int32)), (.int p61_2)])) _
      refine XS.isub X0.here hx rfl (hb hby d61_20) rfl ?_
      show Steps p.tables e below (s₁.setTop (mkF m 21 #[.val (.ref a61_0), .val (.int p61_1), .val (.int p61_2), .val (.int (1 : Int32)), .unset] [(.int (1 : Int32)), (.int p61_2)])) _
      refine XS.iand X0.here hx rfl (hb hby d61_21) rfl ?_
      show Steps p.tables e below (s₁.setTop (mkF m 22 #[.val (.ref a61_0), .val (.int p61_1), .val (.int p61_2), .val (.int (1 : Int32)), .unset] [(.int (p61_2 &&& (1 : Int32)))])) _
      refine st8 _ ?_
      show Steps p.tables e below (T8.setTop (mkF m 25 #[.val (.ref a61_0), .val (.int p61_1), .val (.int p61_2), .val (.int (1 : Int32)), .unset] [(.int (own_ones (p61_2 &&& (1 : Int32))))])) _
      refine XS.goto X8.here hx rfl (pc0 := 25) (pc' := 29) rfl (hb hby d61_25) (by decide) (by decide) ?_
      show Steps p.tables e below (T8.setTop (mkF m 29 #[.val (.ref a61_0), .val (.int p61_1), .val (.int p61_2), .val (.int (1 : Int32)), .unset] [(.int (own_ones (p61_2 &&& (1 : Int32))))])) _
      refine XS.istore X8.here hx rfl (hb hby d61_29) rfl (l' := #[.val (.ref a61_0), .val (.int p61_1), .val (.int p61_2), .val (.int (1 : Int32)), .val (.int (own_ones (p61_2 &&& (1 : Int32))))]) rfl ?_
      show Steps p.tables e below (T8.setTop (mkF m 31 #[.val (.ref a61_0), .val (.int p61_1), .val (.int p61_2), .val (.int (1 : Int32)), .val (.int (own_ones (p61_2 &&& (1 : Int32))))] [])) _
      refine XS.aloadN X8.here hx rfl (hb hby d61_31) rfl rfl ?_
      show Steps p.tables e below (T8.setTop (mkF m 32 #[.val (.ref a61_0), .val (.int p61_1), .val (.int p61_2), .val (.int (1 : Int32)), .val (.int (own_ones (p61_2 &&& (1 : Int32))))] [(.ref a61_0)])) _
      refine XS.iloadN X8.here hx rfl (hb hby d61_32) rfl ?_
      show Steps p.tables e below (T8.setTop (mkF m 33 #[.val (.ref a61_0), .val (.int p61_1), .val (.int p61_2), .val (.int (1 : Int32)), .val (.int (own_ones (p61_2 &&& (1 : Int32))))] [(.int (1 : Int32)), (.ref a61_0)])) _
      refine X8.iaload hx (j := (1 : Int32)) (v := (.int x1)) (by rw [eh8]; exact Ar9.1) (State.isArrayOf_alike hZ.alike Ar9.2.1) Ar9.2.2 hin9 (Hh9.at hin9 rfl) (g := (mkF m 33 #[.val (.ref a61_0), .val (.int p61_1), .val (.int p61_2), .val (.int (1 : Int32)), .val (.int (own_ones (p61_2 &&& (1 : Int32))))] [(.int (1 : Int32)), (.ref a61_0)])) rfl rfl (hb hby d61_33) _ ?_
      show Steps p.tables e below (T8.setTop (mkF m 34 #[.val (.ref a61_0), .val (.int p61_1), .val (.int p61_2), .val (.int (1 : Int32)), .val (.int (own_ones (p61_2 &&& (1 : Int32))))] [(.int x1)])) _
      refine XS.iload X8.here hx rfl (hb hby d61_34) rfl ?_
      exact k
    by_cases hc36_11 : x1 = (own_ones (p61_2 &&& (1 : Int32)))
    · skip
      have k12 : ∀ t, Steps p.tables e below (T8.setTop (mkF m 44 #[.val (.ref a61_0), .val (.int p61_1), .val (.int p61_2), .val (.int (1 : Int32)), .val (.int (own_ones (p61_2 &&& (1 : Int32))))] [(.int (1 : Int32))])) t → Steps p.tables e below (s₁.setTop (entryFrame m #[(.ref a61_0), (.int p61_1), (.int p61_2), (.int (1 : Int32))] 5)) t := by
        intro t k
        refine k10 t ?_
        show Steps p.tables e below (T8.setTop (mkF m 36 #[.val (.ref a61_0), .val (.int p61_1), .val (.int p61_2), .val (.int (1 : Int32)), .val (.int (own_ones (p61_2 &&& (1 : Int32))))] [(.int (own_ones (p61_2 &&& (1 : Int32)))), (.int x1)])) _
        refine XS.icmpNo X8.here hx rfl (hb hby d61_36) rfl (teq hc36_11).2 ?_
        show Steps p.tables e below (T8.setTop (mkF m 39 #[.val (.ref a61_0), .val (.int p61_1), .val (.int p61_2), .val (.int (1 : Int32)), .val (.int (own_ones (p61_2 &&& (1 : Int32))))] [])) _
        refine XS.iconst X8.here hx rfl (hb hby d61_39) ?_
        show Steps p.tables e below (T8.setTop (mkF m 40 #[.val (.ref a61_0), .val (.int p61_1), .val (.int p61_2), .val (.int (1 : Int32)), .val (.int (own_ones (p61_2 &&& (1 : Int32))))] [(.int (1 : Int32))])) _
        refine XS.goto X8.here hx rfl (pc0 := 40) (pc' := 44) rfl (hb hby d61_40) (by decide) (by decide) ?_
        exact k
      obtain ⟨fs, hr, hrun, hended, hW, hsame⟩ := X8.leave (v := some (.int (1 : Int32))) (fun h => by rw [Bd.returns] at h; cases h)
      refine ⟨_, _, k12 _ ?_, hrun, hended, _, _, rfl, ?_, ⟨_, rfl⟩, hW, hsame.mono (by decide) (by decide)⟩
      · exact retN X8 hx (t := .boolean) Bd.returns (by simp) (hb hby d61_44) hr
      · show Q61 Z a61_0 p61_1 p61_2 kk zz x0 x1 x2 x3 x4 x5 h0 n0 _ T8.heap _
        rw [eh8]
        exact ⟨congrArg (fun z => some (Value.int z)) (show ((1 : Int32) : Int32) = own_ok1 p61_2 x1 from by unfold own_ok1; rw [if_neg hc12_2, if_pos hc36_11]), N8, rfl⟩
    · skip
      have k13 : ∀ t, Steps p.tables e below (T8.setTop (mkF m 44 #[.val (.ref a61_0), .val (.int p61_1), .val (.int p61_2), .val (.int (1 : Int32)), .val (.int (own_ones (p61_2 &&& (1 : Int32))))] [(.int (0 : Int32))])) t → Steps p.tables e below (s₁.setTop (entryFrame m #[(.ref a61_0), (.int p61_1), (.int p61_2), (.int (1 : Int32))] 5)) t := by
        intro t k
        refine k10 t ?_
        show Steps p.tables e below (T8.setTop (mkF m 36 #[.val (.ref a61_0), .val (.int p61_1), .val (.int p61_2), .val (.int (1 : Int32)), .val (.int (own_ones (p61_2 &&& (1 : Int32))))] [(.int (own_ones (p61_2 &&& (1 : Int32)))), (.int x1)])) _
        refine XS.icmpYes X8.here hx rfl (pc0 := 36) (pc' := 43) rfl (hb hby d61_36) rfl (feq hc36_11).2 (by decide) (by decide) ?_
        show Steps p.tables e below (T8.setTop (mkF m 43 #[.val (.ref a61_0), .val (.int p61_1), .val (.int p61_2), .val (.int (1 : Int32)), .val (.int (own_ones (p61_2 &&& (1 : Int32))))] [])) _
        refine XS.iconst X8.here hx rfl (hb hby d61_43) ?_
        exact k
      obtain ⟨fs, hr, hrun, hended, hW, hsame⟩ := X8.leave (v := some (.int (0 : Int32))) (fun h => by rw [Bd.returns] at h; cases h)
      refine ⟨_, _, k13 _ ?_, hrun, hended, _, _, rfl, ?_, ⟨_, rfl⟩, hW, hsame.mono (by decide) (by decide)⟩
      · exact retN X8 hx (t := .boolean) Bd.returns (by simp) (hb hby d61_44) hr
      · show Q61 Z a61_0 p61_1 p61_2 kk zz x0 x1 x2 x3 x4 x5 h0 n0 _ T8.heap _
        rw [eh8]
        exact ⟨congrArg (fun z => some (Value.int z)) (show ((0 : Int32) : Int32) = own_ok1 p61_2 x1 from by unfold own_ok1; rw [if_neg hc12_2, if_neg hc36_11]), N8, rfl⟩
theorem d62_0 : decode method_4_code 0 = .ok (.iload_n 3, 1) := by decide +kernel
theorem d62_1 : decode method_4_code 1 = .ok (.iload_n 1, 1) := by decide +kernel
theorem d62_2 : decode method_4_code 2 = .ok (.if_icmp .lt 5, 3) := by decide +kernel
theorem d62_7 : decode method_4_code 7 = .ok (.iload_n 2, 1) := by decide +kernel
theorem d62_8 : decode method_4_code 8 = .ok (.iload_n 3, 1) := by decide +kernel
theorem d62_9 : decode method_4_code 9 = .ok (.ishr, 1) := by decide +kernel
theorem d62_10 : decode method_4_code 10 = .ok (.iconst 1, 1) := by decide +kernel
theorem d62_11 : decode method_4_code 11 = .ok (.iand, 1) := by decide +kernel
theorem d62_12 : decode method_4_code 12 = .ok (.ifCond .eq 16, 3) := by decide +kernel
theorem d62_15 : decode method_4_code 15 = .ok (.iload_n 2, 1) := by decide +kernel
theorem d62_16 : decode method_4_code 16 = .ok (.iconst 1, 1) := by decide +kernel
theorem d62_17 : decode method_4_code 17 = .ok (.iload_n 3, 1) := by decide +kernel
theorem d62_18 : decode method_4_code 18 = .ok (.ishl, 1) := by decide +kernel
theorem d62_19 : decode method_4_code 19 = .ok (.iconst 1, 1) := by decide +kernel
theorem d62_20 : decode method_4_code 20 = .ok (.isub, 1) := by decide +kernel
theorem d62_21 : decode method_4_code 21 = .ok (.iand, 1) := by decide +kernel
theorem d62_22 : decode method_4_code 22 = .ok (.invokestatic 7, 3) := by decide +kernel
theorem d62_25 : decode method_4_code 25 = .ok (.goto 4, 3) := by decide +kernel
theorem d62_28 : decode method_4_code 28 = .ok (.iconst (-1), 1) := by decide +kernel
theorem d62_29 : decode method_4_code 29 = .ok (.istore 4, 2) := by decide +kernel
theorem d62_31 : decode method_4_code 31 = .ok (.aload_n 0, 1) := by decide +kernel
theorem d62_32 : decode method_4_code 32 = .ok (.iload_n 3, 1) := by decide +kernel
theorem d62_33 : decode method_4_code 33 = .ok (.iaload, 1) := by decide +kernel
theorem d62_34 : decode method_4_code 34 = .ok (.iload 4, 2) := by decide +kernel
theorem d62_36 : decode method_4_code 36 = .ok (.if_icmp .ne 7, 3) := by decide +kernel
theorem d62_39 : decode method_4_code 39 = .ok (.iconst 1, 1) := by decide +kernel
theorem d62_40 : decode method_4_code 40 = .ok (.goto 4, 3) := by decide +kernel
theorem d62_43 : decode method_4_code 43 = .ok (.iconst 0, 1) := by decide +kernel
theorem d62_44 : decode method_4_code 44 = .ok (.ireturn, 1) := by decide +kernel
theorem ef_62 (m : MethodId) (a62_0 : Addr) (p62_1 : Int32) (p62_2 : Int32) : entryFrame m #[(.ref a62_0), (.int p62_1), (.int p62_2), (.int (2 : Int32))] 5 = mkF m 0 #[.val (.ref a62_0), .val (.int p62_1), .val (.int p62_2), .val (.int (2 : Int32)), .unset] [] := by first | (simp [entryFrame, mkF, argsToLocals, Value.category]; done) | rfl
def own_ok2 (p62_2 : Int32) (x2 : Int32) : Int32 := (if ((p62_2 >>> ((2 : Int32) &&& 31)) &&& (1 : Int32)) = (0 : Int32) then (if x2 = (-1 : Int32) then (1 : Int32) else (0 : Int32)) else (if x2 = (own_ones (p62_2 &&& (3 : Int32))) then (1 : Int32) else (0 : Int32)))
def Q62 (Z : State) (a62_0 : Addr) (p62_1 : Int32) (p62_2 : Int32) (kk : ClassId) (zz : Int32) (x0 : Int32) (x1 : Int32) (x2 : Int32) (x3 : Int32) (x4 : Int32) (x5 : Int32) (h0 : Heap) (n0 : Nat) (v : Option Value) (h : Heap) (L : List Loc) : Prop := v = some (.int (own_ok2 p62_2 x2)) ∧ Fr n0 L ∧ h = h0
set_option maxRecDepth 65536 in
set_option maxHeartbeats 40000000 in
theorem rm62 (l : Launch) (Z : State) (a0 : Array Value) (hw : ∀ d ∈ tables_1, d.before a0 Z = true) (ws : List Jvm.Cond) (a62_0 : Addr) (p62_1 : Int32) (p62_2 : Int32) (kk : ClassId) (zz : Int32) (x0 : Int32) (x1 : Int32) (x2 : Int32) (x3 : Int32) (x4 : Int32) (x5 : Int32) (h0 : Heap) (n0 : Nat) (Z0 : n0 ≤ h0.size) (Vb : Arv Z h0 a62_0 kk .int zz [(.int x0), (.int x1), (.int x2), (.int x3), (.int x4), (.int x5)] (.int (0 : Int32))) (hlt : (2 : Int32) < p62_1) (hz : (2 : Int32) < zz) :
    MetFree l (⟨"com/example/leanweave/leanweave/NetworkNumberingPinLaw", "ok", "([IIII)Z"⟩ : MethodName) (head1 (Jvm.Cond.code (⟨"com/example/leanweave/leanweave/NetworkNumberingPinLaw", "ok", "([IIII)Z"⟩ : MethodName) method_4_code 5 (some .boolean) :: ws) ({ frames := 1, cells := 0, slots := 0, locals := 12 } : Room)) (fun a U => a = #[(.ref a62_0), (.int p62_1), (.int p62_2), (.int (2 : Int32))] ∧ Z.Warmed39 U.vm ∧ U.heap = h0) (fun _ _ _ _ _ => True) (fun _ U o U' => ∃ v L, o = .returned v ∧ Q62 Z a62_0 p62_1 p62_2 kk zz x0 x1 x2 x3 x4 x5 h0 n0 v U'.heap L ∧ FrameEnd U o U' L ({ frames := 1, cells := 0, slots := 0, locals := 12 } : Room).cells ({ frames := 1, cells := 0, slots := 0, locals := 12 } : Room).slots) := by
  refine MetFree.of_bodySF (plainFor_of_name pn_0) hisR ?_
  intro p e s m args below meth c s₁ Bd hml0 hP hK
  obtain ⟨rfl, hZ, hh⟩ := hP
  have hx := Bd.exec
  have hby := Bd.bytes
  have hml : c.maxLocals = 5 := hml0
  have hown : s.vm.findClass "com/example/leanweave/leanweave/NetworkNumberingPinLaw" = some m.cls := findClass_of_methodNamed Bd.named
  have hnm := (name_of_methodNamed Bd.named Bd.method).1
  have X0 : Stand p l e ({ frames := 1, cells := 0, slots := 0, locals := 12 } : Room) s m #[(.ref a62_0), (.int p62_1), (.int p62_2), (.int (2 : Int32))] below meth c s₁ [] 0 0 := Stand.of_body Bd
  have e0 : s₁.heap = h0 := by rw [← hh, Bd.state]; rfl
  have N0 := Fr.nil n0
  have pre0 : ∀ t, Steps p.tables e below (s₁.setTop (mkF m 0 #[.val (.ref a62_0), .val (.int p62_1), .val (.int p62_2), .val (.int (2 : Int32)), .unset] [])) t → Steps p.tables e below (s₁.setTop (entryFrame m #[(.ref a62_0), (.int p62_1), (.int p62_2), (.int (2 : Int32))] 5)) t := fun t k => castTop (ef_62 m a62_0 p62_1 p62_2) k
  have k1 : ∀ t, Steps p.tables e below (s₁.setTop (mkF m 12 #[.val (.ref a62_0), .val (.int p62_1), .val (.int p62_2), .val (.int (2 : Int32)), .unset] [(.int ((p62_2 >>> ((2 : Int32) &&& 31)) &&& (1 : Int32)))])) t → Steps p.tables e below (s₁.setTop (entryFrame m #[(.ref a62_0), (.int p62_1), (.int p62_2), (.int (2 : Int32))] 5)) t := by
    intro t k
    refine pre0 t ?_
    show Steps p.tables e below (s₁.setTop (mkF m 0 #[.val (.ref a62_0), .val (.int p62_1), .val (.int p62_2), .val (.int (2 : Int32)), .unset] [])) _
    refine XS.iloadN X0.here hx rfl (hb hby d62_0) rfl ?_
    show Steps p.tables e below (s₁.setTop (mkF m 1 #[.val (.ref a62_0), .val (.int p62_1), .val (.int p62_2), .val (.int (2 : Int32)), .unset] [(.int (2 : Int32))])) _
    refine XS.iloadN X0.here hx rfl (hb hby d62_1) rfl ?_
    show Steps p.tables e below (s₁.setTop (mkF m 2 #[.val (.ref a62_0), .val (.int p62_1), .val (.int p62_2), .val (.int (2 : Int32)), .unset] [(.int p62_1), (.int (2 : Int32))])) _
    refine XS.icmpYes X0.here hx rfl (pc0 := 2) (pc' := 7) rfl (hb hby d62_2) rfl (tlt hlt).1 (by decide) (by decide) ?_
    show Steps p.tables e below (s₁.setTop (mkF m 7 #[.val (.ref a62_0), .val (.int p62_1), .val (.int p62_2), .val (.int (2 : Int32)), .unset] [])) _
    refine XS.iloadN X0.here hx rfl (hb hby d62_7) rfl ?_
    show Steps p.tables e below (s₁.setTop (mkF m 8 #[.val (.ref a62_0), .val (.int p62_1), .val (.int p62_2), .val (.int (2 : Int32)), .unset] [(.int p62_2)])) _
    refine XS.iloadN X0.here hx rfl (hb hby d62_8) rfl ?_
    show Steps p.tables e below (s₁.setTop (mkF m 9 #[.val (.ref a62_0), .val (.int p62_1), .val (.int p62_2), .val (.int (2 : Int32)), .unset] [(.int (2 : Int32)), (.int p62_2)])) _
    refine XS.ishr X0.here hx rfl (hb hby d62_9) rfl ?_
    show Steps p.tables e below (s₁.setTop (mkF m 10 #[.val (.ref a62_0), .val (.int p62_1), .val (.int p62_2), .val (.int (2 : Int32)), .unset] [(.int (p62_2 >>> ((2 : Int32) &&& 31)))])) _
    refine XS.iconst X0.here hx rfl (hb hby d62_10) ?_
    show Steps p.tables e below (s₁.setTop (mkF m 11 #[.val (.ref a62_0), .val (.int p62_1), .val (.int p62_2), .val (.int (2 : Int32)), .unset] [(.int (1 : Int32)), (.int (p62_2 >>> ((2 : Int32) &&& 31)))])) _
    refine XS.iand X0.here hx rfl (hb hby d62_11) rfl ?_
    exact k
  by_cases hc12_2 : ((p62_2 >>> ((2 : Int32) &&& 31)) &&& (1 : Int32)) = (0 : Int32)
  · skip
    obtain ⟨cl3, Ar3, qc3, Sz3, Nn3, Hh3, Gg3⟩ := (id Vb)
    have hin3 : ¬ ((2 : Int32) < 0 ∨ cl3.slots.size ≤ ((2 : Int32)).toNatClampNeg) := inb_of Sz3 ⟨by decide, hz⟩
    have k4 : ∀ t, Steps p.tables e below (s₁.setTop (mkF m 36 #[.val (.ref a62_0), .val (.int p62_1), .val (.int p62_2), .val (.int (2 : Int32)), .val (.int (-1 : Int32))] [(.int (-1 : Int32)), (.int x2)])) t → Steps p.tables e below (s₁.setTop (entryFrame m #[(.ref a62_0), (.int p62_1), (.int p62_2), (.int (2 : Int32))] 5)) t := by
      intro t k
      refine k1 t ?_
      show Steps p.tables e below (s₁.setTop (mkF m 12 #[.val (.ref a62_0), .val (.int p62_1), .val (.int p62_2), .val (.int (2 : Int32)), .unset] [(.int ((p62_2 >>> ((2 : Int32) &&& 31)) &&& (1 : Int32)))])) _
      refine XS.ifYes X0.here hx rfl (pc0 := 12) (pc' := 28) rfl (hb hby d62_12) rfl ((if0 _ _).trans (teq hc12_2).1) (by decide) (by decide) ?_
      show Steps p.tables e below (s₁.setTop (mkF m 28 #[.val (.ref a62_0), .val (.int p62_1), .val (.int p62_2), .val (.int (2 : Int32)), .unset] [])) _
      refine XS.iconst X0.here hx rfl (hb hby d62_28) ?_
      show Steps p.tables e below (s₁.setTop (mkF m 29 #[.val (.ref a62_0), .val (.int p62_1), .val (.int p62_2), .val (.int (2 : Int32)), .unset] [(.int (-1 : Int32))])) _
      refine XS.istore X0.here hx rfl (hb hby d62_29) rfl (l' := #[.val (.ref a62_0), .val (.int p62_1), .val (.int p62_2), .val (.int (2 : Int32)), .val (.int (-1 : Int32))]) rfl ?_
      show Steps p.tables e below (s₁.setTop (mkF m 31 #[.val (.ref a62_0), .val (.int p62_1), .val (.int p62_2), .val (.int (2 : Int32)), .val (.int (-1 : Int32))] [])) _
      refine XS.aloadN X0.here hx rfl (hb hby d62_31) rfl rfl ?_
      show Steps p.tables e below (s₁.setTop (mkF m 32 #[.val (.ref a62_0), .val (.int p62_1), .val (.int p62_2), .val (.int (2 : Int32)), .val (.int (-1 : Int32))] [(.ref a62_0)])) _
      refine XS.iloadN X0.here hx rfl (hb hby d62_32) rfl ?_
      show Steps p.tables e below (s₁.setTop (mkF m 33 #[.val (.ref a62_0), .val (.int p62_1), .val (.int p62_2), .val (.int (2 : Int32)), .val (.int (-1 : Int32))] [(.int (2 : Int32)), (.ref a62_0)])) _
      refine X0.iaload hx (j := (2 : Int32)) (v := (.int x2)) (by rw [e0]; exact Ar3.1) (State.isArrayOf_alike hZ.alike Ar3.2.1) Ar3.2.2 hin3 (Hh3.at hin3 rfl) (g := (mkF m 33 #[.val (.ref a62_0), .val (.int p62_1), .val (.int p62_2), .val (.int (2 : Int32)), .val (.int (-1 : Int32))] [(.int (2 : Int32)), (.ref a62_0)])) rfl rfl (hb hby d62_33) _ ?_
      show Steps p.tables e below (s₁.setTop (mkF m 34 #[.val (.ref a62_0), .val (.int p62_1), .val (.int p62_2), .val (.int (2 : Int32)), .val (.int (-1 : Int32))] [(.int x2)])) _
      refine XS.iload X0.here hx rfl (hb hby d62_34) rfl ?_
      exact k
    by_cases hc36_5 : x2 = (-1 : Int32)
    · skip
      have k6 : ∀ t, Steps p.tables e below (s₁.setTop (mkF m 44 #[.val (.ref a62_0), .val (.int p62_1), .val (.int p62_2), .val (.int (2 : Int32)), .val (.int (-1 : Int32))] [(.int (1 : Int32))])) t → Steps p.tables e below (s₁.setTop (entryFrame m #[(.ref a62_0), (.int p62_1), (.int p62_2), (.int (2 : Int32))] 5)) t := by
        intro t k
        refine k4 t ?_
        show Steps p.tables e below (s₁.setTop (mkF m 36 #[.val (.ref a62_0), .val (.int p62_1), .val (.int p62_2), .val (.int (2 : Int32)), .val (.int (-1 : Int32))] [(.int (-1 : Int32)), (.int x2)])) _
        refine XS.icmpNo X0.here hx rfl (hb hby d62_36) rfl (teq hc36_5).2 ?_
        show Steps p.tables e below (s₁.setTop (mkF m 39 #[.val (.ref a62_0), .val (.int p62_1), .val (.int p62_2), .val (.int (2 : Int32)), .val (.int (-1 : Int32))] [])) _
        refine XS.iconst X0.here hx rfl (hb hby d62_39) ?_
        show Steps p.tables e below (s₁.setTop (mkF m 40 #[.val (.ref a62_0), .val (.int p62_1), .val (.int p62_2), .val (.int (2 : Int32)), .val (.int (-1 : Int32))] [(.int (1 : Int32))])) _
        refine XS.goto X0.here hx rfl (pc0 := 40) (pc' := 44) rfl (hb hby d62_40) (by decide) (by decide) ?_
        exact k
      obtain ⟨fs, hr, hrun, hended, hW, hsame⟩ := X0.leave (v := some (.int (1 : Int32))) (fun h => by rw [Bd.returns] at h; cases h)
      refine ⟨_, _, k6 _ ?_, hrun, hended, _, _, rfl, ?_, ⟨_, rfl⟩, hW, hsame.mono (by decide) (by decide)⟩
      · exact retN X0 hx (t := .boolean) Bd.returns (by simp) (hb hby d62_44) hr
      · show Q62 Z a62_0 p62_1 p62_2 kk zz x0 x1 x2 x3 x4 x5 h0 n0 _ s₁.heap _
        rw [e0]
        exact ⟨congrArg (fun z => some (Value.int z)) (show ((1 : Int32) : Int32) = own_ok2 p62_2 x2 from by unfold own_ok2; rw [if_pos hc12_2, if_pos hc36_5]), N0, rfl⟩
    · skip
      have k7 : ∀ t, Steps p.tables e below (s₁.setTop (mkF m 44 #[.val (.ref a62_0), .val (.int p62_1), .val (.int p62_2), .val (.int (2 : Int32)), .val (.int (-1 : Int32))] [(.int (0 : Int32))])) t → Steps p.tables e below (s₁.setTop (entryFrame m #[(.ref a62_0), (.int p62_1), (.int p62_2), (.int (2 : Int32))] 5)) t := by
        intro t k
        refine k4 t ?_
        show Steps p.tables e below (s₁.setTop (mkF m 36 #[.val (.ref a62_0), .val (.int p62_1), .val (.int p62_2), .val (.int (2 : Int32)), .val (.int (-1 : Int32))] [(.int (-1 : Int32)), (.int x2)])) _
        refine XS.icmpYes X0.here hx rfl (pc0 := 36) (pc' := 43) rfl (hb hby d62_36) rfl (feq hc36_5).2 (by decide) (by decide) ?_
        show Steps p.tables e below (s₁.setTop (mkF m 43 #[.val (.ref a62_0), .val (.int p62_1), .val (.int p62_2), .val (.int (2 : Int32)), .val (.int (-1 : Int32))] [])) _
        refine XS.iconst X0.here hx rfl (hb hby d62_43) ?_
        exact k
      obtain ⟨fs, hr, hrun, hended, hW, hsame⟩ := X0.leave (v := some (.int (0 : Int32))) (fun h => by rw [Bd.returns] at h; cases h)
      refine ⟨_, _, k7 _ ?_, hrun, hended, _, _, rfl, ?_, ⟨_, rfl⟩, hW, hsame.mono (by decide) (by decide)⟩
      · exact retN X0 hx (t := .boolean) Bd.returns (by simp) (hb hby d62_44) hr
      · show Q62 Z a62_0 p62_1 p62_2 kk zz x0 x1 x2 x3 x4 x5 h0 n0 _ s₁.heap _
        rw [e0]
        exact ⟨congrArg (fun z => some (Value.int z)) (show ((0 : Int32) : Int32) = own_ok2 p62_2 x2 from by unfold own_ok2; rw [if_pos hc12_2, if_neg hc36_5]), N0, rfl⟩
  · skip
    obtain ⟨_, _, ⟨T8, L8, k8, n8⟩, -, X8, ⟨Lc8, hQ8, l8, y8, z8⟩, st8⟩ := Jvm.LawKit.callS X0 hx (y := (⟨"com/example/leanweave/leanweave/NetworkNumberingPinLaw", "ones", "(I)I"⟩ : MethodName)) hown (mvT hZ (hw _ (List.mem_of_getElem? (i := 14) rfl))) (mvT hZ (hw _ (List.mem_of_getElem? (i := 15) rfl))) (mvT hZ (hw _ (List.mem_of_getElem? (i := 4) rfl))) (mvT hZ (hw _ (List.mem_of_getElem? (i := 16) rfl))) (by decide) (backOf (W := 0) (rm4 l Z a0 hw [] (p62_2 &&& (3 : Int32)) h0 n0 Z0 ) hZ (hw _ (List.mem_of_getElem? (i := 16) rfl)) (hw _ (List.mem_of_getElem? (i := 4) rfl)) (by decide) (by decide)) (g := (mkF m 22 #[.val (.ref a62_0), .val (.int p62_1), .val (.int p62_2), .val (.int (2 : Int32)), .unset] [(.int (p62_2 &&& (3 : Int32)))])) rfl (by rw [hml]; rfl) (argsL := [(.int (p62_2 &&& (3 : Int32)))]) (rest := []) (lenOf pd_0 rfl) rfl (by show 2 * 0 + _ ≤ _; exact Nat.le_of_eq rfl) (hb hby d62_22) (fun _ _ => ⟨rfl, e0, (by decide : 0 + 0 ≤ _), (by decide : 0 + 0 ≤ _)⟩)
    dsimp only [Pt.U, Pt.locs, Pt.cells, Pt.slots] at X8 l8 y8 z8 st8 hQ8
    subst l8 y8 z8
    obtain ⟨rfl, N8q, eh8⟩ := hQ8
    have N8 := Fr.app N0 N8q
    obtain ⟨cl9, Ar9, qc9, Sz9, Nn9, Hh9, Gg9⟩ := (id Vb)
    have hin9 : ¬ ((2 : Int32) < 0 ∨ cl9.slots.size ≤ ((2 : Int32)).toNatClampNeg) := inb_of Sz9 ⟨by decide, hz⟩
    have k10 : ∀ t, Steps p.tables e below (T8.setTop (mkF m 36 #[.val (.ref a62_0), .val (.int p62_1), .val (.int p62_2), .val (.int (2 : Int32)), .val (.int (own_ones (p62_2 &&& (3 : Int32))))] [(.int (own_ones (p62_2 &&& (3 : Int32)))), (.int x2)])) t → Steps p.tables e below (s₁.setTop (entryFrame m #[(.ref a62_0), (.int p62_1), (.int p62_2), (.int (2 : Int32))] 5)) t := by
      intro t k
      refine k1 t ?_
      show Steps p.tables e below (s₁.setTop (mkF m 12 #[.val (.ref a62_0), .val (.int p62_1), .val (.int p62_2), .val (.int (2 : Int32)), .unset] [(.int ((p62_2 >>> ((2 : Int32) &&& 31)) &&& (1 : Int32)))])) _
      refine XS.ifNo X0.here hx rfl (hb hby d62_12) rfl ((if0 _ _).trans (feq hc12_2).1) ?_
      show Steps p.tables e below (s₁.setTop (mkF m 15 #[.val (.ref a62_0), .val (.int p62_1), .val (.int p62_2), .val (.int (2 : Int32)), .unset] [])) _
      refine XS.iloadN X0.here hx rfl (hb hby d62_15) rfl ?_
      show Steps p.tables e below (s₁.setTop (mkF m 16 #[.val (.ref a62_0), .val (.int p62_1), .val (.int p62_2), .val (.int (2 : Int32)), .unset] [(.int p62_2)])) _
      refine XS.iconst X0.here hx rfl (hb hby d62_16) ?_
      show Steps p.tables e below (s₁.setTop (mkF m 17 #[.val (.ref a62_0), .val (.int p62_1), .val (.int p62_2), .val (.int (2 : Int32)), .unset] [(.int (1 : Int32)), (.int p62_2)])) _
      refine XS.iloadN X0.here hx rfl (hb hby d62_17) rfl ?_
      show Steps p.tables e below (s₁.setTop (mkF m 18 #[.val (.ref a62_0), .val (.int p62_1), .val (.int p62_2), .val (.int (2 : Int32)), .unset] [(.int (2 : Int32)), (.int (1 : Int32)), (.int p62_2)])) _
      refine XS.ishl X0.here hx rfl (hb hby d62_18) rfl ?_
      show Steps p.tables e below (s₁.setTop (mkF m 19 #[.val (.ref a62_0), .val (.int p62_1), .val (.int p62_2), .val (.int (2 : Int32)), .unset] [(.int (4 : Int32)), (.int p62_2)])) _
      refine XS.iconst X0.here hx rfl (hb hby d62_19) ?_
      show Steps p.tables e below (s₁.setTop (mkF m 20 #[.val (.ref a62_0), .val (.int p62_1), .val (.int p62_2), .val (.int (2 : Int32)), .unset] [(.int (1 : Int32)), (.int (4 : Int32)), (.int p62_2)])) _
      refine XS.isub X0.here hx rfl (hb hby d62_20) rfl ?_
      show Steps p.tables e below (s₁.setTop (mkF m 21 #[.val (.ref a62_0), .val (.int p62_1), .val (.int p62_2), .val (.int (2 : Int32)), .unset] [(.int (3 : Int32)), (.int p62_2)])) _
      refine XS.iand X0.here hx rfl (hb hby d62_21) rfl ?_
      show Steps p.tables e below (s₁.setTop (mkF m 22 #[.val (.ref a62_0), .val (.int p62_1), .val (.int p62_2), .val (.int (2 : Int32)), .unset] [(.int (p62_2 &&& (3 : Int32)))])) _
      refine st8 _ ?_
      show Steps p.tables e below (T8.setTop (mkF m 25 #[.val (.ref a62_0), .val (.int p62_1), .val (.int p62_2), .val (.int (2 : Int32)), .unset] [(.int (own_ones (p62_2 &&& (3 : Int32))))])) _
      refine XS.goto X8.here hx rfl (pc0 := 25) (pc' := 29) rfl (hb hby d62_25) (by decide) (by decide) ?_
      show Steps p.tables e below (T8.setTop (mkF m 29 #[.val (.ref a62_0), .val (.int p62_1), .val (.int p62_2), .val (.int (2 : Int32)), .unset] [(.int (own_ones (p62_2 &&& (3 : Int32))))])) _
      refine XS.istore X8.here hx rfl (hb hby d62_29) rfl (l' := #[.val (.ref a62_0), .val (.int p62_1), .val (.int p62_2), .val (.int (2 : Int32)), .val (.int (own_ones (p62_2 &&& (3 : Int32))))]) rfl ?_
      show Steps p.tables e below (T8.setTop (mkF m 31 #[.val (.ref a62_0), .val (.int p62_1), .val (.int p62_2), .val (.int (2 : Int32)), .val (.int (own_ones (p62_2 &&& (3 : Int32))))] [])) _
      refine XS.aloadN X8.here hx rfl (hb hby d62_31) rfl rfl ?_
      show Steps p.tables e below (T8.setTop (mkF m 32 #[.val (.ref a62_0), .val (.int p62_1), .val (.int p62_2), .val (.int (2 : Int32)), .val (.int (own_ones (p62_2 &&& (3 : Int32))))] [(.ref a62_0)])) _
      refine XS.iloadN X8.here hx rfl (hb hby d62_32) rfl ?_
      show Steps p.tables e below (T8.setTop (mkF m 33 #[.val (.ref a62_0), .val (.int p62_1), .val (.int p62_2), .val (.int (2 : Int32)), .val (.int (own_ones (p62_2 &&& (3 : Int32))))] [(.int (2 : Int32)), (.ref a62_0)])) _
      refine X8.iaload hx (j := (2 : Int32)) (v := (.int x2)) (by rw [eh8]; exact Ar9.1) (State.isArrayOf_alike hZ.alike Ar9.2.1) Ar9.2.2 hin9 (Hh9.at hin9 rfl) (g := (mkF m 33 #[.val (.ref a62_0), .val (.int p62_1), .val (.int p62_2), .val (.int (2 : Int32)), .val (.int (own_ones (p62_2 &&& (3 : Int32))))] [(.int (2 : Int32)), (.ref a62_0)])) rfl rfl (hb hby d62_33) _ ?_
      show Steps p.tables e below (T8.setTop (mkF m 34 #[.val (.ref a62_0), .val (.int p62_1), .val (.int p62_2), .val (.int (2 : Int32)), .val (.int (own_ones (p62_2 &&& (3 : Int32))))] [(.int x2)])) _
      refine XS.iload X8.here hx rfl (hb hby d62_34) rfl ?_
      exact k
    by_cases hc36_11 : x2 = (own_ones (p62_2 &&& (3 : Int32)))
    · skip
      have k12 : ∀ t, Steps p.tables e below (T8.setTop (mkF m 44 #[.val (.ref a62_0), .val (.int p62_1), .val (.int p62_2), .val (.int (2 : Int32)), .val (.int (own_ones (p62_2 &&& (3 : Int32))))] [(.int (1 : Int32))])) t → Steps p.tables e below (s₁.setTop (entryFrame m #[(.ref a62_0), (.int p62_1), (.int p62_2), (.int (2 : Int32))] 5)) t := by
        intro t k
        refine k10 t ?_
        show Steps p.tables e below (T8.setTop (mkF m 36 #[.val (.ref a62_0), .val (.int p62_1), .val (.int p62_2), .val (.int (2 : Int32)), .val (.int (own_ones (p62_2 &&& (3 : Int32))))] [(.int (own_ones (p62_2 &&& (3 : Int32)))), (.int x2)])) _
        refine XS.icmpNo X8.here hx rfl (hb hby d62_36) rfl (teq hc36_11).2 ?_
        show Steps p.tables e below (T8.setTop (mkF m 39 #[.val (.ref a62_0), .val (.int p62_1), .val (.int p62_2), .val (.int (2 : Int32)), .val (.int (own_ones (p62_2 &&& (3 : Int32))))] [])) _
        refine XS.iconst X8.here hx rfl (hb hby d62_39) ?_
        show Steps p.tables e below (T8.setTop (mkF m 40 #[.val (.ref a62_0), .val (.int p62_1), .val (.int p62_2), .val (.int (2 : Int32)), .val (.int (own_ones (p62_2 &&& (3 : Int32))))] [(.int (1 : Int32))])) _
        refine XS.goto X8.here hx rfl (pc0 := 40) (pc' := 44) rfl (hb hby d62_40) (by decide) (by decide) ?_
        exact k
      obtain ⟨fs, hr, hrun, hended, hW, hsame⟩ := X8.leave (v := some (.int (1 : Int32))) (fun h => by rw [Bd.returns] at h; cases h)
      refine ⟨_, _, k12 _ ?_, hrun, hended, _, _, rfl, ?_, ⟨_, rfl⟩, hW, hsame.mono (by decide) (by decide)⟩
      · exact retN X8 hx (t := .boolean) Bd.returns (by simp) (hb hby d62_44) hr
      · show Q62 Z a62_0 p62_1 p62_2 kk zz x0 x1 x2 x3 x4 x5 h0 n0 _ T8.heap _
        rw [eh8]
        exact ⟨congrArg (fun z => some (Value.int z)) (show ((1 : Int32) : Int32) = own_ok2 p62_2 x2 from by unfold own_ok2; rw [if_neg hc12_2, if_pos hc36_11]), N8, rfl⟩
    · skip
      have k13 : ∀ t, Steps p.tables e below (T8.setTop (mkF m 44 #[.val (.ref a62_0), .val (.int p62_1), .val (.int p62_2), .val (.int (2 : Int32)), .val (.int (own_ones (p62_2 &&& (3 : Int32))))] [(.int (0 : Int32))])) t → Steps p.tables e below (s₁.setTop (entryFrame m #[(.ref a62_0), (.int p62_1), (.int p62_2), (.int (2 : Int32))] 5)) t := by
        intro t k
        refine k10 t ?_
        show Steps p.tables e below (T8.setTop (mkF m 36 #[.val (.ref a62_0), .val (.int p62_1), .val (.int p62_2), .val (.int (2 : Int32)), .val (.int (own_ones (p62_2 &&& (3 : Int32))))] [(.int (own_ones (p62_2 &&& (3 : Int32)))), (.int x2)])) _
        refine XS.icmpYes X8.here hx rfl (pc0 := 36) (pc' := 43) rfl (hb hby d62_36) rfl (feq hc36_11).2 (by decide) (by decide) ?_
        show Steps p.tables e below (T8.setTop (mkF m 43 #[.val (.ref a62_0), .val (.int p62_1), .val (.int p62_2), .val (.int (2 : Int32)), .val (.int (own_ones (p62_2 &&& (3 : Int32))))] [])) _
        refine XS.iconst X8.here hx rfl (hb hby d62_43) ?_
        exact k
      obtain ⟨fs, hr, hrun, hended, hW, hsame⟩ := X8.leave (v := some (.int (0 : Int32))) (fun h => by rw [Bd.returns] at h; cases h)
      refine ⟨_, _, k13 _ ?_, hrun, hended, _, _, rfl, ?_, ⟨_, rfl⟩, hW, hsame.mono (by decide) (by decide)⟩
      · exact retN X8 hx (t := .boolean) Bd.returns (by simp) (hb hby d62_44) hr
      · show Q62 Z a62_0 p62_1 p62_2 kk zz x0 x1 x2 x3 x4 x5 h0 n0 _ T8.heap _
        rw [eh8]
        exact ⟨congrArg (fun z => some (Value.int z)) (show ((0 : Int32) : Int32) = own_ok2 p62_2 x2 from by unfold own_ok2; rw [if_neg hc12_2, if_neg hc36_11]), N8, rfl⟩
theorem d63_0 : decode method_4_code 0 = .ok (.iload_n 3, 1) := by decide +kernel
theorem d63_1 : decode method_4_code 1 = .ok (.iload_n 1, 1) := by decide +kernel
theorem d63_2 : decode method_4_code 2 = .ok (.if_icmp .lt 5, 3) := by decide +kernel
theorem d63_7 : decode method_4_code 7 = .ok (.iload_n 2, 1) := by decide +kernel
theorem d63_8 : decode method_4_code 8 = .ok (.iload_n 3, 1) := by decide +kernel
theorem d63_9 : decode method_4_code 9 = .ok (.ishr, 1) := by decide +kernel
theorem d63_10 : decode method_4_code 10 = .ok (.iconst 1, 1) := by decide +kernel
theorem d63_11 : decode method_4_code 11 = .ok (.iand, 1) := by decide +kernel
theorem d63_12 : decode method_4_code 12 = .ok (.ifCond .eq 16, 3) := by decide +kernel
theorem d63_15 : decode method_4_code 15 = .ok (.iload_n 2, 1) := by decide +kernel
theorem d63_16 : decode method_4_code 16 = .ok (.iconst 1, 1) := by decide +kernel
theorem d63_17 : decode method_4_code 17 = .ok (.iload_n 3, 1) := by decide +kernel
theorem d63_18 : decode method_4_code 18 = .ok (.ishl, 1) := by decide +kernel
theorem d63_19 : decode method_4_code 19 = .ok (.iconst 1, 1) := by decide +kernel
theorem d63_20 : decode method_4_code 20 = .ok (.isub, 1) := by decide +kernel
theorem d63_21 : decode method_4_code 21 = .ok (.iand, 1) := by decide +kernel
theorem d63_22 : decode method_4_code 22 = .ok (.invokestatic 7, 3) := by decide +kernel
theorem d63_25 : decode method_4_code 25 = .ok (.goto 4, 3) := by decide +kernel
theorem d63_28 : decode method_4_code 28 = .ok (.iconst (-1), 1) := by decide +kernel
theorem d63_29 : decode method_4_code 29 = .ok (.istore 4, 2) := by decide +kernel
theorem d63_31 : decode method_4_code 31 = .ok (.aload_n 0, 1) := by decide +kernel
theorem d63_32 : decode method_4_code 32 = .ok (.iload_n 3, 1) := by decide +kernel
theorem d63_33 : decode method_4_code 33 = .ok (.iaload, 1) := by decide +kernel
theorem d63_34 : decode method_4_code 34 = .ok (.iload 4, 2) := by decide +kernel
theorem d63_36 : decode method_4_code 36 = .ok (.if_icmp .ne 7, 3) := by decide +kernel
theorem d63_39 : decode method_4_code 39 = .ok (.iconst 1, 1) := by decide +kernel
theorem d63_40 : decode method_4_code 40 = .ok (.goto 4, 3) := by decide +kernel
theorem d63_43 : decode method_4_code 43 = .ok (.iconst 0, 1) := by decide +kernel
theorem d63_44 : decode method_4_code 44 = .ok (.ireturn, 1) := by decide +kernel
theorem ef_63 (m : MethodId) (a63_0 : Addr) (p63_1 : Int32) (p63_2 : Int32) : entryFrame m #[(.ref a63_0), (.int p63_1), (.int p63_2), (.int (3 : Int32))] 5 = mkF m 0 #[.val (.ref a63_0), .val (.int p63_1), .val (.int p63_2), .val (.int (3 : Int32)), .unset] [] := by first | (simp [entryFrame, mkF, argsToLocals, Value.category]; done) | rfl
def own_ok3 (p63_2 : Int32) (x3 : Int32) : Int32 := (if ((p63_2 >>> ((3 : Int32) &&& 31)) &&& (1 : Int32)) = (0 : Int32) then (if x3 = (-1 : Int32) then (1 : Int32) else (0 : Int32)) else (if x3 = (own_ones (p63_2 &&& (7 : Int32))) then (1 : Int32) else (0 : Int32)))
def Q63 (Z : State) (a63_0 : Addr) (p63_1 : Int32) (p63_2 : Int32) (kk : ClassId) (zz : Int32) (x0 : Int32) (x1 : Int32) (x2 : Int32) (x3 : Int32) (x4 : Int32) (x5 : Int32) (h0 : Heap) (n0 : Nat) (v : Option Value) (h : Heap) (L : List Loc) : Prop := v = some (.int (own_ok3 p63_2 x3)) ∧ Fr n0 L ∧ h = h0
set_option maxRecDepth 65536 in
set_option maxHeartbeats 40000000 in
theorem rm63 (l : Launch) (Z : State) (a0 : Array Value) (hw : ∀ d ∈ tables_1, d.before a0 Z = true) (ws : List Jvm.Cond) (a63_0 : Addr) (p63_1 : Int32) (p63_2 : Int32) (kk : ClassId) (zz : Int32) (x0 : Int32) (x1 : Int32) (x2 : Int32) (x3 : Int32) (x4 : Int32) (x5 : Int32) (h0 : Heap) (n0 : Nat) (Z0 : n0 ≤ h0.size) (Vb : Arv Z h0 a63_0 kk .int zz [(.int x0), (.int x1), (.int x2), (.int x3), (.int x4), (.int x5)] (.int (0 : Int32))) (hlt : (3 : Int32) < p63_1) (hz : (3 : Int32) < zz) :
    MetFree l (⟨"com/example/leanweave/leanweave/NetworkNumberingPinLaw", "ok", "([IIII)Z"⟩ : MethodName) (head1 (Jvm.Cond.code (⟨"com/example/leanweave/leanweave/NetworkNumberingPinLaw", "ok", "([IIII)Z"⟩ : MethodName) method_4_code 5 (some .boolean) :: ws) ({ frames := 1, cells := 0, slots := 0, locals := 12 } : Room)) (fun a U => a = #[(.ref a63_0), (.int p63_1), (.int p63_2), (.int (3 : Int32))] ∧ Z.Warmed39 U.vm ∧ U.heap = h0) (fun _ _ _ _ _ => True) (fun _ U o U' => ∃ v L, o = .returned v ∧ Q63 Z a63_0 p63_1 p63_2 kk zz x0 x1 x2 x3 x4 x5 h0 n0 v U'.heap L ∧ FrameEnd U o U' L ({ frames := 1, cells := 0, slots := 0, locals := 12 } : Room).cells ({ frames := 1, cells := 0, slots := 0, locals := 12 } : Room).slots) := by
  refine MetFree.of_bodySF (plainFor_of_name pn_0) hisR ?_
  intro p e s m args below meth c s₁ Bd hml0 hP hK
  obtain ⟨rfl, hZ, hh⟩ := hP
  have hx := Bd.exec
  have hby := Bd.bytes
  have hml : c.maxLocals = 5 := hml0
  have hown : s.vm.findClass "com/example/leanweave/leanweave/NetworkNumberingPinLaw" = some m.cls := findClass_of_methodNamed Bd.named
  have hnm := (name_of_methodNamed Bd.named Bd.method).1
  have X0 : Stand p l e ({ frames := 1, cells := 0, slots := 0, locals := 12 } : Room) s m #[(.ref a63_0), (.int p63_1), (.int p63_2), (.int (3 : Int32))] below meth c s₁ [] 0 0 := Stand.of_body Bd
  have e0 : s₁.heap = h0 := by rw [← hh, Bd.state]; rfl
  have N0 := Fr.nil n0
  have pre0 : ∀ t, Steps p.tables e below (s₁.setTop (mkF m 0 #[.val (.ref a63_0), .val (.int p63_1), .val (.int p63_2), .val (.int (3 : Int32)), .unset] [])) t → Steps p.tables e below (s₁.setTop (entryFrame m #[(.ref a63_0), (.int p63_1), (.int p63_2), (.int (3 : Int32))] 5)) t := fun t k => castTop (ef_63 m a63_0 p63_1 p63_2) k
  have k1 : ∀ t, Steps p.tables e below (s₁.setTop (mkF m 12 #[.val (.ref a63_0), .val (.int p63_1), .val (.int p63_2), .val (.int (3 : Int32)), .unset] [(.int ((p63_2 >>> ((3 : Int32) &&& 31)) &&& (1 : Int32)))])) t → Steps p.tables e below (s₁.setTop (entryFrame m #[(.ref a63_0), (.int p63_1), (.int p63_2), (.int (3 : Int32))] 5)) t := by
    intro t k
    refine pre0 t ?_
    show Steps p.tables e below (s₁.setTop (mkF m 0 #[.val (.ref a63_0), .val (.int p63_1), .val (.int p63_2), .val (.int (3 : Int32)), .unset] [])) _
    refine XS.iloadN X0.here hx rfl (hb hby d63_0) rfl ?_
    show Steps p.tables e below (s₁.setTop (mkF m 1 #[.val (.ref a63_0), .val (.int p63_1), .val (.int p63_2), .val (.int (3 : Int32)), .unset] [(.int (3 : Int32))])) _
    refine XS.iloadN X0.here hx rfl (hb hby d63_1) rfl ?_
    show Steps p.tables e below (s₁.setTop (mkF m 2 #[.val (.ref a63_0), .val (.int p63_1), .val (.int p63_2), .val (.int (3 : Int32)), .unset] [(.int p63_1), (.int (3 : Int32))])) _
    refine XS.icmpYes X0.here hx rfl (pc0 := 2) (pc' := 7) rfl (hb hby d63_2) rfl (tlt hlt).1 (by decide) (by decide) ?_
    show Steps p.tables e below (s₁.setTop (mkF m 7 #[.val (.ref a63_0), .val (.int p63_1), .val (.int p63_2), .val (.int (3 : Int32)), .unset] [])) _
    refine XS.iloadN X0.here hx rfl (hb hby d63_7) rfl ?_
    show Steps p.tables e below (s₁.setTop (mkF m 8 #[.val (.ref a63_0), .val (.int p63_1), .val (.int p63_2), .val (.int (3 : Int32)), .unset] [(.int p63_2)])) _
    refine XS.iloadN X0.here hx rfl (hb hby d63_8) rfl ?_
    show Steps p.tables e below (s₁.setTop (mkF m 9 #[.val (.ref a63_0), .val (.int p63_1), .val (.int p63_2), .val (.int (3 : Int32)), .unset] [(.int (3 : Int32)), (.int p63_2)])) _
    refine XS.ishr X0.here hx rfl (hb hby d63_9) rfl ?_
    show Steps p.tables e below (s₁.setTop (mkF m 10 #[.val (.ref a63_0), .val (.int p63_1), .val (.int p63_2), .val (.int (3 : Int32)), .unset] [(.int (p63_2 >>> ((3 : Int32) &&& 31)))])) _
    refine XS.iconst X0.here hx rfl (hb hby d63_10) ?_
    show Steps p.tables e below (s₁.setTop (mkF m 11 #[.val (.ref a63_0), .val (.int p63_1), .val (.int p63_2), .val (.int (3 : Int32)), .unset] [(.int (1 : Int32)), (.int (p63_2 >>> ((3 : Int32) &&& 31)))])) _
    refine XS.iand X0.here hx rfl (hb hby d63_11) rfl ?_
    exact k
  by_cases hc12_2 : ((p63_2 >>> ((3 : Int32) &&& 31)) &&& (1 : Int32)) = (0 : Int32)
  · skip
    obtain ⟨cl3, Ar3, qc3, Sz3, Nn3, Hh3, Gg3⟩ := (id Vb)
    have hin3 : ¬ ((3 : Int32) < 0 ∨ cl3.slots.size ≤ ((3 : Int32)).toNatClampNeg) := inb_of Sz3 ⟨by decide, hz⟩
    have k4 : ∀ t, Steps p.tables e below (s₁.setTop (mkF m 36 #[.val (.ref a63_0), .val (.int p63_1), .val (.int p63_2), .val (.int (3 : Int32)), .val (.int (-1 : Int32))] [(.int (-1 : Int32)), (.int x3)])) t → Steps p.tables e below (s₁.setTop (entryFrame m #[(.ref a63_0), (.int p63_1), (.int p63_2), (.int (3 : Int32))] 5)) t := by
      intro t k
      refine k1 t ?_
      show Steps p.tables e below (s₁.setTop (mkF m 12 #[.val (.ref a63_0), .val (.int p63_1), .val (.int p63_2), .val (.int (3 : Int32)), .unset] [(.int ((p63_2 >>> ((3 : Int32) &&& 31)) &&& (1 : Int32)))])) _
      refine XS.ifYes X0.here hx rfl (pc0 := 12) (pc' := 28) rfl (hb hby d63_12) rfl ((if0 _ _).trans (teq hc12_2).1) (by decide) (by decide) ?_
      show Steps p.tables e below (s₁.setTop (mkF m 28 #[.val (.ref a63_0), .val (.int p63_1), .val (.int p63_2), .val (.int (3 : Int32)), .unset] [])) _
      refine XS.iconst X0.here hx rfl (hb hby d63_28) ?_
      show Steps p.tables e below (s₁.setTop (mkF m 29 #[.val (.ref a63_0), .val (.int p63_1), .val (.int p63_2), .val (.int (3 : Int32)), .unset] [(.int (-1 : Int32))])) _
      refine XS.istore X0.here hx rfl (hb hby d63_29) rfl (l' := #[.val (.ref a63_0), .val (.int p63_1), .val (.int p63_2), .val (.int (3 : Int32)), .val (.int (-1 : Int32))]) rfl ?_
      show Steps p.tables e below (s₁.setTop (mkF m 31 #[.val (.ref a63_0), .val (.int p63_1), .val (.int p63_2), .val (.int (3 : Int32)), .val (.int (-1 : Int32))] [])) _
      refine XS.aloadN X0.here hx rfl (hb hby d63_31) rfl rfl ?_
      show Steps p.tables e below (s₁.setTop (mkF m 32 #[.val (.ref a63_0), .val (.int p63_1), .val (.int p63_2), .val (.int (3 : Int32)), .val (.int (-1 : Int32))] [(.ref a63_0)])) _
      refine XS.iloadN X0.here hx rfl (hb hby d63_32) rfl ?_
      show Steps p.tables e below (s₁.setTop (mkF m 33 #[.val (.ref a63_0), .val (.int p63_1), .val (.int p63_2), .val (.int (3 : Int32)), .val (.int (-1 : Int32))] [(.int (3 : Int32)), (.ref a63_0)])) _
      refine X0.iaload hx (j := (3 : Int32)) (v := (.int x3)) (by rw [e0]; exact Ar3.1) (State.isArrayOf_alike hZ.alike Ar3.2.1) Ar3.2.2 hin3 (Hh3.at hin3 rfl) (g := (mkF m 33 #[.val (.ref a63_0), .val (.int p63_1), .val (.int p63_2), .val (.int (3 : Int32)), .val (.int (-1 : Int32))] [(.int (3 : Int32)), (.ref a63_0)])) rfl rfl (hb hby d63_33) _ ?_
      show Steps p.tables e below (s₁.setTop (mkF m 34 #[.val (.ref a63_0), .val (.int p63_1), .val (.int p63_2), .val (.int (3 : Int32)), .val (.int (-1 : Int32))] [(.int x3)])) _
      refine XS.iload X0.here hx rfl (hb hby d63_34) rfl ?_
      exact k
    by_cases hc36_5 : x3 = (-1 : Int32)
    · skip
      have k6 : ∀ t, Steps p.tables e below (s₁.setTop (mkF m 44 #[.val (.ref a63_0), .val (.int p63_1), .val (.int p63_2), .val (.int (3 : Int32)), .val (.int (-1 : Int32))] [(.int (1 : Int32))])) t → Steps p.tables e below (s₁.setTop (entryFrame m #[(.ref a63_0), (.int p63_1), (.int p63_2), (.int (3 : Int32))] 5)) t := by
        intro t k
        refine k4 t ?_
        show Steps p.tables e below (s₁.setTop (mkF m 36 #[.val (.ref a63_0), .val (.int p63_1), .val (.int p63_2), .val (.int (3 : Int32)), .val (.int (-1 : Int32))] [(.int (-1 : Int32)), (.int x3)])) _
        refine XS.icmpNo X0.here hx rfl (hb hby d63_36) rfl (teq hc36_5).2 ?_
        show Steps p.tables e below (s₁.setTop (mkF m 39 #[.val (.ref a63_0), .val (.int p63_1), .val (.int p63_2), .val (.int (3 : Int32)), .val (.int (-1 : Int32))] [])) _
        refine XS.iconst X0.here hx rfl (hb hby d63_39) ?_
        show Steps p.tables e below (s₁.setTop (mkF m 40 #[.val (.ref a63_0), .val (.int p63_1), .val (.int p63_2), .val (.int (3 : Int32)), .val (.int (-1 : Int32))] [(.int (1 : Int32))])) _
        refine XS.goto X0.here hx rfl (pc0 := 40) (pc' := 44) rfl (hb hby d63_40) (by decide) (by decide) ?_
        exact k
      obtain ⟨fs, hr, hrun, hended, hW, hsame⟩ := X0.leave (v := some (.int (1 : Int32))) (fun h => by rw [Bd.returns] at h; cases h)
      refine ⟨_, _, k6 _ ?_, hrun, hended, _, _, rfl, ?_, ⟨_, rfl⟩, hW, hsame.mono (by decide) (by decide)⟩
      · exact retN X0 hx (t := .boolean) Bd.returns (by simp) (hb hby d63_44) hr
      · show Q63 Z a63_0 p63_1 p63_2 kk zz x0 x1 x2 x3 x4 x5 h0 n0 _ s₁.heap _
        rw [e0]
        exact ⟨congrArg (fun z => some (Value.int z)) (show ((1 : Int32) : Int32) = own_ok3 p63_2 x3 from by unfold own_ok3; rw [if_pos hc12_2, if_pos hc36_5]), N0, rfl⟩
    · skip
      have k7 : ∀ t, Steps p.tables e below (s₁.setTop (mkF m 44 #[.val (.ref a63_0), .val (.int p63_1), .val (.int p63_2), .val (.int (3 : Int32)), .val (.int (-1 : Int32))] [(.int (0 : Int32))])) t → Steps p.tables e below (s₁.setTop (entryFrame m #[(.ref a63_0), (.int p63_1), (.int p63_2), (.int (3 : Int32))] 5)) t := by
        intro t k
        refine k4 t ?_
        show Steps p.tables e below (s₁.setTop (mkF m 36 #[.val (.ref a63_0), .val (.int p63_1), .val (.int p63_2), .val (.int (3 : Int32)), .val (.int (-1 : Int32))] [(.int (-1 : Int32)), (.int x3)])) _
        refine XS.icmpYes X0.here hx rfl (pc0 := 36) (pc' := 43) rfl (hb hby d63_36) rfl (feq hc36_5).2 (by decide) (by decide) ?_
        show Steps p.tables e below (s₁.setTop (mkF m 43 #[.val (.ref a63_0), .val (.int p63_1), .val (.int p63_2), .val (.int (3 : Int32)), .val (.int (-1 : Int32))] [])) _
        refine XS.iconst X0.here hx rfl (hb hby d63_43) ?_
        exact k
      obtain ⟨fs, hr, hrun, hended, hW, hsame⟩ := X0.leave (v := some (.int (0 : Int32))) (fun h => by rw [Bd.returns] at h; cases h)
      refine ⟨_, _, k7 _ ?_, hrun, hended, _, _, rfl, ?_, ⟨_, rfl⟩, hW, hsame.mono (by decide) (by decide)⟩
      · exact retN X0 hx (t := .boolean) Bd.returns (by simp) (hb hby d63_44) hr
      · show Q63 Z a63_0 p63_1 p63_2 kk zz x0 x1 x2 x3 x4 x5 h0 n0 _ s₁.heap _
        rw [e0]
        exact ⟨congrArg (fun z => some (Value.int z)) (show ((0 : Int32) : Int32) = own_ok3 p63_2 x3 from by unfold own_ok3; rw [if_pos hc12_2, if_neg hc36_5]), N0, rfl⟩
  · skip
    obtain ⟨_, _, ⟨T8, L8, k8, n8⟩, -, X8, ⟨Lc8, hQ8, l8, y8, z8⟩, st8⟩ := Jvm.LawKit.callS X0 hx (y := (⟨"com/example/leanweave/leanweave/NetworkNumberingPinLaw", "ones", "(I)I"⟩ : MethodName)) hown (mvT hZ (hw _ (List.mem_of_getElem? (i := 14) rfl))) (mvT hZ (hw _ (List.mem_of_getElem? (i := 15) rfl))) (mvT hZ (hw _ (List.mem_of_getElem? (i := 4) rfl))) (mvT hZ (hw _ (List.mem_of_getElem? (i := 16) rfl))) (by decide) (backOf (W := 0) (rm4 l Z a0 hw [] (p63_2 &&& (7 : Int32)) h0 n0 Z0 ) hZ (hw _ (List.mem_of_getElem? (i := 16) rfl)) (hw _ (List.mem_of_getElem? (i := 4) rfl)) (by decide) (by decide)) (g := (mkF m 22 #[.val (.ref a63_0), .val (.int p63_1), .val (.int p63_2), .val (.int (3 : Int32)), .unset] [(.int (p63_2 &&& (7 : Int32)))])) rfl (by rw [hml]; rfl) (argsL := [(.int (p63_2 &&& (7 : Int32)))]) (rest := []) (lenOf pd_0 rfl) rfl (by show 2 * 0 + _ ≤ _; exact Nat.le_of_eq rfl) (hb hby d63_22) (fun _ _ => ⟨rfl, e0, (by decide : 0 + 0 ≤ _), (by decide : 0 + 0 ≤ _)⟩)
    dsimp only [Pt.U, Pt.locs, Pt.cells, Pt.slots] at X8 l8 y8 z8 st8 hQ8
    subst l8 y8 z8
    obtain ⟨rfl, N8q, eh8⟩ := hQ8
    have N8 := Fr.app N0 N8q
    obtain ⟨cl9, Ar9, qc9, Sz9, Nn9, Hh9, Gg9⟩ := (id Vb)
    have hin9 : ¬ ((3 : Int32) < 0 ∨ cl9.slots.size ≤ ((3 : Int32)).toNatClampNeg) := inb_of Sz9 ⟨by decide, hz⟩
    have k10 : ∀ t, Steps p.tables e below (T8.setTop (mkF m 36 #[.val (.ref a63_0), .val (.int p63_1), .val (.int p63_2), .val (.int (3 : Int32)), .val (.int (own_ones (p63_2 &&& (7 : Int32))))] [(.int (own_ones (p63_2 &&& (7 : Int32)))), (.int x3)])) t → Steps p.tables e below (s₁.setTop (entryFrame m #[(.ref a63_0), (.int p63_1), (.int p63_2), (.int (3 : Int32))] 5)) t := by
      intro t k
      refine k1 t ?_
      show Steps p.tables e below (s₁.setTop (mkF m 12 #[.val (.ref a63_0), .val (.int p63_1), .val (.int p63_2), .val (.int (3 : Int32)), .unset] [(.int ((p63_2 >>> ((3 : Int32) &&& 31)) &&& (1 : Int32)))])) _
      refine XS.ifNo X0.here hx rfl (hb hby d63_12) rfl ((if0 _ _).trans (feq hc12_2).1) ?_
      show Steps p.tables e below (s₁.setTop (mkF m 15 #[.val (.ref a63_0), .val (.int p63_1), .val (.int p63_2), .val (.int (3 : Int32)), .unset] [])) _
      refine XS.iloadN X0.here hx rfl (hb hby d63_15) rfl ?_
      show Steps p.tables e below (s₁.setTop (mkF m 16 #[.val (.ref a63_0), .val (.int p63_1), .val (.int p63_2), .val (.int (3 : Int32)), .unset] [(.int p63_2)])) _
      refine XS.iconst X0.here hx rfl (hb hby d63_16) ?_
      show Steps p.tables e below (s₁.setTop (mkF m 17 #[.val (.ref a63_0), .val (.int p63_1), .val (.int p63_2), .val (.int (3 : Int32)), .unset] [(.int (1 : Int32)), (.int p63_2)])) _
      refine XS.iloadN X0.here hx rfl (hb hby d63_17) rfl ?_
      show Steps p.tables e below (s₁.setTop (mkF m 18 #[.val (.ref a63_0), .val (.int p63_1), .val (.int p63_2), .val (.int (3 : Int32)), .unset] [(.int (3 : Int32)), (.int (1 : Int32)), (.int p63_2)])) _
      refine XS.ishl X0.here hx rfl (hb hby d63_18) rfl ?_
      show Steps p.tables e below (s₁.setTop (mkF m 19 #[.val (.ref a63_0), .val (.int p63_1), .val (.int p63_2), .val (.int (3 : Int32)), .unset] [(.int (8 : Int32)), (.int p63_2)])) _
      refine XS.iconst X0.here hx rfl (hb hby d63_19) ?_
      show Steps p.tables e below (s₁.setTop (mkF m 20 #[.val (.ref a63_0), .val (.int p63_1), .val (.int p63_2), .val (.int (3 : Int32)), .unset] [(.int (1 : Int32)), (.int (8 : Int32)), (.int p63_2)])) _
      refine XS.isub X0.here hx rfl (hb hby d63_20) rfl ?_
      show Steps p.tables e below (s₁.setTop (mkF m 21 #[.val (.ref a63_0), .val (.int p63_1), .val (.int p63_2), .val (.int (3 : Int32)), .unset] [(.int (7 : Int32)), (.int p63_2)])) _
      refine XS.iand X0.here hx rfl (hb hby d63_21) rfl ?_
      show Steps p.tables e below (s₁.setTop (mkF m 22 #[.val (.ref a63_0), .val (.int p63_1), .val (.int p63_2), .val (.int (3 : Int32)), .unset] [(.int (p63_2 &&& (7 : Int32)))])) _
      refine st8 _ ?_
      show Steps p.tables e below (T8.setTop (mkF m 25 #[.val (.ref a63_0), .val (.int p63_1), .val (.int p63_2), .val (.int (3 : Int32)), .unset] [(.int (own_ones (p63_2 &&& (7 : Int32))))])) _
      refine XS.goto X8.here hx rfl (pc0 := 25) (pc' := 29) rfl (hb hby d63_25) (by decide) (by decide) ?_
      show Steps p.tables e below (T8.setTop (mkF m 29 #[.val (.ref a63_0), .val (.int p63_1), .val (.int p63_2), .val (.int (3 : Int32)), .unset] [(.int (own_ones (p63_2 &&& (7 : Int32))))])) _
      refine XS.istore X8.here hx rfl (hb hby d63_29) rfl (l' := #[.val (.ref a63_0), .val (.int p63_1), .val (.int p63_2), .val (.int (3 : Int32)), .val (.int (own_ones (p63_2 &&& (7 : Int32))))]) rfl ?_
      show Steps p.tables e below (T8.setTop (mkF m 31 #[.val (.ref a63_0), .val (.int p63_1), .val (.int p63_2), .val (.int (3 : Int32)), .val (.int (own_ones (p63_2 &&& (7 : Int32))))] [])) _
      refine XS.aloadN X8.here hx rfl (hb hby d63_31) rfl rfl ?_
      show Steps p.tables e below (T8.setTop (mkF m 32 #[.val (.ref a63_0), .val (.int p63_1), .val (.int p63_2), .val (.int (3 : Int32)), .val (.int (own_ones (p63_2 &&& (7 : Int32))))] [(.ref a63_0)])) _
      refine XS.iloadN X8.here hx rfl (hb hby d63_32) rfl ?_
      show Steps p.tables e below (T8.setTop (mkF m 33 #[.val (.ref a63_0), .val (.int p63_1), .val (.int p63_2), .val (.int (3 : Int32)), .val (.int (own_ones (p63_2 &&& (7 : Int32))))] [(.int (3 : Int32)), (.ref a63_0)])) _
      refine X8.iaload hx (j := (3 : Int32)) (v := (.int x3)) (by rw [eh8]; exact Ar9.1) (State.isArrayOf_alike hZ.alike Ar9.2.1) Ar9.2.2 hin9 (Hh9.at hin9 rfl) (g := (mkF m 33 #[.val (.ref a63_0), .val (.int p63_1), .val (.int p63_2), .val (.int (3 : Int32)), .val (.int (own_ones (p63_2 &&& (7 : Int32))))] [(.int (3 : Int32)), (.ref a63_0)])) rfl rfl (hb hby d63_33) _ ?_
      show Steps p.tables e below (T8.setTop (mkF m 34 #[.val (.ref a63_0), .val (.int p63_1), .val (.int p63_2), .val (.int (3 : Int32)), .val (.int (own_ones (p63_2 &&& (7 : Int32))))] [(.int x3)])) _
      refine XS.iload X8.here hx rfl (hb hby d63_34) rfl ?_
      exact k
    by_cases hc36_11 : x3 = (own_ones (p63_2 &&& (7 : Int32)))
    · skip
      have k12 : ∀ t, Steps p.tables e below (T8.setTop (mkF m 44 #[.val (.ref a63_0), .val (.int p63_1), .val (.int p63_2), .val (.int (3 : Int32)), .val (.int (own_ones (p63_2 &&& (7 : Int32))))] [(.int (1 : Int32))])) t → Steps p.tables e below (s₁.setTop (entryFrame m #[(.ref a63_0), (.int p63_1), (.int p63_2), (.int (3 : Int32))] 5)) t := by
        intro t k
        refine k10 t ?_
        show Steps p.tables e below (T8.setTop (mkF m 36 #[.val (.ref a63_0), .val (.int p63_1), .val (.int p63_2), .val (.int (3 : Int32)), .val (.int (own_ones (p63_2 &&& (7 : Int32))))] [(.int (own_ones (p63_2 &&& (7 : Int32)))), (.int x3)])) _
        refine XS.icmpNo X8.here hx rfl (hb hby d63_36) rfl (teq hc36_11).2 ?_
        show Steps p.tables e below (T8.setTop (mkF m 39 #[.val (.ref a63_0), .val (.int p63_1), .val (.int p63_2), .val (.int (3 : Int32)), .val (.int (own_ones (p63_2 &&& (7 : Int32))))] [])) _
        refine XS.iconst X8.here hx rfl (hb hby d63_39) ?_
        show Steps p.tables e below (T8.setTop (mkF m 40 #[.val (.ref a63_0), .val (.int p63_1), .val (.int p63_2), .val (.int (3 : Int32)), .val (.int (own_ones (p63_2 &&& (7 : Int32))))] [(.int (1 : Int32))])) _
        refine XS.goto X8.here hx rfl (pc0 := 40) (pc' := 44) rfl (hb hby d63_40) (by decide) (by decide) ?_
        exact k
      obtain ⟨fs, hr, hrun, hended, hW, hsame⟩ := X8.leave (v := some (.int (1 : Int32))) (fun h => by rw [Bd.returns] at h; cases h)
      refine ⟨_, _, k12 _ ?_, hrun, hended, _, _, rfl, ?_, ⟨_, rfl⟩, hW, hsame.mono (by decide) (by decide)⟩
      · exact retN X8 hx (t := .boolean) Bd.returns (by simp) (hb hby d63_44) hr
      · show Q63 Z a63_0 p63_1 p63_2 kk zz x0 x1 x2 x3 x4 x5 h0 n0 _ T8.heap _
        rw [eh8]
        exact ⟨congrArg (fun z => some (Value.int z)) (show ((1 : Int32) : Int32) = own_ok3 p63_2 x3 from by unfold own_ok3; rw [if_neg hc12_2, if_pos hc36_11]), N8, rfl⟩
    · skip
      have k13 : ∀ t, Steps p.tables e below (T8.setTop (mkF m 44 #[.val (.ref a63_0), .val (.int p63_1), .val (.int p63_2), .val (.int (3 : Int32)), .val (.int (own_ones (p63_2 &&& (7 : Int32))))] [(.int (0 : Int32))])) t → Steps p.tables e below (s₁.setTop (entryFrame m #[(.ref a63_0), (.int p63_1), (.int p63_2), (.int (3 : Int32))] 5)) t := by
        intro t k
        refine k10 t ?_
        show Steps p.tables e below (T8.setTop (mkF m 36 #[.val (.ref a63_0), .val (.int p63_1), .val (.int p63_2), .val (.int (3 : Int32)), .val (.int (own_ones (p63_2 &&& (7 : Int32))))] [(.int (own_ones (p63_2 &&& (7 : Int32)))), (.int x3)])) _
        refine XS.icmpYes X8.here hx rfl (pc0 := 36) (pc' := 43) rfl (hb hby d63_36) rfl (feq hc36_11).2 (by decide) (by decide) ?_
        show Steps p.tables e below (T8.setTop (mkF m 43 #[.val (.ref a63_0), .val (.int p63_1), .val (.int p63_2), .val (.int (3 : Int32)), .val (.int (own_ones (p63_2 &&& (7 : Int32))))] [])) _
        refine XS.iconst X8.here hx rfl (hb hby d63_43) ?_
        exact k
      obtain ⟨fs, hr, hrun, hended, hW, hsame⟩ := X8.leave (v := some (.int (0 : Int32))) (fun h => by rw [Bd.returns] at h; cases h)
      refine ⟨_, _, k13 _ ?_, hrun, hended, _, _, rfl, ?_, ⟨_, rfl⟩, hW, hsame.mono (by decide) (by decide)⟩
      · exact retN X8 hx (t := .boolean) Bd.returns (by simp) (hb hby d63_44) hr
      · show Q63 Z a63_0 p63_1 p63_2 kk zz x0 x1 x2 x3 x4 x5 h0 n0 _ T8.heap _
        rw [eh8]
        exact ⟨congrArg (fun z => some (Value.int z)) (show ((0 : Int32) : Int32) = own_ok3 p63_2 x3 from by unfold own_ok3; rw [if_neg hc12_2, if_neg hc36_11]), N8, rfl⟩
theorem d64_0 : decode method_4_code 0 = .ok (.iload_n 3, 1) := by decide +kernel
theorem d64_1 : decode method_4_code 1 = .ok (.iload_n 1, 1) := by decide +kernel
theorem d64_2 : decode method_4_code 2 = .ok (.if_icmp .lt 5, 3) := by decide +kernel
theorem d64_7 : decode method_4_code 7 = .ok (.iload_n 2, 1) := by decide +kernel
theorem d64_8 : decode method_4_code 8 = .ok (.iload_n 3, 1) := by decide +kernel
theorem d64_9 : decode method_4_code 9 = .ok (.ishr, 1) := by decide +kernel
theorem d64_10 : decode method_4_code 10 = .ok (.iconst 1, 1) := by decide +kernel
theorem d64_11 : decode method_4_code 11 = .ok (.iand, 1) := by decide +kernel
theorem d64_12 : decode method_4_code 12 = .ok (.ifCond .eq 16, 3) := by decide +kernel
theorem d64_15 : decode method_4_code 15 = .ok (.iload_n 2, 1) := by decide +kernel
theorem d64_16 : decode method_4_code 16 = .ok (.iconst 1, 1) := by decide +kernel
theorem d64_17 : decode method_4_code 17 = .ok (.iload_n 3, 1) := by decide +kernel
theorem d64_18 : decode method_4_code 18 = .ok (.ishl, 1) := by decide +kernel
theorem d64_19 : decode method_4_code 19 = .ok (.iconst 1, 1) := by decide +kernel
theorem d64_20 : decode method_4_code 20 = .ok (.isub, 1) := by decide +kernel
theorem d64_21 : decode method_4_code 21 = .ok (.iand, 1) := by decide +kernel
theorem d64_22 : decode method_4_code 22 = .ok (.invokestatic 7, 3) := by decide +kernel
theorem d64_25 : decode method_4_code 25 = .ok (.goto 4, 3) := by decide +kernel
theorem d64_28 : decode method_4_code 28 = .ok (.iconst (-1), 1) := by decide +kernel
theorem d64_29 : decode method_4_code 29 = .ok (.istore 4, 2) := by decide +kernel
theorem d64_31 : decode method_4_code 31 = .ok (.aload_n 0, 1) := by decide +kernel
theorem d64_32 : decode method_4_code 32 = .ok (.iload_n 3, 1) := by decide +kernel
theorem d64_33 : decode method_4_code 33 = .ok (.iaload, 1) := by decide +kernel
theorem d64_34 : decode method_4_code 34 = .ok (.iload 4, 2) := by decide +kernel
theorem d64_36 : decode method_4_code 36 = .ok (.if_icmp .ne 7, 3) := by decide +kernel
theorem d64_39 : decode method_4_code 39 = .ok (.iconst 1, 1) := by decide +kernel
theorem d64_40 : decode method_4_code 40 = .ok (.goto 4, 3) := by decide +kernel
theorem d64_43 : decode method_4_code 43 = .ok (.iconst 0, 1) := by decide +kernel
theorem d64_44 : decode method_4_code 44 = .ok (.ireturn, 1) := by decide +kernel
theorem ef_64 (m : MethodId) (a64_0 : Addr) (p64_1 : Int32) (p64_2 : Int32) : entryFrame m #[(.ref a64_0), (.int p64_1), (.int p64_2), (.int (4 : Int32))] 5 = mkF m 0 #[.val (.ref a64_0), .val (.int p64_1), .val (.int p64_2), .val (.int (4 : Int32)), .unset] [] := by first | (simp [entryFrame, mkF, argsToLocals, Value.category]; done) | rfl
def own_ok4 (p64_2 : Int32) (x4 : Int32) : Int32 := (if ((p64_2 >>> ((4 : Int32) &&& 31)) &&& (1 : Int32)) = (0 : Int32) then (if x4 = (-1 : Int32) then (1 : Int32) else (0 : Int32)) else (if x4 = (own_ones (p64_2 &&& (15 : Int32))) then (1 : Int32) else (0 : Int32)))
def Q64 (Z : State) (a64_0 : Addr) (p64_1 : Int32) (p64_2 : Int32) (kk : ClassId) (zz : Int32) (x0 : Int32) (x1 : Int32) (x2 : Int32) (x3 : Int32) (x4 : Int32) (x5 : Int32) (h0 : Heap) (n0 : Nat) (v : Option Value) (h : Heap) (L : List Loc) : Prop := v = some (.int (own_ok4 p64_2 x4)) ∧ Fr n0 L ∧ h = h0
set_option maxRecDepth 65536 in
set_option maxHeartbeats 40000000 in
theorem rm64 (l : Launch) (Z : State) (a0 : Array Value) (hw : ∀ d ∈ tables_1, d.before a0 Z = true) (ws : List Jvm.Cond) (a64_0 : Addr) (p64_1 : Int32) (p64_2 : Int32) (kk : ClassId) (zz : Int32) (x0 : Int32) (x1 : Int32) (x2 : Int32) (x3 : Int32) (x4 : Int32) (x5 : Int32) (h0 : Heap) (n0 : Nat) (Z0 : n0 ≤ h0.size) (Vb : Arv Z h0 a64_0 kk .int zz [(.int x0), (.int x1), (.int x2), (.int x3), (.int x4), (.int x5)] (.int (0 : Int32))) (hlt : (4 : Int32) < p64_1) (hz : (4 : Int32) < zz) :
    MetFree l (⟨"com/example/leanweave/leanweave/NetworkNumberingPinLaw", "ok", "([IIII)Z"⟩ : MethodName) (head1 (Jvm.Cond.code (⟨"com/example/leanweave/leanweave/NetworkNumberingPinLaw", "ok", "([IIII)Z"⟩ : MethodName) method_4_code 5 (some .boolean) :: ws) ({ frames := 1, cells := 0, slots := 0, locals := 12 } : Room)) (fun a U => a = #[(.ref a64_0), (.int p64_1), (.int p64_2), (.int (4 : Int32))] ∧ Z.Warmed39 U.vm ∧ U.heap = h0) (fun _ _ _ _ _ => True) (fun _ U o U' => ∃ v L, o = .returned v ∧ Q64 Z a64_0 p64_1 p64_2 kk zz x0 x1 x2 x3 x4 x5 h0 n0 v U'.heap L ∧ FrameEnd U o U' L ({ frames := 1, cells := 0, slots := 0, locals := 12 } : Room).cells ({ frames := 1, cells := 0, slots := 0, locals := 12 } : Room).slots) := by
  refine MetFree.of_bodySF (plainFor_of_name pn_0) hisR ?_
  intro p e s m args below meth c s₁ Bd hml0 hP hK
  obtain ⟨rfl, hZ, hh⟩ := hP
  have hx := Bd.exec
  have hby := Bd.bytes
  have hml : c.maxLocals = 5 := hml0
  have hown : s.vm.findClass "com/example/leanweave/leanweave/NetworkNumberingPinLaw" = some m.cls := findClass_of_methodNamed Bd.named
  have hnm := (name_of_methodNamed Bd.named Bd.method).1
  have X0 : Stand p l e ({ frames := 1, cells := 0, slots := 0, locals := 12 } : Room) s m #[(.ref a64_0), (.int p64_1), (.int p64_2), (.int (4 : Int32))] below meth c s₁ [] 0 0 := Stand.of_body Bd
  have e0 : s₁.heap = h0 := by rw [← hh, Bd.state]; rfl
  have N0 := Fr.nil n0
  have pre0 : ∀ t, Steps p.tables e below (s₁.setTop (mkF m 0 #[.val (.ref a64_0), .val (.int p64_1), .val (.int p64_2), .val (.int (4 : Int32)), .unset] [])) t → Steps p.tables e below (s₁.setTop (entryFrame m #[(.ref a64_0), (.int p64_1), (.int p64_2), (.int (4 : Int32))] 5)) t := fun t k => castTop (ef_64 m a64_0 p64_1 p64_2) k
  have k1 : ∀ t, Steps p.tables e below (s₁.setTop (mkF m 12 #[.val (.ref a64_0), .val (.int p64_1), .val (.int p64_2), .val (.int (4 : Int32)), .unset] [(.int ((p64_2 >>> ((4 : Int32) &&& 31)) &&& (1 : Int32)))])) t → Steps p.tables e below (s₁.setTop (entryFrame m #[(.ref a64_0), (.int p64_1), (.int p64_2), (.int (4 : Int32))] 5)) t := by
    intro t k
    refine pre0 t ?_
    show Steps p.tables e below (s₁.setTop (mkF m 0 #[.val (.ref a64_0), .val (.int p64_1), .val (.int p64_2), .val (.int (4 : Int32)), .unset] [])) _
    refine XS.iloadN X0.here hx rfl (hb hby d64_0) rfl ?_
    show Steps p.tables e below (s₁.setTop (mkF m 1 #[.val (.ref a64_0), .val (.int p64_1), .val (.int p64_2), .val (.int (4 : Int32)), .unset] [(.int (4 : Int32))])) _
    refine XS.iloadN X0.here hx rfl (hb hby d64_1) rfl ?_
    show Steps p.tables e below (s₁.setTop (mkF m 2 #[.val (.ref a64_0), .val (.int p64_1), .val (.int p64_2), .val (.int (4 : Int32)), .unset] [(.int p64_1), (.int (4 : Int32))])) _
    refine XS.icmpYes X0.here hx rfl (pc0 := 2) (pc' := 7) rfl (hb hby d64_2) rfl (tlt hlt).1 (by decide) (by decide) ?_
    show Steps p.tables e below (s₁.setTop (mkF m 7 #[.val (.ref a64_0), .val (.int p64_1), .val (.int p64_2), .val (.int (4 : Int32)), .unset] [])) _
    refine XS.iloadN X0.here hx rfl (hb hby d64_7) rfl ?_
    show Steps p.tables e below (s₁.setTop (mkF m 8 #[.val (.ref a64_0), .val (.int p64_1), .val (.int p64_2), .val (.int (4 : Int32)), .unset] [(.int p64_2)])) _
    refine XS.iloadN X0.here hx rfl (hb hby d64_8) rfl ?_
    show Steps p.tables e below (s₁.setTop (mkF m 9 #[.val (.ref a64_0), .val (.int p64_1), .val (.int p64_2), .val (.int (4 : Int32)), .unset] [(.int (4 : Int32)), (.int p64_2)])) _
    refine XS.ishr X0.here hx rfl (hb hby d64_9) rfl ?_
    show Steps p.tables e below (s₁.setTop (mkF m 10 #[.val (.ref a64_0), .val (.int p64_1), .val (.int p64_2), .val (.int (4 : Int32)), .unset] [(.int (p64_2 >>> ((4 : Int32) &&& 31)))])) _
    refine XS.iconst X0.here hx rfl (hb hby d64_10) ?_
    show Steps p.tables e below (s₁.setTop (mkF m 11 #[.val (.ref a64_0), .val (.int p64_1), .val (.int p64_2), .val (.int (4 : Int32)), .unset] [(.int (1 : Int32)), (.int (p64_2 >>> ((4 : Int32) &&& 31)))])) _
    refine XS.iand X0.here hx rfl (hb hby d64_11) rfl ?_
    exact k
  by_cases hc12_2 : ((p64_2 >>> ((4 : Int32) &&& 31)) &&& (1 : Int32)) = (0 : Int32)
  · skip
    obtain ⟨cl3, Ar3, qc3, Sz3, Nn3, Hh3, Gg3⟩ := (id Vb)
    have hin3 : ¬ ((4 : Int32) < 0 ∨ cl3.slots.size ≤ ((4 : Int32)).toNatClampNeg) := inb_of Sz3 ⟨by decide, hz⟩
    have k4 : ∀ t, Steps p.tables e below (s₁.setTop (mkF m 36 #[.val (.ref a64_0), .val (.int p64_1), .val (.int p64_2), .val (.int (4 : Int32)), .val (.int (-1 : Int32))] [(.int (-1 : Int32)), (.int x4)])) t → Steps p.tables e below (s₁.setTop (entryFrame m #[(.ref a64_0), (.int p64_1), (.int p64_2), (.int (4 : Int32))] 5)) t := by
      intro t k
      refine k1 t ?_
      show Steps p.tables e below (s₁.setTop (mkF m 12 #[.val (.ref a64_0), .val (.int p64_1), .val (.int p64_2), .val (.int (4 : Int32)), .unset] [(.int ((p64_2 >>> ((4 : Int32) &&& 31)) &&& (1 : Int32)))])) _
      refine XS.ifYes X0.here hx rfl (pc0 := 12) (pc' := 28) rfl (hb hby d64_12) rfl ((if0 _ _).trans (teq hc12_2).1) (by decide) (by decide) ?_
      show Steps p.tables e below (s₁.setTop (mkF m 28 #[.val (.ref a64_0), .val (.int p64_1), .val (.int p64_2), .val (.int (4 : Int32)), .unset] [])) _
      refine XS.iconst X0.here hx rfl (hb hby d64_28) ?_
      show Steps p.tables e below (s₁.setTop (mkF m 29 #[.val (.ref a64_0), .val (.int p64_1), .val (.int p64_2), .val (.int (4 : Int32)), .unset] [(.int (-1 : Int32))])) _
      refine XS.istore X0.here hx rfl (hb hby d64_29) rfl (l' := #[.val (.ref a64_0), .val (.int p64_1), .val (.int p64_2), .val (.int (4 : Int32)), .val (.int (-1 : Int32))]) rfl ?_
      show Steps p.tables e below (s₁.setTop (mkF m 31 #[.val (.ref a64_0), .val (.int p64_1), .val (.int p64_2), .val (.int (4 : Int32)), .val (.int (-1 : Int32))] [])) _
      refine XS.aloadN X0.here hx rfl (hb hby d64_31) rfl rfl ?_
      show Steps p.tables e below (s₁.setTop (mkF m 32 #[.val (.ref a64_0), .val (.int p64_1), .val (.int p64_2), .val (.int (4 : Int32)), .val (.int (-1 : Int32))] [(.ref a64_0)])) _
      refine XS.iloadN X0.here hx rfl (hb hby d64_32) rfl ?_
      show Steps p.tables e below (s₁.setTop (mkF m 33 #[.val (.ref a64_0), .val (.int p64_1), .val (.int p64_2), .val (.int (4 : Int32)), .val (.int (-1 : Int32))] [(.int (4 : Int32)), (.ref a64_0)])) _
      refine X0.iaload hx (j := (4 : Int32)) (v := (.int x4)) (by rw [e0]; exact Ar3.1) (State.isArrayOf_alike hZ.alike Ar3.2.1) Ar3.2.2 hin3 (Hh3.at hin3 rfl) (g := (mkF m 33 #[.val (.ref a64_0), .val (.int p64_1), .val (.int p64_2), .val (.int (4 : Int32)), .val (.int (-1 : Int32))] [(.int (4 : Int32)), (.ref a64_0)])) rfl rfl (hb hby d64_33) _ ?_
      show Steps p.tables e below (s₁.setTop (mkF m 34 #[.val (.ref a64_0), .val (.int p64_1), .val (.int p64_2), .val (.int (4 : Int32)), .val (.int (-1 : Int32))] [(.int x4)])) _
      refine XS.iload X0.here hx rfl (hb hby d64_34) rfl ?_
      exact k
    by_cases hc36_5 : x4 = (-1 : Int32)
    · skip
      have k6 : ∀ t, Steps p.tables e below (s₁.setTop (mkF m 44 #[.val (.ref a64_0), .val (.int p64_1), .val (.int p64_2), .val (.int (4 : Int32)), .val (.int (-1 : Int32))] [(.int (1 : Int32))])) t → Steps p.tables e below (s₁.setTop (entryFrame m #[(.ref a64_0), (.int p64_1), (.int p64_2), (.int (4 : Int32))] 5)) t := by
        intro t k
        refine k4 t ?_
        show Steps p.tables e below (s₁.setTop (mkF m 36 #[.val (.ref a64_0), .val (.int p64_1), .val (.int p64_2), .val (.int (4 : Int32)), .val (.int (-1 : Int32))] [(.int (-1 : Int32)), (.int x4)])) _
        refine XS.icmpNo X0.here hx rfl (hb hby d64_36) rfl (teq hc36_5).2 ?_
        show Steps p.tables e below (s₁.setTop (mkF m 39 #[.val (.ref a64_0), .val (.int p64_1), .val (.int p64_2), .val (.int (4 : Int32)), .val (.int (-1 : Int32))] [])) _
        refine XS.iconst X0.here hx rfl (hb hby d64_39) ?_
        show Steps p.tables e below (s₁.setTop (mkF m 40 #[.val (.ref a64_0), .val (.int p64_1), .val (.int p64_2), .val (.int (4 : Int32)), .val (.int (-1 : Int32))] [(.int (1 : Int32))])) _
        refine XS.goto X0.here hx rfl (pc0 := 40) (pc' := 44) rfl (hb hby d64_40) (by decide) (by decide) ?_
        exact k
      obtain ⟨fs, hr, hrun, hended, hW, hsame⟩ := X0.leave (v := some (.int (1 : Int32))) (fun h => by rw [Bd.returns] at h; cases h)
      refine ⟨_, _, k6 _ ?_, hrun, hended, _, _, rfl, ?_, ⟨_, rfl⟩, hW, hsame.mono (by decide) (by decide)⟩
      · exact retN X0 hx (t := .boolean) Bd.returns (by simp) (hb hby d64_44) hr
      · show Q64 Z a64_0 p64_1 p64_2 kk zz x0 x1 x2 x3 x4 x5 h0 n0 _ s₁.heap _
        rw [e0]
        exact ⟨congrArg (fun z => some (Value.int z)) (show ((1 : Int32) : Int32) = own_ok4 p64_2 x4 from by unfold own_ok4; rw [if_pos hc12_2, if_pos hc36_5]), N0, rfl⟩
    · skip
      have k7 : ∀ t, Steps p.tables e below (s₁.setTop (mkF m 44 #[.val (.ref a64_0), .val (.int p64_1), .val (.int p64_2), .val (.int (4 : Int32)), .val (.int (-1 : Int32))] [(.int (0 : Int32))])) t → Steps p.tables e below (s₁.setTop (entryFrame m #[(.ref a64_0), (.int p64_1), (.int p64_2), (.int (4 : Int32))] 5)) t := by
        intro t k
        refine k4 t ?_
        show Steps p.tables e below (s₁.setTop (mkF m 36 #[.val (.ref a64_0), .val (.int p64_1), .val (.int p64_2), .val (.int (4 : Int32)), .val (.int (-1 : Int32))] [(.int (-1 : Int32)), (.int x4)])) _
        refine XS.icmpYes X0.here hx rfl (pc0 := 36) (pc' := 43) rfl (hb hby d64_36) rfl (feq hc36_5).2 (by decide) (by decide) ?_
        show Steps p.tables e below (s₁.setTop (mkF m 43 #[.val (.ref a64_0), .val (.int p64_1), .val (.int p64_2), .val (.int (4 : Int32)), .val (.int (-1 : Int32))] [])) _
        refine XS.iconst X0.here hx rfl (hb hby d64_43) ?_
        exact k
      obtain ⟨fs, hr, hrun, hended, hW, hsame⟩ := X0.leave (v := some (.int (0 : Int32))) (fun h => by rw [Bd.returns] at h; cases h)
      refine ⟨_, _, k7 _ ?_, hrun, hended, _, _, rfl, ?_, ⟨_, rfl⟩, hW, hsame.mono (by decide) (by decide)⟩
      · exact retN X0 hx (t := .boolean) Bd.returns (by simp) (hb hby d64_44) hr
      · show Q64 Z a64_0 p64_1 p64_2 kk zz x0 x1 x2 x3 x4 x5 h0 n0 _ s₁.heap _
        rw [e0]
        exact ⟨congrArg (fun z => some (Value.int z)) (show ((0 : Int32) : Int32) = own_ok4 p64_2 x4 from by unfold own_ok4; rw [if_pos hc12_2, if_neg hc36_5]), N0, rfl⟩
  · skip
    obtain ⟨_, _, ⟨T8, L8, k8, n8⟩, -, X8, ⟨Lc8, hQ8, l8, y8, z8⟩, st8⟩ := Jvm.LawKit.callS X0 hx (y := (⟨"com/example/leanweave/leanweave/NetworkNumberingPinLaw", "ones", "(I)I"⟩ : MethodName)) hown (mvT hZ (hw _ (List.mem_of_getElem? (i := 14) rfl))) (mvT hZ (hw _ (List.mem_of_getElem? (i := 15) rfl))) (mvT hZ (hw _ (List.mem_of_getElem? (i := 4) rfl))) (mvT hZ (hw _ (List.mem_of_getElem? (i := 16) rfl))) (by decide) (backOf (W := 0) (rm4 l Z a0 hw [] (p64_2 &&& (15 : Int32)) h0 n0 Z0 ) hZ (hw _ (List.mem_of_getElem? (i := 16) rfl)) (hw _ (List.mem_of_getElem? (i := 4) rfl)) (by decide) (by decide)) (g := (mkF m 22 #[.val (.ref a64_0), .val (.int p64_1), .val (.int p64_2), .val (.int (4 : Int32)), .unset] [(.int (p64_2 &&& (15 : Int32)))])) rfl (by rw [hml]; rfl) (argsL := [(.int (p64_2 &&& (15 : Int32)))]) (rest := []) (lenOf pd_0 rfl) rfl (by show 2 * 0 + _ ≤ _; exact Nat.le_of_eq rfl) (hb hby d64_22) (fun _ _ => ⟨rfl, e0, (by decide : 0 + 0 ≤ _), (by decide : 0 + 0 ≤ _)⟩)
    dsimp only [Pt.U, Pt.locs, Pt.cells, Pt.slots] at X8 l8 y8 z8 st8 hQ8
    subst l8 y8 z8
    obtain ⟨rfl, N8q, eh8⟩ := hQ8
    have N8 := Fr.app N0 N8q
    obtain ⟨cl9, Ar9, qc9, Sz9, Nn9, Hh9, Gg9⟩ := (id Vb)
    have hin9 : ¬ ((4 : Int32) < 0 ∨ cl9.slots.size ≤ ((4 : Int32)).toNatClampNeg) := inb_of Sz9 ⟨by decide, hz⟩
    have k10 : ∀ t, Steps p.tables e below (T8.setTop (mkF m 36 #[.val (.ref a64_0), .val (.int p64_1), .val (.int p64_2), .val (.int (4 : Int32)), .val (.int (own_ones (p64_2 &&& (15 : Int32))))] [(.int (own_ones (p64_2 &&& (15 : Int32)))), (.int x4)])) t → Steps p.tables e below (s₁.setTop (entryFrame m #[(.ref a64_0), (.int p64_1), (.int p64_2), (.int (4 : Int32))] 5)) t := by
      intro t k
      refine k1 t ?_
      show Steps p.tables e below (s₁.setTop (mkF m 12 #[.val (.ref a64_0), .val (.int p64_1), .val (.int p64_2), .val (.int (4 : Int32)), .unset] [(.int ((p64_2 >>> ((4 : Int32) &&& 31)) &&& (1 : Int32)))])) _
      refine XS.ifNo X0.here hx rfl (hb hby d64_12) rfl ((if0 _ _).trans (feq hc12_2).1) ?_
      show Steps p.tables e below (s₁.setTop (mkF m 15 #[.val (.ref a64_0), .val (.int p64_1), .val (.int p64_2), .val (.int (4 : Int32)), .unset] [])) _
      refine XS.iloadN X0.here hx rfl (hb hby d64_15) rfl ?_
      show Steps p.tables e below (s₁.setTop (mkF m 16 #[.val (.ref a64_0), .val (.int p64_1), .val (.int p64_2), .val (.int (4 : Int32)), .unset] [(.int p64_2)])) _
      refine XS.iconst X0.here hx rfl (hb hby d64_16) ?_
      show Steps p.tables e below (s₁.setTop (mkF m 17 #[.val (.ref a64_0), .val (.int p64_1), .val (.int p64_2), .val (.int (4 : Int32)), .unset] [(.int (1 : Int32)), (.int p64_2)])) _
      refine XS.iloadN X0.here hx rfl (hb hby d64_17) rfl ?_
      show Steps p.tables e below (s₁.setTop (mkF m 18 #[.val (.ref a64_0), .val (.int p64_1), .val (.int p64_2), .val (.int (4 : Int32)), .unset] [(.int (4 : Int32)), (.int (1 : Int32)), (.int p64_2)])) _
      refine XS.ishl X0.here hx rfl (hb hby d64_18) rfl ?_
      show Steps p.tables e below (s₁.setTop (mkF m 19 #[.val (.ref a64_0), .val (.int p64_1), .val (.int p64_2), .val (.int (4 : Int32)), .unset] [(.int (16 : Int32)), (.int p64_2)])) _
      refine XS.iconst X0.here hx rfl (hb hby d64_19) ?_
      show Steps p.tables e below (s₁.setTop (mkF m 20 #[.val (.ref a64_0), .val (.int p64_1), .val (.int p64_2), .val (.int (4 : Int32)), .unset] [(.int (1 : Int32)), (.int (16 : Int32)), (.int p64_2)])) _
      refine XS.isub X0.here hx rfl (hb hby d64_20) rfl ?_
      show Steps p.tables e below (s₁.setTop (mkF m 21 #[.val (.ref a64_0), .val (.int p64_1), .val (.int p64_2), .val (.int (4 : Int32)), .unset] [(.int (15 : Int32)), (.int p64_2)])) _
      refine XS.iand X0.here hx rfl (hb hby d64_21) rfl ?_
      show Steps p.tables e below (s₁.setTop (mkF m 22 #[.val (.ref a64_0), .val (.int p64_1), .val (.int p64_2), .val (.int (4 : Int32)), .unset] [(.int (p64_2 &&& (15 : Int32)))])) _
      refine st8 _ ?_
      show Steps p.tables e below (T8.setTop (mkF m 25 #[.val (.ref a64_0), .val (.int p64_1), .val (.int p64_2), .val (.int (4 : Int32)), .unset] [(.int (own_ones (p64_2 &&& (15 : Int32))))])) _
      refine XS.goto X8.here hx rfl (pc0 := 25) (pc' := 29) rfl (hb hby d64_25) (by decide) (by decide) ?_
      show Steps p.tables e below (T8.setTop (mkF m 29 #[.val (.ref a64_0), .val (.int p64_1), .val (.int p64_2), .val (.int (4 : Int32)), .unset] [(.int (own_ones (p64_2 &&& (15 : Int32))))])) _
      refine XS.istore X8.here hx rfl (hb hby d64_29) rfl (l' := #[.val (.ref a64_0), .val (.int p64_1), .val (.int p64_2), .val (.int (4 : Int32)), .val (.int (own_ones (p64_2 &&& (15 : Int32))))]) rfl ?_
      show Steps p.tables e below (T8.setTop (mkF m 31 #[.val (.ref a64_0), .val (.int p64_1), .val (.int p64_2), .val (.int (4 : Int32)), .val (.int (own_ones (p64_2 &&& (15 : Int32))))] [])) _
      refine XS.aloadN X8.here hx rfl (hb hby d64_31) rfl rfl ?_
      show Steps p.tables e below (T8.setTop (mkF m 32 #[.val (.ref a64_0), .val (.int p64_1), .val (.int p64_2), .val (.int (4 : Int32)), .val (.int (own_ones (p64_2 &&& (15 : Int32))))] [(.ref a64_0)])) _
      refine XS.iloadN X8.here hx rfl (hb hby d64_32) rfl ?_
      show Steps p.tables e below (T8.setTop (mkF m 33 #[.val (.ref a64_0), .val (.int p64_1), .val (.int p64_2), .val (.int (4 : Int32)), .val (.int (own_ones (p64_2 &&& (15 : Int32))))] [(.int (4 : Int32)), (.ref a64_0)])) _
      refine X8.iaload hx (j := (4 : Int32)) (v := (.int x4)) (by rw [eh8]; exact Ar9.1) (State.isArrayOf_alike hZ.alike Ar9.2.1) Ar9.2.2 hin9 (Hh9.at hin9 rfl) (g := (mkF m 33 #[.val (.ref a64_0), .val (.int p64_1), .val (.int p64_2), .val (.int (4 : Int32)), .val (.int (own_ones (p64_2 &&& (15 : Int32))))] [(.int (4 : Int32)), (.ref a64_0)])) rfl rfl (hb hby d64_33) _ ?_
      show Steps p.tables e below (T8.setTop (mkF m 34 #[.val (.ref a64_0), .val (.int p64_1), .val (.int p64_2), .val (.int (4 : Int32)), .val (.int (own_ones (p64_2 &&& (15 : Int32))))] [(.int x4)])) _
      refine XS.iload X8.here hx rfl (hb hby d64_34) rfl ?_
      exact k
    by_cases hc36_11 : x4 = (own_ones (p64_2 &&& (15 : Int32)))
    · skip
      have k12 : ∀ t, Steps p.tables e below (T8.setTop (mkF m 44 #[.val (.ref a64_0), .val (.int p64_1), .val (.int p64_2), .val (.int (4 : Int32)), .val (.int (own_ones (p64_2 &&& (15 : Int32))))] [(.int (1 : Int32))])) t → Steps p.tables e below (s₁.setTop (entryFrame m #[(.ref a64_0), (.int p64_1), (.int p64_2), (.int (4 : Int32))] 5)) t := by
        intro t k
        refine k10 t ?_
        show Steps p.tables e below (T8.setTop (mkF m 36 #[.val (.ref a64_0), .val (.int p64_1), .val (.int p64_2), .val (.int (4 : Int32)), .val (.int (own_ones (p64_2 &&& (15 : Int32))))] [(.int (own_ones (p64_2 &&& (15 : Int32)))), (.int x4)])) _
        refine XS.icmpNo X8.here hx rfl (hb hby d64_36) rfl (teq hc36_11).2 ?_
        show Steps p.tables e below (T8.setTop (mkF m 39 #[.val (.ref a64_0), .val (.int p64_1), .val (.int p64_2), .val (.int (4 : Int32)), .val (.int (own_ones (p64_2 &&& (15 : Int32))))] [])) _
        refine XS.iconst X8.here hx rfl (hb hby d64_39) ?_
        show Steps p.tables e below (T8.setTop (mkF m 40 #[.val (.ref a64_0), .val (.int p64_1), .val (.int p64_2), .val (.int (4 : Int32)), .val (.int (own_ones (p64_2 &&& (15 : Int32))))] [(.int (1 : Int32))])) _
        refine XS.goto X8.here hx rfl (pc0 := 40) (pc' := 44) rfl (hb hby d64_40) (by decide) (by decide) ?_
        exact k
      obtain ⟨fs, hr, hrun, hended, hW, hsame⟩ := X8.leave (v := some (.int (1 : Int32))) (fun h => by rw [Bd.returns] at h; cases h)
      refine ⟨_, _, k12 _ ?_, hrun, hended, _, _, rfl, ?_, ⟨_, rfl⟩, hW, hsame.mono (by decide) (by decide)⟩
      · exact retN X8 hx (t := .boolean) Bd.returns (by simp) (hb hby d64_44) hr
      · show Q64 Z a64_0 p64_1 p64_2 kk zz x0 x1 x2 x3 x4 x5 h0 n0 _ T8.heap _
        rw [eh8]
        exact ⟨congrArg (fun z => some (Value.int z)) (show ((1 : Int32) : Int32) = own_ok4 p64_2 x4 from by unfold own_ok4; rw [if_neg hc12_2, if_pos hc36_11]), N8, rfl⟩
    · skip
      have k13 : ∀ t, Steps p.tables e below (T8.setTop (mkF m 44 #[.val (.ref a64_0), .val (.int p64_1), .val (.int p64_2), .val (.int (4 : Int32)), .val (.int (own_ones (p64_2 &&& (15 : Int32))))] [(.int (0 : Int32))])) t → Steps p.tables e below (s₁.setTop (entryFrame m #[(.ref a64_0), (.int p64_1), (.int p64_2), (.int (4 : Int32))] 5)) t := by
        intro t k
        refine k10 t ?_
        show Steps p.tables e below (T8.setTop (mkF m 36 #[.val (.ref a64_0), .val (.int p64_1), .val (.int p64_2), .val (.int (4 : Int32)), .val (.int (own_ones (p64_2 &&& (15 : Int32))))] [(.int (own_ones (p64_2 &&& (15 : Int32)))), (.int x4)])) _
        refine XS.icmpYes X8.here hx rfl (pc0 := 36) (pc' := 43) rfl (hb hby d64_36) rfl (feq hc36_11).2 (by decide) (by decide) ?_
        show Steps p.tables e below (T8.setTop (mkF m 43 #[.val (.ref a64_0), .val (.int p64_1), .val (.int p64_2), .val (.int (4 : Int32)), .val (.int (own_ones (p64_2 &&& (15 : Int32))))] [])) _
        refine XS.iconst X8.here hx rfl (hb hby d64_43) ?_
        exact k
      obtain ⟨fs, hr, hrun, hended, hW, hsame⟩ := X8.leave (v := some (.int (0 : Int32))) (fun h => by rw [Bd.returns] at h; cases h)
      refine ⟨_, _, k13 _ ?_, hrun, hended, _, _, rfl, ?_, ⟨_, rfl⟩, hW, hsame.mono (by decide) (by decide)⟩
      · exact retN X8 hx (t := .boolean) Bd.returns (by simp) (hb hby d64_44) hr
      · show Q64 Z a64_0 p64_1 p64_2 kk zz x0 x1 x2 x3 x4 x5 h0 n0 _ T8.heap _
        rw [eh8]
        exact ⟨congrArg (fun z => some (Value.int z)) (show ((0 : Int32) : Int32) = own_ok4 p64_2 x4 from by unfold own_ok4; rw [if_neg hc12_2, if_neg hc36_11]), N8, rfl⟩
theorem d65_0 : decode method_4_code 0 = .ok (.iload_n 3, 1) := by decide +kernel
theorem d65_1 : decode method_4_code 1 = .ok (.iload_n 1, 1) := by decide +kernel
theorem d65_2 : decode method_4_code 2 = .ok (.if_icmp .lt 5, 3) := by decide +kernel
theorem d65_7 : decode method_4_code 7 = .ok (.iload_n 2, 1) := by decide +kernel
theorem d65_8 : decode method_4_code 8 = .ok (.iload_n 3, 1) := by decide +kernel
theorem d65_9 : decode method_4_code 9 = .ok (.ishr, 1) := by decide +kernel
theorem d65_10 : decode method_4_code 10 = .ok (.iconst 1, 1) := by decide +kernel
theorem d65_11 : decode method_4_code 11 = .ok (.iand, 1) := by decide +kernel
theorem d65_12 : decode method_4_code 12 = .ok (.ifCond .eq 16, 3) := by decide +kernel
theorem d65_15 : decode method_4_code 15 = .ok (.iload_n 2, 1) := by decide +kernel
theorem d65_16 : decode method_4_code 16 = .ok (.iconst 1, 1) := by decide +kernel
theorem d65_17 : decode method_4_code 17 = .ok (.iload_n 3, 1) := by decide +kernel
theorem d65_18 : decode method_4_code 18 = .ok (.ishl, 1) := by decide +kernel
theorem d65_19 : decode method_4_code 19 = .ok (.iconst 1, 1) := by decide +kernel
theorem d65_20 : decode method_4_code 20 = .ok (.isub, 1) := by decide +kernel
theorem d65_21 : decode method_4_code 21 = .ok (.iand, 1) := by decide +kernel
theorem d65_22 : decode method_4_code 22 = .ok (.invokestatic 7, 3) := by decide +kernel
theorem d65_25 : decode method_4_code 25 = .ok (.goto 4, 3) := by decide +kernel
theorem d65_28 : decode method_4_code 28 = .ok (.iconst (-1), 1) := by decide +kernel
theorem d65_29 : decode method_4_code 29 = .ok (.istore 4, 2) := by decide +kernel
theorem d65_31 : decode method_4_code 31 = .ok (.aload_n 0, 1) := by decide +kernel
theorem d65_32 : decode method_4_code 32 = .ok (.iload_n 3, 1) := by decide +kernel
theorem d65_33 : decode method_4_code 33 = .ok (.iaload, 1) := by decide +kernel
theorem d65_34 : decode method_4_code 34 = .ok (.iload 4, 2) := by decide +kernel
theorem d65_36 : decode method_4_code 36 = .ok (.if_icmp .ne 7, 3) := by decide +kernel
theorem d65_39 : decode method_4_code 39 = .ok (.iconst 1, 1) := by decide +kernel
theorem d65_40 : decode method_4_code 40 = .ok (.goto 4, 3) := by decide +kernel
theorem d65_43 : decode method_4_code 43 = .ok (.iconst 0, 1) := by decide +kernel
theorem d65_44 : decode method_4_code 44 = .ok (.ireturn, 1) := by decide +kernel
theorem ef_65 (m : MethodId) (a65_0 : Addr) (p65_1 : Int32) (p65_2 : Int32) : entryFrame m #[(.ref a65_0), (.int p65_1), (.int p65_2), (.int (5 : Int32))] 5 = mkF m 0 #[.val (.ref a65_0), .val (.int p65_1), .val (.int p65_2), .val (.int (5 : Int32)), .unset] [] := by first | (simp [entryFrame, mkF, argsToLocals, Value.category]; done) | rfl
def own_ok5 (p65_2 : Int32) (x5 : Int32) : Int32 := (if ((p65_2 >>> ((5 : Int32) &&& 31)) &&& (1 : Int32)) = (0 : Int32) then (if x5 = (-1 : Int32) then (1 : Int32) else (0 : Int32)) else (if x5 = (own_ones (p65_2 &&& (31 : Int32))) then (1 : Int32) else (0 : Int32)))
def Q65 (Z : State) (a65_0 : Addr) (p65_1 : Int32) (p65_2 : Int32) (kk : ClassId) (zz : Int32) (x0 : Int32) (x1 : Int32) (x2 : Int32) (x3 : Int32) (x4 : Int32) (x5 : Int32) (h0 : Heap) (n0 : Nat) (v : Option Value) (h : Heap) (L : List Loc) : Prop := v = some (.int (own_ok5 p65_2 x5)) ∧ Fr n0 L ∧ h = h0
set_option maxRecDepth 65536 in
set_option maxHeartbeats 40000000 in
theorem rm65 (l : Launch) (Z : State) (a0 : Array Value) (hw : ∀ d ∈ tables_1, d.before a0 Z = true) (ws : List Jvm.Cond) (a65_0 : Addr) (p65_1 : Int32) (p65_2 : Int32) (kk : ClassId) (zz : Int32) (x0 : Int32) (x1 : Int32) (x2 : Int32) (x3 : Int32) (x4 : Int32) (x5 : Int32) (h0 : Heap) (n0 : Nat) (Z0 : n0 ≤ h0.size) (Vb : Arv Z h0 a65_0 kk .int zz [(.int x0), (.int x1), (.int x2), (.int x3), (.int x4), (.int x5)] (.int (0 : Int32))) (hlt : (5 : Int32) < p65_1) (hz : (5 : Int32) < zz) :
    MetFree l (⟨"com/example/leanweave/leanweave/NetworkNumberingPinLaw", "ok", "([IIII)Z"⟩ : MethodName) (head1 (Jvm.Cond.code (⟨"com/example/leanweave/leanweave/NetworkNumberingPinLaw", "ok", "([IIII)Z"⟩ : MethodName) method_4_code 5 (some .boolean) :: ws) ({ frames := 1, cells := 0, slots := 0, locals := 12 } : Room)) (fun a U => a = #[(.ref a65_0), (.int p65_1), (.int p65_2), (.int (5 : Int32))] ∧ Z.Warmed39 U.vm ∧ U.heap = h0) (fun _ _ _ _ _ => True) (fun _ U o U' => ∃ v L, o = .returned v ∧ Q65 Z a65_0 p65_1 p65_2 kk zz x0 x1 x2 x3 x4 x5 h0 n0 v U'.heap L ∧ FrameEnd U o U' L ({ frames := 1, cells := 0, slots := 0, locals := 12 } : Room).cells ({ frames := 1, cells := 0, slots := 0, locals := 12 } : Room).slots) := by
  refine MetFree.of_bodySF (plainFor_of_name pn_0) hisR ?_
  intro p e s m args below meth c s₁ Bd hml0 hP hK
  obtain ⟨rfl, hZ, hh⟩ := hP
  have hx := Bd.exec
  have hby := Bd.bytes
  have hml : c.maxLocals = 5 := hml0
  have hown : s.vm.findClass "com/example/leanweave/leanweave/NetworkNumberingPinLaw" = some m.cls := findClass_of_methodNamed Bd.named
  have hnm := (name_of_methodNamed Bd.named Bd.method).1
  have X0 : Stand p l e ({ frames := 1, cells := 0, slots := 0, locals := 12 } : Room) s m #[(.ref a65_0), (.int p65_1), (.int p65_2), (.int (5 : Int32))] below meth c s₁ [] 0 0 := Stand.of_body Bd
  have e0 : s₁.heap = h0 := by rw [← hh, Bd.state]; rfl
  have N0 := Fr.nil n0
  have pre0 : ∀ t, Steps p.tables e below (s₁.setTop (mkF m 0 #[.val (.ref a65_0), .val (.int p65_1), .val (.int p65_2), .val (.int (5 : Int32)), .unset] [])) t → Steps p.tables e below (s₁.setTop (entryFrame m #[(.ref a65_0), (.int p65_1), (.int p65_2), (.int (5 : Int32))] 5)) t := fun t k => castTop (ef_65 m a65_0 p65_1 p65_2) k
  have k1 : ∀ t, Steps p.tables e below (s₁.setTop (mkF m 12 #[.val (.ref a65_0), .val (.int p65_1), .val (.int p65_2), .val (.int (5 : Int32)), .unset] [(.int ((p65_2 >>> ((5 : Int32) &&& 31)) &&& (1 : Int32)))])) t → Steps p.tables e below (s₁.setTop (entryFrame m #[(.ref a65_0), (.int p65_1), (.int p65_2), (.int (5 : Int32))] 5)) t := by
    intro t k
    refine pre0 t ?_
    show Steps p.tables e below (s₁.setTop (mkF m 0 #[.val (.ref a65_0), .val (.int p65_1), .val (.int p65_2), .val (.int (5 : Int32)), .unset] [])) _
    refine XS.iloadN X0.here hx rfl (hb hby d65_0) rfl ?_
    show Steps p.tables e below (s₁.setTop (mkF m 1 #[.val (.ref a65_0), .val (.int p65_1), .val (.int p65_2), .val (.int (5 : Int32)), .unset] [(.int (5 : Int32))])) _
    refine XS.iloadN X0.here hx rfl (hb hby d65_1) rfl ?_
    show Steps p.tables e below (s₁.setTop (mkF m 2 #[.val (.ref a65_0), .val (.int p65_1), .val (.int p65_2), .val (.int (5 : Int32)), .unset] [(.int p65_1), (.int (5 : Int32))])) _
    refine XS.icmpYes X0.here hx rfl (pc0 := 2) (pc' := 7) rfl (hb hby d65_2) rfl (tlt hlt).1 (by decide) (by decide) ?_
    show Steps p.tables e below (s₁.setTop (mkF m 7 #[.val (.ref a65_0), .val (.int p65_1), .val (.int p65_2), .val (.int (5 : Int32)), .unset] [])) _
    refine XS.iloadN X0.here hx rfl (hb hby d65_7) rfl ?_
    show Steps p.tables e below (s₁.setTop (mkF m 8 #[.val (.ref a65_0), .val (.int p65_1), .val (.int p65_2), .val (.int (5 : Int32)), .unset] [(.int p65_2)])) _
    refine XS.iloadN X0.here hx rfl (hb hby d65_8) rfl ?_
    show Steps p.tables e below (s₁.setTop (mkF m 9 #[.val (.ref a65_0), .val (.int p65_1), .val (.int p65_2), .val (.int (5 : Int32)), .unset] [(.int (5 : Int32)), (.int p65_2)])) _
    refine XS.ishr X0.here hx rfl (hb hby d65_9) rfl ?_
    show Steps p.tables e below (s₁.setTop (mkF m 10 #[.val (.ref a65_0), .val (.int p65_1), .val (.int p65_2), .val (.int (5 : Int32)), .unset] [(.int (p65_2 >>> ((5 : Int32) &&& 31)))])) _
    refine XS.iconst X0.here hx rfl (hb hby d65_10) ?_
    show Steps p.tables e below (s₁.setTop (mkF m 11 #[.val (.ref a65_0), .val (.int p65_1), .val (.int p65_2), .val (.int (5 : Int32)), .unset] [(.int (1 : Int32)), (.int (p65_2 >>> ((5 : Int32) &&& 31)))])) _
    refine XS.iand X0.here hx rfl (hb hby d65_11) rfl ?_
    exact k
  by_cases hc12_2 : ((p65_2 >>> ((5 : Int32) &&& 31)) &&& (1 : Int32)) = (0 : Int32)
  · skip
    obtain ⟨cl3, Ar3, qc3, Sz3, Nn3, Hh3, Gg3⟩ := (id Vb)
    have hin3 : ¬ ((5 : Int32) < 0 ∨ cl3.slots.size ≤ ((5 : Int32)).toNatClampNeg) := inb_of Sz3 ⟨by decide, hz⟩
    have k4 : ∀ t, Steps p.tables e below (s₁.setTop (mkF m 36 #[.val (.ref a65_0), .val (.int p65_1), .val (.int p65_2), .val (.int (5 : Int32)), .val (.int (-1 : Int32))] [(.int (-1 : Int32)), (.int x5)])) t → Steps p.tables e below (s₁.setTop (entryFrame m #[(.ref a65_0), (.int p65_1), (.int p65_2), (.int (5 : Int32))] 5)) t := by
      intro t k
      refine k1 t ?_
      show Steps p.tables e below (s₁.setTop (mkF m 12 #[.val (.ref a65_0), .val (.int p65_1), .val (.int p65_2), .val (.int (5 : Int32)), .unset] [(.int ((p65_2 >>> ((5 : Int32) &&& 31)) &&& (1 : Int32)))])) _
      refine XS.ifYes X0.here hx rfl (pc0 := 12) (pc' := 28) rfl (hb hby d65_12) rfl ((if0 _ _).trans (teq hc12_2).1) (by decide) (by decide) ?_
      show Steps p.tables e below (s₁.setTop (mkF m 28 #[.val (.ref a65_0), .val (.int p65_1), .val (.int p65_2), .val (.int (5 : Int32)), .unset] [])) _
      refine XS.iconst X0.here hx rfl (hb hby d65_28) ?_
      show Steps p.tables e below (s₁.setTop (mkF m 29 #[.val (.ref a65_0), .val (.int p65_1), .val (.int p65_2), .val (.int (5 : Int32)), .unset] [(.int (-1 : Int32))])) _
      refine XS.istore X0.here hx rfl (hb hby d65_29) rfl (l' := #[.val (.ref a65_0), .val (.int p65_1), .val (.int p65_2), .val (.int (5 : Int32)), .val (.int (-1 : Int32))]) rfl ?_
      show Steps p.tables e below (s₁.setTop (mkF m 31 #[.val (.ref a65_0), .val (.int p65_1), .val (.int p65_2), .val (.int (5 : Int32)), .val (.int (-1 : Int32))] [])) _
      refine XS.aloadN X0.here hx rfl (hb hby d65_31) rfl rfl ?_
      show Steps p.tables e below (s₁.setTop (mkF m 32 #[.val (.ref a65_0), .val (.int p65_1), .val (.int p65_2), .val (.int (5 : Int32)), .val (.int (-1 : Int32))] [(.ref a65_0)])) _
      refine XS.iloadN X0.here hx rfl (hb hby d65_32) rfl ?_
      show Steps p.tables e below (s₁.setTop (mkF m 33 #[.val (.ref a65_0), .val (.int p65_1), .val (.int p65_2), .val (.int (5 : Int32)), .val (.int (-1 : Int32))] [(.int (5 : Int32)), (.ref a65_0)])) _
      refine X0.iaload hx (j := (5 : Int32)) (v := (.int x5)) (by rw [e0]; exact Ar3.1) (State.isArrayOf_alike hZ.alike Ar3.2.1) Ar3.2.2 hin3 (Hh3.at hin3 rfl) (g := (mkF m 33 #[.val (.ref a65_0), .val (.int p65_1), .val (.int p65_2), .val (.int (5 : Int32)), .val (.int (-1 : Int32))] [(.int (5 : Int32)), (.ref a65_0)])) rfl rfl (hb hby d65_33) _ ?_
      show Steps p.tables e below (s₁.setTop (mkF m 34 #[.val (.ref a65_0), .val (.int p65_1), .val (.int p65_2), .val (.int (5 : Int32)), .val (.int (-1 : Int32))] [(.int x5)])) _
      refine XS.iload X0.here hx rfl (hb hby d65_34) rfl ?_
      exact k
    by_cases hc36_5 : x5 = (-1 : Int32)
    · skip
      have k6 : ∀ t, Steps p.tables e below (s₁.setTop (mkF m 44 #[.val (.ref a65_0), .val (.int p65_1), .val (.int p65_2), .val (.int (5 : Int32)), .val (.int (-1 : Int32))] [(.int (1 : Int32))])) t → Steps p.tables e below (s₁.setTop (entryFrame m #[(.ref a65_0), (.int p65_1), (.int p65_2), (.int (5 : Int32))] 5)) t := by
        intro t k
        refine k4 t ?_
        show Steps p.tables e below (s₁.setTop (mkF m 36 #[.val (.ref a65_0), .val (.int p65_1), .val (.int p65_2), .val (.int (5 : Int32)), .val (.int (-1 : Int32))] [(.int (-1 : Int32)), (.int x5)])) _
        refine XS.icmpNo X0.here hx rfl (hb hby d65_36) rfl (teq hc36_5).2 ?_
        show Steps p.tables e below (s₁.setTop (mkF m 39 #[.val (.ref a65_0), .val (.int p65_1), .val (.int p65_2), .val (.int (5 : Int32)), .val (.int (-1 : Int32))] [])) _
        refine XS.iconst X0.here hx rfl (hb hby d65_39) ?_
        show Steps p.tables e below (s₁.setTop (mkF m 40 #[.val (.ref a65_0), .val (.int p65_1), .val (.int p65_2), .val (.int (5 : Int32)), .val (.int (-1 : Int32))] [(.int (1 : Int32))])) _
        refine XS.goto X0.here hx rfl (pc0 := 40) (pc' := 44) rfl (hb hby d65_40) (by decide) (by decide) ?_
        exact k
      obtain ⟨fs, hr, hrun, hended, hW, hsame⟩ := X0.leave (v := some (.int (1 : Int32))) (fun h => by rw [Bd.returns] at h; cases h)
      refine ⟨_, _, k6 _ ?_, hrun, hended, _, _, rfl, ?_, ⟨_, rfl⟩, hW, hsame.mono (by decide) (by decide)⟩
      · exact retN X0 hx (t := .boolean) Bd.returns (by simp) (hb hby d65_44) hr
      · show Q65 Z a65_0 p65_1 p65_2 kk zz x0 x1 x2 x3 x4 x5 h0 n0 _ s₁.heap _
        rw [e0]
        exact ⟨congrArg (fun z => some (Value.int z)) (show ((1 : Int32) : Int32) = own_ok5 p65_2 x5 from by unfold own_ok5; rw [if_pos hc12_2, if_pos hc36_5]), N0, rfl⟩
    · skip
      have k7 : ∀ t, Steps p.tables e below (s₁.setTop (mkF m 44 #[.val (.ref a65_0), .val (.int p65_1), .val (.int p65_2), .val (.int (5 : Int32)), .val (.int (-1 : Int32))] [(.int (0 : Int32))])) t → Steps p.tables e below (s₁.setTop (entryFrame m #[(.ref a65_0), (.int p65_1), (.int p65_2), (.int (5 : Int32))] 5)) t := by
        intro t k
        refine k4 t ?_
        show Steps p.tables e below (s₁.setTop (mkF m 36 #[.val (.ref a65_0), .val (.int p65_1), .val (.int p65_2), .val (.int (5 : Int32)), .val (.int (-1 : Int32))] [(.int (-1 : Int32)), (.int x5)])) _
        refine XS.icmpYes X0.here hx rfl (pc0 := 36) (pc' := 43) rfl (hb hby d65_36) rfl (feq hc36_5).2 (by decide) (by decide) ?_
        show Steps p.tables e below (s₁.setTop (mkF m 43 #[.val (.ref a65_0), .val (.int p65_1), .val (.int p65_2), .val (.int (5 : Int32)), .val (.int (-1 : Int32))] [])) _
        refine XS.iconst X0.here hx rfl (hb hby d65_43) ?_
        exact k
      obtain ⟨fs, hr, hrun, hended, hW, hsame⟩ := X0.leave (v := some (.int (0 : Int32))) (fun h => by rw [Bd.returns] at h; cases h)
      refine ⟨_, _, k7 _ ?_, hrun, hended, _, _, rfl, ?_, ⟨_, rfl⟩, hW, hsame.mono (by decide) (by decide)⟩
      · exact retN X0 hx (t := .boolean) Bd.returns (by simp) (hb hby d65_44) hr
      · show Q65 Z a65_0 p65_1 p65_2 kk zz x0 x1 x2 x3 x4 x5 h0 n0 _ s₁.heap _
        rw [e0]
        exact ⟨congrArg (fun z => some (Value.int z)) (show ((0 : Int32) : Int32) = own_ok5 p65_2 x5 from by unfold own_ok5; rw [if_pos hc12_2, if_neg hc36_5]), N0, rfl⟩
  · skip
    obtain ⟨_, _, ⟨T8, L8, k8, n8⟩, -, X8, ⟨Lc8, hQ8, l8, y8, z8⟩, st8⟩ := Jvm.LawKit.callS X0 hx (y := (⟨"com/example/leanweave/leanweave/NetworkNumberingPinLaw", "ones", "(I)I"⟩ : MethodName)) hown (mvT hZ (hw _ (List.mem_of_getElem? (i := 14) rfl))) (mvT hZ (hw _ (List.mem_of_getElem? (i := 15) rfl))) (mvT hZ (hw _ (List.mem_of_getElem? (i := 4) rfl))) (mvT hZ (hw _ (List.mem_of_getElem? (i := 16) rfl))) (by decide) (backOf (W := 0) (rm4 l Z a0 hw [] (p65_2 &&& (31 : Int32)) h0 n0 Z0 ) hZ (hw _ (List.mem_of_getElem? (i := 16) rfl)) (hw _ (List.mem_of_getElem? (i := 4) rfl)) (by decide) (by decide)) (g := (mkF m 22 #[.val (.ref a65_0), .val (.int p65_1), .val (.int p65_2), .val (.int (5 : Int32)), .unset] [(.int (p65_2 &&& (31 : Int32)))])) rfl (by rw [hml]; rfl) (argsL := [(.int (p65_2 &&& (31 : Int32)))]) (rest := []) (lenOf pd_0 rfl) rfl (by show 2 * 0 + _ ≤ _; exact Nat.le_of_eq rfl) (hb hby d65_22) (fun _ _ => ⟨rfl, e0, (by decide : 0 + 0 ≤ _), (by decide : 0 + 0 ≤ _)⟩)
    dsimp only [Pt.U, Pt.locs, Pt.cells, Pt.slots] at X8 l8 y8 z8 st8 hQ8
    subst l8 y8 z8
    obtain ⟨rfl, N8q, eh8⟩ := hQ8
    have N8 := Fr.app N0 N8q
    obtain ⟨cl9, Ar9, qc9, Sz9, Nn9, Hh9, Gg9⟩ := (id Vb)
    have hin9 : ¬ ((5 : Int32) < 0 ∨ cl9.slots.size ≤ ((5 : Int32)).toNatClampNeg) := inb_of Sz9 ⟨by decide, hz⟩
    have k10 : ∀ t, Steps p.tables e below (T8.setTop (mkF m 36 #[.val (.ref a65_0), .val (.int p65_1), .val (.int p65_2), .val (.int (5 : Int32)), .val (.int (own_ones (p65_2 &&& (31 : Int32))))] [(.int (own_ones (p65_2 &&& (31 : Int32)))), (.int x5)])) t → Steps p.tables e below (s₁.setTop (entryFrame m #[(.ref a65_0), (.int p65_1), (.int p65_2), (.int (5 : Int32))] 5)) t := by
      intro t k
      refine k1 t ?_
      show Steps p.tables e below (s₁.setTop (mkF m 12 #[.val (.ref a65_0), .val (.int p65_1), .val (.int p65_2), .val (.int (5 : Int32)), .unset] [(.int ((p65_2 >>> ((5 : Int32) &&& 31)) &&& (1 : Int32)))])) _
      refine XS.ifNo X0.here hx rfl (hb hby d65_12) rfl ((if0 _ _).trans (feq hc12_2).1) ?_
      show Steps p.tables e below (s₁.setTop (mkF m 15 #[.val (.ref a65_0), .val (.int p65_1), .val (.int p65_2), .val (.int (5 : Int32)), .unset] [])) _
      refine XS.iloadN X0.here hx rfl (hb hby d65_15) rfl ?_
      show Steps p.tables e below (s₁.setTop (mkF m 16 #[.val (.ref a65_0), .val (.int p65_1), .val (.int p65_2), .val (.int (5 : Int32)), .unset] [(.int p65_2)])) _
      refine XS.iconst X0.here hx rfl (hb hby d65_16) ?_
      show Steps p.tables e below (s₁.setTop (mkF m 17 #[.val (.ref a65_0), .val (.int p65_1), .val (.int p65_2), .val (.int (5 : Int32)), .unset] [(.int (1 : Int32)), (.int p65_2)])) _
      refine XS.iloadN X0.here hx rfl (hb hby d65_17) rfl ?_
      show Steps p.tables e below (s₁.setTop (mkF m 18 #[.val (.ref a65_0), .val (.int p65_1), .val (.int p65_2), .val (.int (5 : Int32)), .unset] [(.int (5 : Int32)), (.int (1 : Int32)), (.int p65_2)])) _
      refine XS.ishl X0.here hx rfl (hb hby d65_18) rfl ?_
      show Steps p.tables e below (s₁.setTop (mkF m 19 #[.val (.ref a65_0), .val (.int p65_1), .val (.int p65_2), .val (.int (5 : Int32)), .unset] [(.int (32 : Int32)), (.int p65_2)])) _
      refine XS.iconst X0.here hx rfl (hb hby d65_19) ?_
      show Steps p.tables e below (s₁.setTop (mkF m 20 #[.val (.ref a65_0), .val (.int p65_1), .val (.int p65_2), .val (.int (5 : Int32)), .unset] [(.int (1 : Int32)), (.int (32 : Int32)), (.int p65_2)])) _
      refine XS.isub X0.here hx rfl (hb hby d65_20) rfl ?_
      show Steps p.tables e below (s₁.setTop (mkF m 21 #[.val (.ref a65_0), .val (.int p65_1), .val (.int p65_2), .val (.int (5 : Int32)), .unset] [(.int (31 : Int32)), (.int p65_2)])) _
      refine XS.iand X0.here hx rfl (hb hby d65_21) rfl ?_
      show Steps p.tables e below (s₁.setTop (mkF m 22 #[.val (.ref a65_0), .val (.int p65_1), .val (.int p65_2), .val (.int (5 : Int32)), .unset] [(.int (p65_2 &&& (31 : Int32)))])) _
      refine st8 _ ?_
      show Steps p.tables e below (T8.setTop (mkF m 25 #[.val (.ref a65_0), .val (.int p65_1), .val (.int p65_2), .val (.int (5 : Int32)), .unset] [(.int (own_ones (p65_2 &&& (31 : Int32))))])) _
      refine XS.goto X8.here hx rfl (pc0 := 25) (pc' := 29) rfl (hb hby d65_25) (by decide) (by decide) ?_
      show Steps p.tables e below (T8.setTop (mkF m 29 #[.val (.ref a65_0), .val (.int p65_1), .val (.int p65_2), .val (.int (5 : Int32)), .unset] [(.int (own_ones (p65_2 &&& (31 : Int32))))])) _
      refine XS.istore X8.here hx rfl (hb hby d65_29) rfl (l' := #[.val (.ref a65_0), .val (.int p65_1), .val (.int p65_2), .val (.int (5 : Int32)), .val (.int (own_ones (p65_2 &&& (31 : Int32))))]) rfl ?_
      show Steps p.tables e below (T8.setTop (mkF m 31 #[.val (.ref a65_0), .val (.int p65_1), .val (.int p65_2), .val (.int (5 : Int32)), .val (.int (own_ones (p65_2 &&& (31 : Int32))))] [])) _
      refine XS.aloadN X8.here hx rfl (hb hby d65_31) rfl rfl ?_
      show Steps p.tables e below (T8.setTop (mkF m 32 #[.val (.ref a65_0), .val (.int p65_1), .val (.int p65_2), .val (.int (5 : Int32)), .val (.int (own_ones (p65_2 &&& (31 : Int32))))] [(.ref a65_0)])) _
      refine XS.iloadN X8.here hx rfl (hb hby d65_32) rfl ?_
      show Steps p.tables e below (T8.setTop (mkF m 33 #[.val (.ref a65_0), .val (.int p65_1), .val (.int p65_2), .val (.int (5 : Int32)), .val (.int (own_ones (p65_2 &&& (31 : Int32))))] [(.int (5 : Int32)), (.ref a65_0)])) _
      refine X8.iaload hx (j := (5 : Int32)) (v := (.int x5)) (by rw [eh8]; exact Ar9.1) (State.isArrayOf_alike hZ.alike Ar9.2.1) Ar9.2.2 hin9 (Hh9.at hin9 rfl) (g := (mkF m 33 #[.val (.ref a65_0), .val (.int p65_1), .val (.int p65_2), .val (.int (5 : Int32)), .val (.int (own_ones (p65_2 &&& (31 : Int32))))] [(.int (5 : Int32)), (.ref a65_0)])) rfl rfl (hb hby d65_33) _ ?_
      show Steps p.tables e below (T8.setTop (mkF m 34 #[.val (.ref a65_0), .val (.int p65_1), .val (.int p65_2), .val (.int (5 : Int32)), .val (.int (own_ones (p65_2 &&& (31 : Int32))))] [(.int x5)])) _
      refine XS.iload X8.here hx rfl (hb hby d65_34) rfl ?_
      exact k
    by_cases hc36_11 : x5 = (own_ones (p65_2 &&& (31 : Int32)))
    · skip
      have k12 : ∀ t, Steps p.tables e below (T8.setTop (mkF m 44 #[.val (.ref a65_0), .val (.int p65_1), .val (.int p65_2), .val (.int (5 : Int32)), .val (.int (own_ones (p65_2 &&& (31 : Int32))))] [(.int (1 : Int32))])) t → Steps p.tables e below (s₁.setTop (entryFrame m #[(.ref a65_0), (.int p65_1), (.int p65_2), (.int (5 : Int32))] 5)) t := by
        intro t k
        refine k10 t ?_
        show Steps p.tables e below (T8.setTop (mkF m 36 #[.val (.ref a65_0), .val (.int p65_1), .val (.int p65_2), .val (.int (5 : Int32)), .val (.int (own_ones (p65_2 &&& (31 : Int32))))] [(.int (own_ones (p65_2 &&& (31 : Int32)))), (.int x5)])) _
        refine XS.icmpNo X8.here hx rfl (hb hby d65_36) rfl (teq hc36_11).2 ?_
        show Steps p.tables e below (T8.setTop (mkF m 39 #[.val (.ref a65_0), .val (.int p65_1), .val (.int p65_2), .val (.int (5 : Int32)), .val (.int (own_ones (p65_2 &&& (31 : Int32))))] [])) _
        refine XS.iconst X8.here hx rfl (hb hby d65_39) ?_
        show Steps p.tables e below (T8.setTop (mkF m 40 #[.val (.ref a65_0), .val (.int p65_1), .val (.int p65_2), .val (.int (5 : Int32)), .val (.int (own_ones (p65_2 &&& (31 : Int32))))] [(.int (1 : Int32))])) _
        refine XS.goto X8.here hx rfl (pc0 := 40) (pc' := 44) rfl (hb hby d65_40) (by decide) (by decide) ?_
        exact k
      obtain ⟨fs, hr, hrun, hended, hW, hsame⟩ := X8.leave (v := some (.int (1 : Int32))) (fun h => by rw [Bd.returns] at h; cases h)
      refine ⟨_, _, k12 _ ?_, hrun, hended, _, _, rfl, ?_, ⟨_, rfl⟩, hW, hsame.mono (by decide) (by decide)⟩
      · exact retN X8 hx (t := .boolean) Bd.returns (by simp) (hb hby d65_44) hr
      · show Q65 Z a65_0 p65_1 p65_2 kk zz x0 x1 x2 x3 x4 x5 h0 n0 _ T8.heap _
        rw [eh8]
        exact ⟨congrArg (fun z => some (Value.int z)) (show ((1 : Int32) : Int32) = own_ok5 p65_2 x5 from by unfold own_ok5; rw [if_neg hc12_2, if_pos hc36_11]), N8, rfl⟩
    · skip
      have k13 : ∀ t, Steps p.tables e below (T8.setTop (mkF m 44 #[.val (.ref a65_0), .val (.int p65_1), .val (.int p65_2), .val (.int (5 : Int32)), .val (.int (own_ones (p65_2 &&& (31 : Int32))))] [(.int (0 : Int32))])) t → Steps p.tables e below (s₁.setTop (entryFrame m #[(.ref a65_0), (.int p65_1), (.int p65_2), (.int (5 : Int32))] 5)) t := by
        intro t k
        refine k10 t ?_
        show Steps p.tables e below (T8.setTop (mkF m 36 #[.val (.ref a65_0), .val (.int p65_1), .val (.int p65_2), .val (.int (5 : Int32)), .val (.int (own_ones (p65_2 &&& (31 : Int32))))] [(.int (own_ones (p65_2 &&& (31 : Int32)))), (.int x5)])) _
        refine XS.icmpYes X8.here hx rfl (pc0 := 36) (pc' := 43) rfl (hb hby d65_36) rfl (feq hc36_11).2 (by decide) (by decide) ?_
        show Steps p.tables e below (T8.setTop (mkF m 43 #[.val (.ref a65_0), .val (.int p65_1), .val (.int p65_2), .val (.int (5 : Int32)), .val (.int (own_ones (p65_2 &&& (31 : Int32))))] [])) _
        refine XS.iconst X8.here hx rfl (hb hby d65_43) ?_
        exact k
      obtain ⟨fs, hr, hrun, hended, hW, hsame⟩ := X8.leave (v := some (.int (0 : Int32))) (fun h => by rw [Bd.returns] at h; cases h)
      refine ⟨_, _, k13 _ ?_, hrun, hended, _, _, rfl, ?_, ⟨_, rfl⟩, hW, hsame.mono (by decide) (by decide)⟩
      · exact retN X8 hx (t := .boolean) Bd.returns (by simp) (hb hby d65_44) hr
      · show Q65 Z a65_0 p65_1 p65_2 kk zz x0 x1 x2 x3 x4 x5 h0 n0 _ T8.heap _
        rw [eh8]
        exact ⟨congrArg (fun z => some (Value.int z)) (show ((0 : Int32) : Int32) = own_ok5 p65_2 x5 from by unfold own_ok5; rw [if_neg hc12_2, if_neg hc36_11]), N8, rfl⟩
set_option maxHeartbeats 4000000 in
theorem own_okl0 (p : Int32) : own_ok0 p (own_e (own_bit p (0 : Int32)) (0 : Int32)) = (1 : Int32) := by
  have l0 : (p &&& (0 : Int32)) &&& (1 : Int32) = (0 : Int32) := by
    have m1 := c_mask p (0 : Int32) 0 (by decide) (by decide)
    have s1 := c_ishr (p &&& (0 : Int32)) (0 : Int32) 0 (by decide)
    have s2 := c_ishr p (0 : Int32) 0 (by decide)
    rw [own_eqi, c_mask (p &&& (0 : Int32)) 1 1 (by decide) (by decide), m1, show (0 : Int32).toInt = 0 from rfl]
    omega
  have l1 : ((p &&& (0 : Int32)) >>> ((1 : Int32) &&& 31)) &&& (1 : Int32) = (0 : Int32) := by
    have m1 := c_mask p (0 : Int32) 0 (by decide) (by decide)
    have s1 := c_ishr (p &&& (0 : Int32)) (1 : Int32) 1 (by decide)
    have s2 := c_ishr p (1 : Int32) 1 (by decide)
    rw [own_eqi, c_mask _ 1 1 (by decide) (by decide), s1, m1, show (0 : Int32).toInt = 0 from rfl]
    omega
  have l2 : ((p &&& (0 : Int32)) >>> ((2 : Int32) &&& 31)) &&& (1 : Int32) = (0 : Int32) := by
    have m1 := c_mask p (0 : Int32) 0 (by decide) (by decide)
    have s1 := c_ishr (p &&& (0 : Int32)) (2 : Int32) 2 (by decide)
    have s2 := c_ishr p (2 : Int32) 2 (by decide)
    rw [own_eqi, c_mask _ 1 1 (by decide) (by decide), s1, m1, show (0 : Int32).toInt = 0 from rfl]
    omega
  have l3 : ((p &&& (0 : Int32)) >>> ((3 : Int32) &&& 31)) &&& (1 : Int32) = (0 : Int32) := by
    have m1 := c_mask p (0 : Int32) 0 (by decide) (by decide)
    have s1 := c_ishr (p &&& (0 : Int32)) (3 : Int32) 3 (by decide)
    have s2 := c_ishr p (3 : Int32) 3 (by decide)
    rw [own_eqi, c_mask _ 1 1 (by decide) (by decide), s1, m1, show (0 : Int32).toInt = 0 from rfl]
    omega
  have l4 : ((p &&& (0 : Int32)) >>> ((4 : Int32) &&& 31)) &&& (1 : Int32) = (0 : Int32) := by
    have m1 := c_mask p (0 : Int32) 0 (by decide) (by decide)
    have s1 := c_ishr (p &&& (0 : Int32)) (4 : Int32) 4 (by decide)
    have s2 := c_ishr p (4 : Int32) 4 (by decide)
    rw [own_eqi, c_mask _ 1 1 (by decide) (by decide), s1, m1, show (0 : Int32).toInt = 0 from rfl]
    omega
  have l5 : ((p &&& (0 : Int32)) >>> ((5 : Int32) &&& 31)) &&& (1 : Int32) = (0 : Int32) := by
    have m1 := c_mask p (0 : Int32) 0 (by decide) (by decide)
    have s1 := c_ishr (p &&& (0 : Int32)) (5 : Int32) 5 (by decide)
    have s2 := c_ishr p (5 : Int32) 5 (by decide)
    rw [own_eqi, c_mask _ 1 1 (by decide) (by decide), s1, m1, show (0 : Int32).toInt = 0 from rfl]
    omega
  unfold own_ok0 own_ones
  rw [l0, l1, l2, l3, l4, l5]
  unfold own_bit
  generalize hb0 : (p >>> ((0 : Int32) &&& 31)) &&& (1 : Int32) = b0
  have ho0 := and_one (p >>> ((0 : Int32) &&& 31))
  rw [hb0] at ho0
  rcases ho0 with rfl | rfl
  all_goals rfl
set_option maxHeartbeats 4000000 in
theorem own_okl1 (p : Int32) : own_ok1 p (own_e (own_bit p (1 : Int32)) (own_c (own_bit p (0 : Int32)) (0 : Int32))) = (1 : Int32) := by
  have l0 : (p &&& (1 : Int32)) &&& (1 : Int32) = (p >>> ((0 : Int32) &&& 31)) &&& (1 : Int32) := by
    have m1 := c_mask p (1 : Int32) 1 (by decide) (by decide)
    have s1 := c_ishr (p &&& (1 : Int32)) (0 : Int32) 0 (by decide)
    have s2 := c_ishr p (0 : Int32) 0 (by decide)
    rw [own_eqi, c_mask (p &&& (1 : Int32)) 1 1 (by decide) (by decide), c_mask (p >>> ((0 : Int32) &&& 31)) 1 1 (by decide) (by decide), s2, m1]
    omega
  have l1 : ((p &&& (1 : Int32)) >>> ((1 : Int32) &&& 31)) &&& (1 : Int32) = (0 : Int32) := by
    have m1 := c_mask p (1 : Int32) 1 (by decide) (by decide)
    have s1 := c_ishr (p &&& (1 : Int32)) (1 : Int32) 1 (by decide)
    have s2 := c_ishr p (1 : Int32) 1 (by decide)
    rw [own_eqi, c_mask _ 1 1 (by decide) (by decide), s1, m1, show (0 : Int32).toInt = 0 from rfl]
    omega
  have l2 : ((p &&& (1 : Int32)) >>> ((2 : Int32) &&& 31)) &&& (1 : Int32) = (0 : Int32) := by
    have m1 := c_mask p (1 : Int32) 1 (by decide) (by decide)
    have s1 := c_ishr (p &&& (1 : Int32)) (2 : Int32) 2 (by decide)
    have s2 := c_ishr p (2 : Int32) 2 (by decide)
    rw [own_eqi, c_mask _ 1 1 (by decide) (by decide), s1, m1, show (0 : Int32).toInt = 0 from rfl]
    omega
  have l3 : ((p &&& (1 : Int32)) >>> ((3 : Int32) &&& 31)) &&& (1 : Int32) = (0 : Int32) := by
    have m1 := c_mask p (1 : Int32) 1 (by decide) (by decide)
    have s1 := c_ishr (p &&& (1 : Int32)) (3 : Int32) 3 (by decide)
    have s2 := c_ishr p (3 : Int32) 3 (by decide)
    rw [own_eqi, c_mask _ 1 1 (by decide) (by decide), s1, m1, show (0 : Int32).toInt = 0 from rfl]
    omega
  have l4 : ((p &&& (1 : Int32)) >>> ((4 : Int32) &&& 31)) &&& (1 : Int32) = (0 : Int32) := by
    have m1 := c_mask p (1 : Int32) 1 (by decide) (by decide)
    have s1 := c_ishr (p &&& (1 : Int32)) (4 : Int32) 4 (by decide)
    have s2 := c_ishr p (4 : Int32) 4 (by decide)
    rw [own_eqi, c_mask _ 1 1 (by decide) (by decide), s1, m1, show (0 : Int32).toInt = 0 from rfl]
    omega
  have l5 : ((p &&& (1 : Int32)) >>> ((5 : Int32) &&& 31)) &&& (1 : Int32) = (0 : Int32) := by
    have m1 := c_mask p (1 : Int32) 1 (by decide) (by decide)
    have s1 := c_ishr (p &&& (1 : Int32)) (5 : Int32) 5 (by decide)
    have s2 := c_ishr p (5 : Int32) 5 (by decide)
    rw [own_eqi, c_mask _ 1 1 (by decide) (by decide), s1, m1, show (0 : Int32).toInt = 0 from rfl]
    omega
  unfold own_ok1 own_ones
  rw [l0, l1, l2, l3, l4, l5]
  unfold own_bit
  generalize hb0 : (p >>> ((0 : Int32) &&& 31)) &&& (1 : Int32) = b0
  have ho0 := and_one (p >>> ((0 : Int32) &&& 31))
  rw [hb0] at ho0
  generalize hb1 : (p >>> ((1 : Int32) &&& 31)) &&& (1 : Int32) = b1
  have ho1 := and_one (p >>> ((1 : Int32) &&& 31))
  rw [hb1] at ho1
  rcases ho0 with rfl | rfl <;> rcases ho1 with rfl | rfl
  all_goals rfl
set_option maxHeartbeats 4000000 in
theorem own_okl2 (p : Int32) : own_ok2 p (own_e (own_bit p (2 : Int32)) (own_c (own_bit p (1 : Int32)) (own_c (own_bit p (0 : Int32)) (0 : Int32)))) = (1 : Int32) := by
  have l0 : (p &&& (3 : Int32)) &&& (1 : Int32) = (p >>> ((0 : Int32) &&& 31)) &&& (1 : Int32) := by
    have m1 := c_mask p (3 : Int32) 2 (by decide) (by decide)
    have s1 := c_ishr (p &&& (3 : Int32)) (0 : Int32) 0 (by decide)
    have s2 := c_ishr p (0 : Int32) 0 (by decide)
    rw [own_eqi, c_mask (p &&& (3 : Int32)) 1 1 (by decide) (by decide), c_mask (p >>> ((0 : Int32) &&& 31)) 1 1 (by decide) (by decide), s2, m1]
    omega
  have l1 : ((p &&& (3 : Int32)) >>> ((1 : Int32) &&& 31)) &&& (1 : Int32) = (p >>> ((1 : Int32) &&& 31)) &&& (1 : Int32) := by
    have m1 := c_mask p (3 : Int32) 2 (by decide) (by decide)
    have s1 := c_ishr (p &&& (3 : Int32)) (1 : Int32) 1 (by decide)
    have s2 := c_ishr p (1 : Int32) 1 (by decide)
    rw [own_eqi, c_mask _ 1 1 (by decide) (by decide), c_mask _ 1 1 (by decide) (by decide), s1, s2, m1]
    omega
  have l2 : ((p &&& (3 : Int32)) >>> ((2 : Int32) &&& 31)) &&& (1 : Int32) = (0 : Int32) := by
    have m1 := c_mask p (3 : Int32) 2 (by decide) (by decide)
    have s1 := c_ishr (p &&& (3 : Int32)) (2 : Int32) 2 (by decide)
    have s2 := c_ishr p (2 : Int32) 2 (by decide)
    rw [own_eqi, c_mask _ 1 1 (by decide) (by decide), s1, m1, show (0 : Int32).toInt = 0 from rfl]
    omega
  have l3 : ((p &&& (3 : Int32)) >>> ((3 : Int32) &&& 31)) &&& (1 : Int32) = (0 : Int32) := by
    have m1 := c_mask p (3 : Int32) 2 (by decide) (by decide)
    have s1 := c_ishr (p &&& (3 : Int32)) (3 : Int32) 3 (by decide)
    have s2 := c_ishr p (3 : Int32) 3 (by decide)
    rw [own_eqi, c_mask _ 1 1 (by decide) (by decide), s1, m1, show (0 : Int32).toInt = 0 from rfl]
    omega
  have l4 : ((p &&& (3 : Int32)) >>> ((4 : Int32) &&& 31)) &&& (1 : Int32) = (0 : Int32) := by
    have m1 := c_mask p (3 : Int32) 2 (by decide) (by decide)
    have s1 := c_ishr (p &&& (3 : Int32)) (4 : Int32) 4 (by decide)
    have s2 := c_ishr p (4 : Int32) 4 (by decide)
    rw [own_eqi, c_mask _ 1 1 (by decide) (by decide), s1, m1, show (0 : Int32).toInt = 0 from rfl]
    omega
  have l5 : ((p &&& (3 : Int32)) >>> ((5 : Int32) &&& 31)) &&& (1 : Int32) = (0 : Int32) := by
    have m1 := c_mask p (3 : Int32) 2 (by decide) (by decide)
    have s1 := c_ishr (p &&& (3 : Int32)) (5 : Int32) 5 (by decide)
    have s2 := c_ishr p (5 : Int32) 5 (by decide)
    rw [own_eqi, c_mask _ 1 1 (by decide) (by decide), s1, m1, show (0 : Int32).toInt = 0 from rfl]
    omega
  unfold own_ok2 own_ones
  rw [l0, l1, l2, l3, l4, l5]
  unfold own_bit
  generalize hb0 : (p >>> ((0 : Int32) &&& 31)) &&& (1 : Int32) = b0
  have ho0 := and_one (p >>> ((0 : Int32) &&& 31))
  rw [hb0] at ho0
  generalize hb1 : (p >>> ((1 : Int32) &&& 31)) &&& (1 : Int32) = b1
  have ho1 := and_one (p >>> ((1 : Int32) &&& 31))
  rw [hb1] at ho1
  generalize hb2 : (p >>> ((2 : Int32) &&& 31)) &&& (1 : Int32) = b2
  have ho2 := and_one (p >>> ((2 : Int32) &&& 31))
  rw [hb2] at ho2
  rcases ho0 with rfl | rfl <;> rcases ho1 with rfl | rfl <;> rcases ho2 with rfl | rfl
  all_goals rfl
set_option maxHeartbeats 4000000 in
theorem own_okl3 (p : Int32) : own_ok3 p (own_e (own_bit p (3 : Int32)) (own_c (own_bit p (2 : Int32)) (own_c (own_bit p (1 : Int32)) (own_c (own_bit p (0 : Int32)) (0 : Int32))))) = (1 : Int32) := by
  have l0 : (p &&& (7 : Int32)) &&& (1 : Int32) = (p >>> ((0 : Int32) &&& 31)) &&& (1 : Int32) := by
    have m1 := c_mask p (7 : Int32) 3 (by decide) (by decide)
    have s1 := c_ishr (p &&& (7 : Int32)) (0 : Int32) 0 (by decide)
    have s2 := c_ishr p (0 : Int32) 0 (by decide)
    rw [own_eqi, c_mask (p &&& (7 : Int32)) 1 1 (by decide) (by decide), c_mask (p >>> ((0 : Int32) &&& 31)) 1 1 (by decide) (by decide), s2, m1]
    omega
  have l1 : ((p &&& (7 : Int32)) >>> ((1 : Int32) &&& 31)) &&& (1 : Int32) = (p >>> ((1 : Int32) &&& 31)) &&& (1 : Int32) := by
    have m1 := c_mask p (7 : Int32) 3 (by decide) (by decide)
    have s1 := c_ishr (p &&& (7 : Int32)) (1 : Int32) 1 (by decide)
    have s2 := c_ishr p (1 : Int32) 1 (by decide)
    rw [own_eqi, c_mask _ 1 1 (by decide) (by decide), c_mask _ 1 1 (by decide) (by decide), s1, s2, m1]
    omega
  have l2 : ((p &&& (7 : Int32)) >>> ((2 : Int32) &&& 31)) &&& (1 : Int32) = (p >>> ((2 : Int32) &&& 31)) &&& (1 : Int32) := by
    have m1 := c_mask p (7 : Int32) 3 (by decide) (by decide)
    have s1 := c_ishr (p &&& (7 : Int32)) (2 : Int32) 2 (by decide)
    have s2 := c_ishr p (2 : Int32) 2 (by decide)
    rw [own_eqi, c_mask _ 1 1 (by decide) (by decide), c_mask _ 1 1 (by decide) (by decide), s1, s2, m1]
    omega
  have l3 : ((p &&& (7 : Int32)) >>> ((3 : Int32) &&& 31)) &&& (1 : Int32) = (0 : Int32) := by
    have m1 := c_mask p (7 : Int32) 3 (by decide) (by decide)
    have s1 := c_ishr (p &&& (7 : Int32)) (3 : Int32) 3 (by decide)
    have s2 := c_ishr p (3 : Int32) 3 (by decide)
    rw [own_eqi, c_mask _ 1 1 (by decide) (by decide), s1, m1, show (0 : Int32).toInt = 0 from rfl]
    omega
  have l4 : ((p &&& (7 : Int32)) >>> ((4 : Int32) &&& 31)) &&& (1 : Int32) = (0 : Int32) := by
    have m1 := c_mask p (7 : Int32) 3 (by decide) (by decide)
    have s1 := c_ishr (p &&& (7 : Int32)) (4 : Int32) 4 (by decide)
    have s2 := c_ishr p (4 : Int32) 4 (by decide)
    rw [own_eqi, c_mask _ 1 1 (by decide) (by decide), s1, m1, show (0 : Int32).toInt = 0 from rfl]
    omega
  have l5 : ((p &&& (7 : Int32)) >>> ((5 : Int32) &&& 31)) &&& (1 : Int32) = (0 : Int32) := by
    have m1 := c_mask p (7 : Int32) 3 (by decide) (by decide)
    have s1 := c_ishr (p &&& (7 : Int32)) (5 : Int32) 5 (by decide)
    have s2 := c_ishr p (5 : Int32) 5 (by decide)
    rw [own_eqi, c_mask _ 1 1 (by decide) (by decide), s1, m1, show (0 : Int32).toInt = 0 from rfl]
    omega
  unfold own_ok3 own_ones
  rw [l0, l1, l2, l3, l4, l5]
  unfold own_bit
  generalize hb0 : (p >>> ((0 : Int32) &&& 31)) &&& (1 : Int32) = b0
  have ho0 := and_one (p >>> ((0 : Int32) &&& 31))
  rw [hb0] at ho0
  generalize hb1 : (p >>> ((1 : Int32) &&& 31)) &&& (1 : Int32) = b1
  have ho1 := and_one (p >>> ((1 : Int32) &&& 31))
  rw [hb1] at ho1
  generalize hb2 : (p >>> ((2 : Int32) &&& 31)) &&& (1 : Int32) = b2
  have ho2 := and_one (p >>> ((2 : Int32) &&& 31))
  rw [hb2] at ho2
  generalize hb3 : (p >>> ((3 : Int32) &&& 31)) &&& (1 : Int32) = b3
  have ho3 := and_one (p >>> ((3 : Int32) &&& 31))
  rw [hb3] at ho3
  rcases ho0 with rfl | rfl <;> rcases ho1 with rfl | rfl <;> rcases ho2 with rfl | rfl <;> rcases ho3 with rfl | rfl
  all_goals rfl
set_option maxHeartbeats 4000000 in
theorem own_okl4 (p : Int32) : own_ok4 p (own_e (own_bit p (4 : Int32)) (own_c (own_bit p (3 : Int32)) (own_c (own_bit p (2 : Int32)) (own_c (own_bit p (1 : Int32)) (own_c (own_bit p (0 : Int32)) (0 : Int32)))))) = (1 : Int32) := by
  have l0 : (p &&& (15 : Int32)) &&& (1 : Int32) = (p >>> ((0 : Int32) &&& 31)) &&& (1 : Int32) := by
    have m1 := c_mask p (15 : Int32) 4 (by decide) (by decide)
    have s1 := c_ishr (p &&& (15 : Int32)) (0 : Int32) 0 (by decide)
    have s2 := c_ishr p (0 : Int32) 0 (by decide)
    rw [own_eqi, c_mask (p &&& (15 : Int32)) 1 1 (by decide) (by decide), c_mask (p >>> ((0 : Int32) &&& 31)) 1 1 (by decide) (by decide), s2, m1]
    omega
  have l1 : ((p &&& (15 : Int32)) >>> ((1 : Int32) &&& 31)) &&& (1 : Int32) = (p >>> ((1 : Int32) &&& 31)) &&& (1 : Int32) := by
    have m1 := c_mask p (15 : Int32) 4 (by decide) (by decide)
    have s1 := c_ishr (p &&& (15 : Int32)) (1 : Int32) 1 (by decide)
    have s2 := c_ishr p (1 : Int32) 1 (by decide)
    rw [own_eqi, c_mask _ 1 1 (by decide) (by decide), c_mask _ 1 1 (by decide) (by decide), s1, s2, m1]
    omega
  have l2 : ((p &&& (15 : Int32)) >>> ((2 : Int32) &&& 31)) &&& (1 : Int32) = (p >>> ((2 : Int32) &&& 31)) &&& (1 : Int32) := by
    have m1 := c_mask p (15 : Int32) 4 (by decide) (by decide)
    have s1 := c_ishr (p &&& (15 : Int32)) (2 : Int32) 2 (by decide)
    have s2 := c_ishr p (2 : Int32) 2 (by decide)
    rw [own_eqi, c_mask _ 1 1 (by decide) (by decide), c_mask _ 1 1 (by decide) (by decide), s1, s2, m1]
    omega
  have l3 : ((p &&& (15 : Int32)) >>> ((3 : Int32) &&& 31)) &&& (1 : Int32) = (p >>> ((3 : Int32) &&& 31)) &&& (1 : Int32) := by
    have m1 := c_mask p (15 : Int32) 4 (by decide) (by decide)
    have s1 := c_ishr (p &&& (15 : Int32)) (3 : Int32) 3 (by decide)
    have s2 := c_ishr p (3 : Int32) 3 (by decide)
    rw [own_eqi, c_mask _ 1 1 (by decide) (by decide), c_mask _ 1 1 (by decide) (by decide), s1, s2, m1]
    omega
  have l4 : ((p &&& (15 : Int32)) >>> ((4 : Int32) &&& 31)) &&& (1 : Int32) = (0 : Int32) := by
    have m1 := c_mask p (15 : Int32) 4 (by decide) (by decide)
    have s1 := c_ishr (p &&& (15 : Int32)) (4 : Int32) 4 (by decide)
    have s2 := c_ishr p (4 : Int32) 4 (by decide)
    rw [own_eqi, c_mask _ 1 1 (by decide) (by decide), s1, m1, show (0 : Int32).toInt = 0 from rfl]
    omega
  have l5 : ((p &&& (15 : Int32)) >>> ((5 : Int32) &&& 31)) &&& (1 : Int32) = (0 : Int32) := by
    have m1 := c_mask p (15 : Int32) 4 (by decide) (by decide)
    have s1 := c_ishr (p &&& (15 : Int32)) (5 : Int32) 5 (by decide)
    have s2 := c_ishr p (5 : Int32) 5 (by decide)
    rw [own_eqi, c_mask _ 1 1 (by decide) (by decide), s1, m1, show (0 : Int32).toInt = 0 from rfl]
    omega
  unfold own_ok4 own_ones
  rw [l0, l1, l2, l3, l4, l5]
  unfold own_bit
  generalize hb0 : (p >>> ((0 : Int32) &&& 31)) &&& (1 : Int32) = b0
  have ho0 := and_one (p >>> ((0 : Int32) &&& 31))
  rw [hb0] at ho0
  generalize hb1 : (p >>> ((1 : Int32) &&& 31)) &&& (1 : Int32) = b1
  have ho1 := and_one (p >>> ((1 : Int32) &&& 31))
  rw [hb1] at ho1
  generalize hb2 : (p >>> ((2 : Int32) &&& 31)) &&& (1 : Int32) = b2
  have ho2 := and_one (p >>> ((2 : Int32) &&& 31))
  rw [hb2] at ho2
  generalize hb3 : (p >>> ((3 : Int32) &&& 31)) &&& (1 : Int32) = b3
  have ho3 := and_one (p >>> ((3 : Int32) &&& 31))
  rw [hb3] at ho3
  generalize hb4 : (p >>> ((4 : Int32) &&& 31)) &&& (1 : Int32) = b4
  have ho4 := and_one (p >>> ((4 : Int32) &&& 31))
  rw [hb4] at ho4
  rcases ho0 with rfl | rfl <;> rcases ho1 with rfl | rfl <;> rcases ho2 with rfl | rfl <;> rcases ho3 with rfl | rfl <;> rcases ho4 with rfl | rfl
  all_goals rfl
set_option maxHeartbeats 4000000 in
theorem own_okl5 (p : Int32) : own_ok5 p (own_e (own_bit p (5 : Int32)) (own_c (own_bit p (4 : Int32)) (own_c (own_bit p (3 : Int32)) (own_c (own_bit p (2 : Int32)) (own_c (own_bit p (1 : Int32)) (own_c (own_bit p (0 : Int32)) (0 : Int32))))))) = (1 : Int32) := by
  have l0 : (p &&& (31 : Int32)) &&& (1 : Int32) = (p >>> ((0 : Int32) &&& 31)) &&& (1 : Int32) := by
    have m1 := c_mask p (31 : Int32) 5 (by decide) (by decide)
    have s1 := c_ishr (p &&& (31 : Int32)) (0 : Int32) 0 (by decide)
    have s2 := c_ishr p (0 : Int32) 0 (by decide)
    rw [own_eqi, c_mask (p &&& (31 : Int32)) 1 1 (by decide) (by decide), c_mask (p >>> ((0 : Int32) &&& 31)) 1 1 (by decide) (by decide), s2, m1]
    omega
  have l1 : ((p &&& (31 : Int32)) >>> ((1 : Int32) &&& 31)) &&& (1 : Int32) = (p >>> ((1 : Int32) &&& 31)) &&& (1 : Int32) := by
    have m1 := c_mask p (31 : Int32) 5 (by decide) (by decide)
    have s1 := c_ishr (p &&& (31 : Int32)) (1 : Int32) 1 (by decide)
    have s2 := c_ishr p (1 : Int32) 1 (by decide)
    rw [own_eqi, c_mask _ 1 1 (by decide) (by decide), c_mask _ 1 1 (by decide) (by decide), s1, s2, m1]
    omega
  have l2 : ((p &&& (31 : Int32)) >>> ((2 : Int32) &&& 31)) &&& (1 : Int32) = (p >>> ((2 : Int32) &&& 31)) &&& (1 : Int32) := by
    have m1 := c_mask p (31 : Int32) 5 (by decide) (by decide)
    have s1 := c_ishr (p &&& (31 : Int32)) (2 : Int32) 2 (by decide)
    have s2 := c_ishr p (2 : Int32) 2 (by decide)
    rw [own_eqi, c_mask _ 1 1 (by decide) (by decide), c_mask _ 1 1 (by decide) (by decide), s1, s2, m1]
    omega
  have l3 : ((p &&& (31 : Int32)) >>> ((3 : Int32) &&& 31)) &&& (1 : Int32) = (p >>> ((3 : Int32) &&& 31)) &&& (1 : Int32) := by
    have m1 := c_mask p (31 : Int32) 5 (by decide) (by decide)
    have s1 := c_ishr (p &&& (31 : Int32)) (3 : Int32) 3 (by decide)
    have s2 := c_ishr p (3 : Int32) 3 (by decide)
    rw [own_eqi, c_mask _ 1 1 (by decide) (by decide), c_mask _ 1 1 (by decide) (by decide), s1, s2, m1]
    omega
  have l4 : ((p &&& (31 : Int32)) >>> ((4 : Int32) &&& 31)) &&& (1 : Int32) = (p >>> ((4 : Int32) &&& 31)) &&& (1 : Int32) := by
    have m1 := c_mask p (31 : Int32) 5 (by decide) (by decide)
    have s1 := c_ishr (p &&& (31 : Int32)) (4 : Int32) 4 (by decide)
    have s2 := c_ishr p (4 : Int32) 4 (by decide)
    rw [own_eqi, c_mask _ 1 1 (by decide) (by decide), c_mask _ 1 1 (by decide) (by decide), s1, s2, m1]
    omega
  have l5 : ((p &&& (31 : Int32)) >>> ((5 : Int32) &&& 31)) &&& (1 : Int32) = (0 : Int32) := by
    have m1 := c_mask p (31 : Int32) 5 (by decide) (by decide)
    have s1 := c_ishr (p &&& (31 : Int32)) (5 : Int32) 5 (by decide)
    have s2 := c_ishr p (5 : Int32) 5 (by decide)
    rw [own_eqi, c_mask _ 1 1 (by decide) (by decide), s1, m1, show (0 : Int32).toInt = 0 from rfl]
    omega
  unfold own_ok5 own_ones
  rw [l0, l1, l2, l3, l4, l5]
  unfold own_bit
  generalize hb0 : (p >>> ((0 : Int32) &&& 31)) &&& (1 : Int32) = b0
  have ho0 := and_one (p >>> ((0 : Int32) &&& 31))
  rw [hb0] at ho0
  generalize hb1 : (p >>> ((1 : Int32) &&& 31)) &&& (1 : Int32) = b1
  have ho1 := and_one (p >>> ((1 : Int32) &&& 31))
  rw [hb1] at ho1
  generalize hb2 : (p >>> ((2 : Int32) &&& 31)) &&& (1 : Int32) = b2
  have ho2 := and_one (p >>> ((2 : Int32) &&& 31))
  rw [hb2] at ho2
  generalize hb3 : (p >>> ((3 : Int32) &&& 31)) &&& (1 : Int32) = b3
  have ho3 := and_one (p >>> ((3 : Int32) &&& 31))
  rw [hb3] at ho3
  generalize hb4 : (p >>> ((4 : Int32) &&& 31)) &&& (1 : Int32) = b4
  have ho4 := and_one (p >>> ((4 : Int32) &&& 31))
  rw [hb4] at ho4
  generalize hb5 : (p >>> ((5 : Int32) &&& 31)) &&& (1 : Int32) = b5
  have ho5 := and_one (p >>> ((5 : Int32) &&& 31))
  rw [hb5] at ho5
  rcases ho0 with rfl | rfl <;> rcases ho1 with rfl | rfl <;> rcases ho2 with rfl | rfl <;> rcases ho3 with rfl | rfl <;> rcases ho4 with rfl | rfl <;> rcases ho5 with rfl | rfl
  all_goals rfl
theorem pd_1 : parseMethodDescriptor "([ZIII)V" = some ⟨[(.array .boolean), .int, .int, .int], none⟩ := by decide +kernel
theorem pd_2 : parseMethodDescriptor "([Z)[I" = some ⟨[(.array .boolean)], some (.array .int)⟩ := by decide +kernel
theorem pd_3 : parseMethodDescriptor "([IIII)Z" = some ⟨[(.array .int), .int, .int, .int], some .boolean⟩ := by decide +kernel
theorem ef_0 (m : MethodId) (p0_0 : Int32) (p0_1 : Int32) : entryFrame m #[(.int p0_0), (.int p0_1)] maxLocals = mkF m 0 #[.val (.int p0_0), .val (.int p0_1), .unset, .unset, .unset] [] := by first | (simp [entryFrame, mkF, argsToLocals, Value.category, maxLocals]; done) | rfl
def Q0 (Z : State) (p0_0 : Int32) (p0_1 : Int32) (h0 : Heap) (n0 : Nat) (v : Option Value) (h : Heap) (L : List Loc) : Prop := v = some (.int (1 : Int32)) ∧ Fr n0 L
set_option maxRecDepth 65536 in
set_option maxHeartbeats 40000000 in
theorem rm0 (l : Launch) (Z : State) (a0 : Array Value) (hw : ∀ d ∈ tables_1, d.before a0 Z = true) (ws : List Jvm.Cond) (p0_0 : Int32) (p0_1 : Int32) (h0 : Heap) (n0 : Nat) (Z0 : n0 ≤ h0.size) :
    MetFree l x (head1 (Jvm.Cond.code x code maxLocals ret :: ws) room_1) (fun a U => a = #[(.int p0_0), (.int p0_1)] ∧ Z.Warmed39 U.vm ∧ U.heap = h0) (fun _ _ _ _ _ => True) (fun _ U o U' => ∃ v L, o = .returned v ∧ Q0 Z p0_0 p0_1 h0 n0 v U'.heap L ∧ FrameEnd U o U' L 16 128) := by
  refine MetFree.of_bodySF (plainFor_of_name pn_0) hisR ?_
  intro p e s m args below meth c s₁ Bd hml0 hP hK
  obtain ⟨rfl, hZ, hh⟩ := hP
  have hx := Bd.exec
  have hby := Bd.bytes
  have hml : c.maxLocals = 5 := hml0
  have hown : s.vm.findClass "com/example/leanweave/leanweave/NetworkNumberingPinLaw" = some m.cls := findClass_of_methodNamed Bd.named
  have hnm := (name_of_methodNamed Bd.named Bd.method).1
  have X0 : Stand p l e room_1 s m #[(.int p0_0), (.int p0_1)] below meth c s₁ [] 0 0 := Stand.of_body Bd
  have e0 : s₁.heap = h0 := by rw [← hh, Bd.state]; rfl
  have N0 := Fr.nil n0
  have pre0 : ∀ t, Steps p.tables e below (s₁.setTop (mkF m 0 #[.val (.int p0_0), .val (.int p0_1), .unset, .unset, .unset] [])) t → Steps p.tables e below (s₁.setTop (entryFrame m #[(.int p0_0), (.int p0_1)] maxLocals)) t := fun t k => castTop (ef_0 m p0_0 p0_1) k
  have k1 : ∀ t, Steps p.tables e below (s₁.setTop (mkF m 8 #[.val (.int p0_0), .val (.int p0_1), .val (.int ((p0_0 &&& (2147483647 : Int32)) % (7 : Int32))), .unset, .unset] [])) t → Steps p.tables e below (s₁.setTop (entryFrame m #[(.int p0_0), (.int p0_1)] maxLocals)) t := by
    intro t k
    refine pre0 t ?_
    show Steps p.tables e below (s₁.setTop (mkF m 0 #[.val (.int p0_0), .val (.int p0_1), .unset, .unset, .unset] [])) _
    refine XS.iloadN X0.here hx rfl (hb hby at_0) rfl ?_
    show Steps p.tables e below (s₁.setTop (mkF m 1 #[.val (.int p0_0), .val (.int p0_1), .unset, .unset, .unset] [(.int p0_0)])) _
    refine X0.ldcInt hx hown (mvT hZ (hw _ (List.mem_of_getElem? (i := 0) rfl))) (g := (mkF m 1 #[.val (.int p0_0), .val (.int p0_1), .unset, .unset, .unset] [(.int p0_0)])) rfl (hb hby at_1) _ ?_
    show Steps p.tables e below (s₁.setTop (mkF m 3 #[.val (.int p0_0), .val (.int p0_1), .unset, .unset, .unset] [(.int (2147483647 : Int32)), (.int p0_0)])) _
    refine XS.iand X0.here hx rfl (hb hby at_3) rfl ?_
    show Steps p.tables e below (s₁.setTop (mkF m 4 #[.val (.int p0_0), .val (.int p0_1), .unset, .unset, .unset] [(.int (p0_0 &&& (2147483647 : Int32)))])) _
    refine XS.bipush X0.here hx rfl (hb hby at_4) ?_
    show Steps p.tables e below (s₁.setTop (mkF m 6 #[.val (.int p0_0), .val (.int p0_1), .unset, .unset, .unset] [(.int (7 : Int32)), (.int (p0_0 &&& (2147483647 : Int32)))])) _
    refine iremM X0 hx rfl (hb hby at_6) rfl (by decide) ?_
    show Steps p.tables e below (s₁.setTop (mkF m 7 #[.val (.int p0_0), .val (.int p0_1), .unset, .unset, .unset] [(.int ((p0_0 &&& (2147483647 : Int32)) % (7 : Int32)))])) _
    refine XS.istoreN X0.here hx rfl (hb hby at_7) rfl (l' := #[.val (.int p0_0), .val (.int p0_1), .val (.int ((p0_0 &&& (2147483647 : Int32)) % (7 : Int32))), .unset, .unset]) rfl ?_
    exact k
  obtain ⟨z2, hz2⟩ : ∃ z, z = ((p0_0 &&& (2147483647 : Int32)) % (7 : Int32)) := ⟨_, rfl⟩
  rw [← hz2] at k1
  have hz2' : z2 = (0 : Int32) ∨ z2 = (1 : Int32) ∨ z2 = (2 : Int32) ∨ z2 = (3 : Int32) ∨ z2 = (4 : Int32) ∨ z2 = (5 : Int32) ∨ z2 = (6 : Int32) := by rw [hz2]; exact own_mod7 _
  rcases hz2' with rfl | rfl | rfl | rfl | rfl | rfl | rfl
  · skip
    obtain ⟨b3, g3⟩ : ∃ z, z = h0.size := ⟨_, rfl⟩
    obtain ⟨T3, h3, k3, X3, e3, E3, A3, st3⟩ := newP X0 hx hZ (hw _ (List.mem_of_getElem? (i := 1) rfl)) e0 (g := (mkF m 9 #[.val (.int p0_0), .val (.int p0_1), .val (.int (0 : Int32)), .unset, .unset] [(.int (0 : Int32))])) rfl (hb hby at_9) rfl (by decide) (cap := 0) (by decide) (by decide) (by decide) (by decide)
    rw [← g3] at A3 st3
    have gg3 : n0 ≤ b3 := Nat.le_trans Z0 (Nat.le_of_eq g3.symm)
    have Zs3 : n0 ≤ h3.size := Nat.le_trans Z0 E3.1
    have V3 : Arv Z h3 b3 k3 .boolean (0 : Int32) [(.int (0 : Int32)), (.int (0 : Int32)), (.int (0 : Int32)), (.int (0 : Int32)), (.int (0 : Int32)), (.int (0 : Int32))] (.int (0 : Int32)) := (Arv.new A3 (by decide)).pad (pad_rep [] (.int (0 : Int32)) 6)
    obtain ⟨_, _, ⟨T4, L4, k4, n4⟩, -, X4, ⟨Lc4, hQ4, l4, y4, z4⟩, st4⟩ := Jvm.LawKit.callS X3 hx (y := (⟨"com/example/leanweave/leanweave/NetworkNumberingPinLaw", "set", "([ZIII)V"⟩ : MethodName)) hown (mvT hZ (hw _ (List.mem_of_getElem? (i := 2) rfl))) (mvT hZ (hw _ (List.mem_of_getElem? (i := 3) rfl))) (mvT hZ (hw _ (List.mem_of_getElem? (i := 4) rfl))) (mvT hZ (hw _ (List.mem_of_getElem? (i := 5) rfl))) (by decide) (backOf (W := 0) (rm1 l Z a0 hw [] b3 (0 : Int32) p0_1 (0 : Int32) h3 n0 Zs3 (by decide : ¬ ((0 : Int32) < (0 : Int32)))) hZ (hw _ (List.mem_of_getElem? (i := 5) rfl)) (hw _ (List.mem_of_getElem? (i := 4) rfl)) (by decide) (by decide)) (g := (mkF m 16 #[.val (.int p0_0), .val (.int p0_1), .val (.int (0 : Int32)), .val (.ref b3), .unset] [(.int (0 : Int32)), (.int p0_1), (.int (0 : Int32)), (.ref b3)])) rfl (by rw [hml]; rfl) (argsL := [(.ref b3), (.int (0 : Int32)), (.int p0_1), (.int (0 : Int32))]) (rest := []) (lenOf pd_1 rfl) rfl (by show 2 * 0 + _ ≤ _; exact Nat.le_of_eq rfl) (hb hby at_16) (fun _ _ => ⟨rfl, e3, (by decide : 1 + 0 ≤ _), (by decide : 0 + 0 ≤ _)⟩)
    dsimp only [Pt.U, Pt.locs, Pt.cells, Pt.slots] at X4 l4 y4 z4 st4 hQ4
    subst l4 y4 z4
    obtain ⟨rfl, N4q, eh4⟩ := hQ4
    have N4 := Fr.app N0 N4q
    obtain ⟨_, _, ⟨T5, L5, k5, n5⟩, -, X5, ⟨Lc5, hQ5, l5, y5, z5⟩, st5⟩ := Jvm.LawKit.callS X4 hx (y := (⟨"com/example/leanweave/leanweave/NetworkNumberingPinLaw", "set", "([ZIII)V"⟩ : MethodName)) hown (mvT hZ (hw _ (List.mem_of_getElem? (i := 2) rfl))) (mvT hZ (hw _ (List.mem_of_getElem? (i := 3) rfl))) (mvT hZ (hw _ (List.mem_of_getElem? (i := 4) rfl))) (mvT hZ (hw _ (List.mem_of_getElem? (i := 5) rfl))) (by decide) (backOf (W := 0) (rm1 l Z a0 hw [] b3 (0 : Int32) p0_1 (1 : Int32) h3 n0 Zs3 (by decide : ¬ ((1 : Int32) < (0 : Int32)))) hZ (hw _ (List.mem_of_getElem? (i := 5) rfl)) (hw _ (List.mem_of_getElem? (i := 4) rfl)) (by decide) (by decide)) (g := (mkF m 23 #[.val (.int p0_0), .val (.int p0_1), .val (.int (0 : Int32)), .val (.ref b3), .unset] [(.int (1 : Int32)), (.int p0_1), (.int (0 : Int32)), (.ref b3)])) rfl (by rw [hml]; rfl) (argsL := [(.ref b3), (.int (0 : Int32)), (.int p0_1), (.int (1 : Int32))]) (rest := []) (lenOf pd_1 rfl) rfl (by show 2 * 0 + _ ≤ _; exact Nat.le_of_eq rfl) (hb hby at_23) (fun _ _ => ⟨rfl, eh4, (by decide : 1 + 0 ≤ _), (by decide : 0 + 0 ≤ _)⟩)
    dsimp only [Pt.U, Pt.locs, Pt.cells, Pt.slots] at X5 l5 y5 z5 st5 hQ5
    subst l5 y5 z5
    obtain ⟨rfl, N5q, eh5⟩ := hQ5
    have N5 := Fr.app N4 N5q
    obtain ⟨_, _, ⟨T6, L6, k6, n6⟩, -, X6, ⟨Lc6, hQ6, l6, y6, z6⟩, st6⟩ := Jvm.LawKit.callS X5 hx (y := (⟨"com/example/leanweave/leanweave/NetworkNumberingPinLaw", "set", "([ZIII)V"⟩ : MethodName)) hown (mvT hZ (hw _ (List.mem_of_getElem? (i := 2) rfl))) (mvT hZ (hw _ (List.mem_of_getElem? (i := 3) rfl))) (mvT hZ (hw _ (List.mem_of_getElem? (i := 4) rfl))) (mvT hZ (hw _ (List.mem_of_getElem? (i := 5) rfl))) (by decide) (backOf (W := 0) (rm1 l Z a0 hw [] b3 (0 : Int32) p0_1 (2 : Int32) h3 n0 Zs3 (by decide : ¬ ((2 : Int32) < (0 : Int32)))) hZ (hw _ (List.mem_of_getElem? (i := 5) rfl)) (hw _ (List.mem_of_getElem? (i := 4) rfl)) (by decide) (by decide)) (g := (mkF m 30 #[.val (.int p0_0), .val (.int p0_1), .val (.int (0 : Int32)), .val (.ref b3), .unset] [(.int (2 : Int32)), (.int p0_1), (.int (0 : Int32)), (.ref b3)])) rfl (by rw [hml]; rfl) (argsL := [(.ref b3), (.int (0 : Int32)), (.int p0_1), (.int (2 : Int32))]) (rest := []) (lenOf pd_1 rfl) rfl (by show 2 * 0 + _ ≤ _; exact Nat.le_of_eq rfl) (hb hby at_30) (fun _ _ => ⟨rfl, eh5, (by decide : 1 + 0 ≤ _), (by decide : 0 + 0 ≤ _)⟩)
    dsimp only [Pt.U, Pt.locs, Pt.cells, Pt.slots] at X6 l6 y6 z6 st6 hQ6
    subst l6 y6 z6
    obtain ⟨rfl, N6q, eh6⟩ := hQ6
    have N6 := Fr.app N5 N6q
    obtain ⟨_, _, ⟨T7, L7, k7, n7⟩, -, X7, ⟨Lc7, hQ7, l7, y7, z7⟩, st7⟩ := Jvm.LawKit.callS X6 hx (y := (⟨"com/example/leanweave/leanweave/NetworkNumberingPinLaw", "set", "([ZIII)V"⟩ : MethodName)) hown (mvT hZ (hw _ (List.mem_of_getElem? (i := 2) rfl))) (mvT hZ (hw _ (List.mem_of_getElem? (i := 3) rfl))) (mvT hZ (hw _ (List.mem_of_getElem? (i := 4) rfl))) (mvT hZ (hw _ (List.mem_of_getElem? (i := 5) rfl))) (by decide) (backOf (W := 0) (rm1 l Z a0 hw [] b3 (0 : Int32) p0_1 (3 : Int32) h3 n0 Zs3 (by decide : ¬ ((3 : Int32) < (0 : Int32)))) hZ (hw _ (List.mem_of_getElem? (i := 5) rfl)) (hw _ (List.mem_of_getElem? (i := 4) rfl)) (by decide) (by decide)) (g := (mkF m 37 #[.val (.int p0_0), .val (.int p0_1), .val (.int (0 : Int32)), .val (.ref b3), .unset] [(.int (3 : Int32)), (.int p0_1), (.int (0 : Int32)), (.ref b3)])) rfl (by rw [hml]; rfl) (argsL := [(.ref b3), (.int (0 : Int32)), (.int p0_1), (.int (3 : Int32))]) (rest := []) (lenOf pd_1 rfl) rfl (by show 2 * 0 + _ ≤ _; exact Nat.le_of_eq rfl) (hb hby at_37) (fun _ _ => ⟨rfl, eh6, (by decide : 1 + 0 ≤ _), (by decide : 0 + 0 ≤ _)⟩)
    dsimp only [Pt.U, Pt.locs, Pt.cells, Pt.slots] at X7 l7 y7 z7 st7 hQ7
    subst l7 y7 z7
    obtain ⟨rfl, N7q, eh7⟩ := hQ7
    have N7 := Fr.app N6 N7q
    obtain ⟨_, _, ⟨T8, L8, k8, n8⟩, -, X8, ⟨Lc8, hQ8, l8, y8, z8⟩, st8⟩ := Jvm.LawKit.callS X7 hx (y := (⟨"com/example/leanweave/leanweave/NetworkNumberingPinLaw", "set", "([ZIII)V"⟩ : MethodName)) hown (mvT hZ (hw _ (List.mem_of_getElem? (i := 2) rfl))) (mvT hZ (hw _ (List.mem_of_getElem? (i := 3) rfl))) (mvT hZ (hw _ (List.mem_of_getElem? (i := 4) rfl))) (mvT hZ (hw _ (List.mem_of_getElem? (i := 5) rfl))) (by decide) (backOf (W := 0) (rm1 l Z a0 hw [] b3 (0 : Int32) p0_1 (4 : Int32) h3 n0 Zs3 (by decide : ¬ ((4 : Int32) < (0 : Int32)))) hZ (hw _ (List.mem_of_getElem? (i := 5) rfl)) (hw _ (List.mem_of_getElem? (i := 4) rfl)) (by decide) (by decide)) (g := (mkF m 44 #[.val (.int p0_0), .val (.int p0_1), .val (.int (0 : Int32)), .val (.ref b3), .unset] [(.int (4 : Int32)), (.int p0_1), (.int (0 : Int32)), (.ref b3)])) rfl (by rw [hml]; rfl) (argsL := [(.ref b3), (.int (0 : Int32)), (.int p0_1), (.int (4 : Int32))]) (rest := []) (lenOf pd_1 rfl) rfl (by show 2 * 0 + _ ≤ _; exact Nat.le_of_eq rfl) (hb hby at_44) (fun _ _ => ⟨rfl, eh7, (by decide : 1 + 0 ≤ _), (by decide : 0 + 0 ≤ _)⟩)
    dsimp only [Pt.U, Pt.locs, Pt.cells, Pt.slots] at X8 l8 y8 z8 st8 hQ8
    subst l8 y8 z8
    obtain ⟨rfl, N8q, eh8⟩ := hQ8
    have N8 := Fr.app N7 N8q
    obtain ⟨_, _, ⟨T9, L9, k9, n9⟩, -, X9, ⟨Lc9, hQ9, l9, y9, z9⟩, st9⟩ := Jvm.LawKit.callS X8 hx (y := (⟨"com/example/leanweave/leanweave/NetworkNumberingPinLaw", "set", "([ZIII)V"⟩ : MethodName)) hown (mvT hZ (hw _ (List.mem_of_getElem? (i := 2) rfl))) (mvT hZ (hw _ (List.mem_of_getElem? (i := 3) rfl))) (mvT hZ (hw _ (List.mem_of_getElem? (i := 4) rfl))) (mvT hZ (hw _ (List.mem_of_getElem? (i := 5) rfl))) (by decide) (backOf (W := 0) (rm1 l Z a0 hw [] b3 (0 : Int32) p0_1 (5 : Int32) h3 n0 Zs3 (by decide : ¬ ((5 : Int32) < (0 : Int32)))) hZ (hw _ (List.mem_of_getElem? (i := 5) rfl)) (hw _ (List.mem_of_getElem? (i := 4) rfl)) (by decide) (by decide)) (g := (mkF m 51 #[.val (.int p0_0), .val (.int p0_1), .val (.int (0 : Int32)), .val (.ref b3), .unset] [(.int (5 : Int32)), (.int p0_1), (.int (0 : Int32)), (.ref b3)])) rfl (by rw [hml]; rfl) (argsL := [(.ref b3), (.int (0 : Int32)), (.int p0_1), (.int (5 : Int32))]) (rest := []) (lenOf pd_1 rfl) rfl (by show 2 * 0 + _ ≤ _; exact Nat.le_of_eq rfl) (hb hby at_51) (fun _ _ => ⟨rfl, eh8, (by decide : 1 + 0 ≤ _), (by decide : 0 + 0 ≤ _)⟩)
    dsimp only [Pt.U, Pt.locs, Pt.cells, Pt.slots] at X9 l9 y9 z9 st9 hQ9
    subst l9 y9 z9
    obtain ⟨rfl, N9q, eh9⟩ := hQ9
    have N9 := Fr.app N8 N9q
    obtain ⟨_, _, ⟨T10, L10, k10, n10⟩, -, X10, ⟨Lc10, hQ10, l10, y10, z10⟩, st10⟩ := Jvm.LawKit.callS X9 hx (y := (⟨"com/example/leanweave/leanweave/Network", "numbering", "([Z)[I"⟩ : MethodName)) hown (mvT hZ (hw _ (List.mem_of_getElem? (i := 6) rfl))) (mvT hZ (hw _ (List.mem_of_getElem? (i := 7) rfl))) (mvT hZ (hw _ (List.mem_of_getElem? (i := 8) rfl))) (mvT hZ (hw _ (List.mem_of_getElem? (i := 9) rfl))) (by decide) (backOf (W := 0) (rm30 l Z a0 hw [] b3 k3 (0 : Int32) (0 : Int32) (0 : Int32) (0 : Int32) (0 : Int32) (0 : Int32) h3 n0 Zs3 V3) hZ (hw _ (List.mem_of_getElem? (i := 9) rfl)) (hw _ (List.mem_of_getElem? (i := 8) rfl)) (by decide) (by decide)) (g := (mkF m 55 #[.val (.int p0_0), .val (.int p0_1), .val (.int (0 : Int32)), .val (.ref b3), .unset] [(.ref b3)])) rfl (by rw [hml]; rfl) (argsL := [(.ref b3)]) (rest := []) (lenOf pd_2 rfl) rfl (by show 2 * 0 + _ ≤ _; exact Nat.le_of_eq rfl) (hb hby at_55) (fun _ _ => ⟨rfl, eh9, (by decide : 1 + 1 ≤ _), (by decide : 0 + 0 ≤ _)⟩)
    dsimp only [Pt.U, Pt.locs, Pt.cells, Pt.slots] at X10 l10 y10 z10 st10 hQ10
    subst l10 y10 z10
    obtain ⟨b30_10, kn30_10, rfl, N10q, Kc10, ggb30_10, szb30_10, G10_0⟩ := hQ10
    have ne11 : b3 ≠ b30_10 := Nat.ne_of_lt (Nat.lt_of_lt_of_le V3.lt szb30_10)
    have Zs10 : n0 ≤ T10.heap.size := Nat.le_trans Zs3 Kc10.1
    have F12 : Arv Z T10.heap b3 k3 .boolean (0 : Int32) [(.int (0 : Int32)), (.int (0 : Int32)), (.int (0 : Int32)), (.int (0 : Int32)), (.int (0 : Int32)), (.int (0 : Int32))] (.int (0 : Int32)) := V3.keep Kc10 nin0
    have N10 := Fr.app N9 N10q
    obtain ⟨cl13, Ar13, qc13, Sz13, Nn13, Hh13, Gg13⟩ := (id G10_0)
    obtain ⟨_, _, ⟨T14, L14, k14, n14⟩, -, X14, ⟨Lc14, hQ14, l14, y14, z14⟩, st14⟩ := Jvm.LawKit.callS X10 hx (y := (⟨"com/example/leanweave/leanweave/NetworkNumberingPinLaw", "ok", "([IIII)Z"⟩ : MethodName)) hown (mvT hZ (hw _ (List.mem_of_getElem? (i := 11) rfl))) (mvT hZ (hw _ (List.mem_of_getElem? (i := 12) rfl))) (mvT hZ (hw _ (List.mem_of_getElem? (i := 4) rfl))) (mvT hZ (hw _ (List.mem_of_getElem? (i := 13) rfl))) (by decide) (backOf (W := 0) (rm5 l Z a0 hw [] b30_10 (0 : Int32) p0_1 (0 : Int32) T10.heap n0 Zs10 (by decide : ¬ ((0 : Int32) < (0 : Int32)))) hZ (hw _ (List.mem_of_getElem? (i := 13) rfl)) (hw _ (List.mem_of_getElem? (i := 4) rfl)) (by decide) (by decide)) (g := (mkF m 79 #[.val (.int p0_0), .val (.int p0_1), .val (.int (0 : Int32)), .val (.ref b3), .val (.ref b30_10)] [(.int (0 : Int32)), (.int p0_1), (.int (0 : Int32)), (.ref b30_10)])) rfl (by rw [hml]; rfl) (argsL := [(.ref b30_10), (.int (0 : Int32)), (.int p0_1), (.int (0 : Int32))]) (rest := []) (lenOf pd_3 rfl) rfl (by show 2 * 0 + _ ≤ _; exact Nat.le_of_eq rfl) (hb hby at_79) (fun _ _ => ⟨rfl, rfl, (by decide : 2 + 0 ≤ _), (by decide : 0 + 0 ≤ _)⟩)
    dsimp only [Pt.U, Pt.locs, Pt.cells, Pt.slots] at X14 l14 y14 z14 st14 hQ14
    subst l14 y14 z14
    obtain ⟨rfl, N14q, eh14⟩ := hQ14
    have N14 := Fr.app N10 N14q
    obtain ⟨_, _, ⟨T15, L15, k15, n15⟩, -, X15, ⟨Lc15, hQ15, l15, y15, z15⟩, st15⟩ := Jvm.LawKit.callS X14 hx (y := (⟨"com/example/leanweave/leanweave/NetworkNumberingPinLaw", "ok", "([IIII)Z"⟩ : MethodName)) hown (mvT hZ (hw _ (List.mem_of_getElem? (i := 11) rfl))) (mvT hZ (hw _ (List.mem_of_getElem? (i := 12) rfl))) (mvT hZ (hw _ (List.mem_of_getElem? (i := 4) rfl))) (mvT hZ (hw _ (List.mem_of_getElem? (i := 13) rfl))) (by decide) (backOf (W := 0) (rm5 l Z a0 hw [] b30_10 (0 : Int32) p0_1 (1 : Int32) T10.heap n0 Zs10 (by decide : ¬ ((1 : Int32) < (0 : Int32)))) hZ (hw _ (List.mem_of_getElem? (i := 13) rfl)) (hw _ (List.mem_of_getElem? (i := 4) rfl)) (by decide) (by decide)) (g := (mkF m 90 #[.val (.int p0_0), .val (.int p0_1), .val (.int (0 : Int32)), .val (.ref b3), .val (.ref b30_10)] [(.int (1 : Int32)), (.int p0_1), (.int (0 : Int32)), (.ref b30_10)])) rfl (by rw [hml]; rfl) (argsL := [(.ref b30_10), (.int (0 : Int32)), (.int p0_1), (.int (1 : Int32))]) (rest := []) (lenOf pd_3 rfl) rfl (by show 2 * 0 + _ ≤ _; exact Nat.le_of_eq rfl) (hb hby at_90) (fun _ _ => ⟨rfl, eh14, (by decide : 2 + 0 ≤ _), (by decide : 0 + 0 ≤ _)⟩)
    dsimp only [Pt.U, Pt.locs, Pt.cells, Pt.slots] at X15 l15 y15 z15 st15 hQ15
    subst l15 y15 z15
    obtain ⟨rfl, N15q, eh15⟩ := hQ15
    have N15 := Fr.app N14 N15q
    obtain ⟨_, _, ⟨T16, L16, k16, n16⟩, -, X16, ⟨Lc16, hQ16, l16, y16, z16⟩, st16⟩ := Jvm.LawKit.callS X15 hx (y := (⟨"com/example/leanweave/leanweave/NetworkNumberingPinLaw", "ok", "([IIII)Z"⟩ : MethodName)) hown (mvT hZ (hw _ (List.mem_of_getElem? (i := 11) rfl))) (mvT hZ (hw _ (List.mem_of_getElem? (i := 12) rfl))) (mvT hZ (hw _ (List.mem_of_getElem? (i := 4) rfl))) (mvT hZ (hw _ (List.mem_of_getElem? (i := 13) rfl))) (by decide) (backOf (W := 0) (rm5 l Z a0 hw [] b30_10 (0 : Int32) p0_1 (2 : Int32) T10.heap n0 Zs10 (by decide : ¬ ((2 : Int32) < (0 : Int32)))) hZ (hw _ (List.mem_of_getElem? (i := 13) rfl)) (hw _ (List.mem_of_getElem? (i := 4) rfl)) (by decide) (by decide)) (g := (mkF m 101 #[.val (.int p0_0), .val (.int p0_1), .val (.int (0 : Int32)), .val (.ref b3), .val (.ref b30_10)] [(.int (2 : Int32)), (.int p0_1), (.int (0 : Int32)), (.ref b30_10)])) rfl (by rw [hml]; rfl) (argsL := [(.ref b30_10), (.int (0 : Int32)), (.int p0_1), (.int (2 : Int32))]) (rest := []) (lenOf pd_3 rfl) rfl (by show 2 * 0 + _ ≤ _; exact Nat.le_of_eq rfl) (hb hby at_101) (fun _ _ => ⟨rfl, eh15, (by decide : 2 + 0 ≤ _), (by decide : 0 + 0 ≤ _)⟩)
    dsimp only [Pt.U, Pt.locs, Pt.cells, Pt.slots] at X16 l16 y16 z16 st16 hQ16
    subst l16 y16 z16
    obtain ⟨rfl, N16q, eh16⟩ := hQ16
    have N16 := Fr.app N15 N16q
    obtain ⟨_, _, ⟨T17, L17, k17, n17⟩, -, X17, ⟨Lc17, hQ17, l17, y17, z17⟩, st17⟩ := Jvm.LawKit.callS X16 hx (y := (⟨"com/example/leanweave/leanweave/NetworkNumberingPinLaw", "ok", "([IIII)Z"⟩ : MethodName)) hown (mvT hZ (hw _ (List.mem_of_getElem? (i := 11) rfl))) (mvT hZ (hw _ (List.mem_of_getElem? (i := 12) rfl))) (mvT hZ (hw _ (List.mem_of_getElem? (i := 4) rfl))) (mvT hZ (hw _ (List.mem_of_getElem? (i := 13) rfl))) (by decide) (backOf (W := 0) (rm5 l Z a0 hw [] b30_10 (0 : Int32) p0_1 (3 : Int32) T10.heap n0 Zs10 (by decide : ¬ ((3 : Int32) < (0 : Int32)))) hZ (hw _ (List.mem_of_getElem? (i := 13) rfl)) (hw _ (List.mem_of_getElem? (i := 4) rfl)) (by decide) (by decide)) (g := (mkF m 112 #[.val (.int p0_0), .val (.int p0_1), .val (.int (0 : Int32)), .val (.ref b3), .val (.ref b30_10)] [(.int (3 : Int32)), (.int p0_1), (.int (0 : Int32)), (.ref b30_10)])) rfl (by rw [hml]; rfl) (argsL := [(.ref b30_10), (.int (0 : Int32)), (.int p0_1), (.int (3 : Int32))]) (rest := []) (lenOf pd_3 rfl) rfl (by show 2 * 0 + _ ≤ _; exact Nat.le_of_eq rfl) (hb hby at_112) (fun _ _ => ⟨rfl, eh16, (by decide : 2 + 0 ≤ _), (by decide : 0 + 0 ≤ _)⟩)
    dsimp only [Pt.U, Pt.locs, Pt.cells, Pt.slots] at X17 l17 y17 z17 st17 hQ17
    subst l17 y17 z17
    obtain ⟨rfl, N17q, eh17⟩ := hQ17
    have N17 := Fr.app N16 N17q
    obtain ⟨_, _, ⟨T18, L18, k18, n18⟩, -, X18, ⟨Lc18, hQ18, l18, y18, z18⟩, st18⟩ := Jvm.LawKit.callS X17 hx (y := (⟨"com/example/leanweave/leanweave/NetworkNumberingPinLaw", "ok", "([IIII)Z"⟩ : MethodName)) hown (mvT hZ (hw _ (List.mem_of_getElem? (i := 11) rfl))) (mvT hZ (hw _ (List.mem_of_getElem? (i := 12) rfl))) (mvT hZ (hw _ (List.mem_of_getElem? (i := 4) rfl))) (mvT hZ (hw _ (List.mem_of_getElem? (i := 13) rfl))) (by decide) (backOf (W := 0) (rm5 l Z a0 hw [] b30_10 (0 : Int32) p0_1 (4 : Int32) T10.heap n0 Zs10 (by decide : ¬ ((4 : Int32) < (0 : Int32)))) hZ (hw _ (List.mem_of_getElem? (i := 13) rfl)) (hw _ (List.mem_of_getElem? (i := 4) rfl)) (by decide) (by decide)) (g := (mkF m 123 #[.val (.int p0_0), .val (.int p0_1), .val (.int (0 : Int32)), .val (.ref b3), .val (.ref b30_10)] [(.int (4 : Int32)), (.int p0_1), (.int (0 : Int32)), (.ref b30_10)])) rfl (by rw [hml]; rfl) (argsL := [(.ref b30_10), (.int (0 : Int32)), (.int p0_1), (.int (4 : Int32))]) (rest := []) (lenOf pd_3 rfl) rfl (by show 2 * 0 + _ ≤ _; exact Nat.le_of_eq rfl) (hb hby at_123) (fun _ _ => ⟨rfl, eh17, (by decide : 2 + 0 ≤ _), (by decide : 0 + 0 ≤ _)⟩)
    dsimp only [Pt.U, Pt.locs, Pt.cells, Pt.slots] at X18 l18 y18 z18 st18 hQ18
    subst l18 y18 z18
    obtain ⟨rfl, N18q, eh18⟩ := hQ18
    have N18 := Fr.app N17 N18q
    obtain ⟨_, _, ⟨T19, L19, k19, n19⟩, -, X19, ⟨Lc19, hQ19, l19, y19, z19⟩, st19⟩ := Jvm.LawKit.callS X18 hx (y := (⟨"com/example/leanweave/leanweave/NetworkNumberingPinLaw", "ok", "([IIII)Z"⟩ : MethodName)) hown (mvT hZ (hw _ (List.mem_of_getElem? (i := 11) rfl))) (mvT hZ (hw _ (List.mem_of_getElem? (i := 12) rfl))) (mvT hZ (hw _ (List.mem_of_getElem? (i := 4) rfl))) (mvT hZ (hw _ (List.mem_of_getElem? (i := 13) rfl))) (by decide) (backOf (W := 0) (rm5 l Z a0 hw [] b30_10 (0 : Int32) p0_1 (5 : Int32) T10.heap n0 Zs10 (by decide : ¬ ((5 : Int32) < (0 : Int32)))) hZ (hw _ (List.mem_of_getElem? (i := 13) rfl)) (hw _ (List.mem_of_getElem? (i := 4) rfl)) (by decide) (by decide)) (g := (mkF m 134 #[.val (.int p0_0), .val (.int p0_1), .val (.int (0 : Int32)), .val (.ref b3), .val (.ref b30_10)] [(.int (5 : Int32)), (.int p0_1), (.int (0 : Int32)), (.ref b30_10)])) rfl (by rw [hml]; rfl) (argsL := [(.ref b30_10), (.int (0 : Int32)), (.int p0_1), (.int (5 : Int32))]) (rest := []) (lenOf pd_3 rfl) rfl (by show 2 * 0 + _ ≤ _; exact Nat.le_of_eq rfl) (hb hby at_134) (fun _ _ => ⟨rfl, eh18, (by decide : 2 + 0 ≤ _), (by decide : 0 + 0 ≤ _)⟩)
    dsimp only [Pt.U, Pt.locs, Pt.cells, Pt.slots] at X19 l19 y19 z19 st19 hQ19
    subst l19 y19 z19
    obtain ⟨rfl, N19q, eh19⟩ := hQ19
    have N19 := Fr.app N18 N19q
    have k20 : ∀ t, Steps p.tables e below (T19.setTop (mkF m 145 #[.val (.int p0_0), .val (.int p0_1), .val (.int (0 : Int32)), .val (.ref b3), .val (.ref b30_10)] [(.int (1 : Int32))])) t → Steps p.tables e below (s₁.setTop (entryFrame m #[(.int p0_0), (.int p0_1)] maxLocals)) t := by
      intro t k
      refine k1 t ?_
      show Steps p.tables e below (s₁.setTop (mkF m 8 #[.val (.int p0_0), .val (.int p0_1), .val (.int (0 : Int32)), .unset, .unset] [])) _
      refine XS.iloadN X0.here hx rfl (hb hby at_8) rfl ?_
      show Steps p.tables e below (s₁.setTop (mkF m 9 #[.val (.int p0_0), .val (.int p0_1), .val (.int (0 : Int32)), .unset, .unset] [(.int (0 : Int32))])) _
      refine st3 _ ?_
      show Steps p.tables e below (T3.setTop (mkF m 11 #[.val (.int p0_0), .val (.int p0_1), .val (.int (0 : Int32)), .unset, .unset] [(.ref b3)])) _
      refine XS.astoreN X3.here hx rfl (hb hby at_11) rfl rfl (l' := #[.val (.int p0_0), .val (.int p0_1), .val (.int (0 : Int32)), .val (.ref b3), .unset]) rfl ?_
      show Steps p.tables e below (T3.setTop (mkF m 12 #[.val (.int p0_0), .val (.int p0_1), .val (.int (0 : Int32)), .val (.ref b3), .unset] [])) _
      refine XS.aloadN X3.here hx rfl (hb hby at_12) rfl rfl ?_
      show Steps p.tables e below (T3.setTop (mkF m 13 #[.val (.int p0_0), .val (.int p0_1), .val (.int (0 : Int32)), .val (.ref b3), .unset] [(.ref b3)])) _
      refine XS.iloadN X3.here hx rfl (hb hby at_13) rfl ?_
      show Steps p.tables e below (T3.setTop (mkF m 14 #[.val (.int p0_0), .val (.int p0_1), .val (.int (0 : Int32)), .val (.ref b3), .unset] [(.int (0 : Int32)), (.ref b3)])) _
      refine XS.iloadN X3.here hx rfl (hb hby at_14) rfl ?_
      show Steps p.tables e below (T3.setTop (mkF m 15 #[.val (.int p0_0), .val (.int p0_1), .val (.int (0 : Int32)), .val (.ref b3), .unset] [(.int p0_1), (.int (0 : Int32)), (.ref b3)])) _
      refine XS.iconst X3.here hx rfl (hb hby at_15) ?_
      show Steps p.tables e below (T3.setTop (mkF m 16 #[.val (.int p0_0), .val (.int p0_1), .val (.int (0 : Int32)), .val (.ref b3), .unset] [(.int (0 : Int32)), (.int p0_1), (.int (0 : Int32)), (.ref b3)])) _
      refine st4 _ ?_
      show Steps p.tables e below (T4.setTop (mkF m 19 #[.val (.int p0_0), .val (.int p0_1), .val (.int (0 : Int32)), .val (.ref b3), .unset] [])) _
      refine XS.aloadN X4.here hx rfl (hb hby at_19) rfl rfl ?_
      show Steps p.tables e below (T4.setTop (mkF m 20 #[.val (.int p0_0), .val (.int p0_1), .val (.int (0 : Int32)), .val (.ref b3), .unset] [(.ref b3)])) _
      refine XS.iloadN X4.here hx rfl (hb hby at_20) rfl ?_
      show Steps p.tables e below (T4.setTop (mkF m 21 #[.val (.int p0_0), .val (.int p0_1), .val (.int (0 : Int32)), .val (.ref b3), .unset] [(.int (0 : Int32)), (.ref b3)])) _
      refine XS.iloadN X4.here hx rfl (hb hby at_21) rfl ?_
      show Steps p.tables e below (T4.setTop (mkF m 22 #[.val (.int p0_0), .val (.int p0_1), .val (.int (0 : Int32)), .val (.ref b3), .unset] [(.int p0_1), (.int (0 : Int32)), (.ref b3)])) _
      refine XS.iconst X4.here hx rfl (hb hby at_22) ?_
      show Steps p.tables e below (T4.setTop (mkF m 23 #[.val (.int p0_0), .val (.int p0_1), .val (.int (0 : Int32)), .val (.ref b3), .unset] [(.int (1 : Int32)), (.int p0_1), (.int (0 : Int32)), (.ref b3)])) _
      refine st5 _ ?_
      show Steps p.tables e below (T5.setTop (mkF m 26 #[.val (.int p0_0), .val (.int p0_1), .val (.int (0 : Int32)), .val (.ref b3), .unset] [])) _
      refine XS.aloadN X5.here hx rfl (hb hby at_26) rfl rfl ?_
      show Steps p.tables e below (T5.setTop (mkF m 27 #[.val (.int p0_0), .val (.int p0_1), .val (.int (0 : Int32)), .val (.ref b3), .unset] [(.ref b3)])) _
      refine XS.iloadN X5.here hx rfl (hb hby at_27) rfl ?_
      show Steps p.tables e below (T5.setTop (mkF m 28 #[.val (.int p0_0), .val (.int p0_1), .val (.int (0 : Int32)), .val (.ref b3), .unset] [(.int (0 : Int32)), (.ref b3)])) _
      refine XS.iloadN X5.here hx rfl (hb hby at_28) rfl ?_
      show Steps p.tables e below (T5.setTop (mkF m 29 #[.val (.int p0_0), .val (.int p0_1), .val (.int (0 : Int32)), .val (.ref b3), .unset] [(.int p0_1), (.int (0 : Int32)), (.ref b3)])) _
      refine XS.iconst X5.here hx rfl (hb hby at_29) ?_
      show Steps p.tables e below (T5.setTop (mkF m 30 #[.val (.int p0_0), .val (.int p0_1), .val (.int (0 : Int32)), .val (.ref b3), .unset] [(.int (2 : Int32)), (.int p0_1), (.int (0 : Int32)), (.ref b3)])) _
      refine st6 _ ?_
      show Steps p.tables e below (T6.setTop (mkF m 33 #[.val (.int p0_0), .val (.int p0_1), .val (.int (0 : Int32)), .val (.ref b3), .unset] [])) _
      refine XS.aloadN X6.here hx rfl (hb hby at_33) rfl rfl ?_
      show Steps p.tables e below (T6.setTop (mkF m 34 #[.val (.int p0_0), .val (.int p0_1), .val (.int (0 : Int32)), .val (.ref b3), .unset] [(.ref b3)])) _
      refine XS.iloadN X6.here hx rfl (hb hby at_34) rfl ?_
      show Steps p.tables e below (T6.setTop (mkF m 35 #[.val (.int p0_0), .val (.int p0_1), .val (.int (0 : Int32)), .val (.ref b3), .unset] [(.int (0 : Int32)), (.ref b3)])) _
      refine XS.iloadN X6.here hx rfl (hb hby at_35) rfl ?_
      show Steps p.tables e below (T6.setTop (mkF m 36 #[.val (.int p0_0), .val (.int p0_1), .val (.int (0 : Int32)), .val (.ref b3), .unset] [(.int p0_1), (.int (0 : Int32)), (.ref b3)])) _
      refine XS.iconst X6.here hx rfl (hb hby at_36) ?_
      show Steps p.tables e below (T6.setTop (mkF m 37 #[.val (.int p0_0), .val (.int p0_1), .val (.int (0 : Int32)), .val (.ref b3), .unset] [(.int (3 : Int32)), (.int p0_1), (.int (0 : Int32)), (.ref b3)])) _
      refine st7 _ ?_
      show Steps p.tables e below (T7.setTop (mkF m 40 #[.val (.int p0_0), .val (.int p0_1), .val (.int (0 : Int32)), .val (.ref b3), .unset] [])) _
      refine XS.aloadN X7.here hx rfl (hb hby at_40) rfl rfl ?_
      show Steps p.tables e below (T7.setTop (mkF m 41 #[.val (.int p0_0), .val (.int p0_1), .val (.int (0 : Int32)), .val (.ref b3), .unset] [(.ref b3)])) _
      refine XS.iloadN X7.here hx rfl (hb hby at_41) rfl ?_
      show Steps p.tables e below (T7.setTop (mkF m 42 #[.val (.int p0_0), .val (.int p0_1), .val (.int (0 : Int32)), .val (.ref b3), .unset] [(.int (0 : Int32)), (.ref b3)])) _
      refine XS.iloadN X7.here hx rfl (hb hby at_42) rfl ?_
      show Steps p.tables e below (T7.setTop (mkF m 43 #[.val (.int p0_0), .val (.int p0_1), .val (.int (0 : Int32)), .val (.ref b3), .unset] [(.int p0_1), (.int (0 : Int32)), (.ref b3)])) _
      refine XS.iconst X7.here hx rfl (hb hby at_43) ?_
      show Steps p.tables e below (T7.setTop (mkF m 44 #[.val (.int p0_0), .val (.int p0_1), .val (.int (0 : Int32)), .val (.ref b3), .unset] [(.int (4 : Int32)), (.int p0_1), (.int (0 : Int32)), (.ref b3)])) _
      refine st8 _ ?_
      show Steps p.tables e below (T8.setTop (mkF m 47 #[.val (.int p0_0), .val (.int p0_1), .val (.int (0 : Int32)), .val (.ref b3), .unset] [])) _
      refine XS.aloadN X8.here hx rfl (hb hby at_47) rfl rfl ?_
      show Steps p.tables e below (T8.setTop (mkF m 48 #[.val (.int p0_0), .val (.int p0_1), .val (.int (0 : Int32)), .val (.ref b3), .unset] [(.ref b3)])) _
      refine XS.iloadN X8.here hx rfl (hb hby at_48) rfl ?_
      show Steps p.tables e below (T8.setTop (mkF m 49 #[.val (.int p0_0), .val (.int p0_1), .val (.int (0 : Int32)), .val (.ref b3), .unset] [(.int (0 : Int32)), (.ref b3)])) _
      refine XS.iloadN X8.here hx rfl (hb hby at_49) rfl ?_
      show Steps p.tables e below (T8.setTop (mkF m 50 #[.val (.int p0_0), .val (.int p0_1), .val (.int (0 : Int32)), .val (.ref b3), .unset] [(.int p0_1), (.int (0 : Int32)), (.ref b3)])) _
      refine XS.iconst X8.here hx rfl (hb hby at_50) ?_
      show Steps p.tables e below (T8.setTop (mkF m 51 #[.val (.int p0_0), .val (.int p0_1), .val (.int (0 : Int32)), .val (.ref b3), .unset] [(.int (5 : Int32)), (.int p0_1), (.int (0 : Int32)), (.ref b3)])) _
      refine st9 _ ?_
      show Steps p.tables e below (T9.setTop (mkF m 54 #[.val (.int p0_0), .val (.int p0_1), .val (.int (0 : Int32)), .val (.ref b3), .unset] [])) _
      refine XS.aloadN X9.here hx rfl (hb hby at_54) rfl rfl ?_
      show Steps p.tables e below (T9.setTop (mkF m 55 #[.val (.int p0_0), .val (.int p0_1), .val (.int (0 : Int32)), .val (.ref b3), .unset] [(.ref b3)])) _
      refine st10 _ ?_
      show Steps p.tables e below (T10.setTop (mkF m 58 #[.val (.int p0_0), .val (.int p0_1), .val (.int (0 : Int32)), .val (.ref b3), .unset] [(.ref b30_10)])) _
      refine XS.astore X10.here hx rfl (hb hby at_58) rfl rfl (l' := #[.val (.int p0_0), .val (.int p0_1), .val (.int (0 : Int32)), .val (.ref b3), .val (.ref b30_10)]) rfl ?_
      show Steps p.tables e below (T10.setTop (mkF m 60 #[.val (.int p0_0), .val (.int p0_1), .val (.int (0 : Int32)), .val (.ref b3), .val (.ref b30_10)] [])) _
      refine XS.aload X10.here hx rfl (hb hby at_60) rfl rfl ?_
      show Steps p.tables e below (T10.setTop (mkF m 62 #[.val (.int p0_0), .val (.int p0_1), .val (.int (0 : Int32)), .val (.ref b3), .val (.ref b30_10)] [(.ref b30_10)])) _
      refine XS.ifnullNo X10.here hx rfl (hb hby at_62) rfl ?_
      show Steps p.tables e below (T10.setTop (mkF m 65 #[.val (.int p0_0), .val (.int p0_1), .val (.int (0 : Int32)), .val (.ref b3), .val (.ref b30_10)] [])) _
      refine XS.aload X10.here hx rfl (hb hby at_65) rfl rfl ?_
      show Steps p.tables e below (T10.setTop (mkF m 67 #[.val (.int p0_0), .val (.int p0_1), .val (.int (0 : Int32)), .val (.ref b3), .val (.ref b30_10)] [(.ref b30_10)])) _
      refine X10.arraylength hx Ar13.1 (State.isArrayOf_alike hZ.alike Ar13.2.1) (g := (mkF m 67 #[.val (.int p0_0), .val (.int p0_1), .val (.int (0 : Int32)), .val (.ref b3), .val (.ref b30_10)] [(.ref b30_10)])) rfl rfl (hb hby at_67) _ ?_
      rw [len_of Sz13 Nn13]
      show Steps p.tables e below (T10.setTop (mkF m 68 #[.val (.int p0_0), .val (.int p0_1), .val (.int (0 : Int32)), .val (.ref b3), .val (.ref b30_10)] [(.int (0 : Int32))])) _
      refine XS.iloadN X10.here hx rfl (hb hby at_68) rfl ?_
      show Steps p.tables e below (T10.setTop (mkF m 69 #[.val (.int p0_0), .val (.int p0_1), .val (.int (0 : Int32)), .val (.ref b3), .val (.ref b30_10)] [(.int (0 : Int32)), (.int (0 : Int32))])) _
      refine XS.icmpYes X10.here hx rfl (pc0 := 69) (pc' := 74) rfl (hb hby at_69) rfl (teq (by decide : (0 : Int32) = (0 : Int32))).1 (by decide) (by decide) ?_
      show Steps p.tables e below (T10.setTop (mkF m 74 #[.val (.int p0_0), .val (.int p0_1), .val (.int (0 : Int32)), .val (.ref b3), .val (.ref b30_10)] [])) _
      refine XS.aload X10.here hx rfl (hb hby at_74) rfl rfl ?_
      show Steps p.tables e below (T10.setTop (mkF m 76 #[.val (.int p0_0), .val (.int p0_1), .val (.int (0 : Int32)), .val (.ref b3), .val (.ref b30_10)] [(.ref b30_10)])) _
      refine XS.iloadN X10.here hx rfl (hb hby at_76) rfl ?_
      show Steps p.tables e below (T10.setTop (mkF m 77 #[.val (.int p0_0), .val (.int p0_1), .val (.int (0 : Int32)), .val (.ref b3), .val (.ref b30_10)] [(.int (0 : Int32)), (.ref b30_10)])) _
      refine XS.iloadN X10.here hx rfl (hb hby at_77) rfl ?_
      show Steps p.tables e below (T10.setTop (mkF m 78 #[.val (.int p0_0), .val (.int p0_1), .val (.int (0 : Int32)), .val (.ref b3), .val (.ref b30_10)] [(.int p0_1), (.int (0 : Int32)), (.ref b30_10)])) _
      refine XS.iconst X10.here hx rfl (hb hby at_78) ?_
      show Steps p.tables e below (T10.setTop (mkF m 79 #[.val (.int p0_0), .val (.int p0_1), .val (.int (0 : Int32)), .val (.ref b3), .val (.ref b30_10)] [(.int (0 : Int32)), (.int p0_1), (.int (0 : Int32)), (.ref b30_10)])) _
      refine st14 _ ?_
      show Steps p.tables e below (T14.setTop (mkF m 82 #[.val (.int p0_0), .val (.int p0_1), .val (.int (0 : Int32)), .val (.ref b3), .val (.ref b30_10)] [(.int (1 : Int32))])) _
      refine XS.ifNo X14.here hx rfl (hb hby at_82) rfl ((if0 _ _).trans (feq (by decide : ¬ ((1 : Int32) = (0 : Int32)))).1) ?_
      show Steps p.tables e below (T14.setTop (mkF m 85 #[.val (.int p0_0), .val (.int p0_1), .val (.int (0 : Int32)), .val (.ref b3), .val (.ref b30_10)] [])) _
      refine XS.aload X14.here hx rfl (hb hby at_85) rfl rfl ?_
      show Steps p.tables e below (T14.setTop (mkF m 87 #[.val (.int p0_0), .val (.int p0_1), .val (.int (0 : Int32)), .val (.ref b3), .val (.ref b30_10)] [(.ref b30_10)])) _
      refine XS.iloadN X14.here hx rfl (hb hby at_87) rfl ?_
      show Steps p.tables e below (T14.setTop (mkF m 88 #[.val (.int p0_0), .val (.int p0_1), .val (.int (0 : Int32)), .val (.ref b3), .val (.ref b30_10)] [(.int (0 : Int32)), (.ref b30_10)])) _
      refine XS.iloadN X14.here hx rfl (hb hby at_88) rfl ?_
      show Steps p.tables e below (T14.setTop (mkF m 89 #[.val (.int p0_0), .val (.int p0_1), .val (.int (0 : Int32)), .val (.ref b3), .val (.ref b30_10)] [(.int p0_1), (.int (0 : Int32)), (.ref b30_10)])) _
      refine XS.iconst X14.here hx rfl (hb hby at_89) ?_
      show Steps p.tables e below (T14.setTop (mkF m 90 #[.val (.int p0_0), .val (.int p0_1), .val (.int (0 : Int32)), .val (.ref b3), .val (.ref b30_10)] [(.int (1 : Int32)), (.int p0_1), (.int (0 : Int32)), (.ref b30_10)])) _
      refine st15 _ ?_
      show Steps p.tables e below (T15.setTop (mkF m 93 #[.val (.int p0_0), .val (.int p0_1), .val (.int (0 : Int32)), .val (.ref b3), .val (.ref b30_10)] [(.int (1 : Int32))])) _
      refine XS.ifNo X15.here hx rfl (hb hby at_93) rfl ((if0 _ _).trans (feq (by decide : ¬ ((1 : Int32) = (0 : Int32)))).1) ?_
      show Steps p.tables e below (T15.setTop (mkF m 96 #[.val (.int p0_0), .val (.int p0_1), .val (.int (0 : Int32)), .val (.ref b3), .val (.ref b30_10)] [])) _
      refine XS.aload X15.here hx rfl (hb hby at_96) rfl rfl ?_
      show Steps p.tables e below (T15.setTop (mkF m 98 #[.val (.int p0_0), .val (.int p0_1), .val (.int (0 : Int32)), .val (.ref b3), .val (.ref b30_10)] [(.ref b30_10)])) _
      refine XS.iloadN X15.here hx rfl (hb hby at_98) rfl ?_
      show Steps p.tables e below (T15.setTop (mkF m 99 #[.val (.int p0_0), .val (.int p0_1), .val (.int (0 : Int32)), .val (.ref b3), .val (.ref b30_10)] [(.int (0 : Int32)), (.ref b30_10)])) _
      refine XS.iloadN X15.here hx rfl (hb hby at_99) rfl ?_
      show Steps p.tables e below (T15.setTop (mkF m 100 #[.val (.int p0_0), .val (.int p0_1), .val (.int (0 : Int32)), .val (.ref b3), .val (.ref b30_10)] [(.int p0_1), (.int (0 : Int32)), (.ref b30_10)])) _
      refine XS.iconst X15.here hx rfl (hb hby at_100) ?_
      show Steps p.tables e below (T15.setTop (mkF m 101 #[.val (.int p0_0), .val (.int p0_1), .val (.int (0 : Int32)), .val (.ref b3), .val (.ref b30_10)] [(.int (2 : Int32)), (.int p0_1), (.int (0 : Int32)), (.ref b30_10)])) _
      refine st16 _ ?_
      show Steps p.tables e below (T16.setTop (mkF m 104 #[.val (.int p0_0), .val (.int p0_1), .val (.int (0 : Int32)), .val (.ref b3), .val (.ref b30_10)] [(.int (1 : Int32))])) _
      refine XS.ifNo X16.here hx rfl (hb hby at_104) rfl ((if0 _ _).trans (feq (by decide : ¬ ((1 : Int32) = (0 : Int32)))).1) ?_
      show Steps p.tables e below (T16.setTop (mkF m 107 #[.val (.int p0_0), .val (.int p0_1), .val (.int (0 : Int32)), .val (.ref b3), .val (.ref b30_10)] [])) _
      refine XS.aload X16.here hx rfl (hb hby at_107) rfl rfl ?_
      show Steps p.tables e below (T16.setTop (mkF m 109 #[.val (.int p0_0), .val (.int p0_1), .val (.int (0 : Int32)), .val (.ref b3), .val (.ref b30_10)] [(.ref b30_10)])) _
      refine XS.iloadN X16.here hx rfl (hb hby at_109) rfl ?_
      show Steps p.tables e below (T16.setTop (mkF m 110 #[.val (.int p0_0), .val (.int p0_1), .val (.int (0 : Int32)), .val (.ref b3), .val (.ref b30_10)] [(.int (0 : Int32)), (.ref b30_10)])) _
      refine XS.iloadN X16.here hx rfl (hb hby at_110) rfl ?_
      show Steps p.tables e below (T16.setTop (mkF m 111 #[.val (.int p0_0), .val (.int p0_1), .val (.int (0 : Int32)), .val (.ref b3), .val (.ref b30_10)] [(.int p0_1), (.int (0 : Int32)), (.ref b30_10)])) _
      refine XS.iconst X16.here hx rfl (hb hby at_111) ?_
      show Steps p.tables e below (T16.setTop (mkF m 112 #[.val (.int p0_0), .val (.int p0_1), .val (.int (0 : Int32)), .val (.ref b3), .val (.ref b30_10)] [(.int (3 : Int32)), (.int p0_1), (.int (0 : Int32)), (.ref b30_10)])) _
      refine st17 _ ?_
      show Steps p.tables e below (T17.setTop (mkF m 115 #[.val (.int p0_0), .val (.int p0_1), .val (.int (0 : Int32)), .val (.ref b3), .val (.ref b30_10)] [(.int (1 : Int32))])) _
      refine XS.ifNo X17.here hx rfl (hb hby at_115) rfl ((if0 _ _).trans (feq (by decide : ¬ ((1 : Int32) = (0 : Int32)))).1) ?_
      show Steps p.tables e below (T17.setTop (mkF m 118 #[.val (.int p0_0), .val (.int p0_1), .val (.int (0 : Int32)), .val (.ref b3), .val (.ref b30_10)] [])) _
      refine XS.aload X17.here hx rfl (hb hby at_118) rfl rfl ?_
      show Steps p.tables e below (T17.setTop (mkF m 120 #[.val (.int p0_0), .val (.int p0_1), .val (.int (0 : Int32)), .val (.ref b3), .val (.ref b30_10)] [(.ref b30_10)])) _
      refine XS.iloadN X17.here hx rfl (hb hby at_120) rfl ?_
      show Steps p.tables e below (T17.setTop (mkF m 121 #[.val (.int p0_0), .val (.int p0_1), .val (.int (0 : Int32)), .val (.ref b3), .val (.ref b30_10)] [(.int (0 : Int32)), (.ref b30_10)])) _
      refine XS.iloadN X17.here hx rfl (hb hby at_121) rfl ?_
      show Steps p.tables e below (T17.setTop (mkF m 122 #[.val (.int p0_0), .val (.int p0_1), .val (.int (0 : Int32)), .val (.ref b3), .val (.ref b30_10)] [(.int p0_1), (.int (0 : Int32)), (.ref b30_10)])) _
      refine XS.iconst X17.here hx rfl (hb hby at_122) ?_
      show Steps p.tables e below (T17.setTop (mkF m 123 #[.val (.int p0_0), .val (.int p0_1), .val (.int (0 : Int32)), .val (.ref b3), .val (.ref b30_10)] [(.int (4 : Int32)), (.int p0_1), (.int (0 : Int32)), (.ref b30_10)])) _
      refine st18 _ ?_
      show Steps p.tables e below (T18.setTop (mkF m 126 #[.val (.int p0_0), .val (.int p0_1), .val (.int (0 : Int32)), .val (.ref b3), .val (.ref b30_10)] [(.int (1 : Int32))])) _
      refine XS.ifNo X18.here hx rfl (hb hby at_126) rfl ((if0 _ _).trans (feq (by decide : ¬ ((1 : Int32) = (0 : Int32)))).1) ?_
      show Steps p.tables e below (T18.setTop (mkF m 129 #[.val (.int p0_0), .val (.int p0_1), .val (.int (0 : Int32)), .val (.ref b3), .val (.ref b30_10)] [])) _
      refine XS.aload X18.here hx rfl (hb hby at_129) rfl rfl ?_
      show Steps p.tables e below (T18.setTop (mkF m 131 #[.val (.int p0_0), .val (.int p0_1), .val (.int (0 : Int32)), .val (.ref b3), .val (.ref b30_10)] [(.ref b30_10)])) _
      refine XS.iloadN X18.here hx rfl (hb hby at_131) rfl ?_
      show Steps p.tables e below (T18.setTop (mkF m 132 #[.val (.int p0_0), .val (.int p0_1), .val (.int (0 : Int32)), .val (.ref b3), .val (.ref b30_10)] [(.int (0 : Int32)), (.ref b30_10)])) _
      refine XS.iloadN X18.here hx rfl (hb hby at_132) rfl ?_
      show Steps p.tables e below (T18.setTop (mkF m 133 #[.val (.int p0_0), .val (.int p0_1), .val (.int (0 : Int32)), .val (.ref b3), .val (.ref b30_10)] [(.int p0_1), (.int (0 : Int32)), (.ref b30_10)])) _
      refine XS.iconst X18.here hx rfl (hb hby at_133) ?_
      show Steps p.tables e below (T18.setTop (mkF m 134 #[.val (.int p0_0), .val (.int p0_1), .val (.int (0 : Int32)), .val (.ref b3), .val (.ref b30_10)] [(.int (5 : Int32)), (.int p0_1), (.int (0 : Int32)), (.ref b30_10)])) _
      refine st19 _ ?_
      show Steps p.tables e below (T19.setTop (mkF m 137 #[.val (.int p0_0), .val (.int p0_1), .val (.int (0 : Int32)), .val (.ref b3), .val (.ref b30_10)] [(.int (1 : Int32))])) _
      refine XS.ifNo X19.here hx rfl (hb hby at_137) rfl ((if0 _ _).trans (feq (by decide : ¬ ((1 : Int32) = (0 : Int32)))).1) ?_
      show Steps p.tables e below (T19.setTop (mkF m 140 #[.val (.int p0_0), .val (.int p0_1), .val (.int (0 : Int32)), .val (.ref b3), .val (.ref b30_10)] [])) _
      refine XS.iconst X19.here hx rfl (hb hby at_140) ?_
      show Steps p.tables e below (T19.setTop (mkF m 141 #[.val (.int p0_0), .val (.int p0_1), .val (.int (0 : Int32)), .val (.ref b3), .val (.ref b30_10)] [(.int (1 : Int32))])) _
      refine XS.goto X19.here hx rfl (pc0 := 141) (pc' := 145) rfl (hb hby at_141) (by decide) (by decide) ?_
      exact k
    obtain ⟨fs, hr, hrun, hended, hW, hsame⟩ := X19.leave (v := some (.int (1 : Int32))) (fun h => by rw [Bd.returns] at h; cases h)
    refine ⟨_, _, k20 _ ?_, hrun, hended, _, _, rfl, ?_, ⟨_, rfl⟩, hW, hsame.mono (by decide) (by decide)⟩
    · exact retN X19 hx (t := .boolean) Bd.returns (by simp) (hb hby at_145) hr
    · show Q0 Z p0_0 p0_1 h0 n0 _ T19.heap _
      rw [eh19]
      exact ⟨rfl, N19⟩
  · skip
    obtain ⟨b21, g21⟩ : ∃ z, z = h0.size := ⟨_, rfl⟩
    obtain ⟨T21, h21, k21, X21, e21, E21, A21, st21⟩ := newP X0 hx hZ (hw _ (List.mem_of_getElem? (i := 1) rfl)) e0 (g := (mkF m 9 #[.val (.int p0_0), .val (.int p0_1), .val (.int (1 : Int32)), .unset, .unset] [(.int (1 : Int32))])) rfl (hb hby at_9) rfl (by decide) (cap := 1) (by decide) (by decide) (by decide) (by decide)
    rw [← g21] at A21 st21
    have gg21 : n0 ≤ b21 := Nat.le_trans Z0 (Nat.le_of_eq g21.symm)
    have Zs21 : n0 ≤ h21.size := Nat.le_trans Z0 E21.1
    have V21 : Arv Z h21 b21 k21 .boolean (1 : Int32) [(.int (0 : Int32)), (.int (0 : Int32)), (.int (0 : Int32)), (.int (0 : Int32)), (.int (0 : Int32)), (.int (0 : Int32))] (.int (0 : Int32)) := (Arv.new A21 (by decide)).pad (pad_rep [] (.int (0 : Int32)) 6)
    obtain ⟨_, _, ⟨T22, L22, k22, n22⟩, -, X22, ⟨Lc22, hQ22, l22, y22, z22⟩, st22⟩ := Jvm.LawKit.callS X21 hx (y := (⟨"com/example/leanweave/leanweave/NetworkNumberingPinLaw", "set", "([ZIII)V"⟩ : MethodName)) hown (mvT hZ (hw _ (List.mem_of_getElem? (i := 2) rfl))) (mvT hZ (hw _ (List.mem_of_getElem? (i := 3) rfl))) (mvT hZ (hw _ (List.mem_of_getElem? (i := 4) rfl))) (mvT hZ (hw _ (List.mem_of_getElem? (i := 5) rfl))) (by decide) (backOf (W := 0) (rm20 l Z a0 hw [] b21 (1 : Int32) p0_1 k21 (1 : Int32) (.int (0 : Int32)) (.int (0 : Int32)) (.int (0 : Int32)) (.int (0 : Int32)) (.int (0 : Int32)) (.int (0 : Int32)) h21 n0 Zs21 V21 (by decide : (0 : Int32) < (1 : Int32)) (by decide : (0 : Int32) < (1 : Int32)) gg21) hZ (hw _ (List.mem_of_getElem? (i := 5) rfl)) (hw _ (List.mem_of_getElem? (i := 4) rfl)) (by decide) (by decide)) (g := (mkF m 16 #[.val (.int p0_0), .val (.int p0_1), .val (.int (1 : Int32)), .val (.ref b21), .unset] [(.int (0 : Int32)), (.int p0_1), (.int (1 : Int32)), (.ref b21)])) rfl (by rw [hml]; rfl) (argsL := [(.ref b21), (.int (1 : Int32)), (.int p0_1), (.int (0 : Int32))]) (rest := []) (lenOf pd_1 rfl) rfl (by show 2 * 0 + _ ≤ _; exact Nat.le_of_eq rfl) (hb hby at_16) (fun _ _ => ⟨rfl, e21, (by decide : 1 + 0 ≤ _), (by decide : 1 + 0 ≤ _)⟩)
    dsimp only [Pt.U, Pt.locs, Pt.cells, Pt.slots] at X22 l22 y22 z22 st22 hQ22
    subst l22 y22 z22
    obtain ⟨rfl, N22q, Kc22, G22_0⟩ := hQ22
    have Zs22 : n0 ≤ T22.heap.size := Nat.le_trans Zs21 Kc22.1
    have N22 := Fr.app N0 N22q
    obtain ⟨_, _, ⟨T23, L23, k23, n23⟩, -, X23, ⟨Lc23, hQ23, l23, y23, z23⟩, st23⟩ := Jvm.LawKit.callS X22 hx (y := (⟨"com/example/leanweave/leanweave/NetworkNumberingPinLaw", "set", "([ZIII)V"⟩ : MethodName)) hown (mvT hZ (hw _ (List.mem_of_getElem? (i := 2) rfl))) (mvT hZ (hw _ (List.mem_of_getElem? (i := 3) rfl))) (mvT hZ (hw _ (List.mem_of_getElem? (i := 4) rfl))) (mvT hZ (hw _ (List.mem_of_getElem? (i := 5) rfl))) (by decide) (backOf (W := 0) (rm1 l Z a0 hw [] b21 (1 : Int32) p0_1 (1 : Int32) T22.heap n0 Zs22 (by decide : ¬ ((1 : Int32) < (1 : Int32)))) hZ (hw _ (List.mem_of_getElem? (i := 5) rfl)) (hw _ (List.mem_of_getElem? (i := 4) rfl)) (by decide) (by decide)) (g := (mkF m 23 #[.val (.int p0_0), .val (.int p0_1), .val (.int (1 : Int32)), .val (.ref b21), .unset] [(.int (1 : Int32)), (.int p0_1), (.int (1 : Int32)), (.ref b21)])) rfl (by rw [hml]; rfl) (argsL := [(.ref b21), (.int (1 : Int32)), (.int p0_1), (.int (1 : Int32))]) (rest := []) (lenOf pd_1 rfl) rfl (by show 2 * 0 + _ ≤ _; exact Nat.le_of_eq rfl) (hb hby at_23) (fun _ _ => ⟨rfl, rfl, (by decide : 1 + 0 ≤ _), (by decide : 1 + 0 ≤ _)⟩)
    dsimp only [Pt.U, Pt.locs, Pt.cells, Pt.slots] at X23 l23 y23 z23 st23 hQ23
    subst l23 y23 z23
    obtain ⟨rfl, N23q, eh23⟩ := hQ23
    have N23 := Fr.app N22 N23q
    obtain ⟨_, _, ⟨T24, L24, k24, n24⟩, -, X24, ⟨Lc24, hQ24, l24, y24, z24⟩, st24⟩ := Jvm.LawKit.callS X23 hx (y := (⟨"com/example/leanweave/leanweave/NetworkNumberingPinLaw", "set", "([ZIII)V"⟩ : MethodName)) hown (mvT hZ (hw _ (List.mem_of_getElem? (i := 2) rfl))) (mvT hZ (hw _ (List.mem_of_getElem? (i := 3) rfl))) (mvT hZ (hw _ (List.mem_of_getElem? (i := 4) rfl))) (mvT hZ (hw _ (List.mem_of_getElem? (i := 5) rfl))) (by decide) (backOf (W := 0) (rm1 l Z a0 hw [] b21 (1 : Int32) p0_1 (2 : Int32) T22.heap n0 Zs22 (by decide : ¬ ((2 : Int32) < (1 : Int32)))) hZ (hw _ (List.mem_of_getElem? (i := 5) rfl)) (hw _ (List.mem_of_getElem? (i := 4) rfl)) (by decide) (by decide)) (g := (mkF m 30 #[.val (.int p0_0), .val (.int p0_1), .val (.int (1 : Int32)), .val (.ref b21), .unset] [(.int (2 : Int32)), (.int p0_1), (.int (1 : Int32)), (.ref b21)])) rfl (by rw [hml]; rfl) (argsL := [(.ref b21), (.int (1 : Int32)), (.int p0_1), (.int (2 : Int32))]) (rest := []) (lenOf pd_1 rfl) rfl (by show 2 * 0 + _ ≤ _; exact Nat.le_of_eq rfl) (hb hby at_30) (fun _ _ => ⟨rfl, eh23, (by decide : 1 + 0 ≤ _), (by decide : 1 + 0 ≤ _)⟩)
    dsimp only [Pt.U, Pt.locs, Pt.cells, Pt.slots] at X24 l24 y24 z24 st24 hQ24
    subst l24 y24 z24
    obtain ⟨rfl, N24q, eh24⟩ := hQ24
    have N24 := Fr.app N23 N24q
    obtain ⟨_, _, ⟨T25, L25, k25, n25⟩, -, X25, ⟨Lc25, hQ25, l25, y25, z25⟩, st25⟩ := Jvm.LawKit.callS X24 hx (y := (⟨"com/example/leanweave/leanweave/NetworkNumberingPinLaw", "set", "([ZIII)V"⟩ : MethodName)) hown (mvT hZ (hw _ (List.mem_of_getElem? (i := 2) rfl))) (mvT hZ (hw _ (List.mem_of_getElem? (i := 3) rfl))) (mvT hZ (hw _ (List.mem_of_getElem? (i := 4) rfl))) (mvT hZ (hw _ (List.mem_of_getElem? (i := 5) rfl))) (by decide) (backOf (W := 0) (rm1 l Z a0 hw [] b21 (1 : Int32) p0_1 (3 : Int32) T22.heap n0 Zs22 (by decide : ¬ ((3 : Int32) < (1 : Int32)))) hZ (hw _ (List.mem_of_getElem? (i := 5) rfl)) (hw _ (List.mem_of_getElem? (i := 4) rfl)) (by decide) (by decide)) (g := (mkF m 37 #[.val (.int p0_0), .val (.int p0_1), .val (.int (1 : Int32)), .val (.ref b21), .unset] [(.int (3 : Int32)), (.int p0_1), (.int (1 : Int32)), (.ref b21)])) rfl (by rw [hml]; rfl) (argsL := [(.ref b21), (.int (1 : Int32)), (.int p0_1), (.int (3 : Int32))]) (rest := []) (lenOf pd_1 rfl) rfl (by show 2 * 0 + _ ≤ _; exact Nat.le_of_eq rfl) (hb hby at_37) (fun _ _ => ⟨rfl, eh24, (by decide : 1 + 0 ≤ _), (by decide : 1 + 0 ≤ _)⟩)
    dsimp only [Pt.U, Pt.locs, Pt.cells, Pt.slots] at X25 l25 y25 z25 st25 hQ25
    subst l25 y25 z25
    obtain ⟨rfl, N25q, eh25⟩ := hQ25
    have N25 := Fr.app N24 N25q
    obtain ⟨_, _, ⟨T26, L26, k26, n26⟩, -, X26, ⟨Lc26, hQ26, l26, y26, z26⟩, st26⟩ := Jvm.LawKit.callS X25 hx (y := (⟨"com/example/leanweave/leanweave/NetworkNumberingPinLaw", "set", "([ZIII)V"⟩ : MethodName)) hown (mvT hZ (hw _ (List.mem_of_getElem? (i := 2) rfl))) (mvT hZ (hw _ (List.mem_of_getElem? (i := 3) rfl))) (mvT hZ (hw _ (List.mem_of_getElem? (i := 4) rfl))) (mvT hZ (hw _ (List.mem_of_getElem? (i := 5) rfl))) (by decide) (backOf (W := 0) (rm1 l Z a0 hw [] b21 (1 : Int32) p0_1 (4 : Int32) T22.heap n0 Zs22 (by decide : ¬ ((4 : Int32) < (1 : Int32)))) hZ (hw _ (List.mem_of_getElem? (i := 5) rfl)) (hw _ (List.mem_of_getElem? (i := 4) rfl)) (by decide) (by decide)) (g := (mkF m 44 #[.val (.int p0_0), .val (.int p0_1), .val (.int (1 : Int32)), .val (.ref b21), .unset] [(.int (4 : Int32)), (.int p0_1), (.int (1 : Int32)), (.ref b21)])) rfl (by rw [hml]; rfl) (argsL := [(.ref b21), (.int (1 : Int32)), (.int p0_1), (.int (4 : Int32))]) (rest := []) (lenOf pd_1 rfl) rfl (by show 2 * 0 + _ ≤ _; exact Nat.le_of_eq rfl) (hb hby at_44) (fun _ _ => ⟨rfl, eh25, (by decide : 1 + 0 ≤ _), (by decide : 1 + 0 ≤ _)⟩)
    dsimp only [Pt.U, Pt.locs, Pt.cells, Pt.slots] at X26 l26 y26 z26 st26 hQ26
    subst l26 y26 z26
    obtain ⟨rfl, N26q, eh26⟩ := hQ26
    have N26 := Fr.app N25 N26q
    obtain ⟨_, _, ⟨T27, L27, k27, n27⟩, -, X27, ⟨Lc27, hQ27, l27, y27, z27⟩, st27⟩ := Jvm.LawKit.callS X26 hx (y := (⟨"com/example/leanweave/leanweave/NetworkNumberingPinLaw", "set", "([ZIII)V"⟩ : MethodName)) hown (mvT hZ (hw _ (List.mem_of_getElem? (i := 2) rfl))) (mvT hZ (hw _ (List.mem_of_getElem? (i := 3) rfl))) (mvT hZ (hw _ (List.mem_of_getElem? (i := 4) rfl))) (mvT hZ (hw _ (List.mem_of_getElem? (i := 5) rfl))) (by decide) (backOf (W := 0) (rm1 l Z a0 hw [] b21 (1 : Int32) p0_1 (5 : Int32) T22.heap n0 Zs22 (by decide : ¬ ((5 : Int32) < (1 : Int32)))) hZ (hw _ (List.mem_of_getElem? (i := 5) rfl)) (hw _ (List.mem_of_getElem? (i := 4) rfl)) (by decide) (by decide)) (g := (mkF m 51 #[.val (.int p0_0), .val (.int p0_1), .val (.int (1 : Int32)), .val (.ref b21), .unset] [(.int (5 : Int32)), (.int p0_1), (.int (1 : Int32)), (.ref b21)])) rfl (by rw [hml]; rfl) (argsL := [(.ref b21), (.int (1 : Int32)), (.int p0_1), (.int (5 : Int32))]) (rest := []) (lenOf pd_1 rfl) rfl (by show 2 * 0 + _ ≤ _; exact Nat.le_of_eq rfl) (hb hby at_51) (fun _ _ => ⟨rfl, eh26, (by decide : 1 + 0 ≤ _), (by decide : 1 + 0 ≤ _)⟩)
    dsimp only [Pt.U, Pt.locs, Pt.cells, Pt.slots] at X27 l27 y27 z27 st27 hQ27
    subst l27 y27 z27
    obtain ⟨rfl, N27q, eh27⟩ := hQ27
    have N27 := Fr.app N26 N27q
    obtain ⟨_, _, ⟨T28, L28, k28, n28⟩, -, X28, ⟨Lc28, hQ28, l28, y28, z28⟩, st28⟩ := Jvm.LawKit.callS X27 hx (y := (⟨"com/example/leanweave/leanweave/Network", "numbering", "([Z)[I"⟩ : MethodName)) hown (mvT hZ (hw _ (List.mem_of_getElem? (i := 6) rfl))) (mvT hZ (hw _ (List.mem_of_getElem? (i := 7) rfl))) (mvT hZ (hw _ (List.mem_of_getElem? (i := 8) rfl))) (mvT hZ (hw _ (List.mem_of_getElem? (i := 9) rfl))) (by decide) (backOf (W := 0) (rm31 l Z a0 hw [] b21 k21 (own_bit p0_1 (0 : Int32)) (0 : Int32) (0 : Int32) (0 : Int32) (0 : Int32) (0 : Int32) T22.heap n0 Zs22 G22_0) hZ (hw _ (List.mem_of_getElem? (i := 9) rfl)) (hw _ (List.mem_of_getElem? (i := 8) rfl)) (by decide) (by decide)) (g := (mkF m 55 #[.val (.int p0_0), .val (.int p0_1), .val (.int (1 : Int32)), .val (.ref b21), .unset] [(.ref b21)])) rfl (by rw [hml]; rfl) (argsL := [(.ref b21)]) (rest := []) (lenOf pd_2 rfl) rfl (by show 2 * 0 + _ ≤ _; exact Nat.le_of_eq rfl) (hb hby at_55) (fun _ _ => ⟨rfl, eh27, (by decide : 1 + 1 ≤ _), (by decide : 1 + 1 ≤ _)⟩)
    dsimp only [Pt.U, Pt.locs, Pt.cells, Pt.slots] at X28 l28 y28 z28 st28 hQ28
    subst l28 y28 z28
    obtain ⟨b31_28, kn31_28, rfl, N28q, Kc28, ggb31_28, szb31_28, G28_0⟩ := hQ28
    have ne29 : b21 ≠ b31_28 := Nat.ne_of_lt (Nat.lt_of_lt_of_le G22_0.lt szb31_28)
    have Zs28 : n0 ≤ T28.heap.size := Nat.le_trans Zs22 Kc28.1
    have F30 : Arv Z T28.heap b21 k21 .boolean (1 : Int32) [(.int (own_bit p0_1 (0 : Int32))), (.int (0 : Int32)), (.int (0 : Int32)), (.int (0 : Int32)), (.int (0 : Int32)), (.int (0 : Int32))] (.int (0 : Int32)) := G22_0.keep Kc28 nin0
    have N28 := Fr.app N27 N28q
    obtain ⟨cl31, Ar31, qc31, Sz31, Nn31, Hh31, Gg31⟩ := (id G28_0)
    obtain ⟨_, _, ⟨T32, L32, k32, n32⟩, -, X32, ⟨Lc32, hQ32, l32, y32, z32⟩, st32⟩ := Jvm.LawKit.callS X28 hx (y := (⟨"com/example/leanweave/leanweave/NetworkNumberingPinLaw", "ok", "([IIII)Z"⟩ : MethodName)) hown (mvT hZ (hw _ (List.mem_of_getElem? (i := 11) rfl))) (mvT hZ (hw _ (List.mem_of_getElem? (i := 12) rfl))) (mvT hZ (hw _ (List.mem_of_getElem? (i := 4) rfl))) (mvT hZ (hw _ (List.mem_of_getElem? (i := 13) rfl))) (by decide) (backOf (W := 0) (rm60 l Z a0 hw [] b31_28 (1 : Int32) p0_1 kn31_28 (1 : Int32) (own_e (own_bit p0_1 (0 : Int32)) (0 : Int32)) (0 : Int32) (0 : Int32) (0 : Int32) (0 : Int32) (0 : Int32) T28.heap n0 Zs28 G28_0 (by decide : (0 : Int32) < (1 : Int32)) (by decide : (0 : Int32) < (1 : Int32))) hZ (hw _ (List.mem_of_getElem? (i := 13) rfl)) (hw _ (List.mem_of_getElem? (i := 4) rfl)) (by decide) (by decide)) (g := (mkF m 79 #[.val (.int p0_0), .val (.int p0_1), .val (.int (1 : Int32)), .val (.ref b21), .val (.ref b31_28)] [(.int (0 : Int32)), (.int p0_1), (.int (1 : Int32)), (.ref b31_28)])) rfl (by rw [hml]; rfl) (argsL := [(.ref b31_28), (.int (1 : Int32)), (.int p0_1), (.int (0 : Int32))]) (rest := []) (lenOf pd_3 rfl) rfl (by show 2 * 0 + _ ≤ _; exact Nat.le_of_eq rfl) (hb hby at_79) (fun _ _ => ⟨rfl, rfl, (by decide : 2 + 0 ≤ _), (by decide : 2 + 0 ≤ _)⟩)
    dsimp only [Pt.U, Pt.locs, Pt.cells, Pt.slots] at X32 l32 y32 z32 st32 hQ32
    subst l32 y32 z32
    obtain ⟨rfl, N32q, eh32⟩ := hQ32
    have N32 := Fr.app N28 N32q
    obtain ⟨_, _, ⟨T33, L33, k33, n33⟩, -, X33, ⟨Lc33, hQ33, l33, y33, z33⟩, st33⟩ := Jvm.LawKit.callS X32 hx (y := (⟨"com/example/leanweave/leanweave/NetworkNumberingPinLaw", "ok", "([IIII)Z"⟩ : MethodName)) hown (mvT hZ (hw _ (List.mem_of_getElem? (i := 11) rfl))) (mvT hZ (hw _ (List.mem_of_getElem? (i := 12) rfl))) (mvT hZ (hw _ (List.mem_of_getElem? (i := 4) rfl))) (mvT hZ (hw _ (List.mem_of_getElem? (i := 13) rfl))) (by decide) (backOf (W := 0) (rm5 l Z a0 hw [] b31_28 (1 : Int32) p0_1 (1 : Int32) T28.heap n0 Zs28 (by decide : ¬ ((1 : Int32) < (1 : Int32)))) hZ (hw _ (List.mem_of_getElem? (i := 13) rfl)) (hw _ (List.mem_of_getElem? (i := 4) rfl)) (by decide) (by decide)) (g := (mkF m 90 #[.val (.int p0_0), .val (.int p0_1), .val (.int (1 : Int32)), .val (.ref b21), .val (.ref b31_28)] [(.int (1 : Int32)), (.int p0_1), (.int (1 : Int32)), (.ref b31_28)])) rfl (by rw [hml]; rfl) (argsL := [(.ref b31_28), (.int (1 : Int32)), (.int p0_1), (.int (1 : Int32))]) (rest := []) (lenOf pd_3 rfl) rfl (by show 2 * 0 + _ ≤ _; exact Nat.le_of_eq rfl) (hb hby at_90) (fun _ _ => ⟨rfl, eh32, (by decide : 2 + 0 ≤ _), (by decide : 2 + 0 ≤ _)⟩)
    dsimp only [Pt.U, Pt.locs, Pt.cells, Pt.slots] at X33 l33 y33 z33 st33 hQ33
    subst l33 y33 z33
    obtain ⟨rfl, N33q, eh33⟩ := hQ33
    have N33 := Fr.app N32 N33q
    obtain ⟨_, _, ⟨T34, L34, k34, n34⟩, -, X34, ⟨Lc34, hQ34, l34, y34, z34⟩, st34⟩ := Jvm.LawKit.callS X33 hx (y := (⟨"com/example/leanweave/leanweave/NetworkNumberingPinLaw", "ok", "([IIII)Z"⟩ : MethodName)) hown (mvT hZ (hw _ (List.mem_of_getElem? (i := 11) rfl))) (mvT hZ (hw _ (List.mem_of_getElem? (i := 12) rfl))) (mvT hZ (hw _ (List.mem_of_getElem? (i := 4) rfl))) (mvT hZ (hw _ (List.mem_of_getElem? (i := 13) rfl))) (by decide) (backOf (W := 0) (rm5 l Z a0 hw [] b31_28 (1 : Int32) p0_1 (2 : Int32) T28.heap n0 Zs28 (by decide : ¬ ((2 : Int32) < (1 : Int32)))) hZ (hw _ (List.mem_of_getElem? (i := 13) rfl)) (hw _ (List.mem_of_getElem? (i := 4) rfl)) (by decide) (by decide)) (g := (mkF m 101 #[.val (.int p0_0), .val (.int p0_1), .val (.int (1 : Int32)), .val (.ref b21), .val (.ref b31_28)] [(.int (2 : Int32)), (.int p0_1), (.int (1 : Int32)), (.ref b31_28)])) rfl (by rw [hml]; rfl) (argsL := [(.ref b31_28), (.int (1 : Int32)), (.int p0_1), (.int (2 : Int32))]) (rest := []) (lenOf pd_3 rfl) rfl (by show 2 * 0 + _ ≤ _; exact Nat.le_of_eq rfl) (hb hby at_101) (fun _ _ => ⟨rfl, eh33, (by decide : 2 + 0 ≤ _), (by decide : 2 + 0 ≤ _)⟩)
    dsimp only [Pt.U, Pt.locs, Pt.cells, Pt.slots] at X34 l34 y34 z34 st34 hQ34
    subst l34 y34 z34
    obtain ⟨rfl, N34q, eh34⟩ := hQ34
    have N34 := Fr.app N33 N34q
    obtain ⟨_, _, ⟨T35, L35, k35, n35⟩, -, X35, ⟨Lc35, hQ35, l35, y35, z35⟩, st35⟩ := Jvm.LawKit.callS X34 hx (y := (⟨"com/example/leanweave/leanweave/NetworkNumberingPinLaw", "ok", "([IIII)Z"⟩ : MethodName)) hown (mvT hZ (hw _ (List.mem_of_getElem? (i := 11) rfl))) (mvT hZ (hw _ (List.mem_of_getElem? (i := 12) rfl))) (mvT hZ (hw _ (List.mem_of_getElem? (i := 4) rfl))) (mvT hZ (hw _ (List.mem_of_getElem? (i := 13) rfl))) (by decide) (backOf (W := 0) (rm5 l Z a0 hw [] b31_28 (1 : Int32) p0_1 (3 : Int32) T28.heap n0 Zs28 (by decide : ¬ ((3 : Int32) < (1 : Int32)))) hZ (hw _ (List.mem_of_getElem? (i := 13) rfl)) (hw _ (List.mem_of_getElem? (i := 4) rfl)) (by decide) (by decide)) (g := (mkF m 112 #[.val (.int p0_0), .val (.int p0_1), .val (.int (1 : Int32)), .val (.ref b21), .val (.ref b31_28)] [(.int (3 : Int32)), (.int p0_1), (.int (1 : Int32)), (.ref b31_28)])) rfl (by rw [hml]; rfl) (argsL := [(.ref b31_28), (.int (1 : Int32)), (.int p0_1), (.int (3 : Int32))]) (rest := []) (lenOf pd_3 rfl) rfl (by show 2 * 0 + _ ≤ _; exact Nat.le_of_eq rfl) (hb hby at_112) (fun _ _ => ⟨rfl, eh34, (by decide : 2 + 0 ≤ _), (by decide : 2 + 0 ≤ _)⟩)
    dsimp only [Pt.U, Pt.locs, Pt.cells, Pt.slots] at X35 l35 y35 z35 st35 hQ35
    subst l35 y35 z35
    obtain ⟨rfl, N35q, eh35⟩ := hQ35
    have N35 := Fr.app N34 N35q
    obtain ⟨_, _, ⟨T36, L36, k36, n36⟩, -, X36, ⟨Lc36, hQ36, l36, y36, z36⟩, st36⟩ := Jvm.LawKit.callS X35 hx (y := (⟨"com/example/leanweave/leanweave/NetworkNumberingPinLaw", "ok", "([IIII)Z"⟩ : MethodName)) hown (mvT hZ (hw _ (List.mem_of_getElem? (i := 11) rfl))) (mvT hZ (hw _ (List.mem_of_getElem? (i := 12) rfl))) (mvT hZ (hw _ (List.mem_of_getElem? (i := 4) rfl))) (mvT hZ (hw _ (List.mem_of_getElem? (i := 13) rfl))) (by decide) (backOf (W := 0) (rm5 l Z a0 hw [] b31_28 (1 : Int32) p0_1 (4 : Int32) T28.heap n0 Zs28 (by decide : ¬ ((4 : Int32) < (1 : Int32)))) hZ (hw _ (List.mem_of_getElem? (i := 13) rfl)) (hw _ (List.mem_of_getElem? (i := 4) rfl)) (by decide) (by decide)) (g := (mkF m 123 #[.val (.int p0_0), .val (.int p0_1), .val (.int (1 : Int32)), .val (.ref b21), .val (.ref b31_28)] [(.int (4 : Int32)), (.int p0_1), (.int (1 : Int32)), (.ref b31_28)])) rfl (by rw [hml]; rfl) (argsL := [(.ref b31_28), (.int (1 : Int32)), (.int p0_1), (.int (4 : Int32))]) (rest := []) (lenOf pd_3 rfl) rfl (by show 2 * 0 + _ ≤ _; exact Nat.le_of_eq rfl) (hb hby at_123) (fun _ _ => ⟨rfl, eh35, (by decide : 2 + 0 ≤ _), (by decide : 2 + 0 ≤ _)⟩)
    dsimp only [Pt.U, Pt.locs, Pt.cells, Pt.slots] at X36 l36 y36 z36 st36 hQ36
    subst l36 y36 z36
    obtain ⟨rfl, N36q, eh36⟩ := hQ36
    have N36 := Fr.app N35 N36q
    obtain ⟨_, _, ⟨T37, L37, k37, n37⟩, -, X37, ⟨Lc37, hQ37, l37, y37, z37⟩, st37⟩ := Jvm.LawKit.callS X36 hx (y := (⟨"com/example/leanweave/leanweave/NetworkNumberingPinLaw", "ok", "([IIII)Z"⟩ : MethodName)) hown (mvT hZ (hw _ (List.mem_of_getElem? (i := 11) rfl))) (mvT hZ (hw _ (List.mem_of_getElem? (i := 12) rfl))) (mvT hZ (hw _ (List.mem_of_getElem? (i := 4) rfl))) (mvT hZ (hw _ (List.mem_of_getElem? (i := 13) rfl))) (by decide) (backOf (W := 0) (rm5 l Z a0 hw [] b31_28 (1 : Int32) p0_1 (5 : Int32) T28.heap n0 Zs28 (by decide : ¬ ((5 : Int32) < (1 : Int32)))) hZ (hw _ (List.mem_of_getElem? (i := 13) rfl)) (hw _ (List.mem_of_getElem? (i := 4) rfl)) (by decide) (by decide)) (g := (mkF m 134 #[.val (.int p0_0), .val (.int p0_1), .val (.int (1 : Int32)), .val (.ref b21), .val (.ref b31_28)] [(.int (5 : Int32)), (.int p0_1), (.int (1 : Int32)), (.ref b31_28)])) rfl (by rw [hml]; rfl) (argsL := [(.ref b31_28), (.int (1 : Int32)), (.int p0_1), (.int (5 : Int32))]) (rest := []) (lenOf pd_3 rfl) rfl (by show 2 * 0 + _ ≤ _; exact Nat.le_of_eq rfl) (hb hby at_134) (fun _ _ => ⟨rfl, eh36, (by decide : 2 + 0 ≤ _), (by decide : 2 + 0 ≤ _)⟩)
    dsimp only [Pt.U, Pt.locs, Pt.cells, Pt.slots] at X37 l37 y37 z37 st37 hQ37
    subst l37 y37 z37
    obtain ⟨rfl, N37q, eh37⟩ := hQ37
    have N37 := Fr.app N36 N37q
    have k38 : ∀ t, Steps p.tables e below (T37.setTop (mkF m 145 #[.val (.int p0_0), .val (.int p0_1), .val (.int (1 : Int32)), .val (.ref b21), .val (.ref b31_28)] [(.int (1 : Int32))])) t → Steps p.tables e below (s₁.setTop (entryFrame m #[(.int p0_0), (.int p0_1)] maxLocals)) t := by
      intro t k
      refine k1 t ?_
      show Steps p.tables e below (s₁.setTop (mkF m 8 #[.val (.int p0_0), .val (.int p0_1), .val (.int (1 : Int32)), .unset, .unset] [])) _
      refine XS.iloadN X0.here hx rfl (hb hby at_8) rfl ?_
      show Steps p.tables e below (s₁.setTop (mkF m 9 #[.val (.int p0_0), .val (.int p0_1), .val (.int (1 : Int32)), .unset, .unset] [(.int (1 : Int32))])) _
      refine st21 _ ?_
      show Steps p.tables e below (T21.setTop (mkF m 11 #[.val (.int p0_0), .val (.int p0_1), .val (.int (1 : Int32)), .unset, .unset] [(.ref b21)])) _
      refine XS.astoreN X21.here hx rfl (hb hby at_11) rfl rfl (l' := #[.val (.int p0_0), .val (.int p0_1), .val (.int (1 : Int32)), .val (.ref b21), .unset]) rfl ?_
      show Steps p.tables e below (T21.setTop (mkF m 12 #[.val (.int p0_0), .val (.int p0_1), .val (.int (1 : Int32)), .val (.ref b21), .unset] [])) _
      refine XS.aloadN X21.here hx rfl (hb hby at_12) rfl rfl ?_
      show Steps p.tables e below (T21.setTop (mkF m 13 #[.val (.int p0_0), .val (.int p0_1), .val (.int (1 : Int32)), .val (.ref b21), .unset] [(.ref b21)])) _
      refine XS.iloadN X21.here hx rfl (hb hby at_13) rfl ?_
      show Steps p.tables e below (T21.setTop (mkF m 14 #[.val (.int p0_0), .val (.int p0_1), .val (.int (1 : Int32)), .val (.ref b21), .unset] [(.int (1 : Int32)), (.ref b21)])) _
      refine XS.iloadN X21.here hx rfl (hb hby at_14) rfl ?_
      show Steps p.tables e below (T21.setTop (mkF m 15 #[.val (.int p0_0), .val (.int p0_1), .val (.int (1 : Int32)), .val (.ref b21), .unset] [(.int p0_1), (.int (1 : Int32)), (.ref b21)])) _
      refine XS.iconst X21.here hx rfl (hb hby at_15) ?_
      show Steps p.tables e below (T21.setTop (mkF m 16 #[.val (.int p0_0), .val (.int p0_1), .val (.int (1 : Int32)), .val (.ref b21), .unset] [(.int (0 : Int32)), (.int p0_1), (.int (1 : Int32)), (.ref b21)])) _
      refine st22 _ ?_
      show Steps p.tables e below (T22.setTop (mkF m 19 #[.val (.int p0_0), .val (.int p0_1), .val (.int (1 : Int32)), .val (.ref b21), .unset] [])) _
      refine XS.aloadN X22.here hx rfl (hb hby at_19) rfl rfl ?_
      show Steps p.tables e below (T22.setTop (mkF m 20 #[.val (.int p0_0), .val (.int p0_1), .val (.int (1 : Int32)), .val (.ref b21), .unset] [(.ref b21)])) _
      refine XS.iloadN X22.here hx rfl (hb hby at_20) rfl ?_
      show Steps p.tables e below (T22.setTop (mkF m 21 #[.val (.int p0_0), .val (.int p0_1), .val (.int (1 : Int32)), .val (.ref b21), .unset] [(.int (1 : Int32)), (.ref b21)])) _
      refine XS.iloadN X22.here hx rfl (hb hby at_21) rfl ?_
      show Steps p.tables e below (T22.setTop (mkF m 22 #[.val (.int p0_0), .val (.int p0_1), .val (.int (1 : Int32)), .val (.ref b21), .unset] [(.int p0_1), (.int (1 : Int32)), (.ref b21)])) _
      refine XS.iconst X22.here hx rfl (hb hby at_22) ?_
      show Steps p.tables e below (T22.setTop (mkF m 23 #[.val (.int p0_0), .val (.int p0_1), .val (.int (1 : Int32)), .val (.ref b21), .unset] [(.int (1 : Int32)), (.int p0_1), (.int (1 : Int32)), (.ref b21)])) _
      refine st23 _ ?_
      show Steps p.tables e below (T23.setTop (mkF m 26 #[.val (.int p0_0), .val (.int p0_1), .val (.int (1 : Int32)), .val (.ref b21), .unset] [])) _
      refine XS.aloadN X23.here hx rfl (hb hby at_26) rfl rfl ?_
      show Steps p.tables e below (T23.setTop (mkF m 27 #[.val (.int p0_0), .val (.int p0_1), .val (.int (1 : Int32)), .val (.ref b21), .unset] [(.ref b21)])) _
      refine XS.iloadN X23.here hx rfl (hb hby at_27) rfl ?_
      show Steps p.tables e below (T23.setTop (mkF m 28 #[.val (.int p0_0), .val (.int p0_1), .val (.int (1 : Int32)), .val (.ref b21), .unset] [(.int (1 : Int32)), (.ref b21)])) _
      refine XS.iloadN X23.here hx rfl (hb hby at_28) rfl ?_
      show Steps p.tables e below (T23.setTop (mkF m 29 #[.val (.int p0_0), .val (.int p0_1), .val (.int (1 : Int32)), .val (.ref b21), .unset] [(.int p0_1), (.int (1 : Int32)), (.ref b21)])) _
      refine XS.iconst X23.here hx rfl (hb hby at_29) ?_
      show Steps p.tables e below (T23.setTop (mkF m 30 #[.val (.int p0_0), .val (.int p0_1), .val (.int (1 : Int32)), .val (.ref b21), .unset] [(.int (2 : Int32)), (.int p0_1), (.int (1 : Int32)), (.ref b21)])) _
      refine st24 _ ?_
      show Steps p.tables e below (T24.setTop (mkF m 33 #[.val (.int p0_0), .val (.int p0_1), .val (.int (1 : Int32)), .val (.ref b21), .unset] [])) _
      refine XS.aloadN X24.here hx rfl (hb hby at_33) rfl rfl ?_
      show Steps p.tables e below (T24.setTop (mkF m 34 #[.val (.int p0_0), .val (.int p0_1), .val (.int (1 : Int32)), .val (.ref b21), .unset] [(.ref b21)])) _
      refine XS.iloadN X24.here hx rfl (hb hby at_34) rfl ?_
      show Steps p.tables e below (T24.setTop (mkF m 35 #[.val (.int p0_0), .val (.int p0_1), .val (.int (1 : Int32)), .val (.ref b21), .unset] [(.int (1 : Int32)), (.ref b21)])) _
      refine XS.iloadN X24.here hx rfl (hb hby at_35) rfl ?_
      show Steps p.tables e below (T24.setTop (mkF m 36 #[.val (.int p0_0), .val (.int p0_1), .val (.int (1 : Int32)), .val (.ref b21), .unset] [(.int p0_1), (.int (1 : Int32)), (.ref b21)])) _
      refine XS.iconst X24.here hx rfl (hb hby at_36) ?_
      show Steps p.tables e below (T24.setTop (mkF m 37 #[.val (.int p0_0), .val (.int p0_1), .val (.int (1 : Int32)), .val (.ref b21), .unset] [(.int (3 : Int32)), (.int p0_1), (.int (1 : Int32)), (.ref b21)])) _
      refine st25 _ ?_
      show Steps p.tables e below (T25.setTop (mkF m 40 #[.val (.int p0_0), .val (.int p0_1), .val (.int (1 : Int32)), .val (.ref b21), .unset] [])) _
      refine XS.aloadN X25.here hx rfl (hb hby at_40) rfl rfl ?_
      show Steps p.tables e below (T25.setTop (mkF m 41 #[.val (.int p0_0), .val (.int p0_1), .val (.int (1 : Int32)), .val (.ref b21), .unset] [(.ref b21)])) _
      refine XS.iloadN X25.here hx rfl (hb hby at_41) rfl ?_
      show Steps p.tables e below (T25.setTop (mkF m 42 #[.val (.int p0_0), .val (.int p0_1), .val (.int (1 : Int32)), .val (.ref b21), .unset] [(.int (1 : Int32)), (.ref b21)])) _
      refine XS.iloadN X25.here hx rfl (hb hby at_42) rfl ?_
      show Steps p.tables e below (T25.setTop (mkF m 43 #[.val (.int p0_0), .val (.int p0_1), .val (.int (1 : Int32)), .val (.ref b21), .unset] [(.int p0_1), (.int (1 : Int32)), (.ref b21)])) _
      refine XS.iconst X25.here hx rfl (hb hby at_43) ?_
      show Steps p.tables e below (T25.setTop (mkF m 44 #[.val (.int p0_0), .val (.int p0_1), .val (.int (1 : Int32)), .val (.ref b21), .unset] [(.int (4 : Int32)), (.int p0_1), (.int (1 : Int32)), (.ref b21)])) _
      refine st26 _ ?_
      show Steps p.tables e below (T26.setTop (mkF m 47 #[.val (.int p0_0), .val (.int p0_1), .val (.int (1 : Int32)), .val (.ref b21), .unset] [])) _
      refine XS.aloadN X26.here hx rfl (hb hby at_47) rfl rfl ?_
      show Steps p.tables e below (T26.setTop (mkF m 48 #[.val (.int p0_0), .val (.int p0_1), .val (.int (1 : Int32)), .val (.ref b21), .unset] [(.ref b21)])) _
      refine XS.iloadN X26.here hx rfl (hb hby at_48) rfl ?_
      show Steps p.tables e below (T26.setTop (mkF m 49 #[.val (.int p0_0), .val (.int p0_1), .val (.int (1 : Int32)), .val (.ref b21), .unset] [(.int (1 : Int32)), (.ref b21)])) _
      refine XS.iloadN X26.here hx rfl (hb hby at_49) rfl ?_
      show Steps p.tables e below (T26.setTop (mkF m 50 #[.val (.int p0_0), .val (.int p0_1), .val (.int (1 : Int32)), .val (.ref b21), .unset] [(.int p0_1), (.int (1 : Int32)), (.ref b21)])) _
      refine XS.iconst X26.here hx rfl (hb hby at_50) ?_
      show Steps p.tables e below (T26.setTop (mkF m 51 #[.val (.int p0_0), .val (.int p0_1), .val (.int (1 : Int32)), .val (.ref b21), .unset] [(.int (5 : Int32)), (.int p0_1), (.int (1 : Int32)), (.ref b21)])) _
      refine st27 _ ?_
      show Steps p.tables e below (T27.setTop (mkF m 54 #[.val (.int p0_0), .val (.int p0_1), .val (.int (1 : Int32)), .val (.ref b21), .unset] [])) _
      refine XS.aloadN X27.here hx rfl (hb hby at_54) rfl rfl ?_
      show Steps p.tables e below (T27.setTop (mkF m 55 #[.val (.int p0_0), .val (.int p0_1), .val (.int (1 : Int32)), .val (.ref b21), .unset] [(.ref b21)])) _
      refine st28 _ ?_
      show Steps p.tables e below (T28.setTop (mkF m 58 #[.val (.int p0_0), .val (.int p0_1), .val (.int (1 : Int32)), .val (.ref b21), .unset] [(.ref b31_28)])) _
      refine XS.astore X28.here hx rfl (hb hby at_58) rfl rfl (l' := #[.val (.int p0_0), .val (.int p0_1), .val (.int (1 : Int32)), .val (.ref b21), .val (.ref b31_28)]) rfl ?_
      show Steps p.tables e below (T28.setTop (mkF m 60 #[.val (.int p0_0), .val (.int p0_1), .val (.int (1 : Int32)), .val (.ref b21), .val (.ref b31_28)] [])) _
      refine XS.aload X28.here hx rfl (hb hby at_60) rfl rfl ?_
      show Steps p.tables e below (T28.setTop (mkF m 62 #[.val (.int p0_0), .val (.int p0_1), .val (.int (1 : Int32)), .val (.ref b21), .val (.ref b31_28)] [(.ref b31_28)])) _
      refine XS.ifnullNo X28.here hx rfl (hb hby at_62) rfl ?_
      show Steps p.tables e below (T28.setTop (mkF m 65 #[.val (.int p0_0), .val (.int p0_1), .val (.int (1 : Int32)), .val (.ref b21), .val (.ref b31_28)] [])) _
      refine XS.aload X28.here hx rfl (hb hby at_65) rfl rfl ?_
      show Steps p.tables e below (T28.setTop (mkF m 67 #[.val (.int p0_0), .val (.int p0_1), .val (.int (1 : Int32)), .val (.ref b21), .val (.ref b31_28)] [(.ref b31_28)])) _
      refine X28.arraylength hx Ar31.1 (State.isArrayOf_alike hZ.alike Ar31.2.1) (g := (mkF m 67 #[.val (.int p0_0), .val (.int p0_1), .val (.int (1 : Int32)), .val (.ref b21), .val (.ref b31_28)] [(.ref b31_28)])) rfl rfl (hb hby at_67) _ ?_
      rw [len_of Sz31 Nn31]
      show Steps p.tables e below (T28.setTop (mkF m 68 #[.val (.int p0_0), .val (.int p0_1), .val (.int (1 : Int32)), .val (.ref b21), .val (.ref b31_28)] [(.int (1 : Int32))])) _
      refine XS.iloadN X28.here hx rfl (hb hby at_68) rfl ?_
      show Steps p.tables e below (T28.setTop (mkF m 69 #[.val (.int p0_0), .val (.int p0_1), .val (.int (1 : Int32)), .val (.ref b21), .val (.ref b31_28)] [(.int (1 : Int32)), (.int (1 : Int32))])) _
      refine XS.icmpYes X28.here hx rfl (pc0 := 69) (pc' := 74) rfl (hb hby at_69) rfl (teq (by decide : (1 : Int32) = (1 : Int32))).1 (by decide) (by decide) ?_
      show Steps p.tables e below (T28.setTop (mkF m 74 #[.val (.int p0_0), .val (.int p0_1), .val (.int (1 : Int32)), .val (.ref b21), .val (.ref b31_28)] [])) _
      refine XS.aload X28.here hx rfl (hb hby at_74) rfl rfl ?_
      show Steps p.tables e below (T28.setTop (mkF m 76 #[.val (.int p0_0), .val (.int p0_1), .val (.int (1 : Int32)), .val (.ref b21), .val (.ref b31_28)] [(.ref b31_28)])) _
      refine XS.iloadN X28.here hx rfl (hb hby at_76) rfl ?_
      show Steps p.tables e below (T28.setTop (mkF m 77 #[.val (.int p0_0), .val (.int p0_1), .val (.int (1 : Int32)), .val (.ref b21), .val (.ref b31_28)] [(.int (1 : Int32)), (.ref b31_28)])) _
      refine XS.iloadN X28.here hx rfl (hb hby at_77) rfl ?_
      show Steps p.tables e below (T28.setTop (mkF m 78 #[.val (.int p0_0), .val (.int p0_1), .val (.int (1 : Int32)), .val (.ref b21), .val (.ref b31_28)] [(.int p0_1), (.int (1 : Int32)), (.ref b31_28)])) _
      refine XS.iconst X28.here hx rfl (hb hby at_78) ?_
      show Steps p.tables e below (T28.setTop (mkF m 79 #[.val (.int p0_0), .val (.int p0_1), .val (.int (1 : Int32)), .val (.ref b21), .val (.ref b31_28)] [(.int (0 : Int32)), (.int p0_1), (.int (1 : Int32)), (.ref b31_28)])) _
      refine st32 _ ?_
      show Steps p.tables e below (T32.setTop (mkF m 82 #[.val (.int p0_0), .val (.int p0_1), .val (.int (1 : Int32)), .val (.ref b21), .val (.ref b31_28)] [(.int (own_ok0 p0_1 (own_e (own_bit p0_1 (0 : Int32)) (0 : Int32))))])) _
      refine XS.ifNo X32.here hx rfl (hb hby at_82) rfl ((if0 _ _).trans (feq (by rw [own_okl0]; decide)).1) ?_
      show Steps p.tables e below (T32.setTop (mkF m 85 #[.val (.int p0_0), .val (.int p0_1), .val (.int (1 : Int32)), .val (.ref b21), .val (.ref b31_28)] [])) _
      refine XS.aload X32.here hx rfl (hb hby at_85) rfl rfl ?_
      show Steps p.tables e below (T32.setTop (mkF m 87 #[.val (.int p0_0), .val (.int p0_1), .val (.int (1 : Int32)), .val (.ref b21), .val (.ref b31_28)] [(.ref b31_28)])) _
      refine XS.iloadN X32.here hx rfl (hb hby at_87) rfl ?_
      show Steps p.tables e below (T32.setTop (mkF m 88 #[.val (.int p0_0), .val (.int p0_1), .val (.int (1 : Int32)), .val (.ref b21), .val (.ref b31_28)] [(.int (1 : Int32)), (.ref b31_28)])) _
      refine XS.iloadN X32.here hx rfl (hb hby at_88) rfl ?_
      show Steps p.tables e below (T32.setTop (mkF m 89 #[.val (.int p0_0), .val (.int p0_1), .val (.int (1 : Int32)), .val (.ref b21), .val (.ref b31_28)] [(.int p0_1), (.int (1 : Int32)), (.ref b31_28)])) _
      refine XS.iconst X32.here hx rfl (hb hby at_89) ?_
      show Steps p.tables e below (T32.setTop (mkF m 90 #[.val (.int p0_0), .val (.int p0_1), .val (.int (1 : Int32)), .val (.ref b21), .val (.ref b31_28)] [(.int (1 : Int32)), (.int p0_1), (.int (1 : Int32)), (.ref b31_28)])) _
      refine st33 _ ?_
      show Steps p.tables e below (T33.setTop (mkF m 93 #[.val (.int p0_0), .val (.int p0_1), .val (.int (1 : Int32)), .val (.ref b21), .val (.ref b31_28)] [(.int (1 : Int32))])) _
      refine XS.ifNo X33.here hx rfl (hb hby at_93) rfl ((if0 _ _).trans (feq (by decide : ¬ ((1 : Int32) = (0 : Int32)))).1) ?_
      show Steps p.tables e below (T33.setTop (mkF m 96 #[.val (.int p0_0), .val (.int p0_1), .val (.int (1 : Int32)), .val (.ref b21), .val (.ref b31_28)] [])) _
      refine XS.aload X33.here hx rfl (hb hby at_96) rfl rfl ?_
      show Steps p.tables e below (T33.setTop (mkF m 98 #[.val (.int p0_0), .val (.int p0_1), .val (.int (1 : Int32)), .val (.ref b21), .val (.ref b31_28)] [(.ref b31_28)])) _
      refine XS.iloadN X33.here hx rfl (hb hby at_98) rfl ?_
      show Steps p.tables e below (T33.setTop (mkF m 99 #[.val (.int p0_0), .val (.int p0_1), .val (.int (1 : Int32)), .val (.ref b21), .val (.ref b31_28)] [(.int (1 : Int32)), (.ref b31_28)])) _
      refine XS.iloadN X33.here hx rfl (hb hby at_99) rfl ?_
      show Steps p.tables e below (T33.setTop (mkF m 100 #[.val (.int p0_0), .val (.int p0_1), .val (.int (1 : Int32)), .val (.ref b21), .val (.ref b31_28)] [(.int p0_1), (.int (1 : Int32)), (.ref b31_28)])) _
      refine XS.iconst X33.here hx rfl (hb hby at_100) ?_
      show Steps p.tables e below (T33.setTop (mkF m 101 #[.val (.int p0_0), .val (.int p0_1), .val (.int (1 : Int32)), .val (.ref b21), .val (.ref b31_28)] [(.int (2 : Int32)), (.int p0_1), (.int (1 : Int32)), (.ref b31_28)])) _
      refine st34 _ ?_
      show Steps p.tables e below (T34.setTop (mkF m 104 #[.val (.int p0_0), .val (.int p0_1), .val (.int (1 : Int32)), .val (.ref b21), .val (.ref b31_28)] [(.int (1 : Int32))])) _
      refine XS.ifNo X34.here hx rfl (hb hby at_104) rfl ((if0 _ _).trans (feq (by decide : ¬ ((1 : Int32) = (0 : Int32)))).1) ?_
      show Steps p.tables e below (T34.setTop (mkF m 107 #[.val (.int p0_0), .val (.int p0_1), .val (.int (1 : Int32)), .val (.ref b21), .val (.ref b31_28)] [])) _
      refine XS.aload X34.here hx rfl (hb hby at_107) rfl rfl ?_
      show Steps p.tables e below (T34.setTop (mkF m 109 #[.val (.int p0_0), .val (.int p0_1), .val (.int (1 : Int32)), .val (.ref b21), .val (.ref b31_28)] [(.ref b31_28)])) _
      refine XS.iloadN X34.here hx rfl (hb hby at_109) rfl ?_
      show Steps p.tables e below (T34.setTop (mkF m 110 #[.val (.int p0_0), .val (.int p0_1), .val (.int (1 : Int32)), .val (.ref b21), .val (.ref b31_28)] [(.int (1 : Int32)), (.ref b31_28)])) _
      refine XS.iloadN X34.here hx rfl (hb hby at_110) rfl ?_
      show Steps p.tables e below (T34.setTop (mkF m 111 #[.val (.int p0_0), .val (.int p0_1), .val (.int (1 : Int32)), .val (.ref b21), .val (.ref b31_28)] [(.int p0_1), (.int (1 : Int32)), (.ref b31_28)])) _
      refine XS.iconst X34.here hx rfl (hb hby at_111) ?_
      show Steps p.tables e below (T34.setTop (mkF m 112 #[.val (.int p0_0), .val (.int p0_1), .val (.int (1 : Int32)), .val (.ref b21), .val (.ref b31_28)] [(.int (3 : Int32)), (.int p0_1), (.int (1 : Int32)), (.ref b31_28)])) _
      refine st35 _ ?_
      show Steps p.tables e below (T35.setTop (mkF m 115 #[.val (.int p0_0), .val (.int p0_1), .val (.int (1 : Int32)), .val (.ref b21), .val (.ref b31_28)] [(.int (1 : Int32))])) _
      refine XS.ifNo X35.here hx rfl (hb hby at_115) rfl ((if0 _ _).trans (feq (by decide : ¬ ((1 : Int32) = (0 : Int32)))).1) ?_
      show Steps p.tables e below (T35.setTop (mkF m 118 #[.val (.int p0_0), .val (.int p0_1), .val (.int (1 : Int32)), .val (.ref b21), .val (.ref b31_28)] [])) _
      refine XS.aload X35.here hx rfl (hb hby at_118) rfl rfl ?_
      show Steps p.tables e below (T35.setTop (mkF m 120 #[.val (.int p0_0), .val (.int p0_1), .val (.int (1 : Int32)), .val (.ref b21), .val (.ref b31_28)] [(.ref b31_28)])) _
      refine XS.iloadN X35.here hx rfl (hb hby at_120) rfl ?_
      show Steps p.tables e below (T35.setTop (mkF m 121 #[.val (.int p0_0), .val (.int p0_1), .val (.int (1 : Int32)), .val (.ref b21), .val (.ref b31_28)] [(.int (1 : Int32)), (.ref b31_28)])) _
      refine XS.iloadN X35.here hx rfl (hb hby at_121) rfl ?_
      show Steps p.tables e below (T35.setTop (mkF m 122 #[.val (.int p0_0), .val (.int p0_1), .val (.int (1 : Int32)), .val (.ref b21), .val (.ref b31_28)] [(.int p0_1), (.int (1 : Int32)), (.ref b31_28)])) _
      refine XS.iconst X35.here hx rfl (hb hby at_122) ?_
      show Steps p.tables e below (T35.setTop (mkF m 123 #[.val (.int p0_0), .val (.int p0_1), .val (.int (1 : Int32)), .val (.ref b21), .val (.ref b31_28)] [(.int (4 : Int32)), (.int p0_1), (.int (1 : Int32)), (.ref b31_28)])) _
      refine st36 _ ?_
      show Steps p.tables e below (T36.setTop (mkF m 126 #[.val (.int p0_0), .val (.int p0_1), .val (.int (1 : Int32)), .val (.ref b21), .val (.ref b31_28)] [(.int (1 : Int32))])) _
      refine XS.ifNo X36.here hx rfl (hb hby at_126) rfl ((if0 _ _).trans (feq (by decide : ¬ ((1 : Int32) = (0 : Int32)))).1) ?_
      show Steps p.tables e below (T36.setTop (mkF m 129 #[.val (.int p0_0), .val (.int p0_1), .val (.int (1 : Int32)), .val (.ref b21), .val (.ref b31_28)] [])) _
      refine XS.aload X36.here hx rfl (hb hby at_129) rfl rfl ?_
      show Steps p.tables e below (T36.setTop (mkF m 131 #[.val (.int p0_0), .val (.int p0_1), .val (.int (1 : Int32)), .val (.ref b21), .val (.ref b31_28)] [(.ref b31_28)])) _
      refine XS.iloadN X36.here hx rfl (hb hby at_131) rfl ?_
      show Steps p.tables e below (T36.setTop (mkF m 132 #[.val (.int p0_0), .val (.int p0_1), .val (.int (1 : Int32)), .val (.ref b21), .val (.ref b31_28)] [(.int (1 : Int32)), (.ref b31_28)])) _
      refine XS.iloadN X36.here hx rfl (hb hby at_132) rfl ?_
      show Steps p.tables e below (T36.setTop (mkF m 133 #[.val (.int p0_0), .val (.int p0_1), .val (.int (1 : Int32)), .val (.ref b21), .val (.ref b31_28)] [(.int p0_1), (.int (1 : Int32)), (.ref b31_28)])) _
      refine XS.iconst X36.here hx rfl (hb hby at_133) ?_
      show Steps p.tables e below (T36.setTop (mkF m 134 #[.val (.int p0_0), .val (.int p0_1), .val (.int (1 : Int32)), .val (.ref b21), .val (.ref b31_28)] [(.int (5 : Int32)), (.int p0_1), (.int (1 : Int32)), (.ref b31_28)])) _
      refine st37 _ ?_
      show Steps p.tables e below (T37.setTop (mkF m 137 #[.val (.int p0_0), .val (.int p0_1), .val (.int (1 : Int32)), .val (.ref b21), .val (.ref b31_28)] [(.int (1 : Int32))])) _
      refine XS.ifNo X37.here hx rfl (hb hby at_137) rfl ((if0 _ _).trans (feq (by decide : ¬ ((1 : Int32) = (0 : Int32)))).1) ?_
      show Steps p.tables e below (T37.setTop (mkF m 140 #[.val (.int p0_0), .val (.int p0_1), .val (.int (1 : Int32)), .val (.ref b21), .val (.ref b31_28)] [])) _
      refine XS.iconst X37.here hx rfl (hb hby at_140) ?_
      show Steps p.tables e below (T37.setTop (mkF m 141 #[.val (.int p0_0), .val (.int p0_1), .val (.int (1 : Int32)), .val (.ref b21), .val (.ref b31_28)] [(.int (1 : Int32))])) _
      refine XS.goto X37.here hx rfl (pc0 := 141) (pc' := 145) rfl (hb hby at_141) (by decide) (by decide) ?_
      exact k
    obtain ⟨fs, hr, hrun, hended, hW, hsame⟩ := X37.leave (v := some (.int (1 : Int32))) (fun h => by rw [Bd.returns] at h; cases h)
    refine ⟨_, _, k38 _ ?_, hrun, hended, _, _, rfl, ?_, ⟨_, rfl⟩, hW, hsame.mono (by decide) (by decide)⟩
    · exact retN X37 hx (t := .boolean) Bd.returns (by simp) (hb hby at_145) hr
    · show Q0 Z p0_0 p0_1 h0 n0 _ T37.heap _
      rw [eh37]
      exact ⟨rfl, N37⟩
  · skip
    obtain ⟨b39, g39⟩ : ∃ z, z = h0.size := ⟨_, rfl⟩
    obtain ⟨T39, h39, k39, X39, e39, E39, A39, st39⟩ := newP X0 hx hZ (hw _ (List.mem_of_getElem? (i := 1) rfl)) e0 (g := (mkF m 9 #[.val (.int p0_0), .val (.int p0_1), .val (.int (2 : Int32)), .unset, .unset] [(.int (2 : Int32))])) rfl (hb hby at_9) rfl (by decide) (cap := 2) (by decide) (by decide) (by decide) (by decide)
    rw [← g39] at A39 st39
    have gg39 : n0 ≤ b39 := Nat.le_trans Z0 (Nat.le_of_eq g39.symm)
    have Zs39 : n0 ≤ h39.size := Nat.le_trans Z0 E39.1
    have V39 : Arv Z h39 b39 k39 .boolean (2 : Int32) [(.int (0 : Int32)), (.int (0 : Int32)), (.int (0 : Int32)), (.int (0 : Int32)), (.int (0 : Int32)), (.int (0 : Int32))] (.int (0 : Int32)) := (Arv.new A39 (by decide)).pad (pad_rep [] (.int (0 : Int32)) 6)
    obtain ⟨_, _, ⟨T40, L40, k40, n40⟩, -, X40, ⟨Lc40, hQ40, l40, y40, z40⟩, st40⟩ := Jvm.LawKit.callS X39 hx (y := (⟨"com/example/leanweave/leanweave/NetworkNumberingPinLaw", "set", "([ZIII)V"⟩ : MethodName)) hown (mvT hZ (hw _ (List.mem_of_getElem? (i := 2) rfl))) (mvT hZ (hw _ (List.mem_of_getElem? (i := 3) rfl))) (mvT hZ (hw _ (List.mem_of_getElem? (i := 4) rfl))) (mvT hZ (hw _ (List.mem_of_getElem? (i := 5) rfl))) (by decide) (backOf (W := 0) (rm20 l Z a0 hw [] b39 (2 : Int32) p0_1 k39 (2 : Int32) (.int (0 : Int32)) (.int (0 : Int32)) (.int (0 : Int32)) (.int (0 : Int32)) (.int (0 : Int32)) (.int (0 : Int32)) h39 n0 Zs39 V39 (by decide : (0 : Int32) < (2 : Int32)) (by decide : (0 : Int32) < (2 : Int32)) gg39) hZ (hw _ (List.mem_of_getElem? (i := 5) rfl)) (hw _ (List.mem_of_getElem? (i := 4) rfl)) (by decide) (by decide)) (g := (mkF m 16 #[.val (.int p0_0), .val (.int p0_1), .val (.int (2 : Int32)), .val (.ref b39), .unset] [(.int (0 : Int32)), (.int p0_1), (.int (2 : Int32)), (.ref b39)])) rfl (by rw [hml]; rfl) (argsL := [(.ref b39), (.int (2 : Int32)), (.int p0_1), (.int (0 : Int32))]) (rest := []) (lenOf pd_1 rfl) rfl (by show 2 * 0 + _ ≤ _; exact Nat.le_of_eq rfl) (hb hby at_16) (fun _ _ => ⟨rfl, e39, (by decide : 1 + 0 ≤ _), (by decide : 2 + 0 ≤ _)⟩)
    dsimp only [Pt.U, Pt.locs, Pt.cells, Pt.slots] at X40 l40 y40 z40 st40 hQ40
    subst l40 y40 z40
    obtain ⟨rfl, N40q, Kc40, G40_0⟩ := hQ40
    have Zs40 : n0 ≤ T40.heap.size := Nat.le_trans Zs39 Kc40.1
    have N40 := Fr.app N0 N40q
    obtain ⟨_, _, ⟨T41, L41, k41, n41⟩, -, X41, ⟨Lc41, hQ41, l41, y41, z41⟩, st41⟩ := Jvm.LawKit.callS X40 hx (y := (⟨"com/example/leanweave/leanweave/NetworkNumberingPinLaw", "set", "([ZIII)V"⟩ : MethodName)) hown (mvT hZ (hw _ (List.mem_of_getElem? (i := 2) rfl))) (mvT hZ (hw _ (List.mem_of_getElem? (i := 3) rfl))) (mvT hZ (hw _ (List.mem_of_getElem? (i := 4) rfl))) (mvT hZ (hw _ (List.mem_of_getElem? (i := 5) rfl))) (by decide) (backOf (W := 0) (rm21 l Z a0 hw [] b39 (2 : Int32) p0_1 k39 (2 : Int32) (.int (own_bit p0_1 (0 : Int32))) (.int (0 : Int32)) (.int (0 : Int32)) (.int (0 : Int32)) (.int (0 : Int32)) (.int (0 : Int32)) T40.heap n0 Zs40 G40_0 (by decide : (1 : Int32) < (2 : Int32)) (by decide : (1 : Int32) < (2 : Int32)) gg39) hZ (hw _ (List.mem_of_getElem? (i := 5) rfl)) (hw _ (List.mem_of_getElem? (i := 4) rfl)) (by decide) (by decide)) (g := (mkF m 23 #[.val (.int p0_0), .val (.int p0_1), .val (.int (2 : Int32)), .val (.ref b39), .unset] [(.int (1 : Int32)), (.int p0_1), (.int (2 : Int32)), (.ref b39)])) rfl (by rw [hml]; rfl) (argsL := [(.ref b39), (.int (2 : Int32)), (.int p0_1), (.int (1 : Int32))]) (rest := []) (lenOf pd_1 rfl) rfl (by show 2 * 0 + _ ≤ _; exact Nat.le_of_eq rfl) (hb hby at_23) (fun _ _ => ⟨rfl, rfl, (by decide : 1 + 0 ≤ _), (by decide : 2 + 0 ≤ _)⟩)
    dsimp only [Pt.U, Pt.locs, Pt.cells, Pt.slots] at X41 l41 y41 z41 st41 hQ41
    subst l41 y41 z41
    obtain ⟨rfl, N41q, Kc41, G41_0⟩ := hQ41
    have Zs41 : n0 ≤ T41.heap.size := Nat.le_trans Zs40 Kc41.1
    have N41 := Fr.app N40 N41q
    obtain ⟨_, _, ⟨T42, L42, k42, n42⟩, -, X42, ⟨Lc42, hQ42, l42, y42, z42⟩, st42⟩ := Jvm.LawKit.callS X41 hx (y := (⟨"com/example/leanweave/leanweave/NetworkNumberingPinLaw", "set", "([ZIII)V"⟩ : MethodName)) hown (mvT hZ (hw _ (List.mem_of_getElem? (i := 2) rfl))) (mvT hZ (hw _ (List.mem_of_getElem? (i := 3) rfl))) (mvT hZ (hw _ (List.mem_of_getElem? (i := 4) rfl))) (mvT hZ (hw _ (List.mem_of_getElem? (i := 5) rfl))) (by decide) (backOf (W := 0) (rm1 l Z a0 hw [] b39 (2 : Int32) p0_1 (2 : Int32) T41.heap n0 Zs41 (by decide : ¬ ((2 : Int32) < (2 : Int32)))) hZ (hw _ (List.mem_of_getElem? (i := 5) rfl)) (hw _ (List.mem_of_getElem? (i := 4) rfl)) (by decide) (by decide)) (g := (mkF m 30 #[.val (.int p0_0), .val (.int p0_1), .val (.int (2 : Int32)), .val (.ref b39), .unset] [(.int (2 : Int32)), (.int p0_1), (.int (2 : Int32)), (.ref b39)])) rfl (by rw [hml]; rfl) (argsL := [(.ref b39), (.int (2 : Int32)), (.int p0_1), (.int (2 : Int32))]) (rest := []) (lenOf pd_1 rfl) rfl (by show 2 * 0 + _ ≤ _; exact Nat.le_of_eq rfl) (hb hby at_30) (fun _ _ => ⟨rfl, rfl, (by decide : 1 + 0 ≤ _), (by decide : 2 + 0 ≤ _)⟩)
    dsimp only [Pt.U, Pt.locs, Pt.cells, Pt.slots] at X42 l42 y42 z42 st42 hQ42
    subst l42 y42 z42
    obtain ⟨rfl, N42q, eh42⟩ := hQ42
    have N42 := Fr.app N41 N42q
    obtain ⟨_, _, ⟨T43, L43, k43, n43⟩, -, X43, ⟨Lc43, hQ43, l43, y43, z43⟩, st43⟩ := Jvm.LawKit.callS X42 hx (y := (⟨"com/example/leanweave/leanweave/NetworkNumberingPinLaw", "set", "([ZIII)V"⟩ : MethodName)) hown (mvT hZ (hw _ (List.mem_of_getElem? (i := 2) rfl))) (mvT hZ (hw _ (List.mem_of_getElem? (i := 3) rfl))) (mvT hZ (hw _ (List.mem_of_getElem? (i := 4) rfl))) (mvT hZ (hw _ (List.mem_of_getElem? (i := 5) rfl))) (by decide) (backOf (W := 0) (rm1 l Z a0 hw [] b39 (2 : Int32) p0_1 (3 : Int32) T41.heap n0 Zs41 (by decide : ¬ ((3 : Int32) < (2 : Int32)))) hZ (hw _ (List.mem_of_getElem? (i := 5) rfl)) (hw _ (List.mem_of_getElem? (i := 4) rfl)) (by decide) (by decide)) (g := (mkF m 37 #[.val (.int p0_0), .val (.int p0_1), .val (.int (2 : Int32)), .val (.ref b39), .unset] [(.int (3 : Int32)), (.int p0_1), (.int (2 : Int32)), (.ref b39)])) rfl (by rw [hml]; rfl) (argsL := [(.ref b39), (.int (2 : Int32)), (.int p0_1), (.int (3 : Int32))]) (rest := []) (lenOf pd_1 rfl) rfl (by show 2 * 0 + _ ≤ _; exact Nat.le_of_eq rfl) (hb hby at_37) (fun _ _ => ⟨rfl, eh42, (by decide : 1 + 0 ≤ _), (by decide : 2 + 0 ≤ _)⟩)
    dsimp only [Pt.U, Pt.locs, Pt.cells, Pt.slots] at X43 l43 y43 z43 st43 hQ43
    subst l43 y43 z43
    obtain ⟨rfl, N43q, eh43⟩ := hQ43
    have N43 := Fr.app N42 N43q
    obtain ⟨_, _, ⟨T44, L44, k44, n44⟩, -, X44, ⟨Lc44, hQ44, l44, y44, z44⟩, st44⟩ := Jvm.LawKit.callS X43 hx (y := (⟨"com/example/leanweave/leanweave/NetworkNumberingPinLaw", "set", "([ZIII)V"⟩ : MethodName)) hown (mvT hZ (hw _ (List.mem_of_getElem? (i := 2) rfl))) (mvT hZ (hw _ (List.mem_of_getElem? (i := 3) rfl))) (mvT hZ (hw _ (List.mem_of_getElem? (i := 4) rfl))) (mvT hZ (hw _ (List.mem_of_getElem? (i := 5) rfl))) (by decide) (backOf (W := 0) (rm1 l Z a0 hw [] b39 (2 : Int32) p0_1 (4 : Int32) T41.heap n0 Zs41 (by decide : ¬ ((4 : Int32) < (2 : Int32)))) hZ (hw _ (List.mem_of_getElem? (i := 5) rfl)) (hw _ (List.mem_of_getElem? (i := 4) rfl)) (by decide) (by decide)) (g := (mkF m 44 #[.val (.int p0_0), .val (.int p0_1), .val (.int (2 : Int32)), .val (.ref b39), .unset] [(.int (4 : Int32)), (.int p0_1), (.int (2 : Int32)), (.ref b39)])) rfl (by rw [hml]; rfl) (argsL := [(.ref b39), (.int (2 : Int32)), (.int p0_1), (.int (4 : Int32))]) (rest := []) (lenOf pd_1 rfl) rfl (by show 2 * 0 + _ ≤ _; exact Nat.le_of_eq rfl) (hb hby at_44) (fun _ _ => ⟨rfl, eh43, (by decide : 1 + 0 ≤ _), (by decide : 2 + 0 ≤ _)⟩)
    dsimp only [Pt.U, Pt.locs, Pt.cells, Pt.slots] at X44 l44 y44 z44 st44 hQ44
    subst l44 y44 z44
    obtain ⟨rfl, N44q, eh44⟩ := hQ44
    have N44 := Fr.app N43 N44q
    obtain ⟨_, _, ⟨T45, L45, k45, n45⟩, -, X45, ⟨Lc45, hQ45, l45, y45, z45⟩, st45⟩ := Jvm.LawKit.callS X44 hx (y := (⟨"com/example/leanweave/leanweave/NetworkNumberingPinLaw", "set", "([ZIII)V"⟩ : MethodName)) hown (mvT hZ (hw _ (List.mem_of_getElem? (i := 2) rfl))) (mvT hZ (hw _ (List.mem_of_getElem? (i := 3) rfl))) (mvT hZ (hw _ (List.mem_of_getElem? (i := 4) rfl))) (mvT hZ (hw _ (List.mem_of_getElem? (i := 5) rfl))) (by decide) (backOf (W := 0) (rm1 l Z a0 hw [] b39 (2 : Int32) p0_1 (5 : Int32) T41.heap n0 Zs41 (by decide : ¬ ((5 : Int32) < (2 : Int32)))) hZ (hw _ (List.mem_of_getElem? (i := 5) rfl)) (hw _ (List.mem_of_getElem? (i := 4) rfl)) (by decide) (by decide)) (g := (mkF m 51 #[.val (.int p0_0), .val (.int p0_1), .val (.int (2 : Int32)), .val (.ref b39), .unset] [(.int (5 : Int32)), (.int p0_1), (.int (2 : Int32)), (.ref b39)])) rfl (by rw [hml]; rfl) (argsL := [(.ref b39), (.int (2 : Int32)), (.int p0_1), (.int (5 : Int32))]) (rest := []) (lenOf pd_1 rfl) rfl (by show 2 * 0 + _ ≤ _; exact Nat.le_of_eq rfl) (hb hby at_51) (fun _ _ => ⟨rfl, eh44, (by decide : 1 + 0 ≤ _), (by decide : 2 + 0 ≤ _)⟩)
    dsimp only [Pt.U, Pt.locs, Pt.cells, Pt.slots] at X45 l45 y45 z45 st45 hQ45
    subst l45 y45 z45
    obtain ⟨rfl, N45q, eh45⟩ := hQ45
    have N45 := Fr.app N44 N45q
    obtain ⟨_, _, ⟨T46, L46, k46, n46⟩, -, X46, ⟨Lc46, hQ46, l46, y46, z46⟩, st46⟩ := Jvm.LawKit.callS X45 hx (y := (⟨"com/example/leanweave/leanweave/Network", "numbering", "([Z)[I"⟩ : MethodName)) hown (mvT hZ (hw _ (List.mem_of_getElem? (i := 6) rfl))) (mvT hZ (hw _ (List.mem_of_getElem? (i := 7) rfl))) (mvT hZ (hw _ (List.mem_of_getElem? (i := 8) rfl))) (mvT hZ (hw _ (List.mem_of_getElem? (i := 9) rfl))) (by decide) (backOf (W := 0) (rm32 l Z a0 hw [] b39 k39 (own_bit p0_1 (0 : Int32)) (own_bit p0_1 (1 : Int32)) (0 : Int32) (0 : Int32) (0 : Int32) (0 : Int32) T41.heap n0 Zs41 G41_0) hZ (hw _ (List.mem_of_getElem? (i := 9) rfl)) (hw _ (List.mem_of_getElem? (i := 8) rfl)) (by decide) (by decide)) (g := (mkF m 55 #[.val (.int p0_0), .val (.int p0_1), .val (.int (2 : Int32)), .val (.ref b39), .unset] [(.ref b39)])) rfl (by rw [hml]; rfl) (argsL := [(.ref b39)]) (rest := []) (lenOf pd_2 rfl) rfl (by show 2 * 0 + _ ≤ _; exact Nat.le_of_eq rfl) (hb hby at_55) (fun _ _ => ⟨rfl, eh45, (by decide : 1 + 1 ≤ _), (by decide : 2 + 2 ≤ _)⟩)
    dsimp only [Pt.U, Pt.locs, Pt.cells, Pt.slots] at X46 l46 y46 z46 st46 hQ46
    subst l46 y46 z46
    obtain ⟨b32_46, kn32_46, rfl, N46q, Kc46, ggb32_46, szb32_46, G46_0⟩ := hQ46
    have ne47 : b39 ≠ b32_46 := Nat.ne_of_lt (Nat.lt_of_lt_of_le G41_0.lt szb32_46)
    have Zs46 : n0 ≤ T46.heap.size := Nat.le_trans Zs41 Kc46.1
    have F48 : Arv Z T46.heap b39 k39 .boolean (2 : Int32) [(.int (own_bit p0_1 (0 : Int32))), (.int (own_bit p0_1 (1 : Int32))), (.int (0 : Int32)), (.int (0 : Int32)), (.int (0 : Int32)), (.int (0 : Int32))] (.int (0 : Int32)) := G41_0.keep Kc46 nin0
    have N46 := Fr.app N45 N46q
    obtain ⟨cl49, Ar49, qc49, Sz49, Nn49, Hh49, Gg49⟩ := (id G46_0)
    obtain ⟨_, _, ⟨T50, L50, k50, n50⟩, -, X50, ⟨Lc50, hQ50, l50, y50, z50⟩, st50⟩ := Jvm.LawKit.callS X46 hx (y := (⟨"com/example/leanweave/leanweave/NetworkNumberingPinLaw", "ok", "([IIII)Z"⟩ : MethodName)) hown (mvT hZ (hw _ (List.mem_of_getElem? (i := 11) rfl))) (mvT hZ (hw _ (List.mem_of_getElem? (i := 12) rfl))) (mvT hZ (hw _ (List.mem_of_getElem? (i := 4) rfl))) (mvT hZ (hw _ (List.mem_of_getElem? (i := 13) rfl))) (by decide) (backOf (W := 0) (rm60 l Z a0 hw [] b32_46 (2 : Int32) p0_1 kn32_46 (2 : Int32) (own_e (own_bit p0_1 (0 : Int32)) (0 : Int32)) (own_e (own_bit p0_1 (1 : Int32)) (own_c (own_bit p0_1 (0 : Int32)) (0 : Int32))) (0 : Int32) (0 : Int32) (0 : Int32) (0 : Int32) T46.heap n0 Zs46 G46_0 (by decide : (0 : Int32) < (2 : Int32)) (by decide : (0 : Int32) < (2 : Int32))) hZ (hw _ (List.mem_of_getElem? (i := 13) rfl)) (hw _ (List.mem_of_getElem? (i := 4) rfl)) (by decide) (by decide)) (g := (mkF m 79 #[.val (.int p0_0), .val (.int p0_1), .val (.int (2 : Int32)), .val (.ref b39), .val (.ref b32_46)] [(.int (0 : Int32)), (.int p0_1), (.int (2 : Int32)), (.ref b32_46)])) rfl (by rw [hml]; rfl) (argsL := [(.ref b32_46), (.int (2 : Int32)), (.int p0_1), (.int (0 : Int32))]) (rest := []) (lenOf pd_3 rfl) rfl (by show 2 * 0 + _ ≤ _; exact Nat.le_of_eq rfl) (hb hby at_79) (fun _ _ => ⟨rfl, rfl, (by decide : 2 + 0 ≤ _), (by decide : 4 + 0 ≤ _)⟩)
    dsimp only [Pt.U, Pt.locs, Pt.cells, Pt.slots] at X50 l50 y50 z50 st50 hQ50
    subst l50 y50 z50
    obtain ⟨rfl, N50q, eh50⟩ := hQ50
    have N50 := Fr.app N46 N50q
    obtain ⟨_, _, ⟨T51, L51, k51, n51⟩, -, X51, ⟨Lc51, hQ51, l51, y51, z51⟩, st51⟩ := Jvm.LawKit.callS X50 hx (y := (⟨"com/example/leanweave/leanweave/NetworkNumberingPinLaw", "ok", "([IIII)Z"⟩ : MethodName)) hown (mvT hZ (hw _ (List.mem_of_getElem? (i := 11) rfl))) (mvT hZ (hw _ (List.mem_of_getElem? (i := 12) rfl))) (mvT hZ (hw _ (List.mem_of_getElem? (i := 4) rfl))) (mvT hZ (hw _ (List.mem_of_getElem? (i := 13) rfl))) (by decide) (backOf (W := 0) (rm61 l Z a0 hw [] b32_46 (2 : Int32) p0_1 kn32_46 (2 : Int32) (own_e (own_bit p0_1 (0 : Int32)) (0 : Int32)) (own_e (own_bit p0_1 (1 : Int32)) (own_c (own_bit p0_1 (0 : Int32)) (0 : Int32))) (0 : Int32) (0 : Int32) (0 : Int32) (0 : Int32) T46.heap n0 Zs46 G46_0 (by decide : (1 : Int32) < (2 : Int32)) (by decide : (1 : Int32) < (2 : Int32))) hZ (hw _ (List.mem_of_getElem? (i := 13) rfl)) (hw _ (List.mem_of_getElem? (i := 4) rfl)) (by decide) (by decide)) (g := (mkF m 90 #[.val (.int p0_0), .val (.int p0_1), .val (.int (2 : Int32)), .val (.ref b39), .val (.ref b32_46)] [(.int (1 : Int32)), (.int p0_1), (.int (2 : Int32)), (.ref b32_46)])) rfl (by rw [hml]; rfl) (argsL := [(.ref b32_46), (.int (2 : Int32)), (.int p0_1), (.int (1 : Int32))]) (rest := []) (lenOf pd_3 rfl) rfl (by show 2 * 0 + _ ≤ _; exact Nat.le_of_eq rfl) (hb hby at_90) (fun _ _ => ⟨rfl, eh50, (by decide : 2 + 0 ≤ _), (by decide : 4 + 0 ≤ _)⟩)
    dsimp only [Pt.U, Pt.locs, Pt.cells, Pt.slots] at X51 l51 y51 z51 st51 hQ51
    subst l51 y51 z51
    obtain ⟨rfl, N51q, eh51⟩ := hQ51
    have N51 := Fr.app N50 N51q
    obtain ⟨_, _, ⟨T52, L52, k52, n52⟩, -, X52, ⟨Lc52, hQ52, l52, y52, z52⟩, st52⟩ := Jvm.LawKit.callS X51 hx (y := (⟨"com/example/leanweave/leanweave/NetworkNumberingPinLaw", "ok", "([IIII)Z"⟩ : MethodName)) hown (mvT hZ (hw _ (List.mem_of_getElem? (i := 11) rfl))) (mvT hZ (hw _ (List.mem_of_getElem? (i := 12) rfl))) (mvT hZ (hw _ (List.mem_of_getElem? (i := 4) rfl))) (mvT hZ (hw _ (List.mem_of_getElem? (i := 13) rfl))) (by decide) (backOf (W := 0) (rm5 l Z a0 hw [] b32_46 (2 : Int32) p0_1 (2 : Int32) T46.heap n0 Zs46 (by decide : ¬ ((2 : Int32) < (2 : Int32)))) hZ (hw _ (List.mem_of_getElem? (i := 13) rfl)) (hw _ (List.mem_of_getElem? (i := 4) rfl)) (by decide) (by decide)) (g := (mkF m 101 #[.val (.int p0_0), .val (.int p0_1), .val (.int (2 : Int32)), .val (.ref b39), .val (.ref b32_46)] [(.int (2 : Int32)), (.int p0_1), (.int (2 : Int32)), (.ref b32_46)])) rfl (by rw [hml]; rfl) (argsL := [(.ref b32_46), (.int (2 : Int32)), (.int p0_1), (.int (2 : Int32))]) (rest := []) (lenOf pd_3 rfl) rfl (by show 2 * 0 + _ ≤ _; exact Nat.le_of_eq rfl) (hb hby at_101) (fun _ _ => ⟨rfl, eh51, (by decide : 2 + 0 ≤ _), (by decide : 4 + 0 ≤ _)⟩)
    dsimp only [Pt.U, Pt.locs, Pt.cells, Pt.slots] at X52 l52 y52 z52 st52 hQ52
    subst l52 y52 z52
    obtain ⟨rfl, N52q, eh52⟩ := hQ52
    have N52 := Fr.app N51 N52q
    obtain ⟨_, _, ⟨T53, L53, k53, n53⟩, -, X53, ⟨Lc53, hQ53, l53, y53, z53⟩, st53⟩ := Jvm.LawKit.callS X52 hx (y := (⟨"com/example/leanweave/leanweave/NetworkNumberingPinLaw", "ok", "([IIII)Z"⟩ : MethodName)) hown (mvT hZ (hw _ (List.mem_of_getElem? (i := 11) rfl))) (mvT hZ (hw _ (List.mem_of_getElem? (i := 12) rfl))) (mvT hZ (hw _ (List.mem_of_getElem? (i := 4) rfl))) (mvT hZ (hw _ (List.mem_of_getElem? (i := 13) rfl))) (by decide) (backOf (W := 0) (rm5 l Z a0 hw [] b32_46 (2 : Int32) p0_1 (3 : Int32) T46.heap n0 Zs46 (by decide : ¬ ((3 : Int32) < (2 : Int32)))) hZ (hw _ (List.mem_of_getElem? (i := 13) rfl)) (hw _ (List.mem_of_getElem? (i := 4) rfl)) (by decide) (by decide)) (g := (mkF m 112 #[.val (.int p0_0), .val (.int p0_1), .val (.int (2 : Int32)), .val (.ref b39), .val (.ref b32_46)] [(.int (3 : Int32)), (.int p0_1), (.int (2 : Int32)), (.ref b32_46)])) rfl (by rw [hml]; rfl) (argsL := [(.ref b32_46), (.int (2 : Int32)), (.int p0_1), (.int (3 : Int32))]) (rest := []) (lenOf pd_3 rfl) rfl (by show 2 * 0 + _ ≤ _; exact Nat.le_of_eq rfl) (hb hby at_112) (fun _ _ => ⟨rfl, eh52, (by decide : 2 + 0 ≤ _), (by decide : 4 + 0 ≤ _)⟩)
    dsimp only [Pt.U, Pt.locs, Pt.cells, Pt.slots] at X53 l53 y53 z53 st53 hQ53
    subst l53 y53 z53
    obtain ⟨rfl, N53q, eh53⟩ := hQ53
    have N53 := Fr.app N52 N53q
    obtain ⟨_, _, ⟨T54, L54, k54, n54⟩, -, X54, ⟨Lc54, hQ54, l54, y54, z54⟩, st54⟩ := Jvm.LawKit.callS X53 hx (y := (⟨"com/example/leanweave/leanweave/NetworkNumberingPinLaw", "ok", "([IIII)Z"⟩ : MethodName)) hown (mvT hZ (hw _ (List.mem_of_getElem? (i := 11) rfl))) (mvT hZ (hw _ (List.mem_of_getElem? (i := 12) rfl))) (mvT hZ (hw _ (List.mem_of_getElem? (i := 4) rfl))) (mvT hZ (hw _ (List.mem_of_getElem? (i := 13) rfl))) (by decide) (backOf (W := 0) (rm5 l Z a0 hw [] b32_46 (2 : Int32) p0_1 (4 : Int32) T46.heap n0 Zs46 (by decide : ¬ ((4 : Int32) < (2 : Int32)))) hZ (hw _ (List.mem_of_getElem? (i := 13) rfl)) (hw _ (List.mem_of_getElem? (i := 4) rfl)) (by decide) (by decide)) (g := (mkF m 123 #[.val (.int p0_0), .val (.int p0_1), .val (.int (2 : Int32)), .val (.ref b39), .val (.ref b32_46)] [(.int (4 : Int32)), (.int p0_1), (.int (2 : Int32)), (.ref b32_46)])) rfl (by rw [hml]; rfl) (argsL := [(.ref b32_46), (.int (2 : Int32)), (.int p0_1), (.int (4 : Int32))]) (rest := []) (lenOf pd_3 rfl) rfl (by show 2 * 0 + _ ≤ _; exact Nat.le_of_eq rfl) (hb hby at_123) (fun _ _ => ⟨rfl, eh53, (by decide : 2 + 0 ≤ _), (by decide : 4 + 0 ≤ _)⟩)
    dsimp only [Pt.U, Pt.locs, Pt.cells, Pt.slots] at X54 l54 y54 z54 st54 hQ54
    subst l54 y54 z54
    obtain ⟨rfl, N54q, eh54⟩ := hQ54
    have N54 := Fr.app N53 N54q
    obtain ⟨_, _, ⟨T55, L55, k55, n55⟩, -, X55, ⟨Lc55, hQ55, l55, y55, z55⟩, st55⟩ := Jvm.LawKit.callS X54 hx (y := (⟨"com/example/leanweave/leanweave/NetworkNumberingPinLaw", "ok", "([IIII)Z"⟩ : MethodName)) hown (mvT hZ (hw _ (List.mem_of_getElem? (i := 11) rfl))) (mvT hZ (hw _ (List.mem_of_getElem? (i := 12) rfl))) (mvT hZ (hw _ (List.mem_of_getElem? (i := 4) rfl))) (mvT hZ (hw _ (List.mem_of_getElem? (i := 13) rfl))) (by decide) (backOf (W := 0) (rm5 l Z a0 hw [] b32_46 (2 : Int32) p0_1 (5 : Int32) T46.heap n0 Zs46 (by decide : ¬ ((5 : Int32) < (2 : Int32)))) hZ (hw _ (List.mem_of_getElem? (i := 13) rfl)) (hw _ (List.mem_of_getElem? (i := 4) rfl)) (by decide) (by decide)) (g := (mkF m 134 #[.val (.int p0_0), .val (.int p0_1), .val (.int (2 : Int32)), .val (.ref b39), .val (.ref b32_46)] [(.int (5 : Int32)), (.int p0_1), (.int (2 : Int32)), (.ref b32_46)])) rfl (by rw [hml]; rfl) (argsL := [(.ref b32_46), (.int (2 : Int32)), (.int p0_1), (.int (5 : Int32))]) (rest := []) (lenOf pd_3 rfl) rfl (by show 2 * 0 + _ ≤ _; exact Nat.le_of_eq rfl) (hb hby at_134) (fun _ _ => ⟨rfl, eh54, (by decide : 2 + 0 ≤ _), (by decide : 4 + 0 ≤ _)⟩)
    dsimp only [Pt.U, Pt.locs, Pt.cells, Pt.slots] at X55 l55 y55 z55 st55 hQ55
    subst l55 y55 z55
    obtain ⟨rfl, N55q, eh55⟩ := hQ55
    have N55 := Fr.app N54 N55q
    have k56 : ∀ t, Steps p.tables e below (T55.setTop (mkF m 145 #[.val (.int p0_0), .val (.int p0_1), .val (.int (2 : Int32)), .val (.ref b39), .val (.ref b32_46)] [(.int (1 : Int32))])) t → Steps p.tables e below (s₁.setTop (entryFrame m #[(.int p0_0), (.int p0_1)] maxLocals)) t := by
      intro t k
      refine k1 t ?_
      show Steps p.tables e below (s₁.setTop (mkF m 8 #[.val (.int p0_0), .val (.int p0_1), .val (.int (2 : Int32)), .unset, .unset] [])) _
      refine XS.iloadN X0.here hx rfl (hb hby at_8) rfl ?_
      show Steps p.tables e below (s₁.setTop (mkF m 9 #[.val (.int p0_0), .val (.int p0_1), .val (.int (2 : Int32)), .unset, .unset] [(.int (2 : Int32))])) _
      refine st39 _ ?_
      show Steps p.tables e below (T39.setTop (mkF m 11 #[.val (.int p0_0), .val (.int p0_1), .val (.int (2 : Int32)), .unset, .unset] [(.ref b39)])) _
      refine XS.astoreN X39.here hx rfl (hb hby at_11) rfl rfl (l' := #[.val (.int p0_0), .val (.int p0_1), .val (.int (2 : Int32)), .val (.ref b39), .unset]) rfl ?_
      show Steps p.tables e below (T39.setTop (mkF m 12 #[.val (.int p0_0), .val (.int p0_1), .val (.int (2 : Int32)), .val (.ref b39), .unset] [])) _
      refine XS.aloadN X39.here hx rfl (hb hby at_12) rfl rfl ?_
      show Steps p.tables e below (T39.setTop (mkF m 13 #[.val (.int p0_0), .val (.int p0_1), .val (.int (2 : Int32)), .val (.ref b39), .unset] [(.ref b39)])) _
      refine XS.iloadN X39.here hx rfl (hb hby at_13) rfl ?_
      show Steps p.tables e below (T39.setTop (mkF m 14 #[.val (.int p0_0), .val (.int p0_1), .val (.int (2 : Int32)), .val (.ref b39), .unset] [(.int (2 : Int32)), (.ref b39)])) _
      refine XS.iloadN X39.here hx rfl (hb hby at_14) rfl ?_
      show Steps p.tables e below (T39.setTop (mkF m 15 #[.val (.int p0_0), .val (.int p0_1), .val (.int (2 : Int32)), .val (.ref b39), .unset] [(.int p0_1), (.int (2 : Int32)), (.ref b39)])) _
      refine XS.iconst X39.here hx rfl (hb hby at_15) ?_
      show Steps p.tables e below (T39.setTop (mkF m 16 #[.val (.int p0_0), .val (.int p0_1), .val (.int (2 : Int32)), .val (.ref b39), .unset] [(.int (0 : Int32)), (.int p0_1), (.int (2 : Int32)), (.ref b39)])) _
      refine st40 _ ?_
      show Steps p.tables e below (T40.setTop (mkF m 19 #[.val (.int p0_0), .val (.int p0_1), .val (.int (2 : Int32)), .val (.ref b39), .unset] [])) _
      refine XS.aloadN X40.here hx rfl (hb hby at_19) rfl rfl ?_
      show Steps p.tables e below (T40.setTop (mkF m 20 #[.val (.int p0_0), .val (.int p0_1), .val (.int (2 : Int32)), .val (.ref b39), .unset] [(.ref b39)])) _
      refine XS.iloadN X40.here hx rfl (hb hby at_20) rfl ?_
      show Steps p.tables e below (T40.setTop (mkF m 21 #[.val (.int p0_0), .val (.int p0_1), .val (.int (2 : Int32)), .val (.ref b39), .unset] [(.int (2 : Int32)), (.ref b39)])) _
      refine XS.iloadN X40.here hx rfl (hb hby at_21) rfl ?_
      show Steps p.tables e below (T40.setTop (mkF m 22 #[.val (.int p0_0), .val (.int p0_1), .val (.int (2 : Int32)), .val (.ref b39), .unset] [(.int p0_1), (.int (2 : Int32)), (.ref b39)])) _
      refine XS.iconst X40.here hx rfl (hb hby at_22) ?_
      show Steps p.tables e below (T40.setTop (mkF m 23 #[.val (.int p0_0), .val (.int p0_1), .val (.int (2 : Int32)), .val (.ref b39), .unset] [(.int (1 : Int32)), (.int p0_1), (.int (2 : Int32)), (.ref b39)])) _
      refine st41 _ ?_
      show Steps p.tables e below (T41.setTop (mkF m 26 #[.val (.int p0_0), .val (.int p0_1), .val (.int (2 : Int32)), .val (.ref b39), .unset] [])) _
      refine XS.aloadN X41.here hx rfl (hb hby at_26) rfl rfl ?_
      show Steps p.tables e below (T41.setTop (mkF m 27 #[.val (.int p0_0), .val (.int p0_1), .val (.int (2 : Int32)), .val (.ref b39), .unset] [(.ref b39)])) _
      refine XS.iloadN X41.here hx rfl (hb hby at_27) rfl ?_
      show Steps p.tables e below (T41.setTop (mkF m 28 #[.val (.int p0_0), .val (.int p0_1), .val (.int (2 : Int32)), .val (.ref b39), .unset] [(.int (2 : Int32)), (.ref b39)])) _
      refine XS.iloadN X41.here hx rfl (hb hby at_28) rfl ?_
      show Steps p.tables e below (T41.setTop (mkF m 29 #[.val (.int p0_0), .val (.int p0_1), .val (.int (2 : Int32)), .val (.ref b39), .unset] [(.int p0_1), (.int (2 : Int32)), (.ref b39)])) _
      refine XS.iconst X41.here hx rfl (hb hby at_29) ?_
      show Steps p.tables e below (T41.setTop (mkF m 30 #[.val (.int p0_0), .val (.int p0_1), .val (.int (2 : Int32)), .val (.ref b39), .unset] [(.int (2 : Int32)), (.int p0_1), (.int (2 : Int32)), (.ref b39)])) _
      refine st42 _ ?_
      show Steps p.tables e below (T42.setTop (mkF m 33 #[.val (.int p0_0), .val (.int p0_1), .val (.int (2 : Int32)), .val (.ref b39), .unset] [])) _
      refine XS.aloadN X42.here hx rfl (hb hby at_33) rfl rfl ?_
      show Steps p.tables e below (T42.setTop (mkF m 34 #[.val (.int p0_0), .val (.int p0_1), .val (.int (2 : Int32)), .val (.ref b39), .unset] [(.ref b39)])) _
      refine XS.iloadN X42.here hx rfl (hb hby at_34) rfl ?_
      show Steps p.tables e below (T42.setTop (mkF m 35 #[.val (.int p0_0), .val (.int p0_1), .val (.int (2 : Int32)), .val (.ref b39), .unset] [(.int (2 : Int32)), (.ref b39)])) _
      refine XS.iloadN X42.here hx rfl (hb hby at_35) rfl ?_
      show Steps p.tables e below (T42.setTop (mkF m 36 #[.val (.int p0_0), .val (.int p0_1), .val (.int (2 : Int32)), .val (.ref b39), .unset] [(.int p0_1), (.int (2 : Int32)), (.ref b39)])) _
      refine XS.iconst X42.here hx rfl (hb hby at_36) ?_
      show Steps p.tables e below (T42.setTop (mkF m 37 #[.val (.int p0_0), .val (.int p0_1), .val (.int (2 : Int32)), .val (.ref b39), .unset] [(.int (3 : Int32)), (.int p0_1), (.int (2 : Int32)), (.ref b39)])) _
      refine st43 _ ?_
      show Steps p.tables e below (T43.setTop (mkF m 40 #[.val (.int p0_0), .val (.int p0_1), .val (.int (2 : Int32)), .val (.ref b39), .unset] [])) _
      refine XS.aloadN X43.here hx rfl (hb hby at_40) rfl rfl ?_
      show Steps p.tables e below (T43.setTop (mkF m 41 #[.val (.int p0_0), .val (.int p0_1), .val (.int (2 : Int32)), .val (.ref b39), .unset] [(.ref b39)])) _
      refine XS.iloadN X43.here hx rfl (hb hby at_41) rfl ?_
      show Steps p.tables e below (T43.setTop (mkF m 42 #[.val (.int p0_0), .val (.int p0_1), .val (.int (2 : Int32)), .val (.ref b39), .unset] [(.int (2 : Int32)), (.ref b39)])) _
      refine XS.iloadN X43.here hx rfl (hb hby at_42) rfl ?_
      show Steps p.tables e below (T43.setTop (mkF m 43 #[.val (.int p0_0), .val (.int p0_1), .val (.int (2 : Int32)), .val (.ref b39), .unset] [(.int p0_1), (.int (2 : Int32)), (.ref b39)])) _
      refine XS.iconst X43.here hx rfl (hb hby at_43) ?_
      show Steps p.tables e below (T43.setTop (mkF m 44 #[.val (.int p0_0), .val (.int p0_1), .val (.int (2 : Int32)), .val (.ref b39), .unset] [(.int (4 : Int32)), (.int p0_1), (.int (2 : Int32)), (.ref b39)])) _
      refine st44 _ ?_
      show Steps p.tables e below (T44.setTop (mkF m 47 #[.val (.int p0_0), .val (.int p0_1), .val (.int (2 : Int32)), .val (.ref b39), .unset] [])) _
      refine XS.aloadN X44.here hx rfl (hb hby at_47) rfl rfl ?_
      show Steps p.tables e below (T44.setTop (mkF m 48 #[.val (.int p0_0), .val (.int p0_1), .val (.int (2 : Int32)), .val (.ref b39), .unset] [(.ref b39)])) _
      refine XS.iloadN X44.here hx rfl (hb hby at_48) rfl ?_
      show Steps p.tables e below (T44.setTop (mkF m 49 #[.val (.int p0_0), .val (.int p0_1), .val (.int (2 : Int32)), .val (.ref b39), .unset] [(.int (2 : Int32)), (.ref b39)])) _
      refine XS.iloadN X44.here hx rfl (hb hby at_49) rfl ?_
      show Steps p.tables e below (T44.setTop (mkF m 50 #[.val (.int p0_0), .val (.int p0_1), .val (.int (2 : Int32)), .val (.ref b39), .unset] [(.int p0_1), (.int (2 : Int32)), (.ref b39)])) _
      refine XS.iconst X44.here hx rfl (hb hby at_50) ?_
      show Steps p.tables e below (T44.setTop (mkF m 51 #[.val (.int p0_0), .val (.int p0_1), .val (.int (2 : Int32)), .val (.ref b39), .unset] [(.int (5 : Int32)), (.int p0_1), (.int (2 : Int32)), (.ref b39)])) _
      refine st45 _ ?_
      show Steps p.tables e below (T45.setTop (mkF m 54 #[.val (.int p0_0), .val (.int p0_1), .val (.int (2 : Int32)), .val (.ref b39), .unset] [])) _
      refine XS.aloadN X45.here hx rfl (hb hby at_54) rfl rfl ?_
      show Steps p.tables e below (T45.setTop (mkF m 55 #[.val (.int p0_0), .val (.int p0_1), .val (.int (2 : Int32)), .val (.ref b39), .unset] [(.ref b39)])) _
      refine st46 _ ?_
      show Steps p.tables e below (T46.setTop (mkF m 58 #[.val (.int p0_0), .val (.int p0_1), .val (.int (2 : Int32)), .val (.ref b39), .unset] [(.ref b32_46)])) _
      refine XS.astore X46.here hx rfl (hb hby at_58) rfl rfl (l' := #[.val (.int p0_0), .val (.int p0_1), .val (.int (2 : Int32)), .val (.ref b39), .val (.ref b32_46)]) rfl ?_
      show Steps p.tables e below (T46.setTop (mkF m 60 #[.val (.int p0_0), .val (.int p0_1), .val (.int (2 : Int32)), .val (.ref b39), .val (.ref b32_46)] [])) _
      refine XS.aload X46.here hx rfl (hb hby at_60) rfl rfl ?_
      show Steps p.tables e below (T46.setTop (mkF m 62 #[.val (.int p0_0), .val (.int p0_1), .val (.int (2 : Int32)), .val (.ref b39), .val (.ref b32_46)] [(.ref b32_46)])) _
      refine XS.ifnullNo X46.here hx rfl (hb hby at_62) rfl ?_
      show Steps p.tables e below (T46.setTop (mkF m 65 #[.val (.int p0_0), .val (.int p0_1), .val (.int (2 : Int32)), .val (.ref b39), .val (.ref b32_46)] [])) _
      refine XS.aload X46.here hx rfl (hb hby at_65) rfl rfl ?_
      show Steps p.tables e below (T46.setTop (mkF m 67 #[.val (.int p0_0), .val (.int p0_1), .val (.int (2 : Int32)), .val (.ref b39), .val (.ref b32_46)] [(.ref b32_46)])) _
      refine X46.arraylength hx Ar49.1 (State.isArrayOf_alike hZ.alike Ar49.2.1) (g := (mkF m 67 #[.val (.int p0_0), .val (.int p0_1), .val (.int (2 : Int32)), .val (.ref b39), .val (.ref b32_46)] [(.ref b32_46)])) rfl rfl (hb hby at_67) _ ?_
      rw [len_of Sz49 Nn49]
      show Steps p.tables e below (T46.setTop (mkF m 68 #[.val (.int p0_0), .val (.int p0_1), .val (.int (2 : Int32)), .val (.ref b39), .val (.ref b32_46)] [(.int (2 : Int32))])) _
      refine XS.iloadN X46.here hx rfl (hb hby at_68) rfl ?_
      show Steps p.tables e below (T46.setTop (mkF m 69 #[.val (.int p0_0), .val (.int p0_1), .val (.int (2 : Int32)), .val (.ref b39), .val (.ref b32_46)] [(.int (2 : Int32)), (.int (2 : Int32))])) _
      refine XS.icmpYes X46.here hx rfl (pc0 := 69) (pc' := 74) rfl (hb hby at_69) rfl (teq (by decide : (2 : Int32) = (2 : Int32))).1 (by decide) (by decide) ?_
      show Steps p.tables e below (T46.setTop (mkF m 74 #[.val (.int p0_0), .val (.int p0_1), .val (.int (2 : Int32)), .val (.ref b39), .val (.ref b32_46)] [])) _
      refine XS.aload X46.here hx rfl (hb hby at_74) rfl rfl ?_
      show Steps p.tables e below (T46.setTop (mkF m 76 #[.val (.int p0_0), .val (.int p0_1), .val (.int (2 : Int32)), .val (.ref b39), .val (.ref b32_46)] [(.ref b32_46)])) _
      refine XS.iloadN X46.here hx rfl (hb hby at_76) rfl ?_
      show Steps p.tables e below (T46.setTop (mkF m 77 #[.val (.int p0_0), .val (.int p0_1), .val (.int (2 : Int32)), .val (.ref b39), .val (.ref b32_46)] [(.int (2 : Int32)), (.ref b32_46)])) _
      refine XS.iloadN X46.here hx rfl (hb hby at_77) rfl ?_
      show Steps p.tables e below (T46.setTop (mkF m 78 #[.val (.int p0_0), .val (.int p0_1), .val (.int (2 : Int32)), .val (.ref b39), .val (.ref b32_46)] [(.int p0_1), (.int (2 : Int32)), (.ref b32_46)])) _
      refine XS.iconst X46.here hx rfl (hb hby at_78) ?_
      show Steps p.tables e below (T46.setTop (mkF m 79 #[.val (.int p0_0), .val (.int p0_1), .val (.int (2 : Int32)), .val (.ref b39), .val (.ref b32_46)] [(.int (0 : Int32)), (.int p0_1), (.int (2 : Int32)), (.ref b32_46)])) _
      refine st50 _ ?_
      show Steps p.tables e below (T50.setTop (mkF m 82 #[.val (.int p0_0), .val (.int p0_1), .val (.int (2 : Int32)), .val (.ref b39), .val (.ref b32_46)] [(.int (own_ok0 p0_1 (own_e (own_bit p0_1 (0 : Int32)) (0 : Int32))))])) _
      refine XS.ifNo X50.here hx rfl (hb hby at_82) rfl ((if0 _ _).trans (feq (by rw [own_okl0]; decide)).1) ?_
      show Steps p.tables e below (T50.setTop (mkF m 85 #[.val (.int p0_0), .val (.int p0_1), .val (.int (2 : Int32)), .val (.ref b39), .val (.ref b32_46)] [])) _
      refine XS.aload X50.here hx rfl (hb hby at_85) rfl rfl ?_
      show Steps p.tables e below (T50.setTop (mkF m 87 #[.val (.int p0_0), .val (.int p0_1), .val (.int (2 : Int32)), .val (.ref b39), .val (.ref b32_46)] [(.ref b32_46)])) _
      refine XS.iloadN X50.here hx rfl (hb hby at_87) rfl ?_
      show Steps p.tables e below (T50.setTop (mkF m 88 #[.val (.int p0_0), .val (.int p0_1), .val (.int (2 : Int32)), .val (.ref b39), .val (.ref b32_46)] [(.int (2 : Int32)), (.ref b32_46)])) _
      refine XS.iloadN X50.here hx rfl (hb hby at_88) rfl ?_
      show Steps p.tables e below (T50.setTop (mkF m 89 #[.val (.int p0_0), .val (.int p0_1), .val (.int (2 : Int32)), .val (.ref b39), .val (.ref b32_46)] [(.int p0_1), (.int (2 : Int32)), (.ref b32_46)])) _
      refine XS.iconst X50.here hx rfl (hb hby at_89) ?_
      show Steps p.tables e below (T50.setTop (mkF m 90 #[.val (.int p0_0), .val (.int p0_1), .val (.int (2 : Int32)), .val (.ref b39), .val (.ref b32_46)] [(.int (1 : Int32)), (.int p0_1), (.int (2 : Int32)), (.ref b32_46)])) _
      refine st51 _ ?_
      show Steps p.tables e below (T51.setTop (mkF m 93 #[.val (.int p0_0), .val (.int p0_1), .val (.int (2 : Int32)), .val (.ref b39), .val (.ref b32_46)] [(.int (own_ok1 p0_1 (own_e (own_bit p0_1 (1 : Int32)) (own_c (own_bit p0_1 (0 : Int32)) (0 : Int32)))))])) _
      refine XS.ifNo X51.here hx rfl (hb hby at_93) rfl ((if0 _ _).trans (feq (by rw [own_okl1]; decide)).1) ?_
      show Steps p.tables e below (T51.setTop (mkF m 96 #[.val (.int p0_0), .val (.int p0_1), .val (.int (2 : Int32)), .val (.ref b39), .val (.ref b32_46)] [])) _
      refine XS.aload X51.here hx rfl (hb hby at_96) rfl rfl ?_
      show Steps p.tables e below (T51.setTop (mkF m 98 #[.val (.int p0_0), .val (.int p0_1), .val (.int (2 : Int32)), .val (.ref b39), .val (.ref b32_46)] [(.ref b32_46)])) _
      refine XS.iloadN X51.here hx rfl (hb hby at_98) rfl ?_
      show Steps p.tables e below (T51.setTop (mkF m 99 #[.val (.int p0_0), .val (.int p0_1), .val (.int (2 : Int32)), .val (.ref b39), .val (.ref b32_46)] [(.int (2 : Int32)), (.ref b32_46)])) _
      refine XS.iloadN X51.here hx rfl (hb hby at_99) rfl ?_
      show Steps p.tables e below (T51.setTop (mkF m 100 #[.val (.int p0_0), .val (.int p0_1), .val (.int (2 : Int32)), .val (.ref b39), .val (.ref b32_46)] [(.int p0_1), (.int (2 : Int32)), (.ref b32_46)])) _
      refine XS.iconst X51.here hx rfl (hb hby at_100) ?_
      show Steps p.tables e below (T51.setTop (mkF m 101 #[.val (.int p0_0), .val (.int p0_1), .val (.int (2 : Int32)), .val (.ref b39), .val (.ref b32_46)] [(.int (2 : Int32)), (.int p0_1), (.int (2 : Int32)), (.ref b32_46)])) _
      refine st52 _ ?_
      show Steps p.tables e below (T52.setTop (mkF m 104 #[.val (.int p0_0), .val (.int p0_1), .val (.int (2 : Int32)), .val (.ref b39), .val (.ref b32_46)] [(.int (1 : Int32))])) _
      refine XS.ifNo X52.here hx rfl (hb hby at_104) rfl ((if0 _ _).trans (feq (by decide : ¬ ((1 : Int32) = (0 : Int32)))).1) ?_
      show Steps p.tables e below (T52.setTop (mkF m 107 #[.val (.int p0_0), .val (.int p0_1), .val (.int (2 : Int32)), .val (.ref b39), .val (.ref b32_46)] [])) _
      refine XS.aload X52.here hx rfl (hb hby at_107) rfl rfl ?_
      show Steps p.tables e below (T52.setTop (mkF m 109 #[.val (.int p0_0), .val (.int p0_1), .val (.int (2 : Int32)), .val (.ref b39), .val (.ref b32_46)] [(.ref b32_46)])) _
      refine XS.iloadN X52.here hx rfl (hb hby at_109) rfl ?_
      show Steps p.tables e below (T52.setTop (mkF m 110 #[.val (.int p0_0), .val (.int p0_1), .val (.int (2 : Int32)), .val (.ref b39), .val (.ref b32_46)] [(.int (2 : Int32)), (.ref b32_46)])) _
      refine XS.iloadN X52.here hx rfl (hb hby at_110) rfl ?_
      show Steps p.tables e below (T52.setTop (mkF m 111 #[.val (.int p0_0), .val (.int p0_1), .val (.int (2 : Int32)), .val (.ref b39), .val (.ref b32_46)] [(.int p0_1), (.int (2 : Int32)), (.ref b32_46)])) _
      refine XS.iconst X52.here hx rfl (hb hby at_111) ?_
      show Steps p.tables e below (T52.setTop (mkF m 112 #[.val (.int p0_0), .val (.int p0_1), .val (.int (2 : Int32)), .val (.ref b39), .val (.ref b32_46)] [(.int (3 : Int32)), (.int p0_1), (.int (2 : Int32)), (.ref b32_46)])) _
      refine st53 _ ?_
      show Steps p.tables e below (T53.setTop (mkF m 115 #[.val (.int p0_0), .val (.int p0_1), .val (.int (2 : Int32)), .val (.ref b39), .val (.ref b32_46)] [(.int (1 : Int32))])) _
      refine XS.ifNo X53.here hx rfl (hb hby at_115) rfl ((if0 _ _).trans (feq (by decide : ¬ ((1 : Int32) = (0 : Int32)))).1) ?_
      show Steps p.tables e below (T53.setTop (mkF m 118 #[.val (.int p0_0), .val (.int p0_1), .val (.int (2 : Int32)), .val (.ref b39), .val (.ref b32_46)] [])) _
      refine XS.aload X53.here hx rfl (hb hby at_118) rfl rfl ?_
      show Steps p.tables e below (T53.setTop (mkF m 120 #[.val (.int p0_0), .val (.int p0_1), .val (.int (2 : Int32)), .val (.ref b39), .val (.ref b32_46)] [(.ref b32_46)])) _
      refine XS.iloadN X53.here hx rfl (hb hby at_120) rfl ?_
      show Steps p.tables e below (T53.setTop (mkF m 121 #[.val (.int p0_0), .val (.int p0_1), .val (.int (2 : Int32)), .val (.ref b39), .val (.ref b32_46)] [(.int (2 : Int32)), (.ref b32_46)])) _
      refine XS.iloadN X53.here hx rfl (hb hby at_121) rfl ?_
      show Steps p.tables e below (T53.setTop (mkF m 122 #[.val (.int p0_0), .val (.int p0_1), .val (.int (2 : Int32)), .val (.ref b39), .val (.ref b32_46)] [(.int p0_1), (.int (2 : Int32)), (.ref b32_46)])) _
      refine XS.iconst X53.here hx rfl (hb hby at_122) ?_
      show Steps p.tables e below (T53.setTop (mkF m 123 #[.val (.int p0_0), .val (.int p0_1), .val (.int (2 : Int32)), .val (.ref b39), .val (.ref b32_46)] [(.int (4 : Int32)), (.int p0_1), (.int (2 : Int32)), (.ref b32_46)])) _
      refine st54 _ ?_
      show Steps p.tables e below (T54.setTop (mkF m 126 #[.val (.int p0_0), .val (.int p0_1), .val (.int (2 : Int32)), .val (.ref b39), .val (.ref b32_46)] [(.int (1 : Int32))])) _
      refine XS.ifNo X54.here hx rfl (hb hby at_126) rfl ((if0 _ _).trans (feq (by decide : ¬ ((1 : Int32) = (0 : Int32)))).1) ?_
      show Steps p.tables e below (T54.setTop (mkF m 129 #[.val (.int p0_0), .val (.int p0_1), .val (.int (2 : Int32)), .val (.ref b39), .val (.ref b32_46)] [])) _
      refine XS.aload X54.here hx rfl (hb hby at_129) rfl rfl ?_
      show Steps p.tables e below (T54.setTop (mkF m 131 #[.val (.int p0_0), .val (.int p0_1), .val (.int (2 : Int32)), .val (.ref b39), .val (.ref b32_46)] [(.ref b32_46)])) _
      refine XS.iloadN X54.here hx rfl (hb hby at_131) rfl ?_
      show Steps p.tables e below (T54.setTop (mkF m 132 #[.val (.int p0_0), .val (.int p0_1), .val (.int (2 : Int32)), .val (.ref b39), .val (.ref b32_46)] [(.int (2 : Int32)), (.ref b32_46)])) _
      refine XS.iloadN X54.here hx rfl (hb hby at_132) rfl ?_
      show Steps p.tables e below (T54.setTop (mkF m 133 #[.val (.int p0_0), .val (.int p0_1), .val (.int (2 : Int32)), .val (.ref b39), .val (.ref b32_46)] [(.int p0_1), (.int (2 : Int32)), (.ref b32_46)])) _
      refine XS.iconst X54.here hx rfl (hb hby at_133) ?_
      show Steps p.tables e below (T54.setTop (mkF m 134 #[.val (.int p0_0), .val (.int p0_1), .val (.int (2 : Int32)), .val (.ref b39), .val (.ref b32_46)] [(.int (5 : Int32)), (.int p0_1), (.int (2 : Int32)), (.ref b32_46)])) _
      refine st55 _ ?_
      show Steps p.tables e below (T55.setTop (mkF m 137 #[.val (.int p0_0), .val (.int p0_1), .val (.int (2 : Int32)), .val (.ref b39), .val (.ref b32_46)] [(.int (1 : Int32))])) _
      refine XS.ifNo X55.here hx rfl (hb hby at_137) rfl ((if0 _ _).trans (feq (by decide : ¬ ((1 : Int32) = (0 : Int32)))).1) ?_
      show Steps p.tables e below (T55.setTop (mkF m 140 #[.val (.int p0_0), .val (.int p0_1), .val (.int (2 : Int32)), .val (.ref b39), .val (.ref b32_46)] [])) _
      refine XS.iconst X55.here hx rfl (hb hby at_140) ?_
      show Steps p.tables e below (T55.setTop (mkF m 141 #[.val (.int p0_0), .val (.int p0_1), .val (.int (2 : Int32)), .val (.ref b39), .val (.ref b32_46)] [(.int (1 : Int32))])) _
      refine XS.goto X55.here hx rfl (pc0 := 141) (pc' := 145) rfl (hb hby at_141) (by decide) (by decide) ?_
      exact k
    obtain ⟨fs, hr, hrun, hended, hW, hsame⟩ := X55.leave (v := some (.int (1 : Int32))) (fun h => by rw [Bd.returns] at h; cases h)
    refine ⟨_, _, k56 _ ?_, hrun, hended, _, _, rfl, ?_, ⟨_, rfl⟩, hW, hsame.mono (by decide) (by decide)⟩
    · exact retN X55 hx (t := .boolean) Bd.returns (by simp) (hb hby at_145) hr
    · show Q0 Z p0_0 p0_1 h0 n0 _ T55.heap _
      rw [eh55]
      exact ⟨rfl, N55⟩
  · skip
    obtain ⟨b57, g57⟩ : ∃ z, z = h0.size := ⟨_, rfl⟩
    obtain ⟨T57, h57, k57, X57, e57, E57, A57, st57⟩ := newP X0 hx hZ (hw _ (List.mem_of_getElem? (i := 1) rfl)) e0 (g := (mkF m 9 #[.val (.int p0_0), .val (.int p0_1), .val (.int (3 : Int32)), .unset, .unset] [(.int (3 : Int32))])) rfl (hb hby at_9) rfl (by decide) (cap := 3) (by decide) (by decide) (by decide) (by decide)
    rw [← g57] at A57 st57
    have gg57 : n0 ≤ b57 := Nat.le_trans Z0 (Nat.le_of_eq g57.symm)
    have Zs57 : n0 ≤ h57.size := Nat.le_trans Z0 E57.1
    have V57 : Arv Z h57 b57 k57 .boolean (3 : Int32) [(.int (0 : Int32)), (.int (0 : Int32)), (.int (0 : Int32)), (.int (0 : Int32)), (.int (0 : Int32)), (.int (0 : Int32))] (.int (0 : Int32)) := (Arv.new A57 (by decide)).pad (pad_rep [] (.int (0 : Int32)) 6)
    obtain ⟨_, _, ⟨T58, L58, k58, n58⟩, -, X58, ⟨Lc58, hQ58, l58, y58, z58⟩, st58⟩ := Jvm.LawKit.callS X57 hx (y := (⟨"com/example/leanweave/leanweave/NetworkNumberingPinLaw", "set", "([ZIII)V"⟩ : MethodName)) hown (mvT hZ (hw _ (List.mem_of_getElem? (i := 2) rfl))) (mvT hZ (hw _ (List.mem_of_getElem? (i := 3) rfl))) (mvT hZ (hw _ (List.mem_of_getElem? (i := 4) rfl))) (mvT hZ (hw _ (List.mem_of_getElem? (i := 5) rfl))) (by decide) (backOf (W := 0) (rm20 l Z a0 hw [] b57 (3 : Int32) p0_1 k57 (3 : Int32) (.int (0 : Int32)) (.int (0 : Int32)) (.int (0 : Int32)) (.int (0 : Int32)) (.int (0 : Int32)) (.int (0 : Int32)) h57 n0 Zs57 V57 (by decide : (0 : Int32) < (3 : Int32)) (by decide : (0 : Int32) < (3 : Int32)) gg57) hZ (hw _ (List.mem_of_getElem? (i := 5) rfl)) (hw _ (List.mem_of_getElem? (i := 4) rfl)) (by decide) (by decide)) (g := (mkF m 16 #[.val (.int p0_0), .val (.int p0_1), .val (.int (3 : Int32)), .val (.ref b57), .unset] [(.int (0 : Int32)), (.int p0_1), (.int (3 : Int32)), (.ref b57)])) rfl (by rw [hml]; rfl) (argsL := [(.ref b57), (.int (3 : Int32)), (.int p0_1), (.int (0 : Int32))]) (rest := []) (lenOf pd_1 rfl) rfl (by show 2 * 0 + _ ≤ _; exact Nat.le_of_eq rfl) (hb hby at_16) (fun _ _ => ⟨rfl, e57, (by decide : 1 + 0 ≤ _), (by decide : 3 + 0 ≤ _)⟩)
    dsimp only [Pt.U, Pt.locs, Pt.cells, Pt.slots] at X58 l58 y58 z58 st58 hQ58
    subst l58 y58 z58
    obtain ⟨rfl, N58q, Kc58, G58_0⟩ := hQ58
    have Zs58 : n0 ≤ T58.heap.size := Nat.le_trans Zs57 Kc58.1
    have N58 := Fr.app N0 N58q
    obtain ⟨_, _, ⟨T59, L59, k59, n59⟩, -, X59, ⟨Lc59, hQ59, l59, y59, z59⟩, st59⟩ := Jvm.LawKit.callS X58 hx (y := (⟨"com/example/leanweave/leanweave/NetworkNumberingPinLaw", "set", "([ZIII)V"⟩ : MethodName)) hown (mvT hZ (hw _ (List.mem_of_getElem? (i := 2) rfl))) (mvT hZ (hw _ (List.mem_of_getElem? (i := 3) rfl))) (mvT hZ (hw _ (List.mem_of_getElem? (i := 4) rfl))) (mvT hZ (hw _ (List.mem_of_getElem? (i := 5) rfl))) (by decide) (backOf (W := 0) (rm21 l Z a0 hw [] b57 (3 : Int32) p0_1 k57 (3 : Int32) (.int (own_bit p0_1 (0 : Int32))) (.int (0 : Int32)) (.int (0 : Int32)) (.int (0 : Int32)) (.int (0 : Int32)) (.int (0 : Int32)) T58.heap n0 Zs58 G58_0 (by decide : (1 : Int32) < (3 : Int32)) (by decide : (1 : Int32) < (3 : Int32)) gg57) hZ (hw _ (List.mem_of_getElem? (i := 5) rfl)) (hw _ (List.mem_of_getElem? (i := 4) rfl)) (by decide) (by decide)) (g := (mkF m 23 #[.val (.int p0_0), .val (.int p0_1), .val (.int (3 : Int32)), .val (.ref b57), .unset] [(.int (1 : Int32)), (.int p0_1), (.int (3 : Int32)), (.ref b57)])) rfl (by rw [hml]; rfl) (argsL := [(.ref b57), (.int (3 : Int32)), (.int p0_1), (.int (1 : Int32))]) (rest := []) (lenOf pd_1 rfl) rfl (by show 2 * 0 + _ ≤ _; exact Nat.le_of_eq rfl) (hb hby at_23) (fun _ _ => ⟨rfl, rfl, (by decide : 1 + 0 ≤ _), (by decide : 3 + 0 ≤ _)⟩)
    dsimp only [Pt.U, Pt.locs, Pt.cells, Pt.slots] at X59 l59 y59 z59 st59 hQ59
    subst l59 y59 z59
    obtain ⟨rfl, N59q, Kc59, G59_0⟩ := hQ59
    have Zs59 : n0 ≤ T59.heap.size := Nat.le_trans Zs58 Kc59.1
    have N59 := Fr.app N58 N59q
    obtain ⟨_, _, ⟨T60, L60, k60, n60⟩, -, X60, ⟨Lc60, hQ60, l60, y60, z60⟩, st60⟩ := Jvm.LawKit.callS X59 hx (y := (⟨"com/example/leanweave/leanweave/NetworkNumberingPinLaw", "set", "([ZIII)V"⟩ : MethodName)) hown (mvT hZ (hw _ (List.mem_of_getElem? (i := 2) rfl))) (mvT hZ (hw _ (List.mem_of_getElem? (i := 3) rfl))) (mvT hZ (hw _ (List.mem_of_getElem? (i := 4) rfl))) (mvT hZ (hw _ (List.mem_of_getElem? (i := 5) rfl))) (by decide) (backOf (W := 0) (rm22 l Z a0 hw [] b57 (3 : Int32) p0_1 k57 (3 : Int32) (.int (own_bit p0_1 (0 : Int32))) (.int (own_bit p0_1 (1 : Int32))) (.int (0 : Int32)) (.int (0 : Int32)) (.int (0 : Int32)) (.int (0 : Int32)) T59.heap n0 Zs59 G59_0 (by decide : (2 : Int32) < (3 : Int32)) (by decide : (2 : Int32) < (3 : Int32)) gg57) hZ (hw _ (List.mem_of_getElem? (i := 5) rfl)) (hw _ (List.mem_of_getElem? (i := 4) rfl)) (by decide) (by decide)) (g := (mkF m 30 #[.val (.int p0_0), .val (.int p0_1), .val (.int (3 : Int32)), .val (.ref b57), .unset] [(.int (2 : Int32)), (.int p0_1), (.int (3 : Int32)), (.ref b57)])) rfl (by rw [hml]; rfl) (argsL := [(.ref b57), (.int (3 : Int32)), (.int p0_1), (.int (2 : Int32))]) (rest := []) (lenOf pd_1 rfl) rfl (by show 2 * 0 + _ ≤ _; exact Nat.le_of_eq rfl) (hb hby at_30) (fun _ _ => ⟨rfl, rfl, (by decide : 1 + 0 ≤ _), (by decide : 3 + 0 ≤ _)⟩)
    dsimp only [Pt.U, Pt.locs, Pt.cells, Pt.slots] at X60 l60 y60 z60 st60 hQ60
    subst l60 y60 z60
    obtain ⟨rfl, N60q, Kc60, G60_0⟩ := hQ60
    have Zs60 : n0 ≤ T60.heap.size := Nat.le_trans Zs59 Kc60.1
    have N60 := Fr.app N59 N60q
    obtain ⟨_, _, ⟨T61, L61, k61, n61⟩, -, X61, ⟨Lc61, hQ61, l61, y61, z61⟩, st61⟩ := Jvm.LawKit.callS X60 hx (y := (⟨"com/example/leanweave/leanweave/NetworkNumberingPinLaw", "set", "([ZIII)V"⟩ : MethodName)) hown (mvT hZ (hw _ (List.mem_of_getElem? (i := 2) rfl))) (mvT hZ (hw _ (List.mem_of_getElem? (i := 3) rfl))) (mvT hZ (hw _ (List.mem_of_getElem? (i := 4) rfl))) (mvT hZ (hw _ (List.mem_of_getElem? (i := 5) rfl))) (by decide) (backOf (W := 0) (rm1 l Z a0 hw [] b57 (3 : Int32) p0_1 (3 : Int32) T60.heap n0 Zs60 (by decide : ¬ ((3 : Int32) < (3 : Int32)))) hZ (hw _ (List.mem_of_getElem? (i := 5) rfl)) (hw _ (List.mem_of_getElem? (i := 4) rfl)) (by decide) (by decide)) (g := (mkF m 37 #[.val (.int p0_0), .val (.int p0_1), .val (.int (3 : Int32)), .val (.ref b57), .unset] [(.int (3 : Int32)), (.int p0_1), (.int (3 : Int32)), (.ref b57)])) rfl (by rw [hml]; rfl) (argsL := [(.ref b57), (.int (3 : Int32)), (.int p0_1), (.int (3 : Int32))]) (rest := []) (lenOf pd_1 rfl) rfl (by show 2 * 0 + _ ≤ _; exact Nat.le_of_eq rfl) (hb hby at_37) (fun _ _ => ⟨rfl, rfl, (by decide : 1 + 0 ≤ _), (by decide : 3 + 0 ≤ _)⟩)
    dsimp only [Pt.U, Pt.locs, Pt.cells, Pt.slots] at X61 l61 y61 z61 st61 hQ61
    subst l61 y61 z61
    obtain ⟨rfl, N61q, eh61⟩ := hQ61
    have N61 := Fr.app N60 N61q
    obtain ⟨_, _, ⟨T62, L62, k62, n62⟩, -, X62, ⟨Lc62, hQ62, l62, y62, z62⟩, st62⟩ := Jvm.LawKit.callS X61 hx (y := (⟨"com/example/leanweave/leanweave/NetworkNumberingPinLaw", "set", "([ZIII)V"⟩ : MethodName)) hown (mvT hZ (hw _ (List.mem_of_getElem? (i := 2) rfl))) (mvT hZ (hw _ (List.mem_of_getElem? (i := 3) rfl))) (mvT hZ (hw _ (List.mem_of_getElem? (i := 4) rfl))) (mvT hZ (hw _ (List.mem_of_getElem? (i := 5) rfl))) (by decide) (backOf (W := 0) (rm1 l Z a0 hw [] b57 (3 : Int32) p0_1 (4 : Int32) T60.heap n0 Zs60 (by decide : ¬ ((4 : Int32) < (3 : Int32)))) hZ (hw _ (List.mem_of_getElem? (i := 5) rfl)) (hw _ (List.mem_of_getElem? (i := 4) rfl)) (by decide) (by decide)) (g := (mkF m 44 #[.val (.int p0_0), .val (.int p0_1), .val (.int (3 : Int32)), .val (.ref b57), .unset] [(.int (4 : Int32)), (.int p0_1), (.int (3 : Int32)), (.ref b57)])) rfl (by rw [hml]; rfl) (argsL := [(.ref b57), (.int (3 : Int32)), (.int p0_1), (.int (4 : Int32))]) (rest := []) (lenOf pd_1 rfl) rfl (by show 2 * 0 + _ ≤ _; exact Nat.le_of_eq rfl) (hb hby at_44) (fun _ _ => ⟨rfl, eh61, (by decide : 1 + 0 ≤ _), (by decide : 3 + 0 ≤ _)⟩)
    dsimp only [Pt.U, Pt.locs, Pt.cells, Pt.slots] at X62 l62 y62 z62 st62 hQ62
    subst l62 y62 z62
    obtain ⟨rfl, N62q, eh62⟩ := hQ62
    have N62 := Fr.app N61 N62q
    obtain ⟨_, _, ⟨T63, L63, k63, n63⟩, -, X63, ⟨Lc63, hQ63, l63, y63, z63⟩, st63⟩ := Jvm.LawKit.callS X62 hx (y := (⟨"com/example/leanweave/leanweave/NetworkNumberingPinLaw", "set", "([ZIII)V"⟩ : MethodName)) hown (mvT hZ (hw _ (List.mem_of_getElem? (i := 2) rfl))) (mvT hZ (hw _ (List.mem_of_getElem? (i := 3) rfl))) (mvT hZ (hw _ (List.mem_of_getElem? (i := 4) rfl))) (mvT hZ (hw _ (List.mem_of_getElem? (i := 5) rfl))) (by decide) (backOf (W := 0) (rm1 l Z a0 hw [] b57 (3 : Int32) p0_1 (5 : Int32) T60.heap n0 Zs60 (by decide : ¬ ((5 : Int32) < (3 : Int32)))) hZ (hw _ (List.mem_of_getElem? (i := 5) rfl)) (hw _ (List.mem_of_getElem? (i := 4) rfl)) (by decide) (by decide)) (g := (mkF m 51 #[.val (.int p0_0), .val (.int p0_1), .val (.int (3 : Int32)), .val (.ref b57), .unset] [(.int (5 : Int32)), (.int p0_1), (.int (3 : Int32)), (.ref b57)])) rfl (by rw [hml]; rfl) (argsL := [(.ref b57), (.int (3 : Int32)), (.int p0_1), (.int (5 : Int32))]) (rest := []) (lenOf pd_1 rfl) rfl (by show 2 * 0 + _ ≤ _; exact Nat.le_of_eq rfl) (hb hby at_51) (fun _ _ => ⟨rfl, eh62, (by decide : 1 + 0 ≤ _), (by decide : 3 + 0 ≤ _)⟩)
    dsimp only [Pt.U, Pt.locs, Pt.cells, Pt.slots] at X63 l63 y63 z63 st63 hQ63
    subst l63 y63 z63
    obtain ⟨rfl, N63q, eh63⟩ := hQ63
    have N63 := Fr.app N62 N63q
    obtain ⟨_, _, ⟨T64, L64, k64, n64⟩, -, X64, ⟨Lc64, hQ64, l64, y64, z64⟩, st64⟩ := Jvm.LawKit.callS X63 hx (y := (⟨"com/example/leanweave/leanweave/Network", "numbering", "([Z)[I"⟩ : MethodName)) hown (mvT hZ (hw _ (List.mem_of_getElem? (i := 6) rfl))) (mvT hZ (hw _ (List.mem_of_getElem? (i := 7) rfl))) (mvT hZ (hw _ (List.mem_of_getElem? (i := 8) rfl))) (mvT hZ (hw _ (List.mem_of_getElem? (i := 9) rfl))) (by decide) (backOf (W := 0) (rm33 l Z a0 hw [] b57 k57 (own_bit p0_1 (0 : Int32)) (own_bit p0_1 (1 : Int32)) (own_bit p0_1 (2 : Int32)) (0 : Int32) (0 : Int32) (0 : Int32) T60.heap n0 Zs60 G60_0) hZ (hw _ (List.mem_of_getElem? (i := 9) rfl)) (hw _ (List.mem_of_getElem? (i := 8) rfl)) (by decide) (by decide)) (g := (mkF m 55 #[.val (.int p0_0), .val (.int p0_1), .val (.int (3 : Int32)), .val (.ref b57), .unset] [(.ref b57)])) rfl (by rw [hml]; rfl) (argsL := [(.ref b57)]) (rest := []) (lenOf pd_2 rfl) rfl (by show 2 * 0 + _ ≤ _; exact Nat.le_of_eq rfl) (hb hby at_55) (fun _ _ => ⟨rfl, eh63, (by decide : 1 + 1 ≤ _), (by decide : 3 + 3 ≤ _)⟩)
    dsimp only [Pt.U, Pt.locs, Pt.cells, Pt.slots] at X64 l64 y64 z64 st64 hQ64
    subst l64 y64 z64
    obtain ⟨b33_64, kn33_64, rfl, N64q, Kc64, ggb33_64, szb33_64, G64_0⟩ := hQ64
    have ne65 : b57 ≠ b33_64 := Nat.ne_of_lt (Nat.lt_of_lt_of_le G60_0.lt szb33_64)
    have Zs64 : n0 ≤ T64.heap.size := Nat.le_trans Zs60 Kc64.1
    have F66 : Arv Z T64.heap b57 k57 .boolean (3 : Int32) [(.int (own_bit p0_1 (0 : Int32))), (.int (own_bit p0_1 (1 : Int32))), (.int (own_bit p0_1 (2 : Int32))), (.int (0 : Int32)), (.int (0 : Int32)), (.int (0 : Int32))] (.int (0 : Int32)) := G60_0.keep Kc64 nin0
    have N64 := Fr.app N63 N64q
    obtain ⟨cl67, Ar67, qc67, Sz67, Nn67, Hh67, Gg67⟩ := (id G64_0)
    obtain ⟨_, _, ⟨T68, L68, k68, n68⟩, -, X68, ⟨Lc68, hQ68, l68, y68, z68⟩, st68⟩ := Jvm.LawKit.callS X64 hx (y := (⟨"com/example/leanweave/leanweave/NetworkNumberingPinLaw", "ok", "([IIII)Z"⟩ : MethodName)) hown (mvT hZ (hw _ (List.mem_of_getElem? (i := 11) rfl))) (mvT hZ (hw _ (List.mem_of_getElem? (i := 12) rfl))) (mvT hZ (hw _ (List.mem_of_getElem? (i := 4) rfl))) (mvT hZ (hw _ (List.mem_of_getElem? (i := 13) rfl))) (by decide) (backOf (W := 0) (rm60 l Z a0 hw [] b33_64 (3 : Int32) p0_1 kn33_64 (3 : Int32) (own_e (own_bit p0_1 (0 : Int32)) (0 : Int32)) (own_e (own_bit p0_1 (1 : Int32)) (own_c (own_bit p0_1 (0 : Int32)) (0 : Int32))) (own_e (own_bit p0_1 (2 : Int32)) (own_c (own_bit p0_1 (1 : Int32)) (own_c (own_bit p0_1 (0 : Int32)) (0 : Int32)))) (0 : Int32) (0 : Int32) (0 : Int32) T64.heap n0 Zs64 G64_0 (by decide : (0 : Int32) < (3 : Int32)) (by decide : (0 : Int32) < (3 : Int32))) hZ (hw _ (List.mem_of_getElem? (i := 13) rfl)) (hw _ (List.mem_of_getElem? (i := 4) rfl)) (by decide) (by decide)) (g := (mkF m 79 #[.val (.int p0_0), .val (.int p0_1), .val (.int (3 : Int32)), .val (.ref b57), .val (.ref b33_64)] [(.int (0 : Int32)), (.int p0_1), (.int (3 : Int32)), (.ref b33_64)])) rfl (by rw [hml]; rfl) (argsL := [(.ref b33_64), (.int (3 : Int32)), (.int p0_1), (.int (0 : Int32))]) (rest := []) (lenOf pd_3 rfl) rfl (by show 2 * 0 + _ ≤ _; exact Nat.le_of_eq rfl) (hb hby at_79) (fun _ _ => ⟨rfl, rfl, (by decide : 2 + 0 ≤ _), (by decide : 6 + 0 ≤ _)⟩)
    dsimp only [Pt.U, Pt.locs, Pt.cells, Pt.slots] at X68 l68 y68 z68 st68 hQ68
    subst l68 y68 z68
    obtain ⟨rfl, N68q, eh68⟩ := hQ68
    have N68 := Fr.app N64 N68q
    obtain ⟨_, _, ⟨T69, L69, k69, n69⟩, -, X69, ⟨Lc69, hQ69, l69, y69, z69⟩, st69⟩ := Jvm.LawKit.callS X68 hx (y := (⟨"com/example/leanweave/leanweave/NetworkNumberingPinLaw", "ok", "([IIII)Z"⟩ : MethodName)) hown (mvT hZ (hw _ (List.mem_of_getElem? (i := 11) rfl))) (mvT hZ (hw _ (List.mem_of_getElem? (i := 12) rfl))) (mvT hZ (hw _ (List.mem_of_getElem? (i := 4) rfl))) (mvT hZ (hw _ (List.mem_of_getElem? (i := 13) rfl))) (by decide) (backOf (W := 0) (rm61 l Z a0 hw [] b33_64 (3 : Int32) p0_1 kn33_64 (3 : Int32) (own_e (own_bit p0_1 (0 : Int32)) (0 : Int32)) (own_e (own_bit p0_1 (1 : Int32)) (own_c (own_bit p0_1 (0 : Int32)) (0 : Int32))) (own_e (own_bit p0_1 (2 : Int32)) (own_c (own_bit p0_1 (1 : Int32)) (own_c (own_bit p0_1 (0 : Int32)) (0 : Int32)))) (0 : Int32) (0 : Int32) (0 : Int32) T64.heap n0 Zs64 G64_0 (by decide : (1 : Int32) < (3 : Int32)) (by decide : (1 : Int32) < (3 : Int32))) hZ (hw _ (List.mem_of_getElem? (i := 13) rfl)) (hw _ (List.mem_of_getElem? (i := 4) rfl)) (by decide) (by decide)) (g := (mkF m 90 #[.val (.int p0_0), .val (.int p0_1), .val (.int (3 : Int32)), .val (.ref b57), .val (.ref b33_64)] [(.int (1 : Int32)), (.int p0_1), (.int (3 : Int32)), (.ref b33_64)])) rfl (by rw [hml]; rfl) (argsL := [(.ref b33_64), (.int (3 : Int32)), (.int p0_1), (.int (1 : Int32))]) (rest := []) (lenOf pd_3 rfl) rfl (by show 2 * 0 + _ ≤ _; exact Nat.le_of_eq rfl) (hb hby at_90) (fun _ _ => ⟨rfl, eh68, (by decide : 2 + 0 ≤ _), (by decide : 6 + 0 ≤ _)⟩)
    dsimp only [Pt.U, Pt.locs, Pt.cells, Pt.slots] at X69 l69 y69 z69 st69 hQ69
    subst l69 y69 z69
    obtain ⟨rfl, N69q, eh69⟩ := hQ69
    have N69 := Fr.app N68 N69q
    obtain ⟨_, _, ⟨T70, L70, k70, n70⟩, -, X70, ⟨Lc70, hQ70, l70, y70, z70⟩, st70⟩ := Jvm.LawKit.callS X69 hx (y := (⟨"com/example/leanweave/leanweave/NetworkNumberingPinLaw", "ok", "([IIII)Z"⟩ : MethodName)) hown (mvT hZ (hw _ (List.mem_of_getElem? (i := 11) rfl))) (mvT hZ (hw _ (List.mem_of_getElem? (i := 12) rfl))) (mvT hZ (hw _ (List.mem_of_getElem? (i := 4) rfl))) (mvT hZ (hw _ (List.mem_of_getElem? (i := 13) rfl))) (by decide) (backOf (W := 0) (rm62 l Z a0 hw [] b33_64 (3 : Int32) p0_1 kn33_64 (3 : Int32) (own_e (own_bit p0_1 (0 : Int32)) (0 : Int32)) (own_e (own_bit p0_1 (1 : Int32)) (own_c (own_bit p0_1 (0 : Int32)) (0 : Int32))) (own_e (own_bit p0_1 (2 : Int32)) (own_c (own_bit p0_1 (1 : Int32)) (own_c (own_bit p0_1 (0 : Int32)) (0 : Int32)))) (0 : Int32) (0 : Int32) (0 : Int32) T64.heap n0 Zs64 G64_0 (by decide : (2 : Int32) < (3 : Int32)) (by decide : (2 : Int32) < (3 : Int32))) hZ (hw _ (List.mem_of_getElem? (i := 13) rfl)) (hw _ (List.mem_of_getElem? (i := 4) rfl)) (by decide) (by decide)) (g := (mkF m 101 #[.val (.int p0_0), .val (.int p0_1), .val (.int (3 : Int32)), .val (.ref b57), .val (.ref b33_64)] [(.int (2 : Int32)), (.int p0_1), (.int (3 : Int32)), (.ref b33_64)])) rfl (by rw [hml]; rfl) (argsL := [(.ref b33_64), (.int (3 : Int32)), (.int p0_1), (.int (2 : Int32))]) (rest := []) (lenOf pd_3 rfl) rfl (by show 2 * 0 + _ ≤ _; exact Nat.le_of_eq rfl) (hb hby at_101) (fun _ _ => ⟨rfl, eh69, (by decide : 2 + 0 ≤ _), (by decide : 6 + 0 ≤ _)⟩)
    dsimp only [Pt.U, Pt.locs, Pt.cells, Pt.slots] at X70 l70 y70 z70 st70 hQ70
    subst l70 y70 z70
    obtain ⟨rfl, N70q, eh70⟩ := hQ70
    have N70 := Fr.app N69 N70q
    obtain ⟨_, _, ⟨T71, L71, k71, n71⟩, -, X71, ⟨Lc71, hQ71, l71, y71, z71⟩, st71⟩ := Jvm.LawKit.callS X70 hx (y := (⟨"com/example/leanweave/leanweave/NetworkNumberingPinLaw", "ok", "([IIII)Z"⟩ : MethodName)) hown (mvT hZ (hw _ (List.mem_of_getElem? (i := 11) rfl))) (mvT hZ (hw _ (List.mem_of_getElem? (i := 12) rfl))) (mvT hZ (hw _ (List.mem_of_getElem? (i := 4) rfl))) (mvT hZ (hw _ (List.mem_of_getElem? (i := 13) rfl))) (by decide) (backOf (W := 0) (rm5 l Z a0 hw [] b33_64 (3 : Int32) p0_1 (3 : Int32) T64.heap n0 Zs64 (by decide : ¬ ((3 : Int32) < (3 : Int32)))) hZ (hw _ (List.mem_of_getElem? (i := 13) rfl)) (hw _ (List.mem_of_getElem? (i := 4) rfl)) (by decide) (by decide)) (g := (mkF m 112 #[.val (.int p0_0), .val (.int p0_1), .val (.int (3 : Int32)), .val (.ref b57), .val (.ref b33_64)] [(.int (3 : Int32)), (.int p0_1), (.int (3 : Int32)), (.ref b33_64)])) rfl (by rw [hml]; rfl) (argsL := [(.ref b33_64), (.int (3 : Int32)), (.int p0_1), (.int (3 : Int32))]) (rest := []) (lenOf pd_3 rfl) rfl (by show 2 * 0 + _ ≤ _; exact Nat.le_of_eq rfl) (hb hby at_112) (fun _ _ => ⟨rfl, eh70, (by decide : 2 + 0 ≤ _), (by decide : 6 + 0 ≤ _)⟩)
    dsimp only [Pt.U, Pt.locs, Pt.cells, Pt.slots] at X71 l71 y71 z71 st71 hQ71
    subst l71 y71 z71
    obtain ⟨rfl, N71q, eh71⟩ := hQ71
    have N71 := Fr.app N70 N71q
    obtain ⟨_, _, ⟨T72, L72, k72, n72⟩, -, X72, ⟨Lc72, hQ72, l72, y72, z72⟩, st72⟩ := Jvm.LawKit.callS X71 hx (y := (⟨"com/example/leanweave/leanweave/NetworkNumberingPinLaw", "ok", "([IIII)Z"⟩ : MethodName)) hown (mvT hZ (hw _ (List.mem_of_getElem? (i := 11) rfl))) (mvT hZ (hw _ (List.mem_of_getElem? (i := 12) rfl))) (mvT hZ (hw _ (List.mem_of_getElem? (i := 4) rfl))) (mvT hZ (hw _ (List.mem_of_getElem? (i := 13) rfl))) (by decide) (backOf (W := 0) (rm5 l Z a0 hw [] b33_64 (3 : Int32) p0_1 (4 : Int32) T64.heap n0 Zs64 (by decide : ¬ ((4 : Int32) < (3 : Int32)))) hZ (hw _ (List.mem_of_getElem? (i := 13) rfl)) (hw _ (List.mem_of_getElem? (i := 4) rfl)) (by decide) (by decide)) (g := (mkF m 123 #[.val (.int p0_0), .val (.int p0_1), .val (.int (3 : Int32)), .val (.ref b57), .val (.ref b33_64)] [(.int (4 : Int32)), (.int p0_1), (.int (3 : Int32)), (.ref b33_64)])) rfl (by rw [hml]; rfl) (argsL := [(.ref b33_64), (.int (3 : Int32)), (.int p0_1), (.int (4 : Int32))]) (rest := []) (lenOf pd_3 rfl) rfl (by show 2 * 0 + _ ≤ _; exact Nat.le_of_eq rfl) (hb hby at_123) (fun _ _ => ⟨rfl, eh71, (by decide : 2 + 0 ≤ _), (by decide : 6 + 0 ≤ _)⟩)
    dsimp only [Pt.U, Pt.locs, Pt.cells, Pt.slots] at X72 l72 y72 z72 st72 hQ72
    subst l72 y72 z72
    obtain ⟨rfl, N72q, eh72⟩ := hQ72
    have N72 := Fr.app N71 N72q
    obtain ⟨_, _, ⟨T73, L73, k73, n73⟩, -, X73, ⟨Lc73, hQ73, l73, y73, z73⟩, st73⟩ := Jvm.LawKit.callS X72 hx (y := (⟨"com/example/leanweave/leanweave/NetworkNumberingPinLaw", "ok", "([IIII)Z"⟩ : MethodName)) hown (mvT hZ (hw _ (List.mem_of_getElem? (i := 11) rfl))) (mvT hZ (hw _ (List.mem_of_getElem? (i := 12) rfl))) (mvT hZ (hw _ (List.mem_of_getElem? (i := 4) rfl))) (mvT hZ (hw _ (List.mem_of_getElem? (i := 13) rfl))) (by decide) (backOf (W := 0) (rm5 l Z a0 hw [] b33_64 (3 : Int32) p0_1 (5 : Int32) T64.heap n0 Zs64 (by decide : ¬ ((5 : Int32) < (3 : Int32)))) hZ (hw _ (List.mem_of_getElem? (i := 13) rfl)) (hw _ (List.mem_of_getElem? (i := 4) rfl)) (by decide) (by decide)) (g := (mkF m 134 #[.val (.int p0_0), .val (.int p0_1), .val (.int (3 : Int32)), .val (.ref b57), .val (.ref b33_64)] [(.int (5 : Int32)), (.int p0_1), (.int (3 : Int32)), (.ref b33_64)])) rfl (by rw [hml]; rfl) (argsL := [(.ref b33_64), (.int (3 : Int32)), (.int p0_1), (.int (5 : Int32))]) (rest := []) (lenOf pd_3 rfl) rfl (by show 2 * 0 + _ ≤ _; exact Nat.le_of_eq rfl) (hb hby at_134) (fun _ _ => ⟨rfl, eh72, (by decide : 2 + 0 ≤ _), (by decide : 6 + 0 ≤ _)⟩)
    dsimp only [Pt.U, Pt.locs, Pt.cells, Pt.slots] at X73 l73 y73 z73 st73 hQ73
    subst l73 y73 z73
    obtain ⟨rfl, N73q, eh73⟩ := hQ73
    have N73 := Fr.app N72 N73q
    have k74 : ∀ t, Steps p.tables e below (T73.setTop (mkF m 145 #[.val (.int p0_0), .val (.int p0_1), .val (.int (3 : Int32)), .val (.ref b57), .val (.ref b33_64)] [(.int (1 : Int32))])) t → Steps p.tables e below (s₁.setTop (entryFrame m #[(.int p0_0), (.int p0_1)] maxLocals)) t := by
      intro t k
      refine k1 t ?_
      show Steps p.tables e below (s₁.setTop (mkF m 8 #[.val (.int p0_0), .val (.int p0_1), .val (.int (3 : Int32)), .unset, .unset] [])) _
      refine XS.iloadN X0.here hx rfl (hb hby at_8) rfl ?_
      show Steps p.tables e below (s₁.setTop (mkF m 9 #[.val (.int p0_0), .val (.int p0_1), .val (.int (3 : Int32)), .unset, .unset] [(.int (3 : Int32))])) _
      refine st57 _ ?_
      show Steps p.tables e below (T57.setTop (mkF m 11 #[.val (.int p0_0), .val (.int p0_1), .val (.int (3 : Int32)), .unset, .unset] [(.ref b57)])) _
      refine XS.astoreN X57.here hx rfl (hb hby at_11) rfl rfl (l' := #[.val (.int p0_0), .val (.int p0_1), .val (.int (3 : Int32)), .val (.ref b57), .unset]) rfl ?_
      show Steps p.tables e below (T57.setTop (mkF m 12 #[.val (.int p0_0), .val (.int p0_1), .val (.int (3 : Int32)), .val (.ref b57), .unset] [])) _
      refine XS.aloadN X57.here hx rfl (hb hby at_12) rfl rfl ?_
      show Steps p.tables e below (T57.setTop (mkF m 13 #[.val (.int p0_0), .val (.int p0_1), .val (.int (3 : Int32)), .val (.ref b57), .unset] [(.ref b57)])) _
      refine XS.iloadN X57.here hx rfl (hb hby at_13) rfl ?_
      show Steps p.tables e below (T57.setTop (mkF m 14 #[.val (.int p0_0), .val (.int p0_1), .val (.int (3 : Int32)), .val (.ref b57), .unset] [(.int (3 : Int32)), (.ref b57)])) _
      refine XS.iloadN X57.here hx rfl (hb hby at_14) rfl ?_
      show Steps p.tables e below (T57.setTop (mkF m 15 #[.val (.int p0_0), .val (.int p0_1), .val (.int (3 : Int32)), .val (.ref b57), .unset] [(.int p0_1), (.int (3 : Int32)), (.ref b57)])) _
      refine XS.iconst X57.here hx rfl (hb hby at_15) ?_
      show Steps p.tables e below (T57.setTop (mkF m 16 #[.val (.int p0_0), .val (.int p0_1), .val (.int (3 : Int32)), .val (.ref b57), .unset] [(.int (0 : Int32)), (.int p0_1), (.int (3 : Int32)), (.ref b57)])) _
      refine st58 _ ?_
      show Steps p.tables e below (T58.setTop (mkF m 19 #[.val (.int p0_0), .val (.int p0_1), .val (.int (3 : Int32)), .val (.ref b57), .unset] [])) _
      refine XS.aloadN X58.here hx rfl (hb hby at_19) rfl rfl ?_
      show Steps p.tables e below (T58.setTop (mkF m 20 #[.val (.int p0_0), .val (.int p0_1), .val (.int (3 : Int32)), .val (.ref b57), .unset] [(.ref b57)])) _
      refine XS.iloadN X58.here hx rfl (hb hby at_20) rfl ?_
      show Steps p.tables e below (T58.setTop (mkF m 21 #[.val (.int p0_0), .val (.int p0_1), .val (.int (3 : Int32)), .val (.ref b57), .unset] [(.int (3 : Int32)), (.ref b57)])) _
      refine XS.iloadN X58.here hx rfl (hb hby at_21) rfl ?_
      show Steps p.tables e below (T58.setTop (mkF m 22 #[.val (.int p0_0), .val (.int p0_1), .val (.int (3 : Int32)), .val (.ref b57), .unset] [(.int p0_1), (.int (3 : Int32)), (.ref b57)])) _
      refine XS.iconst X58.here hx rfl (hb hby at_22) ?_
      show Steps p.tables e below (T58.setTop (mkF m 23 #[.val (.int p0_0), .val (.int p0_1), .val (.int (3 : Int32)), .val (.ref b57), .unset] [(.int (1 : Int32)), (.int p0_1), (.int (3 : Int32)), (.ref b57)])) _
      refine st59 _ ?_
      show Steps p.tables e below (T59.setTop (mkF m 26 #[.val (.int p0_0), .val (.int p0_1), .val (.int (3 : Int32)), .val (.ref b57), .unset] [])) _
      refine XS.aloadN X59.here hx rfl (hb hby at_26) rfl rfl ?_
      show Steps p.tables e below (T59.setTop (mkF m 27 #[.val (.int p0_0), .val (.int p0_1), .val (.int (3 : Int32)), .val (.ref b57), .unset] [(.ref b57)])) _
      refine XS.iloadN X59.here hx rfl (hb hby at_27) rfl ?_
      show Steps p.tables e below (T59.setTop (mkF m 28 #[.val (.int p0_0), .val (.int p0_1), .val (.int (3 : Int32)), .val (.ref b57), .unset] [(.int (3 : Int32)), (.ref b57)])) _
      refine XS.iloadN X59.here hx rfl (hb hby at_28) rfl ?_
      show Steps p.tables e below (T59.setTop (mkF m 29 #[.val (.int p0_0), .val (.int p0_1), .val (.int (3 : Int32)), .val (.ref b57), .unset] [(.int p0_1), (.int (3 : Int32)), (.ref b57)])) _
      refine XS.iconst X59.here hx rfl (hb hby at_29) ?_
      show Steps p.tables e below (T59.setTop (mkF m 30 #[.val (.int p0_0), .val (.int p0_1), .val (.int (3 : Int32)), .val (.ref b57), .unset] [(.int (2 : Int32)), (.int p0_1), (.int (3 : Int32)), (.ref b57)])) _
      refine st60 _ ?_
      show Steps p.tables e below (T60.setTop (mkF m 33 #[.val (.int p0_0), .val (.int p0_1), .val (.int (3 : Int32)), .val (.ref b57), .unset] [])) _
      refine XS.aloadN X60.here hx rfl (hb hby at_33) rfl rfl ?_
      show Steps p.tables e below (T60.setTop (mkF m 34 #[.val (.int p0_0), .val (.int p0_1), .val (.int (3 : Int32)), .val (.ref b57), .unset] [(.ref b57)])) _
      refine XS.iloadN X60.here hx rfl (hb hby at_34) rfl ?_
      show Steps p.tables e below (T60.setTop (mkF m 35 #[.val (.int p0_0), .val (.int p0_1), .val (.int (3 : Int32)), .val (.ref b57), .unset] [(.int (3 : Int32)), (.ref b57)])) _
      refine XS.iloadN X60.here hx rfl (hb hby at_35) rfl ?_
      show Steps p.tables e below (T60.setTop (mkF m 36 #[.val (.int p0_0), .val (.int p0_1), .val (.int (3 : Int32)), .val (.ref b57), .unset] [(.int p0_1), (.int (3 : Int32)), (.ref b57)])) _
      refine XS.iconst X60.here hx rfl (hb hby at_36) ?_
      show Steps p.tables e below (T60.setTop (mkF m 37 #[.val (.int p0_0), .val (.int p0_1), .val (.int (3 : Int32)), .val (.ref b57), .unset] [(.int (3 : Int32)), (.int p0_1), (.int (3 : Int32)), (.ref b57)])) _
      refine st61 _ ?_
      show Steps p.tables e below (T61.setTop (mkF m 40 #[.val (.int p0_0), .val (.int p0_1), .val (.int (3 : Int32)), .val (.ref b57), .unset] [])) _
      refine XS.aloadN X61.here hx rfl (hb hby at_40) rfl rfl ?_
      show Steps p.tables e below (T61.setTop (mkF m 41 #[.val (.int p0_0), .val (.int p0_1), .val (.int (3 : Int32)), .val (.ref b57), .unset] [(.ref b57)])) _
      refine XS.iloadN X61.here hx rfl (hb hby at_41) rfl ?_
      show Steps p.tables e below (T61.setTop (mkF m 42 #[.val (.int p0_0), .val (.int p0_1), .val (.int (3 : Int32)), .val (.ref b57), .unset] [(.int (3 : Int32)), (.ref b57)])) _
      refine XS.iloadN X61.here hx rfl (hb hby at_42) rfl ?_
      show Steps p.tables e below (T61.setTop (mkF m 43 #[.val (.int p0_0), .val (.int p0_1), .val (.int (3 : Int32)), .val (.ref b57), .unset] [(.int p0_1), (.int (3 : Int32)), (.ref b57)])) _
      refine XS.iconst X61.here hx rfl (hb hby at_43) ?_
      show Steps p.tables e below (T61.setTop (mkF m 44 #[.val (.int p0_0), .val (.int p0_1), .val (.int (3 : Int32)), .val (.ref b57), .unset] [(.int (4 : Int32)), (.int p0_1), (.int (3 : Int32)), (.ref b57)])) _
      refine st62 _ ?_
      show Steps p.tables e below (T62.setTop (mkF m 47 #[.val (.int p0_0), .val (.int p0_1), .val (.int (3 : Int32)), .val (.ref b57), .unset] [])) _
      refine XS.aloadN X62.here hx rfl (hb hby at_47) rfl rfl ?_
      show Steps p.tables e below (T62.setTop (mkF m 48 #[.val (.int p0_0), .val (.int p0_1), .val (.int (3 : Int32)), .val (.ref b57), .unset] [(.ref b57)])) _
      refine XS.iloadN X62.here hx rfl (hb hby at_48) rfl ?_
      show Steps p.tables e below (T62.setTop (mkF m 49 #[.val (.int p0_0), .val (.int p0_1), .val (.int (3 : Int32)), .val (.ref b57), .unset] [(.int (3 : Int32)), (.ref b57)])) _
      refine XS.iloadN X62.here hx rfl (hb hby at_49) rfl ?_
      show Steps p.tables e below (T62.setTop (mkF m 50 #[.val (.int p0_0), .val (.int p0_1), .val (.int (3 : Int32)), .val (.ref b57), .unset] [(.int p0_1), (.int (3 : Int32)), (.ref b57)])) _
      refine XS.iconst X62.here hx rfl (hb hby at_50) ?_
      show Steps p.tables e below (T62.setTop (mkF m 51 #[.val (.int p0_0), .val (.int p0_1), .val (.int (3 : Int32)), .val (.ref b57), .unset] [(.int (5 : Int32)), (.int p0_1), (.int (3 : Int32)), (.ref b57)])) _
      refine st63 _ ?_
      show Steps p.tables e below (T63.setTop (mkF m 54 #[.val (.int p0_0), .val (.int p0_1), .val (.int (3 : Int32)), .val (.ref b57), .unset] [])) _
      refine XS.aloadN X63.here hx rfl (hb hby at_54) rfl rfl ?_
      show Steps p.tables e below (T63.setTop (mkF m 55 #[.val (.int p0_0), .val (.int p0_1), .val (.int (3 : Int32)), .val (.ref b57), .unset] [(.ref b57)])) _
      refine st64 _ ?_
      show Steps p.tables e below (T64.setTop (mkF m 58 #[.val (.int p0_0), .val (.int p0_1), .val (.int (3 : Int32)), .val (.ref b57), .unset] [(.ref b33_64)])) _
      refine XS.astore X64.here hx rfl (hb hby at_58) rfl rfl (l' := #[.val (.int p0_0), .val (.int p0_1), .val (.int (3 : Int32)), .val (.ref b57), .val (.ref b33_64)]) rfl ?_
      show Steps p.tables e below (T64.setTop (mkF m 60 #[.val (.int p0_0), .val (.int p0_1), .val (.int (3 : Int32)), .val (.ref b57), .val (.ref b33_64)] [])) _
      refine XS.aload X64.here hx rfl (hb hby at_60) rfl rfl ?_
      show Steps p.tables e below (T64.setTop (mkF m 62 #[.val (.int p0_0), .val (.int p0_1), .val (.int (3 : Int32)), .val (.ref b57), .val (.ref b33_64)] [(.ref b33_64)])) _
      refine XS.ifnullNo X64.here hx rfl (hb hby at_62) rfl ?_
      show Steps p.tables e below (T64.setTop (mkF m 65 #[.val (.int p0_0), .val (.int p0_1), .val (.int (3 : Int32)), .val (.ref b57), .val (.ref b33_64)] [])) _
      refine XS.aload X64.here hx rfl (hb hby at_65) rfl rfl ?_
      show Steps p.tables e below (T64.setTop (mkF m 67 #[.val (.int p0_0), .val (.int p0_1), .val (.int (3 : Int32)), .val (.ref b57), .val (.ref b33_64)] [(.ref b33_64)])) _
      refine X64.arraylength hx Ar67.1 (State.isArrayOf_alike hZ.alike Ar67.2.1) (g := (mkF m 67 #[.val (.int p0_0), .val (.int p0_1), .val (.int (3 : Int32)), .val (.ref b57), .val (.ref b33_64)] [(.ref b33_64)])) rfl rfl (hb hby at_67) _ ?_
      rw [len_of Sz67 Nn67]
      show Steps p.tables e below (T64.setTop (mkF m 68 #[.val (.int p0_0), .val (.int p0_1), .val (.int (3 : Int32)), .val (.ref b57), .val (.ref b33_64)] [(.int (3 : Int32))])) _
      refine XS.iloadN X64.here hx rfl (hb hby at_68) rfl ?_
      show Steps p.tables e below (T64.setTop (mkF m 69 #[.val (.int p0_0), .val (.int p0_1), .val (.int (3 : Int32)), .val (.ref b57), .val (.ref b33_64)] [(.int (3 : Int32)), (.int (3 : Int32))])) _
      refine XS.icmpYes X64.here hx rfl (pc0 := 69) (pc' := 74) rfl (hb hby at_69) rfl (teq (by decide : (3 : Int32) = (3 : Int32))).1 (by decide) (by decide) ?_
      show Steps p.tables e below (T64.setTop (mkF m 74 #[.val (.int p0_0), .val (.int p0_1), .val (.int (3 : Int32)), .val (.ref b57), .val (.ref b33_64)] [])) _
      refine XS.aload X64.here hx rfl (hb hby at_74) rfl rfl ?_
      show Steps p.tables e below (T64.setTop (mkF m 76 #[.val (.int p0_0), .val (.int p0_1), .val (.int (3 : Int32)), .val (.ref b57), .val (.ref b33_64)] [(.ref b33_64)])) _
      refine XS.iloadN X64.here hx rfl (hb hby at_76) rfl ?_
      show Steps p.tables e below (T64.setTop (mkF m 77 #[.val (.int p0_0), .val (.int p0_1), .val (.int (3 : Int32)), .val (.ref b57), .val (.ref b33_64)] [(.int (3 : Int32)), (.ref b33_64)])) _
      refine XS.iloadN X64.here hx rfl (hb hby at_77) rfl ?_
      show Steps p.tables e below (T64.setTop (mkF m 78 #[.val (.int p0_0), .val (.int p0_1), .val (.int (3 : Int32)), .val (.ref b57), .val (.ref b33_64)] [(.int p0_1), (.int (3 : Int32)), (.ref b33_64)])) _
      refine XS.iconst X64.here hx rfl (hb hby at_78) ?_
      show Steps p.tables e below (T64.setTop (mkF m 79 #[.val (.int p0_0), .val (.int p0_1), .val (.int (3 : Int32)), .val (.ref b57), .val (.ref b33_64)] [(.int (0 : Int32)), (.int p0_1), (.int (3 : Int32)), (.ref b33_64)])) _
      refine st68 _ ?_
      show Steps p.tables e below (T68.setTop (mkF m 82 #[.val (.int p0_0), .val (.int p0_1), .val (.int (3 : Int32)), .val (.ref b57), .val (.ref b33_64)] [(.int (own_ok0 p0_1 (own_e (own_bit p0_1 (0 : Int32)) (0 : Int32))))])) _
      refine XS.ifNo X68.here hx rfl (hb hby at_82) rfl ((if0 _ _).trans (feq (by rw [own_okl0]; decide)).1) ?_
      show Steps p.tables e below (T68.setTop (mkF m 85 #[.val (.int p0_0), .val (.int p0_1), .val (.int (3 : Int32)), .val (.ref b57), .val (.ref b33_64)] [])) _
      refine XS.aload X68.here hx rfl (hb hby at_85) rfl rfl ?_
      show Steps p.tables e below (T68.setTop (mkF m 87 #[.val (.int p0_0), .val (.int p0_1), .val (.int (3 : Int32)), .val (.ref b57), .val (.ref b33_64)] [(.ref b33_64)])) _
      refine XS.iloadN X68.here hx rfl (hb hby at_87) rfl ?_
      show Steps p.tables e below (T68.setTop (mkF m 88 #[.val (.int p0_0), .val (.int p0_1), .val (.int (3 : Int32)), .val (.ref b57), .val (.ref b33_64)] [(.int (3 : Int32)), (.ref b33_64)])) _
      refine XS.iloadN X68.here hx rfl (hb hby at_88) rfl ?_
      show Steps p.tables e below (T68.setTop (mkF m 89 #[.val (.int p0_0), .val (.int p0_1), .val (.int (3 : Int32)), .val (.ref b57), .val (.ref b33_64)] [(.int p0_1), (.int (3 : Int32)), (.ref b33_64)])) _
      refine XS.iconst X68.here hx rfl (hb hby at_89) ?_
      show Steps p.tables e below (T68.setTop (mkF m 90 #[.val (.int p0_0), .val (.int p0_1), .val (.int (3 : Int32)), .val (.ref b57), .val (.ref b33_64)] [(.int (1 : Int32)), (.int p0_1), (.int (3 : Int32)), (.ref b33_64)])) _
      refine st69 _ ?_
      show Steps p.tables e below (T69.setTop (mkF m 93 #[.val (.int p0_0), .val (.int p0_1), .val (.int (3 : Int32)), .val (.ref b57), .val (.ref b33_64)] [(.int (own_ok1 p0_1 (own_e (own_bit p0_1 (1 : Int32)) (own_c (own_bit p0_1 (0 : Int32)) (0 : Int32)))))])) _
      refine XS.ifNo X69.here hx rfl (hb hby at_93) rfl ((if0 _ _).trans (feq (by rw [own_okl1]; decide)).1) ?_
      show Steps p.tables e below (T69.setTop (mkF m 96 #[.val (.int p0_0), .val (.int p0_1), .val (.int (3 : Int32)), .val (.ref b57), .val (.ref b33_64)] [])) _
      refine XS.aload X69.here hx rfl (hb hby at_96) rfl rfl ?_
      show Steps p.tables e below (T69.setTop (mkF m 98 #[.val (.int p0_0), .val (.int p0_1), .val (.int (3 : Int32)), .val (.ref b57), .val (.ref b33_64)] [(.ref b33_64)])) _
      refine XS.iloadN X69.here hx rfl (hb hby at_98) rfl ?_
      show Steps p.tables e below (T69.setTop (mkF m 99 #[.val (.int p0_0), .val (.int p0_1), .val (.int (3 : Int32)), .val (.ref b57), .val (.ref b33_64)] [(.int (3 : Int32)), (.ref b33_64)])) _
      refine XS.iloadN X69.here hx rfl (hb hby at_99) rfl ?_
      show Steps p.tables e below (T69.setTop (mkF m 100 #[.val (.int p0_0), .val (.int p0_1), .val (.int (3 : Int32)), .val (.ref b57), .val (.ref b33_64)] [(.int p0_1), (.int (3 : Int32)), (.ref b33_64)])) _
      refine XS.iconst X69.here hx rfl (hb hby at_100) ?_
      show Steps p.tables e below (T69.setTop (mkF m 101 #[.val (.int p0_0), .val (.int p0_1), .val (.int (3 : Int32)), .val (.ref b57), .val (.ref b33_64)] [(.int (2 : Int32)), (.int p0_1), (.int (3 : Int32)), (.ref b33_64)])) _
      refine st70 _ ?_
      show Steps p.tables e below (T70.setTop (mkF m 104 #[.val (.int p0_0), .val (.int p0_1), .val (.int (3 : Int32)), .val (.ref b57), .val (.ref b33_64)] [(.int (own_ok2 p0_1 (own_e (own_bit p0_1 (2 : Int32)) (own_c (own_bit p0_1 (1 : Int32)) (own_c (own_bit p0_1 (0 : Int32)) (0 : Int32))))))])) _
      refine XS.ifNo X70.here hx rfl (hb hby at_104) rfl ((if0 _ _).trans (feq (by rw [own_okl2]; decide)).1) ?_
      show Steps p.tables e below (T70.setTop (mkF m 107 #[.val (.int p0_0), .val (.int p0_1), .val (.int (3 : Int32)), .val (.ref b57), .val (.ref b33_64)] [])) _
      refine XS.aload X70.here hx rfl (hb hby at_107) rfl rfl ?_
      show Steps p.tables e below (T70.setTop (mkF m 109 #[.val (.int p0_0), .val (.int p0_1), .val (.int (3 : Int32)), .val (.ref b57), .val (.ref b33_64)] [(.ref b33_64)])) _
      refine XS.iloadN X70.here hx rfl (hb hby at_109) rfl ?_
      show Steps p.tables e below (T70.setTop (mkF m 110 #[.val (.int p0_0), .val (.int p0_1), .val (.int (3 : Int32)), .val (.ref b57), .val (.ref b33_64)] [(.int (3 : Int32)), (.ref b33_64)])) _
      refine XS.iloadN X70.here hx rfl (hb hby at_110) rfl ?_
      show Steps p.tables e below (T70.setTop (mkF m 111 #[.val (.int p0_0), .val (.int p0_1), .val (.int (3 : Int32)), .val (.ref b57), .val (.ref b33_64)] [(.int p0_1), (.int (3 : Int32)), (.ref b33_64)])) _
      refine XS.iconst X70.here hx rfl (hb hby at_111) ?_
      show Steps p.tables e below (T70.setTop (mkF m 112 #[.val (.int p0_0), .val (.int p0_1), .val (.int (3 : Int32)), .val (.ref b57), .val (.ref b33_64)] [(.int (3 : Int32)), (.int p0_1), (.int (3 : Int32)), (.ref b33_64)])) _
      refine st71 _ ?_
      show Steps p.tables e below (T71.setTop (mkF m 115 #[.val (.int p0_0), .val (.int p0_1), .val (.int (3 : Int32)), .val (.ref b57), .val (.ref b33_64)] [(.int (1 : Int32))])) _
      refine XS.ifNo X71.here hx rfl (hb hby at_115) rfl ((if0 _ _).trans (feq (by decide : ¬ ((1 : Int32) = (0 : Int32)))).1) ?_
      show Steps p.tables e below (T71.setTop (mkF m 118 #[.val (.int p0_0), .val (.int p0_1), .val (.int (3 : Int32)), .val (.ref b57), .val (.ref b33_64)] [])) _
      refine XS.aload X71.here hx rfl (hb hby at_118) rfl rfl ?_
      show Steps p.tables e below (T71.setTop (mkF m 120 #[.val (.int p0_0), .val (.int p0_1), .val (.int (3 : Int32)), .val (.ref b57), .val (.ref b33_64)] [(.ref b33_64)])) _
      refine XS.iloadN X71.here hx rfl (hb hby at_120) rfl ?_
      show Steps p.tables e below (T71.setTop (mkF m 121 #[.val (.int p0_0), .val (.int p0_1), .val (.int (3 : Int32)), .val (.ref b57), .val (.ref b33_64)] [(.int (3 : Int32)), (.ref b33_64)])) _
      refine XS.iloadN X71.here hx rfl (hb hby at_121) rfl ?_
      show Steps p.tables e below (T71.setTop (mkF m 122 #[.val (.int p0_0), .val (.int p0_1), .val (.int (3 : Int32)), .val (.ref b57), .val (.ref b33_64)] [(.int p0_1), (.int (3 : Int32)), (.ref b33_64)])) _
      refine XS.iconst X71.here hx rfl (hb hby at_122) ?_
      show Steps p.tables e below (T71.setTop (mkF m 123 #[.val (.int p0_0), .val (.int p0_1), .val (.int (3 : Int32)), .val (.ref b57), .val (.ref b33_64)] [(.int (4 : Int32)), (.int p0_1), (.int (3 : Int32)), (.ref b33_64)])) _
      refine st72 _ ?_
      show Steps p.tables e below (T72.setTop (mkF m 126 #[.val (.int p0_0), .val (.int p0_1), .val (.int (3 : Int32)), .val (.ref b57), .val (.ref b33_64)] [(.int (1 : Int32))])) _
      refine XS.ifNo X72.here hx rfl (hb hby at_126) rfl ((if0 _ _).trans (feq (by decide : ¬ ((1 : Int32) = (0 : Int32)))).1) ?_
      show Steps p.tables e below (T72.setTop (mkF m 129 #[.val (.int p0_0), .val (.int p0_1), .val (.int (3 : Int32)), .val (.ref b57), .val (.ref b33_64)] [])) _
      refine XS.aload X72.here hx rfl (hb hby at_129) rfl rfl ?_
      show Steps p.tables e below (T72.setTop (mkF m 131 #[.val (.int p0_0), .val (.int p0_1), .val (.int (3 : Int32)), .val (.ref b57), .val (.ref b33_64)] [(.ref b33_64)])) _
      refine XS.iloadN X72.here hx rfl (hb hby at_131) rfl ?_
      show Steps p.tables e below (T72.setTop (mkF m 132 #[.val (.int p0_0), .val (.int p0_1), .val (.int (3 : Int32)), .val (.ref b57), .val (.ref b33_64)] [(.int (3 : Int32)), (.ref b33_64)])) _
      refine XS.iloadN X72.here hx rfl (hb hby at_132) rfl ?_
      show Steps p.tables e below (T72.setTop (mkF m 133 #[.val (.int p0_0), .val (.int p0_1), .val (.int (3 : Int32)), .val (.ref b57), .val (.ref b33_64)] [(.int p0_1), (.int (3 : Int32)), (.ref b33_64)])) _
      refine XS.iconst X72.here hx rfl (hb hby at_133) ?_
      show Steps p.tables e below (T72.setTop (mkF m 134 #[.val (.int p0_0), .val (.int p0_1), .val (.int (3 : Int32)), .val (.ref b57), .val (.ref b33_64)] [(.int (5 : Int32)), (.int p0_1), (.int (3 : Int32)), (.ref b33_64)])) _
      refine st73 _ ?_
      show Steps p.tables e below (T73.setTop (mkF m 137 #[.val (.int p0_0), .val (.int p0_1), .val (.int (3 : Int32)), .val (.ref b57), .val (.ref b33_64)] [(.int (1 : Int32))])) _
      refine XS.ifNo X73.here hx rfl (hb hby at_137) rfl ((if0 _ _).trans (feq (by decide : ¬ ((1 : Int32) = (0 : Int32)))).1) ?_
      show Steps p.tables e below (T73.setTop (mkF m 140 #[.val (.int p0_0), .val (.int p0_1), .val (.int (3 : Int32)), .val (.ref b57), .val (.ref b33_64)] [])) _
      refine XS.iconst X73.here hx rfl (hb hby at_140) ?_
      show Steps p.tables e below (T73.setTop (mkF m 141 #[.val (.int p0_0), .val (.int p0_1), .val (.int (3 : Int32)), .val (.ref b57), .val (.ref b33_64)] [(.int (1 : Int32))])) _
      refine XS.goto X73.here hx rfl (pc0 := 141) (pc' := 145) rfl (hb hby at_141) (by decide) (by decide) ?_
      exact k
    obtain ⟨fs, hr, hrun, hended, hW, hsame⟩ := X73.leave (v := some (.int (1 : Int32))) (fun h => by rw [Bd.returns] at h; cases h)
    refine ⟨_, _, k74 _ ?_, hrun, hended, _, _, rfl, ?_, ⟨_, rfl⟩, hW, hsame.mono (by decide) (by decide)⟩
    · exact retN X73 hx (t := .boolean) Bd.returns (by simp) (hb hby at_145) hr
    · show Q0 Z p0_0 p0_1 h0 n0 _ T73.heap _
      rw [eh73]
      exact ⟨rfl, N73⟩
  · skip
    obtain ⟨b75, g75⟩ : ∃ z, z = h0.size := ⟨_, rfl⟩
    obtain ⟨T75, h75, k75, X75, e75, E75, A75, st75⟩ := newP X0 hx hZ (hw _ (List.mem_of_getElem? (i := 1) rfl)) e0 (g := (mkF m 9 #[.val (.int p0_0), .val (.int p0_1), .val (.int (4 : Int32)), .unset, .unset] [(.int (4 : Int32))])) rfl (hb hby at_9) rfl (by decide) (cap := 4) (by decide) (by decide) (by decide) (by decide)
    rw [← g75] at A75 st75
    have gg75 : n0 ≤ b75 := Nat.le_trans Z0 (Nat.le_of_eq g75.symm)
    have Zs75 : n0 ≤ h75.size := Nat.le_trans Z0 E75.1
    have V75 : Arv Z h75 b75 k75 .boolean (4 : Int32) [(.int (0 : Int32)), (.int (0 : Int32)), (.int (0 : Int32)), (.int (0 : Int32)), (.int (0 : Int32)), (.int (0 : Int32))] (.int (0 : Int32)) := (Arv.new A75 (by decide)).pad (pad_rep [] (.int (0 : Int32)) 6)
    obtain ⟨_, _, ⟨T76, L76, k76, n76⟩, -, X76, ⟨Lc76, hQ76, l76, y76, z76⟩, st76⟩ := Jvm.LawKit.callS X75 hx (y := (⟨"com/example/leanweave/leanweave/NetworkNumberingPinLaw", "set", "([ZIII)V"⟩ : MethodName)) hown (mvT hZ (hw _ (List.mem_of_getElem? (i := 2) rfl))) (mvT hZ (hw _ (List.mem_of_getElem? (i := 3) rfl))) (mvT hZ (hw _ (List.mem_of_getElem? (i := 4) rfl))) (mvT hZ (hw _ (List.mem_of_getElem? (i := 5) rfl))) (by decide) (backOf (W := 0) (rm20 l Z a0 hw [] b75 (4 : Int32) p0_1 k75 (4 : Int32) (.int (0 : Int32)) (.int (0 : Int32)) (.int (0 : Int32)) (.int (0 : Int32)) (.int (0 : Int32)) (.int (0 : Int32)) h75 n0 Zs75 V75 (by decide : (0 : Int32) < (4 : Int32)) (by decide : (0 : Int32) < (4 : Int32)) gg75) hZ (hw _ (List.mem_of_getElem? (i := 5) rfl)) (hw _ (List.mem_of_getElem? (i := 4) rfl)) (by decide) (by decide)) (g := (mkF m 16 #[.val (.int p0_0), .val (.int p0_1), .val (.int (4 : Int32)), .val (.ref b75), .unset] [(.int (0 : Int32)), (.int p0_1), (.int (4 : Int32)), (.ref b75)])) rfl (by rw [hml]; rfl) (argsL := [(.ref b75), (.int (4 : Int32)), (.int p0_1), (.int (0 : Int32))]) (rest := []) (lenOf pd_1 rfl) rfl (by show 2 * 0 + _ ≤ _; exact Nat.le_of_eq rfl) (hb hby at_16) (fun _ _ => ⟨rfl, e75, (by decide : 1 + 0 ≤ _), (by decide : 4 + 0 ≤ _)⟩)
    dsimp only [Pt.U, Pt.locs, Pt.cells, Pt.slots] at X76 l76 y76 z76 st76 hQ76
    subst l76 y76 z76
    obtain ⟨rfl, N76q, Kc76, G76_0⟩ := hQ76
    have Zs76 : n0 ≤ T76.heap.size := Nat.le_trans Zs75 Kc76.1
    have N76 := Fr.app N0 N76q
    obtain ⟨_, _, ⟨T77, L77, k77, n77⟩, -, X77, ⟨Lc77, hQ77, l77, y77, z77⟩, st77⟩ := Jvm.LawKit.callS X76 hx (y := (⟨"com/example/leanweave/leanweave/NetworkNumberingPinLaw", "set", "([ZIII)V"⟩ : MethodName)) hown (mvT hZ (hw _ (List.mem_of_getElem? (i := 2) rfl))) (mvT hZ (hw _ (List.mem_of_getElem? (i := 3) rfl))) (mvT hZ (hw _ (List.mem_of_getElem? (i := 4) rfl))) (mvT hZ (hw _ (List.mem_of_getElem? (i := 5) rfl))) (by decide) (backOf (W := 0) (rm21 l Z a0 hw [] b75 (4 : Int32) p0_1 k75 (4 : Int32) (.int (own_bit p0_1 (0 : Int32))) (.int (0 : Int32)) (.int (0 : Int32)) (.int (0 : Int32)) (.int (0 : Int32)) (.int (0 : Int32)) T76.heap n0 Zs76 G76_0 (by decide : (1 : Int32) < (4 : Int32)) (by decide : (1 : Int32) < (4 : Int32)) gg75) hZ (hw _ (List.mem_of_getElem? (i := 5) rfl)) (hw _ (List.mem_of_getElem? (i := 4) rfl)) (by decide) (by decide)) (g := (mkF m 23 #[.val (.int p0_0), .val (.int p0_1), .val (.int (4 : Int32)), .val (.ref b75), .unset] [(.int (1 : Int32)), (.int p0_1), (.int (4 : Int32)), (.ref b75)])) rfl (by rw [hml]; rfl) (argsL := [(.ref b75), (.int (4 : Int32)), (.int p0_1), (.int (1 : Int32))]) (rest := []) (lenOf pd_1 rfl) rfl (by show 2 * 0 + _ ≤ _; exact Nat.le_of_eq rfl) (hb hby at_23) (fun _ _ => ⟨rfl, rfl, (by decide : 1 + 0 ≤ _), (by decide : 4 + 0 ≤ _)⟩)
    dsimp only [Pt.U, Pt.locs, Pt.cells, Pt.slots] at X77 l77 y77 z77 st77 hQ77
    subst l77 y77 z77
    obtain ⟨rfl, N77q, Kc77, G77_0⟩ := hQ77
    have Zs77 : n0 ≤ T77.heap.size := Nat.le_trans Zs76 Kc77.1
    have N77 := Fr.app N76 N77q
    obtain ⟨_, _, ⟨T78, L78, k78, n78⟩, -, X78, ⟨Lc78, hQ78, l78, y78, z78⟩, st78⟩ := Jvm.LawKit.callS X77 hx (y := (⟨"com/example/leanweave/leanweave/NetworkNumberingPinLaw", "set", "([ZIII)V"⟩ : MethodName)) hown (mvT hZ (hw _ (List.mem_of_getElem? (i := 2) rfl))) (mvT hZ (hw _ (List.mem_of_getElem? (i := 3) rfl))) (mvT hZ (hw _ (List.mem_of_getElem? (i := 4) rfl))) (mvT hZ (hw _ (List.mem_of_getElem? (i := 5) rfl))) (by decide) (backOf (W := 0) (rm22 l Z a0 hw [] b75 (4 : Int32) p0_1 k75 (4 : Int32) (.int (own_bit p0_1 (0 : Int32))) (.int (own_bit p0_1 (1 : Int32))) (.int (0 : Int32)) (.int (0 : Int32)) (.int (0 : Int32)) (.int (0 : Int32)) T77.heap n0 Zs77 G77_0 (by decide : (2 : Int32) < (4 : Int32)) (by decide : (2 : Int32) < (4 : Int32)) gg75) hZ (hw _ (List.mem_of_getElem? (i := 5) rfl)) (hw _ (List.mem_of_getElem? (i := 4) rfl)) (by decide) (by decide)) (g := (mkF m 30 #[.val (.int p0_0), .val (.int p0_1), .val (.int (4 : Int32)), .val (.ref b75), .unset] [(.int (2 : Int32)), (.int p0_1), (.int (4 : Int32)), (.ref b75)])) rfl (by rw [hml]; rfl) (argsL := [(.ref b75), (.int (4 : Int32)), (.int p0_1), (.int (2 : Int32))]) (rest := []) (lenOf pd_1 rfl) rfl (by show 2 * 0 + _ ≤ _; exact Nat.le_of_eq rfl) (hb hby at_30) (fun _ _ => ⟨rfl, rfl, (by decide : 1 + 0 ≤ _), (by decide : 4 + 0 ≤ _)⟩)
    dsimp only [Pt.U, Pt.locs, Pt.cells, Pt.slots] at X78 l78 y78 z78 st78 hQ78
    subst l78 y78 z78
    obtain ⟨rfl, N78q, Kc78, G78_0⟩ := hQ78
    have Zs78 : n0 ≤ T78.heap.size := Nat.le_trans Zs77 Kc78.1
    have N78 := Fr.app N77 N78q
    obtain ⟨_, _, ⟨T79, L79, k79, n79⟩, -, X79, ⟨Lc79, hQ79, l79, y79, z79⟩, st79⟩ := Jvm.LawKit.callS X78 hx (y := (⟨"com/example/leanweave/leanweave/NetworkNumberingPinLaw", "set", "([ZIII)V"⟩ : MethodName)) hown (mvT hZ (hw _ (List.mem_of_getElem? (i := 2) rfl))) (mvT hZ (hw _ (List.mem_of_getElem? (i := 3) rfl))) (mvT hZ (hw _ (List.mem_of_getElem? (i := 4) rfl))) (mvT hZ (hw _ (List.mem_of_getElem? (i := 5) rfl))) (by decide) (backOf (W := 0) (rm23 l Z a0 hw [] b75 (4 : Int32) p0_1 k75 (4 : Int32) (.int (own_bit p0_1 (0 : Int32))) (.int (own_bit p0_1 (1 : Int32))) (.int (own_bit p0_1 (2 : Int32))) (.int (0 : Int32)) (.int (0 : Int32)) (.int (0 : Int32)) T78.heap n0 Zs78 G78_0 (by decide : (3 : Int32) < (4 : Int32)) (by decide : (3 : Int32) < (4 : Int32)) gg75) hZ (hw _ (List.mem_of_getElem? (i := 5) rfl)) (hw _ (List.mem_of_getElem? (i := 4) rfl)) (by decide) (by decide)) (g := (mkF m 37 #[.val (.int p0_0), .val (.int p0_1), .val (.int (4 : Int32)), .val (.ref b75), .unset] [(.int (3 : Int32)), (.int p0_1), (.int (4 : Int32)), (.ref b75)])) rfl (by rw [hml]; rfl) (argsL := [(.ref b75), (.int (4 : Int32)), (.int p0_1), (.int (3 : Int32))]) (rest := []) (lenOf pd_1 rfl) rfl (by show 2 * 0 + _ ≤ _; exact Nat.le_of_eq rfl) (hb hby at_37) (fun _ _ => ⟨rfl, rfl, (by decide : 1 + 0 ≤ _), (by decide : 4 + 0 ≤ _)⟩)
    dsimp only [Pt.U, Pt.locs, Pt.cells, Pt.slots] at X79 l79 y79 z79 st79 hQ79
    subst l79 y79 z79
    obtain ⟨rfl, N79q, Kc79, G79_0⟩ := hQ79
    have Zs79 : n0 ≤ T79.heap.size := Nat.le_trans Zs78 Kc79.1
    have N79 := Fr.app N78 N79q
    obtain ⟨_, _, ⟨T80, L80, k80, n80⟩, -, X80, ⟨Lc80, hQ80, l80, y80, z80⟩, st80⟩ := Jvm.LawKit.callS X79 hx (y := (⟨"com/example/leanweave/leanweave/NetworkNumberingPinLaw", "set", "([ZIII)V"⟩ : MethodName)) hown (mvT hZ (hw _ (List.mem_of_getElem? (i := 2) rfl))) (mvT hZ (hw _ (List.mem_of_getElem? (i := 3) rfl))) (mvT hZ (hw _ (List.mem_of_getElem? (i := 4) rfl))) (mvT hZ (hw _ (List.mem_of_getElem? (i := 5) rfl))) (by decide) (backOf (W := 0) (rm1 l Z a0 hw [] b75 (4 : Int32) p0_1 (4 : Int32) T79.heap n0 Zs79 (by decide : ¬ ((4 : Int32) < (4 : Int32)))) hZ (hw _ (List.mem_of_getElem? (i := 5) rfl)) (hw _ (List.mem_of_getElem? (i := 4) rfl)) (by decide) (by decide)) (g := (mkF m 44 #[.val (.int p0_0), .val (.int p0_1), .val (.int (4 : Int32)), .val (.ref b75), .unset] [(.int (4 : Int32)), (.int p0_1), (.int (4 : Int32)), (.ref b75)])) rfl (by rw [hml]; rfl) (argsL := [(.ref b75), (.int (4 : Int32)), (.int p0_1), (.int (4 : Int32))]) (rest := []) (lenOf pd_1 rfl) rfl (by show 2 * 0 + _ ≤ _; exact Nat.le_of_eq rfl) (hb hby at_44) (fun _ _ => ⟨rfl, rfl, (by decide : 1 + 0 ≤ _), (by decide : 4 + 0 ≤ _)⟩)
    dsimp only [Pt.U, Pt.locs, Pt.cells, Pt.slots] at X80 l80 y80 z80 st80 hQ80
    subst l80 y80 z80
    obtain ⟨rfl, N80q, eh80⟩ := hQ80
    have N80 := Fr.app N79 N80q
    obtain ⟨_, _, ⟨T81, L81, k81, n81⟩, -, X81, ⟨Lc81, hQ81, l81, y81, z81⟩, st81⟩ := Jvm.LawKit.callS X80 hx (y := (⟨"com/example/leanweave/leanweave/NetworkNumberingPinLaw", "set", "([ZIII)V"⟩ : MethodName)) hown (mvT hZ (hw _ (List.mem_of_getElem? (i := 2) rfl))) (mvT hZ (hw _ (List.mem_of_getElem? (i := 3) rfl))) (mvT hZ (hw _ (List.mem_of_getElem? (i := 4) rfl))) (mvT hZ (hw _ (List.mem_of_getElem? (i := 5) rfl))) (by decide) (backOf (W := 0) (rm1 l Z a0 hw [] b75 (4 : Int32) p0_1 (5 : Int32) T79.heap n0 Zs79 (by decide : ¬ ((5 : Int32) < (4 : Int32)))) hZ (hw _ (List.mem_of_getElem? (i := 5) rfl)) (hw _ (List.mem_of_getElem? (i := 4) rfl)) (by decide) (by decide)) (g := (mkF m 51 #[.val (.int p0_0), .val (.int p0_1), .val (.int (4 : Int32)), .val (.ref b75), .unset] [(.int (5 : Int32)), (.int p0_1), (.int (4 : Int32)), (.ref b75)])) rfl (by rw [hml]; rfl) (argsL := [(.ref b75), (.int (4 : Int32)), (.int p0_1), (.int (5 : Int32))]) (rest := []) (lenOf pd_1 rfl) rfl (by show 2 * 0 + _ ≤ _; exact Nat.le_of_eq rfl) (hb hby at_51) (fun _ _ => ⟨rfl, eh80, (by decide : 1 + 0 ≤ _), (by decide : 4 + 0 ≤ _)⟩)
    dsimp only [Pt.U, Pt.locs, Pt.cells, Pt.slots] at X81 l81 y81 z81 st81 hQ81
    subst l81 y81 z81
    obtain ⟨rfl, N81q, eh81⟩ := hQ81
    have N81 := Fr.app N80 N81q
    obtain ⟨_, _, ⟨T82, L82, k82, n82⟩, -, X82, ⟨Lc82, hQ82, l82, y82, z82⟩, st82⟩ := Jvm.LawKit.callS X81 hx (y := (⟨"com/example/leanweave/leanweave/Network", "numbering", "([Z)[I"⟩ : MethodName)) hown (mvT hZ (hw _ (List.mem_of_getElem? (i := 6) rfl))) (mvT hZ (hw _ (List.mem_of_getElem? (i := 7) rfl))) (mvT hZ (hw _ (List.mem_of_getElem? (i := 8) rfl))) (mvT hZ (hw _ (List.mem_of_getElem? (i := 9) rfl))) (by decide) (backOf (W := 0) (rm34 l Z a0 hw [] b75 k75 (own_bit p0_1 (0 : Int32)) (own_bit p0_1 (1 : Int32)) (own_bit p0_1 (2 : Int32)) (own_bit p0_1 (3 : Int32)) (0 : Int32) (0 : Int32) T79.heap n0 Zs79 G79_0) hZ (hw _ (List.mem_of_getElem? (i := 9) rfl)) (hw _ (List.mem_of_getElem? (i := 8) rfl)) (by decide) (by decide)) (g := (mkF m 55 #[.val (.int p0_0), .val (.int p0_1), .val (.int (4 : Int32)), .val (.ref b75), .unset] [(.ref b75)])) rfl (by rw [hml]; rfl) (argsL := [(.ref b75)]) (rest := []) (lenOf pd_2 rfl) rfl (by show 2 * 0 + _ ≤ _; exact Nat.le_of_eq rfl) (hb hby at_55) (fun _ _ => ⟨rfl, eh81, (by decide : 1 + 1 ≤ _), (by decide : 4 + 4 ≤ _)⟩)
    dsimp only [Pt.U, Pt.locs, Pt.cells, Pt.slots] at X82 l82 y82 z82 st82 hQ82
    subst l82 y82 z82
    obtain ⟨b34_82, kn34_82, rfl, N82q, Kc82, ggb34_82, szb34_82, G82_0⟩ := hQ82
    have ne83 : b75 ≠ b34_82 := Nat.ne_of_lt (Nat.lt_of_lt_of_le G79_0.lt szb34_82)
    have Zs82 : n0 ≤ T82.heap.size := Nat.le_trans Zs79 Kc82.1
    have F84 : Arv Z T82.heap b75 k75 .boolean (4 : Int32) [(.int (own_bit p0_1 (0 : Int32))), (.int (own_bit p0_1 (1 : Int32))), (.int (own_bit p0_1 (2 : Int32))), (.int (own_bit p0_1 (3 : Int32))), (.int (0 : Int32)), (.int (0 : Int32))] (.int (0 : Int32)) := G79_0.keep Kc82 nin0
    have N82 := Fr.app N81 N82q
    obtain ⟨cl85, Ar85, qc85, Sz85, Nn85, Hh85, Gg85⟩ := (id G82_0)
    obtain ⟨_, _, ⟨T86, L86, k86, n86⟩, -, X86, ⟨Lc86, hQ86, l86, y86, z86⟩, st86⟩ := Jvm.LawKit.callS X82 hx (y := (⟨"com/example/leanweave/leanweave/NetworkNumberingPinLaw", "ok", "([IIII)Z"⟩ : MethodName)) hown (mvT hZ (hw _ (List.mem_of_getElem? (i := 11) rfl))) (mvT hZ (hw _ (List.mem_of_getElem? (i := 12) rfl))) (mvT hZ (hw _ (List.mem_of_getElem? (i := 4) rfl))) (mvT hZ (hw _ (List.mem_of_getElem? (i := 13) rfl))) (by decide) (backOf (W := 0) (rm60 l Z a0 hw [] b34_82 (4 : Int32) p0_1 kn34_82 (4 : Int32) (own_e (own_bit p0_1 (0 : Int32)) (0 : Int32)) (own_e (own_bit p0_1 (1 : Int32)) (own_c (own_bit p0_1 (0 : Int32)) (0 : Int32))) (own_e (own_bit p0_1 (2 : Int32)) (own_c (own_bit p0_1 (1 : Int32)) (own_c (own_bit p0_1 (0 : Int32)) (0 : Int32)))) (own_e (own_bit p0_1 (3 : Int32)) (own_c (own_bit p0_1 (2 : Int32)) (own_c (own_bit p0_1 (1 : Int32)) (own_c (own_bit p0_1 (0 : Int32)) (0 : Int32))))) (0 : Int32) (0 : Int32) T82.heap n0 Zs82 G82_0 (by decide : (0 : Int32) < (4 : Int32)) (by decide : (0 : Int32) < (4 : Int32))) hZ (hw _ (List.mem_of_getElem? (i := 13) rfl)) (hw _ (List.mem_of_getElem? (i := 4) rfl)) (by decide) (by decide)) (g := (mkF m 79 #[.val (.int p0_0), .val (.int p0_1), .val (.int (4 : Int32)), .val (.ref b75), .val (.ref b34_82)] [(.int (0 : Int32)), (.int p0_1), (.int (4 : Int32)), (.ref b34_82)])) rfl (by rw [hml]; rfl) (argsL := [(.ref b34_82), (.int (4 : Int32)), (.int p0_1), (.int (0 : Int32))]) (rest := []) (lenOf pd_3 rfl) rfl (by show 2 * 0 + _ ≤ _; exact Nat.le_of_eq rfl) (hb hby at_79) (fun _ _ => ⟨rfl, rfl, (by decide : 2 + 0 ≤ _), (by decide : 8 + 0 ≤ _)⟩)
    dsimp only [Pt.U, Pt.locs, Pt.cells, Pt.slots] at X86 l86 y86 z86 st86 hQ86
    subst l86 y86 z86
    obtain ⟨rfl, N86q, eh86⟩ := hQ86
    have N86 := Fr.app N82 N86q
    obtain ⟨_, _, ⟨T87, L87, k87, n87⟩, -, X87, ⟨Lc87, hQ87, l87, y87, z87⟩, st87⟩ := Jvm.LawKit.callS X86 hx (y := (⟨"com/example/leanweave/leanweave/NetworkNumberingPinLaw", "ok", "([IIII)Z"⟩ : MethodName)) hown (mvT hZ (hw _ (List.mem_of_getElem? (i := 11) rfl))) (mvT hZ (hw _ (List.mem_of_getElem? (i := 12) rfl))) (mvT hZ (hw _ (List.mem_of_getElem? (i := 4) rfl))) (mvT hZ (hw _ (List.mem_of_getElem? (i := 13) rfl))) (by decide) (backOf (W := 0) (rm61 l Z a0 hw [] b34_82 (4 : Int32) p0_1 kn34_82 (4 : Int32) (own_e (own_bit p0_1 (0 : Int32)) (0 : Int32)) (own_e (own_bit p0_1 (1 : Int32)) (own_c (own_bit p0_1 (0 : Int32)) (0 : Int32))) (own_e (own_bit p0_1 (2 : Int32)) (own_c (own_bit p0_1 (1 : Int32)) (own_c (own_bit p0_1 (0 : Int32)) (0 : Int32)))) (own_e (own_bit p0_1 (3 : Int32)) (own_c (own_bit p0_1 (2 : Int32)) (own_c (own_bit p0_1 (1 : Int32)) (own_c (own_bit p0_1 (0 : Int32)) (0 : Int32))))) (0 : Int32) (0 : Int32) T82.heap n0 Zs82 G82_0 (by decide : (1 : Int32) < (4 : Int32)) (by decide : (1 : Int32) < (4 : Int32))) hZ (hw _ (List.mem_of_getElem? (i := 13) rfl)) (hw _ (List.mem_of_getElem? (i := 4) rfl)) (by decide) (by decide)) (g := (mkF m 90 #[.val (.int p0_0), .val (.int p0_1), .val (.int (4 : Int32)), .val (.ref b75), .val (.ref b34_82)] [(.int (1 : Int32)), (.int p0_1), (.int (4 : Int32)), (.ref b34_82)])) rfl (by rw [hml]; rfl) (argsL := [(.ref b34_82), (.int (4 : Int32)), (.int p0_1), (.int (1 : Int32))]) (rest := []) (lenOf pd_3 rfl) rfl (by show 2 * 0 + _ ≤ _; exact Nat.le_of_eq rfl) (hb hby at_90) (fun _ _ => ⟨rfl, eh86, (by decide : 2 + 0 ≤ _), (by decide : 8 + 0 ≤ _)⟩)
    dsimp only [Pt.U, Pt.locs, Pt.cells, Pt.slots] at X87 l87 y87 z87 st87 hQ87
    subst l87 y87 z87
    obtain ⟨rfl, N87q, eh87⟩ := hQ87
    have N87 := Fr.app N86 N87q
    obtain ⟨_, _, ⟨T88, L88, k88, n88⟩, -, X88, ⟨Lc88, hQ88, l88, y88, z88⟩, st88⟩ := Jvm.LawKit.callS X87 hx (y := (⟨"com/example/leanweave/leanweave/NetworkNumberingPinLaw", "ok", "([IIII)Z"⟩ : MethodName)) hown (mvT hZ (hw _ (List.mem_of_getElem? (i := 11) rfl))) (mvT hZ (hw _ (List.mem_of_getElem? (i := 12) rfl))) (mvT hZ (hw _ (List.mem_of_getElem? (i := 4) rfl))) (mvT hZ (hw _ (List.mem_of_getElem? (i := 13) rfl))) (by decide) (backOf (W := 0) (rm62 l Z a0 hw [] b34_82 (4 : Int32) p0_1 kn34_82 (4 : Int32) (own_e (own_bit p0_1 (0 : Int32)) (0 : Int32)) (own_e (own_bit p0_1 (1 : Int32)) (own_c (own_bit p0_1 (0 : Int32)) (0 : Int32))) (own_e (own_bit p0_1 (2 : Int32)) (own_c (own_bit p0_1 (1 : Int32)) (own_c (own_bit p0_1 (0 : Int32)) (0 : Int32)))) (own_e (own_bit p0_1 (3 : Int32)) (own_c (own_bit p0_1 (2 : Int32)) (own_c (own_bit p0_1 (1 : Int32)) (own_c (own_bit p0_1 (0 : Int32)) (0 : Int32))))) (0 : Int32) (0 : Int32) T82.heap n0 Zs82 G82_0 (by decide : (2 : Int32) < (4 : Int32)) (by decide : (2 : Int32) < (4 : Int32))) hZ (hw _ (List.mem_of_getElem? (i := 13) rfl)) (hw _ (List.mem_of_getElem? (i := 4) rfl)) (by decide) (by decide)) (g := (mkF m 101 #[.val (.int p0_0), .val (.int p0_1), .val (.int (4 : Int32)), .val (.ref b75), .val (.ref b34_82)] [(.int (2 : Int32)), (.int p0_1), (.int (4 : Int32)), (.ref b34_82)])) rfl (by rw [hml]; rfl) (argsL := [(.ref b34_82), (.int (4 : Int32)), (.int p0_1), (.int (2 : Int32))]) (rest := []) (lenOf pd_3 rfl) rfl (by show 2 * 0 + _ ≤ _; exact Nat.le_of_eq rfl) (hb hby at_101) (fun _ _ => ⟨rfl, eh87, (by decide : 2 + 0 ≤ _), (by decide : 8 + 0 ≤ _)⟩)
    dsimp only [Pt.U, Pt.locs, Pt.cells, Pt.slots] at X88 l88 y88 z88 st88 hQ88
    subst l88 y88 z88
    obtain ⟨rfl, N88q, eh88⟩ := hQ88
    have N88 := Fr.app N87 N88q
    obtain ⟨_, _, ⟨T89, L89, k89, n89⟩, -, X89, ⟨Lc89, hQ89, l89, y89, z89⟩, st89⟩ := Jvm.LawKit.callS X88 hx (y := (⟨"com/example/leanweave/leanweave/NetworkNumberingPinLaw", "ok", "([IIII)Z"⟩ : MethodName)) hown (mvT hZ (hw _ (List.mem_of_getElem? (i := 11) rfl))) (mvT hZ (hw _ (List.mem_of_getElem? (i := 12) rfl))) (mvT hZ (hw _ (List.mem_of_getElem? (i := 4) rfl))) (mvT hZ (hw _ (List.mem_of_getElem? (i := 13) rfl))) (by decide) (backOf (W := 0) (rm63 l Z a0 hw [] b34_82 (4 : Int32) p0_1 kn34_82 (4 : Int32) (own_e (own_bit p0_1 (0 : Int32)) (0 : Int32)) (own_e (own_bit p0_1 (1 : Int32)) (own_c (own_bit p0_1 (0 : Int32)) (0 : Int32))) (own_e (own_bit p0_1 (2 : Int32)) (own_c (own_bit p0_1 (1 : Int32)) (own_c (own_bit p0_1 (0 : Int32)) (0 : Int32)))) (own_e (own_bit p0_1 (3 : Int32)) (own_c (own_bit p0_1 (2 : Int32)) (own_c (own_bit p0_1 (1 : Int32)) (own_c (own_bit p0_1 (0 : Int32)) (0 : Int32))))) (0 : Int32) (0 : Int32) T82.heap n0 Zs82 G82_0 (by decide : (3 : Int32) < (4 : Int32)) (by decide : (3 : Int32) < (4 : Int32))) hZ (hw _ (List.mem_of_getElem? (i := 13) rfl)) (hw _ (List.mem_of_getElem? (i := 4) rfl)) (by decide) (by decide)) (g := (mkF m 112 #[.val (.int p0_0), .val (.int p0_1), .val (.int (4 : Int32)), .val (.ref b75), .val (.ref b34_82)] [(.int (3 : Int32)), (.int p0_1), (.int (4 : Int32)), (.ref b34_82)])) rfl (by rw [hml]; rfl) (argsL := [(.ref b34_82), (.int (4 : Int32)), (.int p0_1), (.int (3 : Int32))]) (rest := []) (lenOf pd_3 rfl) rfl (by show 2 * 0 + _ ≤ _; exact Nat.le_of_eq rfl) (hb hby at_112) (fun _ _ => ⟨rfl, eh88, (by decide : 2 + 0 ≤ _), (by decide : 8 + 0 ≤ _)⟩)
    dsimp only [Pt.U, Pt.locs, Pt.cells, Pt.slots] at X89 l89 y89 z89 st89 hQ89
    subst l89 y89 z89
    obtain ⟨rfl, N89q, eh89⟩ := hQ89
    have N89 := Fr.app N88 N89q
    obtain ⟨_, _, ⟨T90, L90, k90, n90⟩, -, X90, ⟨Lc90, hQ90, l90, y90, z90⟩, st90⟩ := Jvm.LawKit.callS X89 hx (y := (⟨"com/example/leanweave/leanweave/NetworkNumberingPinLaw", "ok", "([IIII)Z"⟩ : MethodName)) hown (mvT hZ (hw _ (List.mem_of_getElem? (i := 11) rfl))) (mvT hZ (hw _ (List.mem_of_getElem? (i := 12) rfl))) (mvT hZ (hw _ (List.mem_of_getElem? (i := 4) rfl))) (mvT hZ (hw _ (List.mem_of_getElem? (i := 13) rfl))) (by decide) (backOf (W := 0) (rm5 l Z a0 hw [] b34_82 (4 : Int32) p0_1 (4 : Int32) T82.heap n0 Zs82 (by decide : ¬ ((4 : Int32) < (4 : Int32)))) hZ (hw _ (List.mem_of_getElem? (i := 13) rfl)) (hw _ (List.mem_of_getElem? (i := 4) rfl)) (by decide) (by decide)) (g := (mkF m 123 #[.val (.int p0_0), .val (.int p0_1), .val (.int (4 : Int32)), .val (.ref b75), .val (.ref b34_82)] [(.int (4 : Int32)), (.int p0_1), (.int (4 : Int32)), (.ref b34_82)])) rfl (by rw [hml]; rfl) (argsL := [(.ref b34_82), (.int (4 : Int32)), (.int p0_1), (.int (4 : Int32))]) (rest := []) (lenOf pd_3 rfl) rfl (by show 2 * 0 + _ ≤ _; exact Nat.le_of_eq rfl) (hb hby at_123) (fun _ _ => ⟨rfl, eh89, (by decide : 2 + 0 ≤ _), (by decide : 8 + 0 ≤ _)⟩)
    dsimp only [Pt.U, Pt.locs, Pt.cells, Pt.slots] at X90 l90 y90 z90 st90 hQ90
    subst l90 y90 z90
    obtain ⟨rfl, N90q, eh90⟩ := hQ90
    have N90 := Fr.app N89 N90q
    obtain ⟨_, _, ⟨T91, L91, k91, n91⟩, -, X91, ⟨Lc91, hQ91, l91, y91, z91⟩, st91⟩ := Jvm.LawKit.callS X90 hx (y := (⟨"com/example/leanweave/leanweave/NetworkNumberingPinLaw", "ok", "([IIII)Z"⟩ : MethodName)) hown (mvT hZ (hw _ (List.mem_of_getElem? (i := 11) rfl))) (mvT hZ (hw _ (List.mem_of_getElem? (i := 12) rfl))) (mvT hZ (hw _ (List.mem_of_getElem? (i := 4) rfl))) (mvT hZ (hw _ (List.mem_of_getElem? (i := 13) rfl))) (by decide) (backOf (W := 0) (rm5 l Z a0 hw [] b34_82 (4 : Int32) p0_1 (5 : Int32) T82.heap n0 Zs82 (by decide : ¬ ((5 : Int32) < (4 : Int32)))) hZ (hw _ (List.mem_of_getElem? (i := 13) rfl)) (hw _ (List.mem_of_getElem? (i := 4) rfl)) (by decide) (by decide)) (g := (mkF m 134 #[.val (.int p0_0), .val (.int p0_1), .val (.int (4 : Int32)), .val (.ref b75), .val (.ref b34_82)] [(.int (5 : Int32)), (.int p0_1), (.int (4 : Int32)), (.ref b34_82)])) rfl (by rw [hml]; rfl) (argsL := [(.ref b34_82), (.int (4 : Int32)), (.int p0_1), (.int (5 : Int32))]) (rest := []) (lenOf pd_3 rfl) rfl (by show 2 * 0 + _ ≤ _; exact Nat.le_of_eq rfl) (hb hby at_134) (fun _ _ => ⟨rfl, eh90, (by decide : 2 + 0 ≤ _), (by decide : 8 + 0 ≤ _)⟩)
    dsimp only [Pt.U, Pt.locs, Pt.cells, Pt.slots] at X91 l91 y91 z91 st91 hQ91
    subst l91 y91 z91
    obtain ⟨rfl, N91q, eh91⟩ := hQ91
    have N91 := Fr.app N90 N91q
    have k92 : ∀ t, Steps p.tables e below (T91.setTop (mkF m 145 #[.val (.int p0_0), .val (.int p0_1), .val (.int (4 : Int32)), .val (.ref b75), .val (.ref b34_82)] [(.int (1 : Int32))])) t → Steps p.tables e below (s₁.setTop (entryFrame m #[(.int p0_0), (.int p0_1)] maxLocals)) t := by
      intro t k
      refine k1 t ?_
      show Steps p.tables e below (s₁.setTop (mkF m 8 #[.val (.int p0_0), .val (.int p0_1), .val (.int (4 : Int32)), .unset, .unset] [])) _
      refine XS.iloadN X0.here hx rfl (hb hby at_8) rfl ?_
      show Steps p.tables e below (s₁.setTop (mkF m 9 #[.val (.int p0_0), .val (.int p0_1), .val (.int (4 : Int32)), .unset, .unset] [(.int (4 : Int32))])) _
      refine st75 _ ?_
      show Steps p.tables e below (T75.setTop (mkF m 11 #[.val (.int p0_0), .val (.int p0_1), .val (.int (4 : Int32)), .unset, .unset] [(.ref b75)])) _
      refine XS.astoreN X75.here hx rfl (hb hby at_11) rfl rfl (l' := #[.val (.int p0_0), .val (.int p0_1), .val (.int (4 : Int32)), .val (.ref b75), .unset]) rfl ?_
      show Steps p.tables e below (T75.setTop (mkF m 12 #[.val (.int p0_0), .val (.int p0_1), .val (.int (4 : Int32)), .val (.ref b75), .unset] [])) _
      refine XS.aloadN X75.here hx rfl (hb hby at_12) rfl rfl ?_
      show Steps p.tables e below (T75.setTop (mkF m 13 #[.val (.int p0_0), .val (.int p0_1), .val (.int (4 : Int32)), .val (.ref b75), .unset] [(.ref b75)])) _
      refine XS.iloadN X75.here hx rfl (hb hby at_13) rfl ?_
      show Steps p.tables e below (T75.setTop (mkF m 14 #[.val (.int p0_0), .val (.int p0_1), .val (.int (4 : Int32)), .val (.ref b75), .unset] [(.int (4 : Int32)), (.ref b75)])) _
      refine XS.iloadN X75.here hx rfl (hb hby at_14) rfl ?_
      show Steps p.tables e below (T75.setTop (mkF m 15 #[.val (.int p0_0), .val (.int p0_1), .val (.int (4 : Int32)), .val (.ref b75), .unset] [(.int p0_1), (.int (4 : Int32)), (.ref b75)])) _
      refine XS.iconst X75.here hx rfl (hb hby at_15) ?_
      show Steps p.tables e below (T75.setTop (mkF m 16 #[.val (.int p0_0), .val (.int p0_1), .val (.int (4 : Int32)), .val (.ref b75), .unset] [(.int (0 : Int32)), (.int p0_1), (.int (4 : Int32)), (.ref b75)])) _
      refine st76 _ ?_
      show Steps p.tables e below (T76.setTop (mkF m 19 #[.val (.int p0_0), .val (.int p0_1), .val (.int (4 : Int32)), .val (.ref b75), .unset] [])) _
      refine XS.aloadN X76.here hx rfl (hb hby at_19) rfl rfl ?_
      show Steps p.tables e below (T76.setTop (mkF m 20 #[.val (.int p0_0), .val (.int p0_1), .val (.int (4 : Int32)), .val (.ref b75), .unset] [(.ref b75)])) _
      refine XS.iloadN X76.here hx rfl (hb hby at_20) rfl ?_
      show Steps p.tables e below (T76.setTop (mkF m 21 #[.val (.int p0_0), .val (.int p0_1), .val (.int (4 : Int32)), .val (.ref b75), .unset] [(.int (4 : Int32)), (.ref b75)])) _
      refine XS.iloadN X76.here hx rfl (hb hby at_21) rfl ?_
      show Steps p.tables e below (T76.setTop (mkF m 22 #[.val (.int p0_0), .val (.int p0_1), .val (.int (4 : Int32)), .val (.ref b75), .unset] [(.int p0_1), (.int (4 : Int32)), (.ref b75)])) _
      refine XS.iconst X76.here hx rfl (hb hby at_22) ?_
      show Steps p.tables e below (T76.setTop (mkF m 23 #[.val (.int p0_0), .val (.int p0_1), .val (.int (4 : Int32)), .val (.ref b75), .unset] [(.int (1 : Int32)), (.int p0_1), (.int (4 : Int32)), (.ref b75)])) _
      refine st77 _ ?_
      show Steps p.tables e below (T77.setTop (mkF m 26 #[.val (.int p0_0), .val (.int p0_1), .val (.int (4 : Int32)), .val (.ref b75), .unset] [])) _
      refine XS.aloadN X77.here hx rfl (hb hby at_26) rfl rfl ?_
      show Steps p.tables e below (T77.setTop (mkF m 27 #[.val (.int p0_0), .val (.int p0_1), .val (.int (4 : Int32)), .val (.ref b75), .unset] [(.ref b75)])) _
      refine XS.iloadN X77.here hx rfl (hb hby at_27) rfl ?_
      show Steps p.tables e below (T77.setTop (mkF m 28 #[.val (.int p0_0), .val (.int p0_1), .val (.int (4 : Int32)), .val (.ref b75), .unset] [(.int (4 : Int32)), (.ref b75)])) _
      refine XS.iloadN X77.here hx rfl (hb hby at_28) rfl ?_
      show Steps p.tables e below (T77.setTop (mkF m 29 #[.val (.int p0_0), .val (.int p0_1), .val (.int (4 : Int32)), .val (.ref b75), .unset] [(.int p0_1), (.int (4 : Int32)), (.ref b75)])) _
      refine XS.iconst X77.here hx rfl (hb hby at_29) ?_
      show Steps p.tables e below (T77.setTop (mkF m 30 #[.val (.int p0_0), .val (.int p0_1), .val (.int (4 : Int32)), .val (.ref b75), .unset] [(.int (2 : Int32)), (.int p0_1), (.int (4 : Int32)), (.ref b75)])) _
      refine st78 _ ?_
      show Steps p.tables e below (T78.setTop (mkF m 33 #[.val (.int p0_0), .val (.int p0_1), .val (.int (4 : Int32)), .val (.ref b75), .unset] [])) _
      refine XS.aloadN X78.here hx rfl (hb hby at_33) rfl rfl ?_
      show Steps p.tables e below (T78.setTop (mkF m 34 #[.val (.int p0_0), .val (.int p0_1), .val (.int (4 : Int32)), .val (.ref b75), .unset] [(.ref b75)])) _
      refine XS.iloadN X78.here hx rfl (hb hby at_34) rfl ?_
      show Steps p.tables e below (T78.setTop (mkF m 35 #[.val (.int p0_0), .val (.int p0_1), .val (.int (4 : Int32)), .val (.ref b75), .unset] [(.int (4 : Int32)), (.ref b75)])) _
      refine XS.iloadN X78.here hx rfl (hb hby at_35) rfl ?_
      show Steps p.tables e below (T78.setTop (mkF m 36 #[.val (.int p0_0), .val (.int p0_1), .val (.int (4 : Int32)), .val (.ref b75), .unset] [(.int p0_1), (.int (4 : Int32)), (.ref b75)])) _
      refine XS.iconst X78.here hx rfl (hb hby at_36) ?_
      show Steps p.tables e below (T78.setTop (mkF m 37 #[.val (.int p0_0), .val (.int p0_1), .val (.int (4 : Int32)), .val (.ref b75), .unset] [(.int (3 : Int32)), (.int p0_1), (.int (4 : Int32)), (.ref b75)])) _
      refine st79 _ ?_
      show Steps p.tables e below (T79.setTop (mkF m 40 #[.val (.int p0_0), .val (.int p0_1), .val (.int (4 : Int32)), .val (.ref b75), .unset] [])) _
      refine XS.aloadN X79.here hx rfl (hb hby at_40) rfl rfl ?_
      show Steps p.tables e below (T79.setTop (mkF m 41 #[.val (.int p0_0), .val (.int p0_1), .val (.int (4 : Int32)), .val (.ref b75), .unset] [(.ref b75)])) _
      refine XS.iloadN X79.here hx rfl (hb hby at_41) rfl ?_
      show Steps p.tables e below (T79.setTop (mkF m 42 #[.val (.int p0_0), .val (.int p0_1), .val (.int (4 : Int32)), .val (.ref b75), .unset] [(.int (4 : Int32)), (.ref b75)])) _
      refine XS.iloadN X79.here hx rfl (hb hby at_42) rfl ?_
      show Steps p.tables e below (T79.setTop (mkF m 43 #[.val (.int p0_0), .val (.int p0_1), .val (.int (4 : Int32)), .val (.ref b75), .unset] [(.int p0_1), (.int (4 : Int32)), (.ref b75)])) _
      refine XS.iconst X79.here hx rfl (hb hby at_43) ?_
      show Steps p.tables e below (T79.setTop (mkF m 44 #[.val (.int p0_0), .val (.int p0_1), .val (.int (4 : Int32)), .val (.ref b75), .unset] [(.int (4 : Int32)), (.int p0_1), (.int (4 : Int32)), (.ref b75)])) _
      refine st80 _ ?_
      show Steps p.tables e below (T80.setTop (mkF m 47 #[.val (.int p0_0), .val (.int p0_1), .val (.int (4 : Int32)), .val (.ref b75), .unset] [])) _
      refine XS.aloadN X80.here hx rfl (hb hby at_47) rfl rfl ?_
      show Steps p.tables e below (T80.setTop (mkF m 48 #[.val (.int p0_0), .val (.int p0_1), .val (.int (4 : Int32)), .val (.ref b75), .unset] [(.ref b75)])) _
      refine XS.iloadN X80.here hx rfl (hb hby at_48) rfl ?_
      show Steps p.tables e below (T80.setTop (mkF m 49 #[.val (.int p0_0), .val (.int p0_1), .val (.int (4 : Int32)), .val (.ref b75), .unset] [(.int (4 : Int32)), (.ref b75)])) _
      refine XS.iloadN X80.here hx rfl (hb hby at_49) rfl ?_
      show Steps p.tables e below (T80.setTop (mkF m 50 #[.val (.int p0_0), .val (.int p0_1), .val (.int (4 : Int32)), .val (.ref b75), .unset] [(.int p0_1), (.int (4 : Int32)), (.ref b75)])) _
      refine XS.iconst X80.here hx rfl (hb hby at_50) ?_
      show Steps p.tables e below (T80.setTop (mkF m 51 #[.val (.int p0_0), .val (.int p0_1), .val (.int (4 : Int32)), .val (.ref b75), .unset] [(.int (5 : Int32)), (.int p0_1), (.int (4 : Int32)), (.ref b75)])) _
      refine st81 _ ?_
      show Steps p.tables e below (T81.setTop (mkF m 54 #[.val (.int p0_0), .val (.int p0_1), .val (.int (4 : Int32)), .val (.ref b75), .unset] [])) _
      refine XS.aloadN X81.here hx rfl (hb hby at_54) rfl rfl ?_
      show Steps p.tables e below (T81.setTop (mkF m 55 #[.val (.int p0_0), .val (.int p0_1), .val (.int (4 : Int32)), .val (.ref b75), .unset] [(.ref b75)])) _
      refine st82 _ ?_
      show Steps p.tables e below (T82.setTop (mkF m 58 #[.val (.int p0_0), .val (.int p0_1), .val (.int (4 : Int32)), .val (.ref b75), .unset] [(.ref b34_82)])) _
      refine XS.astore X82.here hx rfl (hb hby at_58) rfl rfl (l' := #[.val (.int p0_0), .val (.int p0_1), .val (.int (4 : Int32)), .val (.ref b75), .val (.ref b34_82)]) rfl ?_
      show Steps p.tables e below (T82.setTop (mkF m 60 #[.val (.int p0_0), .val (.int p0_1), .val (.int (4 : Int32)), .val (.ref b75), .val (.ref b34_82)] [])) _
      refine XS.aload X82.here hx rfl (hb hby at_60) rfl rfl ?_
      show Steps p.tables e below (T82.setTop (mkF m 62 #[.val (.int p0_0), .val (.int p0_1), .val (.int (4 : Int32)), .val (.ref b75), .val (.ref b34_82)] [(.ref b34_82)])) _
      refine XS.ifnullNo X82.here hx rfl (hb hby at_62) rfl ?_
      show Steps p.tables e below (T82.setTop (mkF m 65 #[.val (.int p0_0), .val (.int p0_1), .val (.int (4 : Int32)), .val (.ref b75), .val (.ref b34_82)] [])) _
      refine XS.aload X82.here hx rfl (hb hby at_65) rfl rfl ?_
      show Steps p.tables e below (T82.setTop (mkF m 67 #[.val (.int p0_0), .val (.int p0_1), .val (.int (4 : Int32)), .val (.ref b75), .val (.ref b34_82)] [(.ref b34_82)])) _
      refine X82.arraylength hx Ar85.1 (State.isArrayOf_alike hZ.alike Ar85.2.1) (g := (mkF m 67 #[.val (.int p0_0), .val (.int p0_1), .val (.int (4 : Int32)), .val (.ref b75), .val (.ref b34_82)] [(.ref b34_82)])) rfl rfl (hb hby at_67) _ ?_
      rw [len_of Sz85 Nn85]
      show Steps p.tables e below (T82.setTop (mkF m 68 #[.val (.int p0_0), .val (.int p0_1), .val (.int (4 : Int32)), .val (.ref b75), .val (.ref b34_82)] [(.int (4 : Int32))])) _
      refine XS.iloadN X82.here hx rfl (hb hby at_68) rfl ?_
      show Steps p.tables e below (T82.setTop (mkF m 69 #[.val (.int p0_0), .val (.int p0_1), .val (.int (4 : Int32)), .val (.ref b75), .val (.ref b34_82)] [(.int (4 : Int32)), (.int (4 : Int32))])) _
      refine XS.icmpYes X82.here hx rfl (pc0 := 69) (pc' := 74) rfl (hb hby at_69) rfl (teq (by decide : (4 : Int32) = (4 : Int32))).1 (by decide) (by decide) ?_
      show Steps p.tables e below (T82.setTop (mkF m 74 #[.val (.int p0_0), .val (.int p0_1), .val (.int (4 : Int32)), .val (.ref b75), .val (.ref b34_82)] [])) _
      refine XS.aload X82.here hx rfl (hb hby at_74) rfl rfl ?_
      show Steps p.tables e below (T82.setTop (mkF m 76 #[.val (.int p0_0), .val (.int p0_1), .val (.int (4 : Int32)), .val (.ref b75), .val (.ref b34_82)] [(.ref b34_82)])) _
      refine XS.iloadN X82.here hx rfl (hb hby at_76) rfl ?_
      show Steps p.tables e below (T82.setTop (mkF m 77 #[.val (.int p0_0), .val (.int p0_1), .val (.int (4 : Int32)), .val (.ref b75), .val (.ref b34_82)] [(.int (4 : Int32)), (.ref b34_82)])) _
      refine XS.iloadN X82.here hx rfl (hb hby at_77) rfl ?_
      show Steps p.tables e below (T82.setTop (mkF m 78 #[.val (.int p0_0), .val (.int p0_1), .val (.int (4 : Int32)), .val (.ref b75), .val (.ref b34_82)] [(.int p0_1), (.int (4 : Int32)), (.ref b34_82)])) _
      refine XS.iconst X82.here hx rfl (hb hby at_78) ?_
      show Steps p.tables e below (T82.setTop (mkF m 79 #[.val (.int p0_0), .val (.int p0_1), .val (.int (4 : Int32)), .val (.ref b75), .val (.ref b34_82)] [(.int (0 : Int32)), (.int p0_1), (.int (4 : Int32)), (.ref b34_82)])) _
      refine st86 _ ?_
      show Steps p.tables e below (T86.setTop (mkF m 82 #[.val (.int p0_0), .val (.int p0_1), .val (.int (4 : Int32)), .val (.ref b75), .val (.ref b34_82)] [(.int (own_ok0 p0_1 (own_e (own_bit p0_1 (0 : Int32)) (0 : Int32))))])) _
      refine XS.ifNo X86.here hx rfl (hb hby at_82) rfl ((if0 _ _).trans (feq (by rw [own_okl0]; decide)).1) ?_
      show Steps p.tables e below (T86.setTop (mkF m 85 #[.val (.int p0_0), .val (.int p0_1), .val (.int (4 : Int32)), .val (.ref b75), .val (.ref b34_82)] [])) _
      refine XS.aload X86.here hx rfl (hb hby at_85) rfl rfl ?_
      show Steps p.tables e below (T86.setTop (mkF m 87 #[.val (.int p0_0), .val (.int p0_1), .val (.int (4 : Int32)), .val (.ref b75), .val (.ref b34_82)] [(.ref b34_82)])) _
      refine XS.iloadN X86.here hx rfl (hb hby at_87) rfl ?_
      show Steps p.tables e below (T86.setTop (mkF m 88 #[.val (.int p0_0), .val (.int p0_1), .val (.int (4 : Int32)), .val (.ref b75), .val (.ref b34_82)] [(.int (4 : Int32)), (.ref b34_82)])) _
      refine XS.iloadN X86.here hx rfl (hb hby at_88) rfl ?_
      show Steps p.tables e below (T86.setTop (mkF m 89 #[.val (.int p0_0), .val (.int p0_1), .val (.int (4 : Int32)), .val (.ref b75), .val (.ref b34_82)] [(.int p0_1), (.int (4 : Int32)), (.ref b34_82)])) _
      refine XS.iconst X86.here hx rfl (hb hby at_89) ?_
      show Steps p.tables e below (T86.setTop (mkF m 90 #[.val (.int p0_0), .val (.int p0_1), .val (.int (4 : Int32)), .val (.ref b75), .val (.ref b34_82)] [(.int (1 : Int32)), (.int p0_1), (.int (4 : Int32)), (.ref b34_82)])) _
      refine st87 _ ?_
      show Steps p.tables e below (T87.setTop (mkF m 93 #[.val (.int p0_0), .val (.int p0_1), .val (.int (4 : Int32)), .val (.ref b75), .val (.ref b34_82)] [(.int (own_ok1 p0_1 (own_e (own_bit p0_1 (1 : Int32)) (own_c (own_bit p0_1 (0 : Int32)) (0 : Int32)))))])) _
      refine XS.ifNo X87.here hx rfl (hb hby at_93) rfl ((if0 _ _).trans (feq (by rw [own_okl1]; decide)).1) ?_
      show Steps p.tables e below (T87.setTop (mkF m 96 #[.val (.int p0_0), .val (.int p0_1), .val (.int (4 : Int32)), .val (.ref b75), .val (.ref b34_82)] [])) _
      refine XS.aload X87.here hx rfl (hb hby at_96) rfl rfl ?_
      show Steps p.tables e below (T87.setTop (mkF m 98 #[.val (.int p0_0), .val (.int p0_1), .val (.int (4 : Int32)), .val (.ref b75), .val (.ref b34_82)] [(.ref b34_82)])) _
      refine XS.iloadN X87.here hx rfl (hb hby at_98) rfl ?_
      show Steps p.tables e below (T87.setTop (mkF m 99 #[.val (.int p0_0), .val (.int p0_1), .val (.int (4 : Int32)), .val (.ref b75), .val (.ref b34_82)] [(.int (4 : Int32)), (.ref b34_82)])) _
      refine XS.iloadN X87.here hx rfl (hb hby at_99) rfl ?_
      show Steps p.tables e below (T87.setTop (mkF m 100 #[.val (.int p0_0), .val (.int p0_1), .val (.int (4 : Int32)), .val (.ref b75), .val (.ref b34_82)] [(.int p0_1), (.int (4 : Int32)), (.ref b34_82)])) _
      refine XS.iconst X87.here hx rfl (hb hby at_100) ?_
      show Steps p.tables e below (T87.setTop (mkF m 101 #[.val (.int p0_0), .val (.int p0_1), .val (.int (4 : Int32)), .val (.ref b75), .val (.ref b34_82)] [(.int (2 : Int32)), (.int p0_1), (.int (4 : Int32)), (.ref b34_82)])) _
      refine st88 _ ?_
      show Steps p.tables e below (T88.setTop (mkF m 104 #[.val (.int p0_0), .val (.int p0_1), .val (.int (4 : Int32)), .val (.ref b75), .val (.ref b34_82)] [(.int (own_ok2 p0_1 (own_e (own_bit p0_1 (2 : Int32)) (own_c (own_bit p0_1 (1 : Int32)) (own_c (own_bit p0_1 (0 : Int32)) (0 : Int32))))))])) _
      refine XS.ifNo X88.here hx rfl (hb hby at_104) rfl ((if0 _ _).trans (feq (by rw [own_okl2]; decide)).1) ?_
      show Steps p.tables e below (T88.setTop (mkF m 107 #[.val (.int p0_0), .val (.int p0_1), .val (.int (4 : Int32)), .val (.ref b75), .val (.ref b34_82)] [])) _
      refine XS.aload X88.here hx rfl (hb hby at_107) rfl rfl ?_
      show Steps p.tables e below (T88.setTop (mkF m 109 #[.val (.int p0_0), .val (.int p0_1), .val (.int (4 : Int32)), .val (.ref b75), .val (.ref b34_82)] [(.ref b34_82)])) _
      refine XS.iloadN X88.here hx rfl (hb hby at_109) rfl ?_
      show Steps p.tables e below (T88.setTop (mkF m 110 #[.val (.int p0_0), .val (.int p0_1), .val (.int (4 : Int32)), .val (.ref b75), .val (.ref b34_82)] [(.int (4 : Int32)), (.ref b34_82)])) _
      refine XS.iloadN X88.here hx rfl (hb hby at_110) rfl ?_
      show Steps p.tables e below (T88.setTop (mkF m 111 #[.val (.int p0_0), .val (.int p0_1), .val (.int (4 : Int32)), .val (.ref b75), .val (.ref b34_82)] [(.int p0_1), (.int (4 : Int32)), (.ref b34_82)])) _
      refine XS.iconst X88.here hx rfl (hb hby at_111) ?_
      show Steps p.tables e below (T88.setTop (mkF m 112 #[.val (.int p0_0), .val (.int p0_1), .val (.int (4 : Int32)), .val (.ref b75), .val (.ref b34_82)] [(.int (3 : Int32)), (.int p0_1), (.int (4 : Int32)), (.ref b34_82)])) _
      refine st89 _ ?_
      show Steps p.tables e below (T89.setTop (mkF m 115 #[.val (.int p0_0), .val (.int p0_1), .val (.int (4 : Int32)), .val (.ref b75), .val (.ref b34_82)] [(.int (own_ok3 p0_1 (own_e (own_bit p0_1 (3 : Int32)) (own_c (own_bit p0_1 (2 : Int32)) (own_c (own_bit p0_1 (1 : Int32)) (own_c (own_bit p0_1 (0 : Int32)) (0 : Int32)))))))])) _
      refine XS.ifNo X89.here hx rfl (hb hby at_115) rfl ((if0 _ _).trans (feq (by rw [own_okl3]; decide)).1) ?_
      show Steps p.tables e below (T89.setTop (mkF m 118 #[.val (.int p0_0), .val (.int p0_1), .val (.int (4 : Int32)), .val (.ref b75), .val (.ref b34_82)] [])) _
      refine XS.aload X89.here hx rfl (hb hby at_118) rfl rfl ?_
      show Steps p.tables e below (T89.setTop (mkF m 120 #[.val (.int p0_0), .val (.int p0_1), .val (.int (4 : Int32)), .val (.ref b75), .val (.ref b34_82)] [(.ref b34_82)])) _
      refine XS.iloadN X89.here hx rfl (hb hby at_120) rfl ?_
      show Steps p.tables e below (T89.setTop (mkF m 121 #[.val (.int p0_0), .val (.int p0_1), .val (.int (4 : Int32)), .val (.ref b75), .val (.ref b34_82)] [(.int (4 : Int32)), (.ref b34_82)])) _
      refine XS.iloadN X89.here hx rfl (hb hby at_121) rfl ?_
      show Steps p.tables e below (T89.setTop (mkF m 122 #[.val (.int p0_0), .val (.int p0_1), .val (.int (4 : Int32)), .val (.ref b75), .val (.ref b34_82)] [(.int p0_1), (.int (4 : Int32)), (.ref b34_82)])) _
      refine XS.iconst X89.here hx rfl (hb hby at_122) ?_
      show Steps p.tables e below (T89.setTop (mkF m 123 #[.val (.int p0_0), .val (.int p0_1), .val (.int (4 : Int32)), .val (.ref b75), .val (.ref b34_82)] [(.int (4 : Int32)), (.int p0_1), (.int (4 : Int32)), (.ref b34_82)])) _
      refine st90 _ ?_
      show Steps p.tables e below (T90.setTop (mkF m 126 #[.val (.int p0_0), .val (.int p0_1), .val (.int (4 : Int32)), .val (.ref b75), .val (.ref b34_82)] [(.int (1 : Int32))])) _
      refine XS.ifNo X90.here hx rfl (hb hby at_126) rfl ((if0 _ _).trans (feq (by decide : ¬ ((1 : Int32) = (0 : Int32)))).1) ?_
      show Steps p.tables e below (T90.setTop (mkF m 129 #[.val (.int p0_0), .val (.int p0_1), .val (.int (4 : Int32)), .val (.ref b75), .val (.ref b34_82)] [])) _
      refine XS.aload X90.here hx rfl (hb hby at_129) rfl rfl ?_
      show Steps p.tables e below (T90.setTop (mkF m 131 #[.val (.int p0_0), .val (.int p0_1), .val (.int (4 : Int32)), .val (.ref b75), .val (.ref b34_82)] [(.ref b34_82)])) _
      refine XS.iloadN X90.here hx rfl (hb hby at_131) rfl ?_
      show Steps p.tables e below (T90.setTop (mkF m 132 #[.val (.int p0_0), .val (.int p0_1), .val (.int (4 : Int32)), .val (.ref b75), .val (.ref b34_82)] [(.int (4 : Int32)), (.ref b34_82)])) _
      refine XS.iloadN X90.here hx rfl (hb hby at_132) rfl ?_
      show Steps p.tables e below (T90.setTop (mkF m 133 #[.val (.int p0_0), .val (.int p0_1), .val (.int (4 : Int32)), .val (.ref b75), .val (.ref b34_82)] [(.int p0_1), (.int (4 : Int32)), (.ref b34_82)])) _
      refine XS.iconst X90.here hx rfl (hb hby at_133) ?_
      show Steps p.tables e below (T90.setTop (mkF m 134 #[.val (.int p0_0), .val (.int p0_1), .val (.int (4 : Int32)), .val (.ref b75), .val (.ref b34_82)] [(.int (5 : Int32)), (.int p0_1), (.int (4 : Int32)), (.ref b34_82)])) _
      refine st91 _ ?_
      show Steps p.tables e below (T91.setTop (mkF m 137 #[.val (.int p0_0), .val (.int p0_1), .val (.int (4 : Int32)), .val (.ref b75), .val (.ref b34_82)] [(.int (1 : Int32))])) _
      refine XS.ifNo X91.here hx rfl (hb hby at_137) rfl ((if0 _ _).trans (feq (by decide : ¬ ((1 : Int32) = (0 : Int32)))).1) ?_
      show Steps p.tables e below (T91.setTop (mkF m 140 #[.val (.int p0_0), .val (.int p0_1), .val (.int (4 : Int32)), .val (.ref b75), .val (.ref b34_82)] [])) _
      refine XS.iconst X91.here hx rfl (hb hby at_140) ?_
      show Steps p.tables e below (T91.setTop (mkF m 141 #[.val (.int p0_0), .val (.int p0_1), .val (.int (4 : Int32)), .val (.ref b75), .val (.ref b34_82)] [(.int (1 : Int32))])) _
      refine XS.goto X91.here hx rfl (pc0 := 141) (pc' := 145) rfl (hb hby at_141) (by decide) (by decide) ?_
      exact k
    obtain ⟨fs, hr, hrun, hended, hW, hsame⟩ := X91.leave (v := some (.int (1 : Int32))) (fun h => by rw [Bd.returns] at h; cases h)
    refine ⟨_, _, k92 _ ?_, hrun, hended, _, _, rfl, ?_, ⟨_, rfl⟩, hW, hsame.mono (by decide) (by decide)⟩
    · exact retN X91 hx (t := .boolean) Bd.returns (by simp) (hb hby at_145) hr
    · show Q0 Z p0_0 p0_1 h0 n0 _ T91.heap _
      rw [eh91]
      exact ⟨rfl, N91⟩
  · skip
    obtain ⟨b93, g93⟩ : ∃ z, z = h0.size := ⟨_, rfl⟩
    obtain ⟨T93, h93, k93, X93, e93, E93, A93, st93⟩ := newP X0 hx hZ (hw _ (List.mem_of_getElem? (i := 1) rfl)) e0 (g := (mkF m 9 #[.val (.int p0_0), .val (.int p0_1), .val (.int (5 : Int32)), .unset, .unset] [(.int (5 : Int32))])) rfl (hb hby at_9) rfl (by decide) (cap := 5) (by decide) (by decide) (by decide) (by decide)
    rw [← g93] at A93 st93
    have gg93 : n0 ≤ b93 := Nat.le_trans Z0 (Nat.le_of_eq g93.symm)
    have Zs93 : n0 ≤ h93.size := Nat.le_trans Z0 E93.1
    have V93 : Arv Z h93 b93 k93 .boolean (5 : Int32) [(.int (0 : Int32)), (.int (0 : Int32)), (.int (0 : Int32)), (.int (0 : Int32)), (.int (0 : Int32)), (.int (0 : Int32))] (.int (0 : Int32)) := (Arv.new A93 (by decide)).pad (pad_rep [] (.int (0 : Int32)) 6)
    obtain ⟨_, _, ⟨T94, L94, k94, n94⟩, -, X94, ⟨Lc94, hQ94, l94, y94, z94⟩, st94⟩ := Jvm.LawKit.callS X93 hx (y := (⟨"com/example/leanweave/leanweave/NetworkNumberingPinLaw", "set", "([ZIII)V"⟩ : MethodName)) hown (mvT hZ (hw _ (List.mem_of_getElem? (i := 2) rfl))) (mvT hZ (hw _ (List.mem_of_getElem? (i := 3) rfl))) (mvT hZ (hw _ (List.mem_of_getElem? (i := 4) rfl))) (mvT hZ (hw _ (List.mem_of_getElem? (i := 5) rfl))) (by decide) (backOf (W := 0) (rm20 l Z a0 hw [] b93 (5 : Int32) p0_1 k93 (5 : Int32) (.int (0 : Int32)) (.int (0 : Int32)) (.int (0 : Int32)) (.int (0 : Int32)) (.int (0 : Int32)) (.int (0 : Int32)) h93 n0 Zs93 V93 (by decide : (0 : Int32) < (5 : Int32)) (by decide : (0 : Int32) < (5 : Int32)) gg93) hZ (hw _ (List.mem_of_getElem? (i := 5) rfl)) (hw _ (List.mem_of_getElem? (i := 4) rfl)) (by decide) (by decide)) (g := (mkF m 16 #[.val (.int p0_0), .val (.int p0_1), .val (.int (5 : Int32)), .val (.ref b93), .unset] [(.int (0 : Int32)), (.int p0_1), (.int (5 : Int32)), (.ref b93)])) rfl (by rw [hml]; rfl) (argsL := [(.ref b93), (.int (5 : Int32)), (.int p0_1), (.int (0 : Int32))]) (rest := []) (lenOf pd_1 rfl) rfl (by show 2 * 0 + _ ≤ _; exact Nat.le_of_eq rfl) (hb hby at_16) (fun _ _ => ⟨rfl, e93, (by decide : 1 + 0 ≤ _), (by decide : 5 + 0 ≤ _)⟩)
    dsimp only [Pt.U, Pt.locs, Pt.cells, Pt.slots] at X94 l94 y94 z94 st94 hQ94
    subst l94 y94 z94
    obtain ⟨rfl, N94q, Kc94, G94_0⟩ := hQ94
    have Zs94 : n0 ≤ T94.heap.size := Nat.le_trans Zs93 Kc94.1
    have N94 := Fr.app N0 N94q
    obtain ⟨_, _, ⟨T95, L95, k95, n95⟩, -, X95, ⟨Lc95, hQ95, l95, y95, z95⟩, st95⟩ := Jvm.LawKit.callS X94 hx (y := (⟨"com/example/leanweave/leanweave/NetworkNumberingPinLaw", "set", "([ZIII)V"⟩ : MethodName)) hown (mvT hZ (hw _ (List.mem_of_getElem? (i := 2) rfl))) (mvT hZ (hw _ (List.mem_of_getElem? (i := 3) rfl))) (mvT hZ (hw _ (List.mem_of_getElem? (i := 4) rfl))) (mvT hZ (hw _ (List.mem_of_getElem? (i := 5) rfl))) (by decide) (backOf (W := 0) (rm21 l Z a0 hw [] b93 (5 : Int32) p0_1 k93 (5 : Int32) (.int (own_bit p0_1 (0 : Int32))) (.int (0 : Int32)) (.int (0 : Int32)) (.int (0 : Int32)) (.int (0 : Int32)) (.int (0 : Int32)) T94.heap n0 Zs94 G94_0 (by decide : (1 : Int32) < (5 : Int32)) (by decide : (1 : Int32) < (5 : Int32)) gg93) hZ (hw _ (List.mem_of_getElem? (i := 5) rfl)) (hw _ (List.mem_of_getElem? (i := 4) rfl)) (by decide) (by decide)) (g := (mkF m 23 #[.val (.int p0_0), .val (.int p0_1), .val (.int (5 : Int32)), .val (.ref b93), .unset] [(.int (1 : Int32)), (.int p0_1), (.int (5 : Int32)), (.ref b93)])) rfl (by rw [hml]; rfl) (argsL := [(.ref b93), (.int (5 : Int32)), (.int p0_1), (.int (1 : Int32))]) (rest := []) (lenOf pd_1 rfl) rfl (by show 2 * 0 + _ ≤ _; exact Nat.le_of_eq rfl) (hb hby at_23) (fun _ _ => ⟨rfl, rfl, (by decide : 1 + 0 ≤ _), (by decide : 5 + 0 ≤ _)⟩)
    dsimp only [Pt.U, Pt.locs, Pt.cells, Pt.slots] at X95 l95 y95 z95 st95 hQ95
    subst l95 y95 z95
    obtain ⟨rfl, N95q, Kc95, G95_0⟩ := hQ95
    have Zs95 : n0 ≤ T95.heap.size := Nat.le_trans Zs94 Kc95.1
    have N95 := Fr.app N94 N95q
    obtain ⟨_, _, ⟨T96, L96, k96, n96⟩, -, X96, ⟨Lc96, hQ96, l96, y96, z96⟩, st96⟩ := Jvm.LawKit.callS X95 hx (y := (⟨"com/example/leanweave/leanweave/NetworkNumberingPinLaw", "set", "([ZIII)V"⟩ : MethodName)) hown (mvT hZ (hw _ (List.mem_of_getElem? (i := 2) rfl))) (mvT hZ (hw _ (List.mem_of_getElem? (i := 3) rfl))) (mvT hZ (hw _ (List.mem_of_getElem? (i := 4) rfl))) (mvT hZ (hw _ (List.mem_of_getElem? (i := 5) rfl))) (by decide) (backOf (W := 0) (rm22 l Z a0 hw [] b93 (5 : Int32) p0_1 k93 (5 : Int32) (.int (own_bit p0_1 (0 : Int32))) (.int (own_bit p0_1 (1 : Int32))) (.int (0 : Int32)) (.int (0 : Int32)) (.int (0 : Int32)) (.int (0 : Int32)) T95.heap n0 Zs95 G95_0 (by decide : (2 : Int32) < (5 : Int32)) (by decide : (2 : Int32) < (5 : Int32)) gg93) hZ (hw _ (List.mem_of_getElem? (i := 5) rfl)) (hw _ (List.mem_of_getElem? (i := 4) rfl)) (by decide) (by decide)) (g := (mkF m 30 #[.val (.int p0_0), .val (.int p0_1), .val (.int (5 : Int32)), .val (.ref b93), .unset] [(.int (2 : Int32)), (.int p0_1), (.int (5 : Int32)), (.ref b93)])) rfl (by rw [hml]; rfl) (argsL := [(.ref b93), (.int (5 : Int32)), (.int p0_1), (.int (2 : Int32))]) (rest := []) (lenOf pd_1 rfl) rfl (by show 2 * 0 + _ ≤ _; exact Nat.le_of_eq rfl) (hb hby at_30) (fun _ _ => ⟨rfl, rfl, (by decide : 1 + 0 ≤ _), (by decide : 5 + 0 ≤ _)⟩)
    dsimp only [Pt.U, Pt.locs, Pt.cells, Pt.slots] at X96 l96 y96 z96 st96 hQ96
    subst l96 y96 z96
    obtain ⟨rfl, N96q, Kc96, G96_0⟩ := hQ96
    have Zs96 : n0 ≤ T96.heap.size := Nat.le_trans Zs95 Kc96.1
    have N96 := Fr.app N95 N96q
    obtain ⟨_, _, ⟨T97, L97, k97, n97⟩, -, X97, ⟨Lc97, hQ97, l97, y97, z97⟩, st97⟩ := Jvm.LawKit.callS X96 hx (y := (⟨"com/example/leanweave/leanweave/NetworkNumberingPinLaw", "set", "([ZIII)V"⟩ : MethodName)) hown (mvT hZ (hw _ (List.mem_of_getElem? (i := 2) rfl))) (mvT hZ (hw _ (List.mem_of_getElem? (i := 3) rfl))) (mvT hZ (hw _ (List.mem_of_getElem? (i := 4) rfl))) (mvT hZ (hw _ (List.mem_of_getElem? (i := 5) rfl))) (by decide) (backOf (W := 0) (rm23 l Z a0 hw [] b93 (5 : Int32) p0_1 k93 (5 : Int32) (.int (own_bit p0_1 (0 : Int32))) (.int (own_bit p0_1 (1 : Int32))) (.int (own_bit p0_1 (2 : Int32))) (.int (0 : Int32)) (.int (0 : Int32)) (.int (0 : Int32)) T96.heap n0 Zs96 G96_0 (by decide : (3 : Int32) < (5 : Int32)) (by decide : (3 : Int32) < (5 : Int32)) gg93) hZ (hw _ (List.mem_of_getElem? (i := 5) rfl)) (hw _ (List.mem_of_getElem? (i := 4) rfl)) (by decide) (by decide)) (g := (mkF m 37 #[.val (.int p0_0), .val (.int p0_1), .val (.int (5 : Int32)), .val (.ref b93), .unset] [(.int (3 : Int32)), (.int p0_1), (.int (5 : Int32)), (.ref b93)])) rfl (by rw [hml]; rfl) (argsL := [(.ref b93), (.int (5 : Int32)), (.int p0_1), (.int (3 : Int32))]) (rest := []) (lenOf pd_1 rfl) rfl (by show 2 * 0 + _ ≤ _; exact Nat.le_of_eq rfl) (hb hby at_37) (fun _ _ => ⟨rfl, rfl, (by decide : 1 + 0 ≤ _), (by decide : 5 + 0 ≤ _)⟩)
    dsimp only [Pt.U, Pt.locs, Pt.cells, Pt.slots] at X97 l97 y97 z97 st97 hQ97
    subst l97 y97 z97
    obtain ⟨rfl, N97q, Kc97, G97_0⟩ := hQ97
    have Zs97 : n0 ≤ T97.heap.size := Nat.le_trans Zs96 Kc97.1
    have N97 := Fr.app N96 N97q
    obtain ⟨_, _, ⟨T98, L98, k98, n98⟩, -, X98, ⟨Lc98, hQ98, l98, y98, z98⟩, st98⟩ := Jvm.LawKit.callS X97 hx (y := (⟨"com/example/leanweave/leanweave/NetworkNumberingPinLaw", "set", "([ZIII)V"⟩ : MethodName)) hown (mvT hZ (hw _ (List.mem_of_getElem? (i := 2) rfl))) (mvT hZ (hw _ (List.mem_of_getElem? (i := 3) rfl))) (mvT hZ (hw _ (List.mem_of_getElem? (i := 4) rfl))) (mvT hZ (hw _ (List.mem_of_getElem? (i := 5) rfl))) (by decide) (backOf (W := 0) (rm24 l Z a0 hw [] b93 (5 : Int32) p0_1 k93 (5 : Int32) (.int (own_bit p0_1 (0 : Int32))) (.int (own_bit p0_1 (1 : Int32))) (.int (own_bit p0_1 (2 : Int32))) (.int (own_bit p0_1 (3 : Int32))) (.int (0 : Int32)) (.int (0 : Int32)) T97.heap n0 Zs97 G97_0 (by decide : (4 : Int32) < (5 : Int32)) (by decide : (4 : Int32) < (5 : Int32)) gg93) hZ (hw _ (List.mem_of_getElem? (i := 5) rfl)) (hw _ (List.mem_of_getElem? (i := 4) rfl)) (by decide) (by decide)) (g := (mkF m 44 #[.val (.int p0_0), .val (.int p0_1), .val (.int (5 : Int32)), .val (.ref b93), .unset] [(.int (4 : Int32)), (.int p0_1), (.int (5 : Int32)), (.ref b93)])) rfl (by rw [hml]; rfl) (argsL := [(.ref b93), (.int (5 : Int32)), (.int p0_1), (.int (4 : Int32))]) (rest := []) (lenOf pd_1 rfl) rfl (by show 2 * 0 + _ ≤ _; exact Nat.le_of_eq rfl) (hb hby at_44) (fun _ _ => ⟨rfl, rfl, (by decide : 1 + 0 ≤ _), (by decide : 5 + 0 ≤ _)⟩)
    dsimp only [Pt.U, Pt.locs, Pt.cells, Pt.slots] at X98 l98 y98 z98 st98 hQ98
    subst l98 y98 z98
    obtain ⟨rfl, N98q, Kc98, G98_0⟩ := hQ98
    have Zs98 : n0 ≤ T98.heap.size := Nat.le_trans Zs97 Kc98.1
    have N98 := Fr.app N97 N98q
    obtain ⟨_, _, ⟨T99, L99, k99, n99⟩, -, X99, ⟨Lc99, hQ99, l99, y99, z99⟩, st99⟩ := Jvm.LawKit.callS X98 hx (y := (⟨"com/example/leanweave/leanweave/NetworkNumberingPinLaw", "set", "([ZIII)V"⟩ : MethodName)) hown (mvT hZ (hw _ (List.mem_of_getElem? (i := 2) rfl))) (mvT hZ (hw _ (List.mem_of_getElem? (i := 3) rfl))) (mvT hZ (hw _ (List.mem_of_getElem? (i := 4) rfl))) (mvT hZ (hw _ (List.mem_of_getElem? (i := 5) rfl))) (by decide) (backOf (W := 0) (rm1 l Z a0 hw [] b93 (5 : Int32) p0_1 (5 : Int32) T98.heap n0 Zs98 (by decide : ¬ ((5 : Int32) < (5 : Int32)))) hZ (hw _ (List.mem_of_getElem? (i := 5) rfl)) (hw _ (List.mem_of_getElem? (i := 4) rfl)) (by decide) (by decide)) (g := (mkF m 51 #[.val (.int p0_0), .val (.int p0_1), .val (.int (5 : Int32)), .val (.ref b93), .unset] [(.int (5 : Int32)), (.int p0_1), (.int (5 : Int32)), (.ref b93)])) rfl (by rw [hml]; rfl) (argsL := [(.ref b93), (.int (5 : Int32)), (.int p0_1), (.int (5 : Int32))]) (rest := []) (lenOf pd_1 rfl) rfl (by show 2 * 0 + _ ≤ _; exact Nat.le_of_eq rfl) (hb hby at_51) (fun _ _ => ⟨rfl, rfl, (by decide : 1 + 0 ≤ _), (by decide : 5 + 0 ≤ _)⟩)
    dsimp only [Pt.U, Pt.locs, Pt.cells, Pt.slots] at X99 l99 y99 z99 st99 hQ99
    subst l99 y99 z99
    obtain ⟨rfl, N99q, eh99⟩ := hQ99
    have N99 := Fr.app N98 N99q
    obtain ⟨_, _, ⟨T100, L100, k100, n100⟩, -, X100, ⟨Lc100, hQ100, l100, y100, z100⟩, st100⟩ := Jvm.LawKit.callS X99 hx (y := (⟨"com/example/leanweave/leanweave/Network", "numbering", "([Z)[I"⟩ : MethodName)) hown (mvT hZ (hw _ (List.mem_of_getElem? (i := 6) rfl))) (mvT hZ (hw _ (List.mem_of_getElem? (i := 7) rfl))) (mvT hZ (hw _ (List.mem_of_getElem? (i := 8) rfl))) (mvT hZ (hw _ (List.mem_of_getElem? (i := 9) rfl))) (by decide) (backOf (W := 0) (rm35 l Z a0 hw [] b93 k93 (own_bit p0_1 (0 : Int32)) (own_bit p0_1 (1 : Int32)) (own_bit p0_1 (2 : Int32)) (own_bit p0_1 (3 : Int32)) (own_bit p0_1 (4 : Int32)) (0 : Int32) T98.heap n0 Zs98 G98_0) hZ (hw _ (List.mem_of_getElem? (i := 9) rfl)) (hw _ (List.mem_of_getElem? (i := 8) rfl)) (by decide) (by decide)) (g := (mkF m 55 #[.val (.int p0_0), .val (.int p0_1), .val (.int (5 : Int32)), .val (.ref b93), .unset] [(.ref b93)])) rfl (by rw [hml]; rfl) (argsL := [(.ref b93)]) (rest := []) (lenOf pd_2 rfl) rfl (by show 2 * 0 + _ ≤ _; exact Nat.le_of_eq rfl) (hb hby at_55) (fun _ _ => ⟨rfl, eh99, (by decide : 1 + 1 ≤ _), (by decide : 5 + 5 ≤ _)⟩)
    dsimp only [Pt.U, Pt.locs, Pt.cells, Pt.slots] at X100 l100 y100 z100 st100 hQ100
    subst l100 y100 z100
    obtain ⟨b35_100, kn35_100, rfl, N100q, Kc100, ggb35_100, szb35_100, G100_0⟩ := hQ100
    have ne101 : b93 ≠ b35_100 := Nat.ne_of_lt (Nat.lt_of_lt_of_le G98_0.lt szb35_100)
    have Zs100 : n0 ≤ T100.heap.size := Nat.le_trans Zs98 Kc100.1
    have F102 : Arv Z T100.heap b93 k93 .boolean (5 : Int32) [(.int (own_bit p0_1 (0 : Int32))), (.int (own_bit p0_1 (1 : Int32))), (.int (own_bit p0_1 (2 : Int32))), (.int (own_bit p0_1 (3 : Int32))), (.int (own_bit p0_1 (4 : Int32))), (.int (0 : Int32))] (.int (0 : Int32)) := G98_0.keep Kc100 nin0
    have N100 := Fr.app N99 N100q
    obtain ⟨cl103, Ar103, qc103, Sz103, Nn103, Hh103, Gg103⟩ := (id G100_0)
    obtain ⟨_, _, ⟨T104, L104, k104, n104⟩, -, X104, ⟨Lc104, hQ104, l104, y104, z104⟩, st104⟩ := Jvm.LawKit.callS X100 hx (y := (⟨"com/example/leanweave/leanweave/NetworkNumberingPinLaw", "ok", "([IIII)Z"⟩ : MethodName)) hown (mvT hZ (hw _ (List.mem_of_getElem? (i := 11) rfl))) (mvT hZ (hw _ (List.mem_of_getElem? (i := 12) rfl))) (mvT hZ (hw _ (List.mem_of_getElem? (i := 4) rfl))) (mvT hZ (hw _ (List.mem_of_getElem? (i := 13) rfl))) (by decide) (backOf (W := 0) (rm60 l Z a0 hw [] b35_100 (5 : Int32) p0_1 kn35_100 (5 : Int32) (own_e (own_bit p0_1 (0 : Int32)) (0 : Int32)) (own_e (own_bit p0_1 (1 : Int32)) (own_c (own_bit p0_1 (0 : Int32)) (0 : Int32))) (own_e (own_bit p0_1 (2 : Int32)) (own_c (own_bit p0_1 (1 : Int32)) (own_c (own_bit p0_1 (0 : Int32)) (0 : Int32)))) (own_e (own_bit p0_1 (3 : Int32)) (own_c (own_bit p0_1 (2 : Int32)) (own_c (own_bit p0_1 (1 : Int32)) (own_c (own_bit p0_1 (0 : Int32)) (0 : Int32))))) (own_e (own_bit p0_1 (4 : Int32)) (own_c (own_bit p0_1 (3 : Int32)) (own_c (own_bit p0_1 (2 : Int32)) (own_c (own_bit p0_1 (1 : Int32)) (own_c (own_bit p0_1 (0 : Int32)) (0 : Int32)))))) (0 : Int32) T100.heap n0 Zs100 G100_0 (by decide : (0 : Int32) < (5 : Int32)) (by decide : (0 : Int32) < (5 : Int32))) hZ (hw _ (List.mem_of_getElem? (i := 13) rfl)) (hw _ (List.mem_of_getElem? (i := 4) rfl)) (by decide) (by decide)) (g := (mkF m 79 #[.val (.int p0_0), .val (.int p0_1), .val (.int (5 : Int32)), .val (.ref b93), .val (.ref b35_100)] [(.int (0 : Int32)), (.int p0_1), (.int (5 : Int32)), (.ref b35_100)])) rfl (by rw [hml]; rfl) (argsL := [(.ref b35_100), (.int (5 : Int32)), (.int p0_1), (.int (0 : Int32))]) (rest := []) (lenOf pd_3 rfl) rfl (by show 2 * 0 + _ ≤ _; exact Nat.le_of_eq rfl) (hb hby at_79) (fun _ _ => ⟨rfl, rfl, (by decide : 2 + 0 ≤ _), (by decide : 10 + 0 ≤ _)⟩)
    dsimp only [Pt.U, Pt.locs, Pt.cells, Pt.slots] at X104 l104 y104 z104 st104 hQ104
    subst l104 y104 z104
    obtain ⟨rfl, N104q, eh104⟩ := hQ104
    have N104 := Fr.app N100 N104q
    obtain ⟨_, _, ⟨T105, L105, k105, n105⟩, -, X105, ⟨Lc105, hQ105, l105, y105, z105⟩, st105⟩ := Jvm.LawKit.callS X104 hx (y := (⟨"com/example/leanweave/leanweave/NetworkNumberingPinLaw", "ok", "([IIII)Z"⟩ : MethodName)) hown (mvT hZ (hw _ (List.mem_of_getElem? (i := 11) rfl))) (mvT hZ (hw _ (List.mem_of_getElem? (i := 12) rfl))) (mvT hZ (hw _ (List.mem_of_getElem? (i := 4) rfl))) (mvT hZ (hw _ (List.mem_of_getElem? (i := 13) rfl))) (by decide) (backOf (W := 0) (rm61 l Z a0 hw [] b35_100 (5 : Int32) p0_1 kn35_100 (5 : Int32) (own_e (own_bit p0_1 (0 : Int32)) (0 : Int32)) (own_e (own_bit p0_1 (1 : Int32)) (own_c (own_bit p0_1 (0 : Int32)) (0 : Int32))) (own_e (own_bit p0_1 (2 : Int32)) (own_c (own_bit p0_1 (1 : Int32)) (own_c (own_bit p0_1 (0 : Int32)) (0 : Int32)))) (own_e (own_bit p0_1 (3 : Int32)) (own_c (own_bit p0_1 (2 : Int32)) (own_c (own_bit p0_1 (1 : Int32)) (own_c (own_bit p0_1 (0 : Int32)) (0 : Int32))))) (own_e (own_bit p0_1 (4 : Int32)) (own_c (own_bit p0_1 (3 : Int32)) (own_c (own_bit p0_1 (2 : Int32)) (own_c (own_bit p0_1 (1 : Int32)) (own_c (own_bit p0_1 (0 : Int32)) (0 : Int32)))))) (0 : Int32) T100.heap n0 Zs100 G100_0 (by decide : (1 : Int32) < (5 : Int32)) (by decide : (1 : Int32) < (5 : Int32))) hZ (hw _ (List.mem_of_getElem? (i := 13) rfl)) (hw _ (List.mem_of_getElem? (i := 4) rfl)) (by decide) (by decide)) (g := (mkF m 90 #[.val (.int p0_0), .val (.int p0_1), .val (.int (5 : Int32)), .val (.ref b93), .val (.ref b35_100)] [(.int (1 : Int32)), (.int p0_1), (.int (5 : Int32)), (.ref b35_100)])) rfl (by rw [hml]; rfl) (argsL := [(.ref b35_100), (.int (5 : Int32)), (.int p0_1), (.int (1 : Int32))]) (rest := []) (lenOf pd_3 rfl) rfl (by show 2 * 0 + _ ≤ _; exact Nat.le_of_eq rfl) (hb hby at_90) (fun _ _ => ⟨rfl, eh104, (by decide : 2 + 0 ≤ _), (by decide : 10 + 0 ≤ _)⟩)
    dsimp only [Pt.U, Pt.locs, Pt.cells, Pt.slots] at X105 l105 y105 z105 st105 hQ105
    subst l105 y105 z105
    obtain ⟨rfl, N105q, eh105⟩ := hQ105
    have N105 := Fr.app N104 N105q
    obtain ⟨_, _, ⟨T106, L106, k106, n106⟩, -, X106, ⟨Lc106, hQ106, l106, y106, z106⟩, st106⟩ := Jvm.LawKit.callS X105 hx (y := (⟨"com/example/leanweave/leanweave/NetworkNumberingPinLaw", "ok", "([IIII)Z"⟩ : MethodName)) hown (mvT hZ (hw _ (List.mem_of_getElem? (i := 11) rfl))) (mvT hZ (hw _ (List.mem_of_getElem? (i := 12) rfl))) (mvT hZ (hw _ (List.mem_of_getElem? (i := 4) rfl))) (mvT hZ (hw _ (List.mem_of_getElem? (i := 13) rfl))) (by decide) (backOf (W := 0) (rm62 l Z a0 hw [] b35_100 (5 : Int32) p0_1 kn35_100 (5 : Int32) (own_e (own_bit p0_1 (0 : Int32)) (0 : Int32)) (own_e (own_bit p0_1 (1 : Int32)) (own_c (own_bit p0_1 (0 : Int32)) (0 : Int32))) (own_e (own_bit p0_1 (2 : Int32)) (own_c (own_bit p0_1 (1 : Int32)) (own_c (own_bit p0_1 (0 : Int32)) (0 : Int32)))) (own_e (own_bit p0_1 (3 : Int32)) (own_c (own_bit p0_1 (2 : Int32)) (own_c (own_bit p0_1 (1 : Int32)) (own_c (own_bit p0_1 (0 : Int32)) (0 : Int32))))) (own_e (own_bit p0_1 (4 : Int32)) (own_c (own_bit p0_1 (3 : Int32)) (own_c (own_bit p0_1 (2 : Int32)) (own_c (own_bit p0_1 (1 : Int32)) (own_c (own_bit p0_1 (0 : Int32)) (0 : Int32)))))) (0 : Int32) T100.heap n0 Zs100 G100_0 (by decide : (2 : Int32) < (5 : Int32)) (by decide : (2 : Int32) < (5 : Int32))) hZ (hw _ (List.mem_of_getElem? (i := 13) rfl)) (hw _ (List.mem_of_getElem? (i := 4) rfl)) (by decide) (by decide)) (g := (mkF m 101 #[.val (.int p0_0), .val (.int p0_1), .val (.int (5 : Int32)), .val (.ref b93), .val (.ref b35_100)] [(.int (2 : Int32)), (.int p0_1), (.int (5 : Int32)), (.ref b35_100)])) rfl (by rw [hml]; rfl) (argsL := [(.ref b35_100), (.int (5 : Int32)), (.int p0_1), (.int (2 : Int32))]) (rest := []) (lenOf pd_3 rfl) rfl (by show 2 * 0 + _ ≤ _; exact Nat.le_of_eq rfl) (hb hby at_101) (fun _ _ => ⟨rfl, eh105, (by decide : 2 + 0 ≤ _), (by decide : 10 + 0 ≤ _)⟩)
    dsimp only [Pt.U, Pt.locs, Pt.cells, Pt.slots] at X106 l106 y106 z106 st106 hQ106
    subst l106 y106 z106
    obtain ⟨rfl, N106q, eh106⟩ := hQ106
    have N106 := Fr.app N105 N106q
    obtain ⟨_, _, ⟨T107, L107, k107, n107⟩, -, X107, ⟨Lc107, hQ107, l107, y107, z107⟩, st107⟩ := Jvm.LawKit.callS X106 hx (y := (⟨"com/example/leanweave/leanweave/NetworkNumberingPinLaw", "ok", "([IIII)Z"⟩ : MethodName)) hown (mvT hZ (hw _ (List.mem_of_getElem? (i := 11) rfl))) (mvT hZ (hw _ (List.mem_of_getElem? (i := 12) rfl))) (mvT hZ (hw _ (List.mem_of_getElem? (i := 4) rfl))) (mvT hZ (hw _ (List.mem_of_getElem? (i := 13) rfl))) (by decide) (backOf (W := 0) (rm63 l Z a0 hw [] b35_100 (5 : Int32) p0_1 kn35_100 (5 : Int32) (own_e (own_bit p0_1 (0 : Int32)) (0 : Int32)) (own_e (own_bit p0_1 (1 : Int32)) (own_c (own_bit p0_1 (0 : Int32)) (0 : Int32))) (own_e (own_bit p0_1 (2 : Int32)) (own_c (own_bit p0_1 (1 : Int32)) (own_c (own_bit p0_1 (0 : Int32)) (0 : Int32)))) (own_e (own_bit p0_1 (3 : Int32)) (own_c (own_bit p0_1 (2 : Int32)) (own_c (own_bit p0_1 (1 : Int32)) (own_c (own_bit p0_1 (0 : Int32)) (0 : Int32))))) (own_e (own_bit p0_1 (4 : Int32)) (own_c (own_bit p0_1 (3 : Int32)) (own_c (own_bit p0_1 (2 : Int32)) (own_c (own_bit p0_1 (1 : Int32)) (own_c (own_bit p0_1 (0 : Int32)) (0 : Int32)))))) (0 : Int32) T100.heap n0 Zs100 G100_0 (by decide : (3 : Int32) < (5 : Int32)) (by decide : (3 : Int32) < (5 : Int32))) hZ (hw _ (List.mem_of_getElem? (i := 13) rfl)) (hw _ (List.mem_of_getElem? (i := 4) rfl)) (by decide) (by decide)) (g := (mkF m 112 #[.val (.int p0_0), .val (.int p0_1), .val (.int (5 : Int32)), .val (.ref b93), .val (.ref b35_100)] [(.int (3 : Int32)), (.int p0_1), (.int (5 : Int32)), (.ref b35_100)])) rfl (by rw [hml]; rfl) (argsL := [(.ref b35_100), (.int (5 : Int32)), (.int p0_1), (.int (3 : Int32))]) (rest := []) (lenOf pd_3 rfl) rfl (by show 2 * 0 + _ ≤ _; exact Nat.le_of_eq rfl) (hb hby at_112) (fun _ _ => ⟨rfl, eh106, (by decide : 2 + 0 ≤ _), (by decide : 10 + 0 ≤ _)⟩)
    dsimp only [Pt.U, Pt.locs, Pt.cells, Pt.slots] at X107 l107 y107 z107 st107 hQ107
    subst l107 y107 z107
    obtain ⟨rfl, N107q, eh107⟩ := hQ107
    have N107 := Fr.app N106 N107q
    obtain ⟨_, _, ⟨T108, L108, k108, n108⟩, -, X108, ⟨Lc108, hQ108, l108, y108, z108⟩, st108⟩ := Jvm.LawKit.callS X107 hx (y := (⟨"com/example/leanweave/leanweave/NetworkNumberingPinLaw", "ok", "([IIII)Z"⟩ : MethodName)) hown (mvT hZ (hw _ (List.mem_of_getElem? (i := 11) rfl))) (mvT hZ (hw _ (List.mem_of_getElem? (i := 12) rfl))) (mvT hZ (hw _ (List.mem_of_getElem? (i := 4) rfl))) (mvT hZ (hw _ (List.mem_of_getElem? (i := 13) rfl))) (by decide) (backOf (W := 0) (rm64 l Z a0 hw [] b35_100 (5 : Int32) p0_1 kn35_100 (5 : Int32) (own_e (own_bit p0_1 (0 : Int32)) (0 : Int32)) (own_e (own_bit p0_1 (1 : Int32)) (own_c (own_bit p0_1 (0 : Int32)) (0 : Int32))) (own_e (own_bit p0_1 (2 : Int32)) (own_c (own_bit p0_1 (1 : Int32)) (own_c (own_bit p0_1 (0 : Int32)) (0 : Int32)))) (own_e (own_bit p0_1 (3 : Int32)) (own_c (own_bit p0_1 (2 : Int32)) (own_c (own_bit p0_1 (1 : Int32)) (own_c (own_bit p0_1 (0 : Int32)) (0 : Int32))))) (own_e (own_bit p0_1 (4 : Int32)) (own_c (own_bit p0_1 (3 : Int32)) (own_c (own_bit p0_1 (2 : Int32)) (own_c (own_bit p0_1 (1 : Int32)) (own_c (own_bit p0_1 (0 : Int32)) (0 : Int32)))))) (0 : Int32) T100.heap n0 Zs100 G100_0 (by decide : (4 : Int32) < (5 : Int32)) (by decide : (4 : Int32) < (5 : Int32))) hZ (hw _ (List.mem_of_getElem? (i := 13) rfl)) (hw _ (List.mem_of_getElem? (i := 4) rfl)) (by decide) (by decide)) (g := (mkF m 123 #[.val (.int p0_0), .val (.int p0_1), .val (.int (5 : Int32)), .val (.ref b93), .val (.ref b35_100)] [(.int (4 : Int32)), (.int p0_1), (.int (5 : Int32)), (.ref b35_100)])) rfl (by rw [hml]; rfl) (argsL := [(.ref b35_100), (.int (5 : Int32)), (.int p0_1), (.int (4 : Int32))]) (rest := []) (lenOf pd_3 rfl) rfl (by show 2 * 0 + _ ≤ _; exact Nat.le_of_eq rfl) (hb hby at_123) (fun _ _ => ⟨rfl, eh107, (by decide : 2 + 0 ≤ _), (by decide : 10 + 0 ≤ _)⟩)
    dsimp only [Pt.U, Pt.locs, Pt.cells, Pt.slots] at X108 l108 y108 z108 st108 hQ108
    subst l108 y108 z108
    obtain ⟨rfl, N108q, eh108⟩ := hQ108
    have N108 := Fr.app N107 N108q
    obtain ⟨_, _, ⟨T109, L109, k109, n109⟩, -, X109, ⟨Lc109, hQ109, l109, y109, z109⟩, st109⟩ := Jvm.LawKit.callS X108 hx (y := (⟨"com/example/leanweave/leanweave/NetworkNumberingPinLaw", "ok", "([IIII)Z"⟩ : MethodName)) hown (mvT hZ (hw _ (List.mem_of_getElem? (i := 11) rfl))) (mvT hZ (hw _ (List.mem_of_getElem? (i := 12) rfl))) (mvT hZ (hw _ (List.mem_of_getElem? (i := 4) rfl))) (mvT hZ (hw _ (List.mem_of_getElem? (i := 13) rfl))) (by decide) (backOf (W := 0) (rm5 l Z a0 hw [] b35_100 (5 : Int32) p0_1 (5 : Int32) T100.heap n0 Zs100 (by decide : ¬ ((5 : Int32) < (5 : Int32)))) hZ (hw _ (List.mem_of_getElem? (i := 13) rfl)) (hw _ (List.mem_of_getElem? (i := 4) rfl)) (by decide) (by decide)) (g := (mkF m 134 #[.val (.int p0_0), .val (.int p0_1), .val (.int (5 : Int32)), .val (.ref b93), .val (.ref b35_100)] [(.int (5 : Int32)), (.int p0_1), (.int (5 : Int32)), (.ref b35_100)])) rfl (by rw [hml]; rfl) (argsL := [(.ref b35_100), (.int (5 : Int32)), (.int p0_1), (.int (5 : Int32))]) (rest := []) (lenOf pd_3 rfl) rfl (by show 2 * 0 + _ ≤ _; exact Nat.le_of_eq rfl) (hb hby at_134) (fun _ _ => ⟨rfl, eh108, (by decide : 2 + 0 ≤ _), (by decide : 10 + 0 ≤ _)⟩)
    dsimp only [Pt.U, Pt.locs, Pt.cells, Pt.slots] at X109 l109 y109 z109 st109 hQ109
    subst l109 y109 z109
    obtain ⟨rfl, N109q, eh109⟩ := hQ109
    have N109 := Fr.app N108 N109q
    have k110 : ∀ t, Steps p.tables e below (T109.setTop (mkF m 145 #[.val (.int p0_0), .val (.int p0_1), .val (.int (5 : Int32)), .val (.ref b93), .val (.ref b35_100)] [(.int (1 : Int32))])) t → Steps p.tables e below (s₁.setTop (entryFrame m #[(.int p0_0), (.int p0_1)] maxLocals)) t := by
      intro t k
      refine k1 t ?_
      show Steps p.tables e below (s₁.setTop (mkF m 8 #[.val (.int p0_0), .val (.int p0_1), .val (.int (5 : Int32)), .unset, .unset] [])) _
      refine XS.iloadN X0.here hx rfl (hb hby at_8) rfl ?_
      show Steps p.tables e below (s₁.setTop (mkF m 9 #[.val (.int p0_0), .val (.int p0_1), .val (.int (5 : Int32)), .unset, .unset] [(.int (5 : Int32))])) _
      refine st93 _ ?_
      show Steps p.tables e below (T93.setTop (mkF m 11 #[.val (.int p0_0), .val (.int p0_1), .val (.int (5 : Int32)), .unset, .unset] [(.ref b93)])) _
      refine XS.astoreN X93.here hx rfl (hb hby at_11) rfl rfl (l' := #[.val (.int p0_0), .val (.int p0_1), .val (.int (5 : Int32)), .val (.ref b93), .unset]) rfl ?_
      show Steps p.tables e below (T93.setTop (mkF m 12 #[.val (.int p0_0), .val (.int p0_1), .val (.int (5 : Int32)), .val (.ref b93), .unset] [])) _
      refine XS.aloadN X93.here hx rfl (hb hby at_12) rfl rfl ?_
      show Steps p.tables e below (T93.setTop (mkF m 13 #[.val (.int p0_0), .val (.int p0_1), .val (.int (5 : Int32)), .val (.ref b93), .unset] [(.ref b93)])) _
      refine XS.iloadN X93.here hx rfl (hb hby at_13) rfl ?_
      show Steps p.tables e below (T93.setTop (mkF m 14 #[.val (.int p0_0), .val (.int p0_1), .val (.int (5 : Int32)), .val (.ref b93), .unset] [(.int (5 : Int32)), (.ref b93)])) _
      refine XS.iloadN X93.here hx rfl (hb hby at_14) rfl ?_
      show Steps p.tables e below (T93.setTop (mkF m 15 #[.val (.int p0_0), .val (.int p0_1), .val (.int (5 : Int32)), .val (.ref b93), .unset] [(.int p0_1), (.int (5 : Int32)), (.ref b93)])) _
      refine XS.iconst X93.here hx rfl (hb hby at_15) ?_
      show Steps p.tables e below (T93.setTop (mkF m 16 #[.val (.int p0_0), .val (.int p0_1), .val (.int (5 : Int32)), .val (.ref b93), .unset] [(.int (0 : Int32)), (.int p0_1), (.int (5 : Int32)), (.ref b93)])) _
      refine st94 _ ?_
      show Steps p.tables e below (T94.setTop (mkF m 19 #[.val (.int p0_0), .val (.int p0_1), .val (.int (5 : Int32)), .val (.ref b93), .unset] [])) _
      refine XS.aloadN X94.here hx rfl (hb hby at_19) rfl rfl ?_
      show Steps p.tables e below (T94.setTop (mkF m 20 #[.val (.int p0_0), .val (.int p0_1), .val (.int (5 : Int32)), .val (.ref b93), .unset] [(.ref b93)])) _
      refine XS.iloadN X94.here hx rfl (hb hby at_20) rfl ?_
      show Steps p.tables e below (T94.setTop (mkF m 21 #[.val (.int p0_0), .val (.int p0_1), .val (.int (5 : Int32)), .val (.ref b93), .unset] [(.int (5 : Int32)), (.ref b93)])) _
      refine XS.iloadN X94.here hx rfl (hb hby at_21) rfl ?_
      show Steps p.tables e below (T94.setTop (mkF m 22 #[.val (.int p0_0), .val (.int p0_1), .val (.int (5 : Int32)), .val (.ref b93), .unset] [(.int p0_1), (.int (5 : Int32)), (.ref b93)])) _
      refine XS.iconst X94.here hx rfl (hb hby at_22) ?_
      show Steps p.tables e below (T94.setTop (mkF m 23 #[.val (.int p0_0), .val (.int p0_1), .val (.int (5 : Int32)), .val (.ref b93), .unset] [(.int (1 : Int32)), (.int p0_1), (.int (5 : Int32)), (.ref b93)])) _
      refine st95 _ ?_
      show Steps p.tables e below (T95.setTop (mkF m 26 #[.val (.int p0_0), .val (.int p0_1), .val (.int (5 : Int32)), .val (.ref b93), .unset] [])) _
      refine XS.aloadN X95.here hx rfl (hb hby at_26) rfl rfl ?_
      show Steps p.tables e below (T95.setTop (mkF m 27 #[.val (.int p0_0), .val (.int p0_1), .val (.int (5 : Int32)), .val (.ref b93), .unset] [(.ref b93)])) _
      refine XS.iloadN X95.here hx rfl (hb hby at_27) rfl ?_
      show Steps p.tables e below (T95.setTop (mkF m 28 #[.val (.int p0_0), .val (.int p0_1), .val (.int (5 : Int32)), .val (.ref b93), .unset] [(.int (5 : Int32)), (.ref b93)])) _
      refine XS.iloadN X95.here hx rfl (hb hby at_28) rfl ?_
      show Steps p.tables e below (T95.setTop (mkF m 29 #[.val (.int p0_0), .val (.int p0_1), .val (.int (5 : Int32)), .val (.ref b93), .unset] [(.int p0_1), (.int (5 : Int32)), (.ref b93)])) _
      refine XS.iconst X95.here hx rfl (hb hby at_29) ?_
      show Steps p.tables e below (T95.setTop (mkF m 30 #[.val (.int p0_0), .val (.int p0_1), .val (.int (5 : Int32)), .val (.ref b93), .unset] [(.int (2 : Int32)), (.int p0_1), (.int (5 : Int32)), (.ref b93)])) _
      refine st96 _ ?_
      show Steps p.tables e below (T96.setTop (mkF m 33 #[.val (.int p0_0), .val (.int p0_1), .val (.int (5 : Int32)), .val (.ref b93), .unset] [])) _
      refine XS.aloadN X96.here hx rfl (hb hby at_33) rfl rfl ?_
      show Steps p.tables e below (T96.setTop (mkF m 34 #[.val (.int p0_0), .val (.int p0_1), .val (.int (5 : Int32)), .val (.ref b93), .unset] [(.ref b93)])) _
      refine XS.iloadN X96.here hx rfl (hb hby at_34) rfl ?_
      show Steps p.tables e below (T96.setTop (mkF m 35 #[.val (.int p0_0), .val (.int p0_1), .val (.int (5 : Int32)), .val (.ref b93), .unset] [(.int (5 : Int32)), (.ref b93)])) _
      refine XS.iloadN X96.here hx rfl (hb hby at_35) rfl ?_
      show Steps p.tables e below (T96.setTop (mkF m 36 #[.val (.int p0_0), .val (.int p0_1), .val (.int (5 : Int32)), .val (.ref b93), .unset] [(.int p0_1), (.int (5 : Int32)), (.ref b93)])) _
      refine XS.iconst X96.here hx rfl (hb hby at_36) ?_
      show Steps p.tables e below (T96.setTop (mkF m 37 #[.val (.int p0_0), .val (.int p0_1), .val (.int (5 : Int32)), .val (.ref b93), .unset] [(.int (3 : Int32)), (.int p0_1), (.int (5 : Int32)), (.ref b93)])) _
      refine st97 _ ?_
      show Steps p.tables e below (T97.setTop (mkF m 40 #[.val (.int p0_0), .val (.int p0_1), .val (.int (5 : Int32)), .val (.ref b93), .unset] [])) _
      refine XS.aloadN X97.here hx rfl (hb hby at_40) rfl rfl ?_
      show Steps p.tables e below (T97.setTop (mkF m 41 #[.val (.int p0_0), .val (.int p0_1), .val (.int (5 : Int32)), .val (.ref b93), .unset] [(.ref b93)])) _
      refine XS.iloadN X97.here hx rfl (hb hby at_41) rfl ?_
      show Steps p.tables e below (T97.setTop (mkF m 42 #[.val (.int p0_0), .val (.int p0_1), .val (.int (5 : Int32)), .val (.ref b93), .unset] [(.int (5 : Int32)), (.ref b93)])) _
      refine XS.iloadN X97.here hx rfl (hb hby at_42) rfl ?_
      show Steps p.tables e below (T97.setTop (mkF m 43 #[.val (.int p0_0), .val (.int p0_1), .val (.int (5 : Int32)), .val (.ref b93), .unset] [(.int p0_1), (.int (5 : Int32)), (.ref b93)])) _
      refine XS.iconst X97.here hx rfl (hb hby at_43) ?_
      show Steps p.tables e below (T97.setTop (mkF m 44 #[.val (.int p0_0), .val (.int p0_1), .val (.int (5 : Int32)), .val (.ref b93), .unset] [(.int (4 : Int32)), (.int p0_1), (.int (5 : Int32)), (.ref b93)])) _
      refine st98 _ ?_
      show Steps p.tables e below (T98.setTop (mkF m 47 #[.val (.int p0_0), .val (.int p0_1), .val (.int (5 : Int32)), .val (.ref b93), .unset] [])) _
      refine XS.aloadN X98.here hx rfl (hb hby at_47) rfl rfl ?_
      show Steps p.tables e below (T98.setTop (mkF m 48 #[.val (.int p0_0), .val (.int p0_1), .val (.int (5 : Int32)), .val (.ref b93), .unset] [(.ref b93)])) _
      refine XS.iloadN X98.here hx rfl (hb hby at_48) rfl ?_
      show Steps p.tables e below (T98.setTop (mkF m 49 #[.val (.int p0_0), .val (.int p0_1), .val (.int (5 : Int32)), .val (.ref b93), .unset] [(.int (5 : Int32)), (.ref b93)])) _
      refine XS.iloadN X98.here hx rfl (hb hby at_49) rfl ?_
      show Steps p.tables e below (T98.setTop (mkF m 50 #[.val (.int p0_0), .val (.int p0_1), .val (.int (5 : Int32)), .val (.ref b93), .unset] [(.int p0_1), (.int (5 : Int32)), (.ref b93)])) _
      refine XS.iconst X98.here hx rfl (hb hby at_50) ?_
      show Steps p.tables e below (T98.setTop (mkF m 51 #[.val (.int p0_0), .val (.int p0_1), .val (.int (5 : Int32)), .val (.ref b93), .unset] [(.int (5 : Int32)), (.int p0_1), (.int (5 : Int32)), (.ref b93)])) _
      refine st99 _ ?_
      show Steps p.tables e below (T99.setTop (mkF m 54 #[.val (.int p0_0), .val (.int p0_1), .val (.int (5 : Int32)), .val (.ref b93), .unset] [])) _
      refine XS.aloadN X99.here hx rfl (hb hby at_54) rfl rfl ?_
      show Steps p.tables e below (T99.setTop (mkF m 55 #[.val (.int p0_0), .val (.int p0_1), .val (.int (5 : Int32)), .val (.ref b93), .unset] [(.ref b93)])) _
      refine st100 _ ?_
      show Steps p.tables e below (T100.setTop (mkF m 58 #[.val (.int p0_0), .val (.int p0_1), .val (.int (5 : Int32)), .val (.ref b93), .unset] [(.ref b35_100)])) _
      refine XS.astore X100.here hx rfl (hb hby at_58) rfl rfl (l' := #[.val (.int p0_0), .val (.int p0_1), .val (.int (5 : Int32)), .val (.ref b93), .val (.ref b35_100)]) rfl ?_
      show Steps p.tables e below (T100.setTop (mkF m 60 #[.val (.int p0_0), .val (.int p0_1), .val (.int (5 : Int32)), .val (.ref b93), .val (.ref b35_100)] [])) _
      refine XS.aload X100.here hx rfl (hb hby at_60) rfl rfl ?_
      show Steps p.tables e below (T100.setTop (mkF m 62 #[.val (.int p0_0), .val (.int p0_1), .val (.int (5 : Int32)), .val (.ref b93), .val (.ref b35_100)] [(.ref b35_100)])) _
      refine XS.ifnullNo X100.here hx rfl (hb hby at_62) rfl ?_
      show Steps p.tables e below (T100.setTop (mkF m 65 #[.val (.int p0_0), .val (.int p0_1), .val (.int (5 : Int32)), .val (.ref b93), .val (.ref b35_100)] [])) _
      refine XS.aload X100.here hx rfl (hb hby at_65) rfl rfl ?_
      show Steps p.tables e below (T100.setTop (mkF m 67 #[.val (.int p0_0), .val (.int p0_1), .val (.int (5 : Int32)), .val (.ref b93), .val (.ref b35_100)] [(.ref b35_100)])) _
      refine X100.arraylength hx Ar103.1 (State.isArrayOf_alike hZ.alike Ar103.2.1) (g := (mkF m 67 #[.val (.int p0_0), .val (.int p0_1), .val (.int (5 : Int32)), .val (.ref b93), .val (.ref b35_100)] [(.ref b35_100)])) rfl rfl (hb hby at_67) _ ?_
      rw [len_of Sz103 Nn103]
      show Steps p.tables e below (T100.setTop (mkF m 68 #[.val (.int p0_0), .val (.int p0_1), .val (.int (5 : Int32)), .val (.ref b93), .val (.ref b35_100)] [(.int (5 : Int32))])) _
      refine XS.iloadN X100.here hx rfl (hb hby at_68) rfl ?_
      show Steps p.tables e below (T100.setTop (mkF m 69 #[.val (.int p0_0), .val (.int p0_1), .val (.int (5 : Int32)), .val (.ref b93), .val (.ref b35_100)] [(.int (5 : Int32)), (.int (5 : Int32))])) _
      refine XS.icmpYes X100.here hx rfl (pc0 := 69) (pc' := 74) rfl (hb hby at_69) rfl (teq (by decide : (5 : Int32) = (5 : Int32))).1 (by decide) (by decide) ?_
      show Steps p.tables e below (T100.setTop (mkF m 74 #[.val (.int p0_0), .val (.int p0_1), .val (.int (5 : Int32)), .val (.ref b93), .val (.ref b35_100)] [])) _
      refine XS.aload X100.here hx rfl (hb hby at_74) rfl rfl ?_
      show Steps p.tables e below (T100.setTop (mkF m 76 #[.val (.int p0_0), .val (.int p0_1), .val (.int (5 : Int32)), .val (.ref b93), .val (.ref b35_100)] [(.ref b35_100)])) _
      refine XS.iloadN X100.here hx rfl (hb hby at_76) rfl ?_
      show Steps p.tables e below (T100.setTop (mkF m 77 #[.val (.int p0_0), .val (.int p0_1), .val (.int (5 : Int32)), .val (.ref b93), .val (.ref b35_100)] [(.int (5 : Int32)), (.ref b35_100)])) _
      refine XS.iloadN X100.here hx rfl (hb hby at_77) rfl ?_
      show Steps p.tables e below (T100.setTop (mkF m 78 #[.val (.int p0_0), .val (.int p0_1), .val (.int (5 : Int32)), .val (.ref b93), .val (.ref b35_100)] [(.int p0_1), (.int (5 : Int32)), (.ref b35_100)])) _
      refine XS.iconst X100.here hx rfl (hb hby at_78) ?_
      show Steps p.tables e below (T100.setTop (mkF m 79 #[.val (.int p0_0), .val (.int p0_1), .val (.int (5 : Int32)), .val (.ref b93), .val (.ref b35_100)] [(.int (0 : Int32)), (.int p0_1), (.int (5 : Int32)), (.ref b35_100)])) _
      refine st104 _ ?_
      show Steps p.tables e below (T104.setTop (mkF m 82 #[.val (.int p0_0), .val (.int p0_1), .val (.int (5 : Int32)), .val (.ref b93), .val (.ref b35_100)] [(.int (own_ok0 p0_1 (own_e (own_bit p0_1 (0 : Int32)) (0 : Int32))))])) _
      refine XS.ifNo X104.here hx rfl (hb hby at_82) rfl ((if0 _ _).trans (feq (by rw [own_okl0]; decide)).1) ?_
      show Steps p.tables e below (T104.setTop (mkF m 85 #[.val (.int p0_0), .val (.int p0_1), .val (.int (5 : Int32)), .val (.ref b93), .val (.ref b35_100)] [])) _
      refine XS.aload X104.here hx rfl (hb hby at_85) rfl rfl ?_
      show Steps p.tables e below (T104.setTop (mkF m 87 #[.val (.int p0_0), .val (.int p0_1), .val (.int (5 : Int32)), .val (.ref b93), .val (.ref b35_100)] [(.ref b35_100)])) _
      refine XS.iloadN X104.here hx rfl (hb hby at_87) rfl ?_
      show Steps p.tables e below (T104.setTop (mkF m 88 #[.val (.int p0_0), .val (.int p0_1), .val (.int (5 : Int32)), .val (.ref b93), .val (.ref b35_100)] [(.int (5 : Int32)), (.ref b35_100)])) _
      refine XS.iloadN X104.here hx rfl (hb hby at_88) rfl ?_
      show Steps p.tables e below (T104.setTop (mkF m 89 #[.val (.int p0_0), .val (.int p0_1), .val (.int (5 : Int32)), .val (.ref b93), .val (.ref b35_100)] [(.int p0_1), (.int (5 : Int32)), (.ref b35_100)])) _
      refine XS.iconst X104.here hx rfl (hb hby at_89) ?_
      show Steps p.tables e below (T104.setTop (mkF m 90 #[.val (.int p0_0), .val (.int p0_1), .val (.int (5 : Int32)), .val (.ref b93), .val (.ref b35_100)] [(.int (1 : Int32)), (.int p0_1), (.int (5 : Int32)), (.ref b35_100)])) _
      refine st105 _ ?_
      show Steps p.tables e below (T105.setTop (mkF m 93 #[.val (.int p0_0), .val (.int p0_1), .val (.int (5 : Int32)), .val (.ref b93), .val (.ref b35_100)] [(.int (own_ok1 p0_1 (own_e (own_bit p0_1 (1 : Int32)) (own_c (own_bit p0_1 (0 : Int32)) (0 : Int32)))))])) _
      refine XS.ifNo X105.here hx rfl (hb hby at_93) rfl ((if0 _ _).trans (feq (by rw [own_okl1]; decide)).1) ?_
      show Steps p.tables e below (T105.setTop (mkF m 96 #[.val (.int p0_0), .val (.int p0_1), .val (.int (5 : Int32)), .val (.ref b93), .val (.ref b35_100)] [])) _
      refine XS.aload X105.here hx rfl (hb hby at_96) rfl rfl ?_
      show Steps p.tables e below (T105.setTop (mkF m 98 #[.val (.int p0_0), .val (.int p0_1), .val (.int (5 : Int32)), .val (.ref b93), .val (.ref b35_100)] [(.ref b35_100)])) _
      refine XS.iloadN X105.here hx rfl (hb hby at_98) rfl ?_
      show Steps p.tables e below (T105.setTop (mkF m 99 #[.val (.int p0_0), .val (.int p0_1), .val (.int (5 : Int32)), .val (.ref b93), .val (.ref b35_100)] [(.int (5 : Int32)), (.ref b35_100)])) _
      refine XS.iloadN X105.here hx rfl (hb hby at_99) rfl ?_
      show Steps p.tables e below (T105.setTop (mkF m 100 #[.val (.int p0_0), .val (.int p0_1), .val (.int (5 : Int32)), .val (.ref b93), .val (.ref b35_100)] [(.int p0_1), (.int (5 : Int32)), (.ref b35_100)])) _
      refine XS.iconst X105.here hx rfl (hb hby at_100) ?_
      show Steps p.tables e below (T105.setTop (mkF m 101 #[.val (.int p0_0), .val (.int p0_1), .val (.int (5 : Int32)), .val (.ref b93), .val (.ref b35_100)] [(.int (2 : Int32)), (.int p0_1), (.int (5 : Int32)), (.ref b35_100)])) _
      refine st106 _ ?_
      show Steps p.tables e below (T106.setTop (mkF m 104 #[.val (.int p0_0), .val (.int p0_1), .val (.int (5 : Int32)), .val (.ref b93), .val (.ref b35_100)] [(.int (own_ok2 p0_1 (own_e (own_bit p0_1 (2 : Int32)) (own_c (own_bit p0_1 (1 : Int32)) (own_c (own_bit p0_1 (0 : Int32)) (0 : Int32))))))])) _
      refine XS.ifNo X106.here hx rfl (hb hby at_104) rfl ((if0 _ _).trans (feq (by rw [own_okl2]; decide)).1) ?_
      show Steps p.tables e below (T106.setTop (mkF m 107 #[.val (.int p0_0), .val (.int p0_1), .val (.int (5 : Int32)), .val (.ref b93), .val (.ref b35_100)] [])) _
      refine XS.aload X106.here hx rfl (hb hby at_107) rfl rfl ?_
      show Steps p.tables e below (T106.setTop (mkF m 109 #[.val (.int p0_0), .val (.int p0_1), .val (.int (5 : Int32)), .val (.ref b93), .val (.ref b35_100)] [(.ref b35_100)])) _
      refine XS.iloadN X106.here hx rfl (hb hby at_109) rfl ?_
      show Steps p.tables e below (T106.setTop (mkF m 110 #[.val (.int p0_0), .val (.int p0_1), .val (.int (5 : Int32)), .val (.ref b93), .val (.ref b35_100)] [(.int (5 : Int32)), (.ref b35_100)])) _
      refine XS.iloadN X106.here hx rfl (hb hby at_110) rfl ?_
      show Steps p.tables e below (T106.setTop (mkF m 111 #[.val (.int p0_0), .val (.int p0_1), .val (.int (5 : Int32)), .val (.ref b93), .val (.ref b35_100)] [(.int p0_1), (.int (5 : Int32)), (.ref b35_100)])) _
      refine XS.iconst X106.here hx rfl (hb hby at_111) ?_
      show Steps p.tables e below (T106.setTop (mkF m 112 #[.val (.int p0_0), .val (.int p0_1), .val (.int (5 : Int32)), .val (.ref b93), .val (.ref b35_100)] [(.int (3 : Int32)), (.int p0_1), (.int (5 : Int32)), (.ref b35_100)])) _
      refine st107 _ ?_
      show Steps p.tables e below (T107.setTop (mkF m 115 #[.val (.int p0_0), .val (.int p0_1), .val (.int (5 : Int32)), .val (.ref b93), .val (.ref b35_100)] [(.int (own_ok3 p0_1 (own_e (own_bit p0_1 (3 : Int32)) (own_c (own_bit p0_1 (2 : Int32)) (own_c (own_bit p0_1 (1 : Int32)) (own_c (own_bit p0_1 (0 : Int32)) (0 : Int32)))))))])) _
      refine XS.ifNo X107.here hx rfl (hb hby at_115) rfl ((if0 _ _).trans (feq (by rw [own_okl3]; decide)).1) ?_
      show Steps p.tables e below (T107.setTop (mkF m 118 #[.val (.int p0_0), .val (.int p0_1), .val (.int (5 : Int32)), .val (.ref b93), .val (.ref b35_100)] [])) _
      refine XS.aload X107.here hx rfl (hb hby at_118) rfl rfl ?_
      show Steps p.tables e below (T107.setTop (mkF m 120 #[.val (.int p0_0), .val (.int p0_1), .val (.int (5 : Int32)), .val (.ref b93), .val (.ref b35_100)] [(.ref b35_100)])) _
      refine XS.iloadN X107.here hx rfl (hb hby at_120) rfl ?_
      show Steps p.tables e below (T107.setTop (mkF m 121 #[.val (.int p0_0), .val (.int p0_1), .val (.int (5 : Int32)), .val (.ref b93), .val (.ref b35_100)] [(.int (5 : Int32)), (.ref b35_100)])) _
      refine XS.iloadN X107.here hx rfl (hb hby at_121) rfl ?_
      show Steps p.tables e below (T107.setTop (mkF m 122 #[.val (.int p0_0), .val (.int p0_1), .val (.int (5 : Int32)), .val (.ref b93), .val (.ref b35_100)] [(.int p0_1), (.int (5 : Int32)), (.ref b35_100)])) _
      refine XS.iconst X107.here hx rfl (hb hby at_122) ?_
      show Steps p.tables e below (T107.setTop (mkF m 123 #[.val (.int p0_0), .val (.int p0_1), .val (.int (5 : Int32)), .val (.ref b93), .val (.ref b35_100)] [(.int (4 : Int32)), (.int p0_1), (.int (5 : Int32)), (.ref b35_100)])) _
      refine st108 _ ?_
      show Steps p.tables e below (T108.setTop (mkF m 126 #[.val (.int p0_0), .val (.int p0_1), .val (.int (5 : Int32)), .val (.ref b93), .val (.ref b35_100)] [(.int (own_ok4 p0_1 (own_e (own_bit p0_1 (4 : Int32)) (own_c (own_bit p0_1 (3 : Int32)) (own_c (own_bit p0_1 (2 : Int32)) (own_c (own_bit p0_1 (1 : Int32)) (own_c (own_bit p0_1 (0 : Int32)) (0 : Int32))))))))])) _
      refine XS.ifNo X108.here hx rfl (hb hby at_126) rfl ((if0 _ _).trans (feq (by rw [own_okl4]; decide)).1) ?_
      show Steps p.tables e below (T108.setTop (mkF m 129 #[.val (.int p0_0), .val (.int p0_1), .val (.int (5 : Int32)), .val (.ref b93), .val (.ref b35_100)] [])) _
      refine XS.aload X108.here hx rfl (hb hby at_129) rfl rfl ?_
      show Steps p.tables e below (T108.setTop (mkF m 131 #[.val (.int p0_0), .val (.int p0_1), .val (.int (5 : Int32)), .val (.ref b93), .val (.ref b35_100)] [(.ref b35_100)])) _
      refine XS.iloadN X108.here hx rfl (hb hby at_131) rfl ?_
      show Steps p.tables e below (T108.setTop (mkF m 132 #[.val (.int p0_0), .val (.int p0_1), .val (.int (5 : Int32)), .val (.ref b93), .val (.ref b35_100)] [(.int (5 : Int32)), (.ref b35_100)])) _
      refine XS.iloadN X108.here hx rfl (hb hby at_132) rfl ?_
      show Steps p.tables e below (T108.setTop (mkF m 133 #[.val (.int p0_0), .val (.int p0_1), .val (.int (5 : Int32)), .val (.ref b93), .val (.ref b35_100)] [(.int p0_1), (.int (5 : Int32)), (.ref b35_100)])) _
      refine XS.iconst X108.here hx rfl (hb hby at_133) ?_
      show Steps p.tables e below (T108.setTop (mkF m 134 #[.val (.int p0_0), .val (.int p0_1), .val (.int (5 : Int32)), .val (.ref b93), .val (.ref b35_100)] [(.int (5 : Int32)), (.int p0_1), (.int (5 : Int32)), (.ref b35_100)])) _
      refine st109 _ ?_
      show Steps p.tables e below (T109.setTop (mkF m 137 #[.val (.int p0_0), .val (.int p0_1), .val (.int (5 : Int32)), .val (.ref b93), .val (.ref b35_100)] [(.int (1 : Int32))])) _
      refine XS.ifNo X109.here hx rfl (hb hby at_137) rfl ((if0 _ _).trans (feq (by decide : ¬ ((1 : Int32) = (0 : Int32)))).1) ?_
      show Steps p.tables e below (T109.setTop (mkF m 140 #[.val (.int p0_0), .val (.int p0_1), .val (.int (5 : Int32)), .val (.ref b93), .val (.ref b35_100)] [])) _
      refine XS.iconst X109.here hx rfl (hb hby at_140) ?_
      show Steps p.tables e below (T109.setTop (mkF m 141 #[.val (.int p0_0), .val (.int p0_1), .val (.int (5 : Int32)), .val (.ref b93), .val (.ref b35_100)] [(.int (1 : Int32))])) _
      refine XS.goto X109.here hx rfl (pc0 := 141) (pc' := 145) rfl (hb hby at_141) (by decide) (by decide) ?_
      exact k
    obtain ⟨fs, hr, hrun, hended, hW, hsame⟩ := X109.leave (v := some (.int (1 : Int32))) (fun h => by rw [Bd.returns] at h; cases h)
    refine ⟨_, _, k110 _ ?_, hrun, hended, _, _, rfl, ?_, ⟨_, rfl⟩, hW, hsame.mono (by decide) (by decide)⟩
    · exact retN X109 hx (t := .boolean) Bd.returns (by simp) (hb hby at_145) hr
    · show Q0 Z p0_0 p0_1 h0 n0 _ T109.heap _
      rw [eh109]
      exact ⟨rfl, N109⟩
  · skip
    obtain ⟨b111, g111⟩ : ∃ z, z = h0.size := ⟨_, rfl⟩
    obtain ⟨T111, h111, k111, X111, e111, E111, A111, st111⟩ := newP X0 hx hZ (hw _ (List.mem_of_getElem? (i := 1) rfl)) e0 (g := (mkF m 9 #[.val (.int p0_0), .val (.int p0_1), .val (.int (6 : Int32)), .unset, .unset] [(.int (6 : Int32))])) rfl (hb hby at_9) rfl (by decide) (cap := 6) (by decide) (by decide) (by decide) (by decide)
    rw [← g111] at A111 st111
    have gg111 : n0 ≤ b111 := Nat.le_trans Z0 (Nat.le_of_eq g111.symm)
    have Zs111 : n0 ≤ h111.size := Nat.le_trans Z0 E111.1
    have V111 : Arv Z h111 b111 k111 .boolean (6 : Int32) [(.int (0 : Int32)), (.int (0 : Int32)), (.int (0 : Int32)), (.int (0 : Int32)), (.int (0 : Int32)), (.int (0 : Int32))] (.int (0 : Int32)) := (Arv.new A111 (by decide)).pad (pad_rep [] (.int (0 : Int32)) 6)
    obtain ⟨_, _, ⟨T112, L112, k112, n112⟩, -, X112, ⟨Lc112, hQ112, l112, y112, z112⟩, st112⟩ := Jvm.LawKit.callS X111 hx (y := (⟨"com/example/leanweave/leanweave/NetworkNumberingPinLaw", "set", "([ZIII)V"⟩ : MethodName)) hown (mvT hZ (hw _ (List.mem_of_getElem? (i := 2) rfl))) (mvT hZ (hw _ (List.mem_of_getElem? (i := 3) rfl))) (mvT hZ (hw _ (List.mem_of_getElem? (i := 4) rfl))) (mvT hZ (hw _ (List.mem_of_getElem? (i := 5) rfl))) (by decide) (backOf (W := 0) (rm20 l Z a0 hw [] b111 (6 : Int32) p0_1 k111 (6 : Int32) (.int (0 : Int32)) (.int (0 : Int32)) (.int (0 : Int32)) (.int (0 : Int32)) (.int (0 : Int32)) (.int (0 : Int32)) h111 n0 Zs111 V111 (by decide : (0 : Int32) < (6 : Int32)) (by decide : (0 : Int32) < (6 : Int32)) gg111) hZ (hw _ (List.mem_of_getElem? (i := 5) rfl)) (hw _ (List.mem_of_getElem? (i := 4) rfl)) (by decide) (by decide)) (g := (mkF m 16 #[.val (.int p0_0), .val (.int p0_1), .val (.int (6 : Int32)), .val (.ref b111), .unset] [(.int (0 : Int32)), (.int p0_1), (.int (6 : Int32)), (.ref b111)])) rfl (by rw [hml]; rfl) (argsL := [(.ref b111), (.int (6 : Int32)), (.int p0_1), (.int (0 : Int32))]) (rest := []) (lenOf pd_1 rfl) rfl (by show 2 * 0 + _ ≤ _; exact Nat.le_of_eq rfl) (hb hby at_16) (fun _ _ => ⟨rfl, e111, (by decide : 1 + 0 ≤ _), (by decide : 6 + 0 ≤ _)⟩)
    dsimp only [Pt.U, Pt.locs, Pt.cells, Pt.slots] at X112 l112 y112 z112 st112 hQ112
    subst l112 y112 z112
    obtain ⟨rfl, N112q, Kc112, G112_0⟩ := hQ112
    have Zs112 : n0 ≤ T112.heap.size := Nat.le_trans Zs111 Kc112.1
    have N112 := Fr.app N0 N112q
    obtain ⟨_, _, ⟨T113, L113, k113, n113⟩, -, X113, ⟨Lc113, hQ113, l113, y113, z113⟩, st113⟩ := Jvm.LawKit.callS X112 hx (y := (⟨"com/example/leanweave/leanweave/NetworkNumberingPinLaw", "set", "([ZIII)V"⟩ : MethodName)) hown (mvT hZ (hw _ (List.mem_of_getElem? (i := 2) rfl))) (mvT hZ (hw _ (List.mem_of_getElem? (i := 3) rfl))) (mvT hZ (hw _ (List.mem_of_getElem? (i := 4) rfl))) (mvT hZ (hw _ (List.mem_of_getElem? (i := 5) rfl))) (by decide) (backOf (W := 0) (rm21 l Z a0 hw [] b111 (6 : Int32) p0_1 k111 (6 : Int32) (.int (own_bit p0_1 (0 : Int32))) (.int (0 : Int32)) (.int (0 : Int32)) (.int (0 : Int32)) (.int (0 : Int32)) (.int (0 : Int32)) T112.heap n0 Zs112 G112_0 (by decide : (1 : Int32) < (6 : Int32)) (by decide : (1 : Int32) < (6 : Int32)) gg111) hZ (hw _ (List.mem_of_getElem? (i := 5) rfl)) (hw _ (List.mem_of_getElem? (i := 4) rfl)) (by decide) (by decide)) (g := (mkF m 23 #[.val (.int p0_0), .val (.int p0_1), .val (.int (6 : Int32)), .val (.ref b111), .unset] [(.int (1 : Int32)), (.int p0_1), (.int (6 : Int32)), (.ref b111)])) rfl (by rw [hml]; rfl) (argsL := [(.ref b111), (.int (6 : Int32)), (.int p0_1), (.int (1 : Int32))]) (rest := []) (lenOf pd_1 rfl) rfl (by show 2 * 0 + _ ≤ _; exact Nat.le_of_eq rfl) (hb hby at_23) (fun _ _ => ⟨rfl, rfl, (by decide : 1 + 0 ≤ _), (by decide : 6 + 0 ≤ _)⟩)
    dsimp only [Pt.U, Pt.locs, Pt.cells, Pt.slots] at X113 l113 y113 z113 st113 hQ113
    subst l113 y113 z113
    obtain ⟨rfl, N113q, Kc113, G113_0⟩ := hQ113
    have Zs113 : n0 ≤ T113.heap.size := Nat.le_trans Zs112 Kc113.1
    have N113 := Fr.app N112 N113q
    obtain ⟨_, _, ⟨T114, L114, k114, n114⟩, -, X114, ⟨Lc114, hQ114, l114, y114, z114⟩, st114⟩ := Jvm.LawKit.callS X113 hx (y := (⟨"com/example/leanweave/leanweave/NetworkNumberingPinLaw", "set", "([ZIII)V"⟩ : MethodName)) hown (mvT hZ (hw _ (List.mem_of_getElem? (i := 2) rfl))) (mvT hZ (hw _ (List.mem_of_getElem? (i := 3) rfl))) (mvT hZ (hw _ (List.mem_of_getElem? (i := 4) rfl))) (mvT hZ (hw _ (List.mem_of_getElem? (i := 5) rfl))) (by decide) (backOf (W := 0) (rm22 l Z a0 hw [] b111 (6 : Int32) p0_1 k111 (6 : Int32) (.int (own_bit p0_1 (0 : Int32))) (.int (own_bit p0_1 (1 : Int32))) (.int (0 : Int32)) (.int (0 : Int32)) (.int (0 : Int32)) (.int (0 : Int32)) T113.heap n0 Zs113 G113_0 (by decide : (2 : Int32) < (6 : Int32)) (by decide : (2 : Int32) < (6 : Int32)) gg111) hZ (hw _ (List.mem_of_getElem? (i := 5) rfl)) (hw _ (List.mem_of_getElem? (i := 4) rfl)) (by decide) (by decide)) (g := (mkF m 30 #[.val (.int p0_0), .val (.int p0_1), .val (.int (6 : Int32)), .val (.ref b111), .unset] [(.int (2 : Int32)), (.int p0_1), (.int (6 : Int32)), (.ref b111)])) rfl (by rw [hml]; rfl) (argsL := [(.ref b111), (.int (6 : Int32)), (.int p0_1), (.int (2 : Int32))]) (rest := []) (lenOf pd_1 rfl) rfl (by show 2 * 0 + _ ≤ _; exact Nat.le_of_eq rfl) (hb hby at_30) (fun _ _ => ⟨rfl, rfl, (by decide : 1 + 0 ≤ _), (by decide : 6 + 0 ≤ _)⟩)
    dsimp only [Pt.U, Pt.locs, Pt.cells, Pt.slots] at X114 l114 y114 z114 st114 hQ114
    subst l114 y114 z114
    obtain ⟨rfl, N114q, Kc114, G114_0⟩ := hQ114
    have Zs114 : n0 ≤ T114.heap.size := Nat.le_trans Zs113 Kc114.1
    have N114 := Fr.app N113 N114q
    obtain ⟨_, _, ⟨T115, L115, k115, n115⟩, -, X115, ⟨Lc115, hQ115, l115, y115, z115⟩, st115⟩ := Jvm.LawKit.callS X114 hx (y := (⟨"com/example/leanweave/leanweave/NetworkNumberingPinLaw", "set", "([ZIII)V"⟩ : MethodName)) hown (mvT hZ (hw _ (List.mem_of_getElem? (i := 2) rfl))) (mvT hZ (hw _ (List.mem_of_getElem? (i := 3) rfl))) (mvT hZ (hw _ (List.mem_of_getElem? (i := 4) rfl))) (mvT hZ (hw _ (List.mem_of_getElem? (i := 5) rfl))) (by decide) (backOf (W := 0) (rm23 l Z a0 hw [] b111 (6 : Int32) p0_1 k111 (6 : Int32) (.int (own_bit p0_1 (0 : Int32))) (.int (own_bit p0_1 (1 : Int32))) (.int (own_bit p0_1 (2 : Int32))) (.int (0 : Int32)) (.int (0 : Int32)) (.int (0 : Int32)) T114.heap n0 Zs114 G114_0 (by decide : (3 : Int32) < (6 : Int32)) (by decide : (3 : Int32) < (6 : Int32)) gg111) hZ (hw _ (List.mem_of_getElem? (i := 5) rfl)) (hw _ (List.mem_of_getElem? (i := 4) rfl)) (by decide) (by decide)) (g := (mkF m 37 #[.val (.int p0_0), .val (.int p0_1), .val (.int (6 : Int32)), .val (.ref b111), .unset] [(.int (3 : Int32)), (.int p0_1), (.int (6 : Int32)), (.ref b111)])) rfl (by rw [hml]; rfl) (argsL := [(.ref b111), (.int (6 : Int32)), (.int p0_1), (.int (3 : Int32))]) (rest := []) (lenOf pd_1 rfl) rfl (by show 2 * 0 + _ ≤ _; exact Nat.le_of_eq rfl) (hb hby at_37) (fun _ _ => ⟨rfl, rfl, (by decide : 1 + 0 ≤ _), (by decide : 6 + 0 ≤ _)⟩)
    dsimp only [Pt.U, Pt.locs, Pt.cells, Pt.slots] at X115 l115 y115 z115 st115 hQ115
    subst l115 y115 z115
    obtain ⟨rfl, N115q, Kc115, G115_0⟩ := hQ115
    have Zs115 : n0 ≤ T115.heap.size := Nat.le_trans Zs114 Kc115.1
    have N115 := Fr.app N114 N115q
    obtain ⟨_, _, ⟨T116, L116, k116, n116⟩, -, X116, ⟨Lc116, hQ116, l116, y116, z116⟩, st116⟩ := Jvm.LawKit.callS X115 hx (y := (⟨"com/example/leanweave/leanweave/NetworkNumberingPinLaw", "set", "([ZIII)V"⟩ : MethodName)) hown (mvT hZ (hw _ (List.mem_of_getElem? (i := 2) rfl))) (mvT hZ (hw _ (List.mem_of_getElem? (i := 3) rfl))) (mvT hZ (hw _ (List.mem_of_getElem? (i := 4) rfl))) (mvT hZ (hw _ (List.mem_of_getElem? (i := 5) rfl))) (by decide) (backOf (W := 0) (rm24 l Z a0 hw [] b111 (6 : Int32) p0_1 k111 (6 : Int32) (.int (own_bit p0_1 (0 : Int32))) (.int (own_bit p0_1 (1 : Int32))) (.int (own_bit p0_1 (2 : Int32))) (.int (own_bit p0_1 (3 : Int32))) (.int (0 : Int32)) (.int (0 : Int32)) T115.heap n0 Zs115 G115_0 (by decide : (4 : Int32) < (6 : Int32)) (by decide : (4 : Int32) < (6 : Int32)) gg111) hZ (hw _ (List.mem_of_getElem? (i := 5) rfl)) (hw _ (List.mem_of_getElem? (i := 4) rfl)) (by decide) (by decide)) (g := (mkF m 44 #[.val (.int p0_0), .val (.int p0_1), .val (.int (6 : Int32)), .val (.ref b111), .unset] [(.int (4 : Int32)), (.int p0_1), (.int (6 : Int32)), (.ref b111)])) rfl (by rw [hml]; rfl) (argsL := [(.ref b111), (.int (6 : Int32)), (.int p0_1), (.int (4 : Int32))]) (rest := []) (lenOf pd_1 rfl) rfl (by show 2 * 0 + _ ≤ _; exact Nat.le_of_eq rfl) (hb hby at_44) (fun _ _ => ⟨rfl, rfl, (by decide : 1 + 0 ≤ _), (by decide : 6 + 0 ≤ _)⟩)
    dsimp only [Pt.U, Pt.locs, Pt.cells, Pt.slots] at X116 l116 y116 z116 st116 hQ116
    subst l116 y116 z116
    obtain ⟨rfl, N116q, Kc116, G116_0⟩ := hQ116
    have Zs116 : n0 ≤ T116.heap.size := Nat.le_trans Zs115 Kc116.1
    have N116 := Fr.app N115 N116q
    obtain ⟨_, _, ⟨T117, L117, k117, n117⟩, -, X117, ⟨Lc117, hQ117, l117, y117, z117⟩, st117⟩ := Jvm.LawKit.callS X116 hx (y := (⟨"com/example/leanweave/leanweave/NetworkNumberingPinLaw", "set", "([ZIII)V"⟩ : MethodName)) hown (mvT hZ (hw _ (List.mem_of_getElem? (i := 2) rfl))) (mvT hZ (hw _ (List.mem_of_getElem? (i := 3) rfl))) (mvT hZ (hw _ (List.mem_of_getElem? (i := 4) rfl))) (mvT hZ (hw _ (List.mem_of_getElem? (i := 5) rfl))) (by decide) (backOf (W := 0) (rm25 l Z a0 hw [] b111 (6 : Int32) p0_1 k111 (6 : Int32) (.int (own_bit p0_1 (0 : Int32))) (.int (own_bit p0_1 (1 : Int32))) (.int (own_bit p0_1 (2 : Int32))) (.int (own_bit p0_1 (3 : Int32))) (.int (own_bit p0_1 (4 : Int32))) (.int (0 : Int32)) T116.heap n0 Zs116 G116_0 (by decide : (5 : Int32) < (6 : Int32)) (by decide : (5 : Int32) < (6 : Int32)) gg111) hZ (hw _ (List.mem_of_getElem? (i := 5) rfl)) (hw _ (List.mem_of_getElem? (i := 4) rfl)) (by decide) (by decide)) (g := (mkF m 51 #[.val (.int p0_0), .val (.int p0_1), .val (.int (6 : Int32)), .val (.ref b111), .unset] [(.int (5 : Int32)), (.int p0_1), (.int (6 : Int32)), (.ref b111)])) rfl (by rw [hml]; rfl) (argsL := [(.ref b111), (.int (6 : Int32)), (.int p0_1), (.int (5 : Int32))]) (rest := []) (lenOf pd_1 rfl) rfl (by show 2 * 0 + _ ≤ _; exact Nat.le_of_eq rfl) (hb hby at_51) (fun _ _ => ⟨rfl, rfl, (by decide : 1 + 0 ≤ _), (by decide : 6 + 0 ≤ _)⟩)
    dsimp only [Pt.U, Pt.locs, Pt.cells, Pt.slots] at X117 l117 y117 z117 st117 hQ117
    subst l117 y117 z117
    obtain ⟨rfl, N117q, Kc117, G117_0⟩ := hQ117
    have Zs117 : n0 ≤ T117.heap.size := Nat.le_trans Zs116 Kc117.1
    have N117 := Fr.app N116 N117q
    obtain ⟨_, _, ⟨T118, L118, k118, n118⟩, -, X118, ⟨Lc118, hQ118, l118, y118, z118⟩, st118⟩ := Jvm.LawKit.callS X117 hx (y := (⟨"com/example/leanweave/leanweave/Network", "numbering", "([Z)[I"⟩ : MethodName)) hown (mvT hZ (hw _ (List.mem_of_getElem? (i := 6) rfl))) (mvT hZ (hw _ (List.mem_of_getElem? (i := 7) rfl))) (mvT hZ (hw _ (List.mem_of_getElem? (i := 8) rfl))) (mvT hZ (hw _ (List.mem_of_getElem? (i := 9) rfl))) (by decide) (backOf (W := 0) (rm36 l Z a0 hw [] b111 k111 (own_bit p0_1 (0 : Int32)) (own_bit p0_1 (1 : Int32)) (own_bit p0_1 (2 : Int32)) (own_bit p0_1 (3 : Int32)) (own_bit p0_1 (4 : Int32)) (own_bit p0_1 (5 : Int32)) T117.heap n0 Zs117 G117_0) hZ (hw _ (List.mem_of_getElem? (i := 9) rfl)) (hw _ (List.mem_of_getElem? (i := 8) rfl)) (by decide) (by decide)) (g := (mkF m 55 #[.val (.int p0_0), .val (.int p0_1), .val (.int (6 : Int32)), .val (.ref b111), .unset] [(.ref b111)])) rfl (by rw [hml]; rfl) (argsL := [(.ref b111)]) (rest := []) (lenOf pd_2 rfl) rfl (by show 2 * 0 + _ ≤ _; exact Nat.le_of_eq rfl) (hb hby at_55) (fun _ _ => ⟨rfl, rfl, (by decide : 1 + 1 ≤ _), (by decide : 6 + 6 ≤ _)⟩)
    dsimp only [Pt.U, Pt.locs, Pt.cells, Pt.slots] at X118 l118 y118 z118 st118 hQ118
    subst l118 y118 z118
    obtain ⟨b36_118, kn36_118, rfl, N118q, Kc118, ggb36_118, szb36_118, G118_0⟩ := hQ118
    have ne119 : b111 ≠ b36_118 := Nat.ne_of_lt (Nat.lt_of_lt_of_le G117_0.lt szb36_118)
    have Zs118 : n0 ≤ T118.heap.size := Nat.le_trans Zs117 Kc118.1
    have F120 : Arv Z T118.heap b111 k111 .boolean (6 : Int32) [(.int (own_bit p0_1 (0 : Int32))), (.int (own_bit p0_1 (1 : Int32))), (.int (own_bit p0_1 (2 : Int32))), (.int (own_bit p0_1 (3 : Int32))), (.int (own_bit p0_1 (4 : Int32))), (.int (own_bit p0_1 (5 : Int32)))] (.int (0 : Int32)) := G117_0.keep Kc118 nin0
    have N118 := Fr.app N117 N118q
    obtain ⟨cl121, Ar121, qc121, Sz121, Nn121, Hh121, Gg121⟩ := (id G118_0)
    obtain ⟨_, _, ⟨T122, L122, k122, n122⟩, -, X122, ⟨Lc122, hQ122, l122, y122, z122⟩, st122⟩ := Jvm.LawKit.callS X118 hx (y := (⟨"com/example/leanweave/leanweave/NetworkNumberingPinLaw", "ok", "([IIII)Z"⟩ : MethodName)) hown (mvT hZ (hw _ (List.mem_of_getElem? (i := 11) rfl))) (mvT hZ (hw _ (List.mem_of_getElem? (i := 12) rfl))) (mvT hZ (hw _ (List.mem_of_getElem? (i := 4) rfl))) (mvT hZ (hw _ (List.mem_of_getElem? (i := 13) rfl))) (by decide) (backOf (W := 0) (rm60 l Z a0 hw [] b36_118 (6 : Int32) p0_1 kn36_118 (6 : Int32) (own_e (own_bit p0_1 (0 : Int32)) (0 : Int32)) (own_e (own_bit p0_1 (1 : Int32)) (own_c (own_bit p0_1 (0 : Int32)) (0 : Int32))) (own_e (own_bit p0_1 (2 : Int32)) (own_c (own_bit p0_1 (1 : Int32)) (own_c (own_bit p0_1 (0 : Int32)) (0 : Int32)))) (own_e (own_bit p0_1 (3 : Int32)) (own_c (own_bit p0_1 (2 : Int32)) (own_c (own_bit p0_1 (1 : Int32)) (own_c (own_bit p0_1 (0 : Int32)) (0 : Int32))))) (own_e (own_bit p0_1 (4 : Int32)) (own_c (own_bit p0_1 (3 : Int32)) (own_c (own_bit p0_1 (2 : Int32)) (own_c (own_bit p0_1 (1 : Int32)) (own_c (own_bit p0_1 (0 : Int32)) (0 : Int32)))))) (own_e (own_bit p0_1 (5 : Int32)) (own_c (own_bit p0_1 (4 : Int32)) (own_c (own_bit p0_1 (3 : Int32)) (own_c (own_bit p0_1 (2 : Int32)) (own_c (own_bit p0_1 (1 : Int32)) (own_c (own_bit p0_1 (0 : Int32)) (0 : Int32))))))) T118.heap n0 Zs118 G118_0 (by decide : (0 : Int32) < (6 : Int32)) (by decide : (0 : Int32) < (6 : Int32))) hZ (hw _ (List.mem_of_getElem? (i := 13) rfl)) (hw _ (List.mem_of_getElem? (i := 4) rfl)) (by decide) (by decide)) (g := (mkF m 79 #[.val (.int p0_0), .val (.int p0_1), .val (.int (6 : Int32)), .val (.ref b111), .val (.ref b36_118)] [(.int (0 : Int32)), (.int p0_1), (.int (6 : Int32)), (.ref b36_118)])) rfl (by rw [hml]; rfl) (argsL := [(.ref b36_118), (.int (6 : Int32)), (.int p0_1), (.int (0 : Int32))]) (rest := []) (lenOf pd_3 rfl) rfl (by show 2 * 0 + _ ≤ _; exact Nat.le_of_eq rfl) (hb hby at_79) (fun _ _ => ⟨rfl, rfl, (by decide : 2 + 0 ≤ _), (by decide : 12 + 0 ≤ _)⟩)
    dsimp only [Pt.U, Pt.locs, Pt.cells, Pt.slots] at X122 l122 y122 z122 st122 hQ122
    subst l122 y122 z122
    obtain ⟨rfl, N122q, eh122⟩ := hQ122
    have N122 := Fr.app N118 N122q
    obtain ⟨_, _, ⟨T123, L123, k123, n123⟩, -, X123, ⟨Lc123, hQ123, l123, y123, z123⟩, st123⟩ := Jvm.LawKit.callS X122 hx (y := (⟨"com/example/leanweave/leanweave/NetworkNumberingPinLaw", "ok", "([IIII)Z"⟩ : MethodName)) hown (mvT hZ (hw _ (List.mem_of_getElem? (i := 11) rfl))) (mvT hZ (hw _ (List.mem_of_getElem? (i := 12) rfl))) (mvT hZ (hw _ (List.mem_of_getElem? (i := 4) rfl))) (mvT hZ (hw _ (List.mem_of_getElem? (i := 13) rfl))) (by decide) (backOf (W := 0) (rm61 l Z a0 hw [] b36_118 (6 : Int32) p0_1 kn36_118 (6 : Int32) (own_e (own_bit p0_1 (0 : Int32)) (0 : Int32)) (own_e (own_bit p0_1 (1 : Int32)) (own_c (own_bit p0_1 (0 : Int32)) (0 : Int32))) (own_e (own_bit p0_1 (2 : Int32)) (own_c (own_bit p0_1 (1 : Int32)) (own_c (own_bit p0_1 (0 : Int32)) (0 : Int32)))) (own_e (own_bit p0_1 (3 : Int32)) (own_c (own_bit p0_1 (2 : Int32)) (own_c (own_bit p0_1 (1 : Int32)) (own_c (own_bit p0_1 (0 : Int32)) (0 : Int32))))) (own_e (own_bit p0_1 (4 : Int32)) (own_c (own_bit p0_1 (3 : Int32)) (own_c (own_bit p0_1 (2 : Int32)) (own_c (own_bit p0_1 (1 : Int32)) (own_c (own_bit p0_1 (0 : Int32)) (0 : Int32)))))) (own_e (own_bit p0_1 (5 : Int32)) (own_c (own_bit p0_1 (4 : Int32)) (own_c (own_bit p0_1 (3 : Int32)) (own_c (own_bit p0_1 (2 : Int32)) (own_c (own_bit p0_1 (1 : Int32)) (own_c (own_bit p0_1 (0 : Int32)) (0 : Int32))))))) T118.heap n0 Zs118 G118_0 (by decide : (1 : Int32) < (6 : Int32)) (by decide : (1 : Int32) < (6 : Int32))) hZ (hw _ (List.mem_of_getElem? (i := 13) rfl)) (hw _ (List.mem_of_getElem? (i := 4) rfl)) (by decide) (by decide)) (g := (mkF m 90 #[.val (.int p0_0), .val (.int p0_1), .val (.int (6 : Int32)), .val (.ref b111), .val (.ref b36_118)] [(.int (1 : Int32)), (.int p0_1), (.int (6 : Int32)), (.ref b36_118)])) rfl (by rw [hml]; rfl) (argsL := [(.ref b36_118), (.int (6 : Int32)), (.int p0_1), (.int (1 : Int32))]) (rest := []) (lenOf pd_3 rfl) rfl (by show 2 * 0 + _ ≤ _; exact Nat.le_of_eq rfl) (hb hby at_90) (fun _ _ => ⟨rfl, eh122, (by decide : 2 + 0 ≤ _), (by decide : 12 + 0 ≤ _)⟩)
    dsimp only [Pt.U, Pt.locs, Pt.cells, Pt.slots] at X123 l123 y123 z123 st123 hQ123
    subst l123 y123 z123
    obtain ⟨rfl, N123q, eh123⟩ := hQ123
    have N123 := Fr.app N122 N123q
    obtain ⟨_, _, ⟨T124, L124, k124, n124⟩, -, X124, ⟨Lc124, hQ124, l124, y124, z124⟩, st124⟩ := Jvm.LawKit.callS X123 hx (y := (⟨"com/example/leanweave/leanweave/NetworkNumberingPinLaw", "ok", "([IIII)Z"⟩ : MethodName)) hown (mvT hZ (hw _ (List.mem_of_getElem? (i := 11) rfl))) (mvT hZ (hw _ (List.mem_of_getElem? (i := 12) rfl))) (mvT hZ (hw _ (List.mem_of_getElem? (i := 4) rfl))) (mvT hZ (hw _ (List.mem_of_getElem? (i := 13) rfl))) (by decide) (backOf (W := 0) (rm62 l Z a0 hw [] b36_118 (6 : Int32) p0_1 kn36_118 (6 : Int32) (own_e (own_bit p0_1 (0 : Int32)) (0 : Int32)) (own_e (own_bit p0_1 (1 : Int32)) (own_c (own_bit p0_1 (0 : Int32)) (0 : Int32))) (own_e (own_bit p0_1 (2 : Int32)) (own_c (own_bit p0_1 (1 : Int32)) (own_c (own_bit p0_1 (0 : Int32)) (0 : Int32)))) (own_e (own_bit p0_1 (3 : Int32)) (own_c (own_bit p0_1 (2 : Int32)) (own_c (own_bit p0_1 (1 : Int32)) (own_c (own_bit p0_1 (0 : Int32)) (0 : Int32))))) (own_e (own_bit p0_1 (4 : Int32)) (own_c (own_bit p0_1 (3 : Int32)) (own_c (own_bit p0_1 (2 : Int32)) (own_c (own_bit p0_1 (1 : Int32)) (own_c (own_bit p0_1 (0 : Int32)) (0 : Int32)))))) (own_e (own_bit p0_1 (5 : Int32)) (own_c (own_bit p0_1 (4 : Int32)) (own_c (own_bit p0_1 (3 : Int32)) (own_c (own_bit p0_1 (2 : Int32)) (own_c (own_bit p0_1 (1 : Int32)) (own_c (own_bit p0_1 (0 : Int32)) (0 : Int32))))))) T118.heap n0 Zs118 G118_0 (by decide : (2 : Int32) < (6 : Int32)) (by decide : (2 : Int32) < (6 : Int32))) hZ (hw _ (List.mem_of_getElem? (i := 13) rfl)) (hw _ (List.mem_of_getElem? (i := 4) rfl)) (by decide) (by decide)) (g := (mkF m 101 #[.val (.int p0_0), .val (.int p0_1), .val (.int (6 : Int32)), .val (.ref b111), .val (.ref b36_118)] [(.int (2 : Int32)), (.int p0_1), (.int (6 : Int32)), (.ref b36_118)])) rfl (by rw [hml]; rfl) (argsL := [(.ref b36_118), (.int (6 : Int32)), (.int p0_1), (.int (2 : Int32))]) (rest := []) (lenOf pd_3 rfl) rfl (by show 2 * 0 + _ ≤ _; exact Nat.le_of_eq rfl) (hb hby at_101) (fun _ _ => ⟨rfl, eh123, (by decide : 2 + 0 ≤ _), (by decide : 12 + 0 ≤ _)⟩)
    dsimp only [Pt.U, Pt.locs, Pt.cells, Pt.slots] at X124 l124 y124 z124 st124 hQ124
    subst l124 y124 z124
    obtain ⟨rfl, N124q, eh124⟩ := hQ124
    have N124 := Fr.app N123 N124q
    obtain ⟨_, _, ⟨T125, L125, k125, n125⟩, -, X125, ⟨Lc125, hQ125, l125, y125, z125⟩, st125⟩ := Jvm.LawKit.callS X124 hx (y := (⟨"com/example/leanweave/leanweave/NetworkNumberingPinLaw", "ok", "([IIII)Z"⟩ : MethodName)) hown (mvT hZ (hw _ (List.mem_of_getElem? (i := 11) rfl))) (mvT hZ (hw _ (List.mem_of_getElem? (i := 12) rfl))) (mvT hZ (hw _ (List.mem_of_getElem? (i := 4) rfl))) (mvT hZ (hw _ (List.mem_of_getElem? (i := 13) rfl))) (by decide) (backOf (W := 0) (rm63 l Z a0 hw [] b36_118 (6 : Int32) p0_1 kn36_118 (6 : Int32) (own_e (own_bit p0_1 (0 : Int32)) (0 : Int32)) (own_e (own_bit p0_1 (1 : Int32)) (own_c (own_bit p0_1 (0 : Int32)) (0 : Int32))) (own_e (own_bit p0_1 (2 : Int32)) (own_c (own_bit p0_1 (1 : Int32)) (own_c (own_bit p0_1 (0 : Int32)) (0 : Int32)))) (own_e (own_bit p0_1 (3 : Int32)) (own_c (own_bit p0_1 (2 : Int32)) (own_c (own_bit p0_1 (1 : Int32)) (own_c (own_bit p0_1 (0 : Int32)) (0 : Int32))))) (own_e (own_bit p0_1 (4 : Int32)) (own_c (own_bit p0_1 (3 : Int32)) (own_c (own_bit p0_1 (2 : Int32)) (own_c (own_bit p0_1 (1 : Int32)) (own_c (own_bit p0_1 (0 : Int32)) (0 : Int32)))))) (own_e (own_bit p0_1 (5 : Int32)) (own_c (own_bit p0_1 (4 : Int32)) (own_c (own_bit p0_1 (3 : Int32)) (own_c (own_bit p0_1 (2 : Int32)) (own_c (own_bit p0_1 (1 : Int32)) (own_c (own_bit p0_1 (0 : Int32)) (0 : Int32))))))) T118.heap n0 Zs118 G118_0 (by decide : (3 : Int32) < (6 : Int32)) (by decide : (3 : Int32) < (6 : Int32))) hZ (hw _ (List.mem_of_getElem? (i := 13) rfl)) (hw _ (List.mem_of_getElem? (i := 4) rfl)) (by decide) (by decide)) (g := (mkF m 112 #[.val (.int p0_0), .val (.int p0_1), .val (.int (6 : Int32)), .val (.ref b111), .val (.ref b36_118)] [(.int (3 : Int32)), (.int p0_1), (.int (6 : Int32)), (.ref b36_118)])) rfl (by rw [hml]; rfl) (argsL := [(.ref b36_118), (.int (6 : Int32)), (.int p0_1), (.int (3 : Int32))]) (rest := []) (lenOf pd_3 rfl) rfl (by show 2 * 0 + _ ≤ _; exact Nat.le_of_eq rfl) (hb hby at_112) (fun _ _ => ⟨rfl, eh124, (by decide : 2 + 0 ≤ _), (by decide : 12 + 0 ≤ _)⟩)
    dsimp only [Pt.U, Pt.locs, Pt.cells, Pt.slots] at X125 l125 y125 z125 st125 hQ125
    subst l125 y125 z125
    obtain ⟨rfl, N125q, eh125⟩ := hQ125
    have N125 := Fr.app N124 N125q
    obtain ⟨_, _, ⟨T126, L126, k126, n126⟩, -, X126, ⟨Lc126, hQ126, l126, y126, z126⟩, st126⟩ := Jvm.LawKit.callS X125 hx (y := (⟨"com/example/leanweave/leanweave/NetworkNumberingPinLaw", "ok", "([IIII)Z"⟩ : MethodName)) hown (mvT hZ (hw _ (List.mem_of_getElem? (i := 11) rfl))) (mvT hZ (hw _ (List.mem_of_getElem? (i := 12) rfl))) (mvT hZ (hw _ (List.mem_of_getElem? (i := 4) rfl))) (mvT hZ (hw _ (List.mem_of_getElem? (i := 13) rfl))) (by decide) (backOf (W := 0) (rm64 l Z a0 hw [] b36_118 (6 : Int32) p0_1 kn36_118 (6 : Int32) (own_e (own_bit p0_1 (0 : Int32)) (0 : Int32)) (own_e (own_bit p0_1 (1 : Int32)) (own_c (own_bit p0_1 (0 : Int32)) (0 : Int32))) (own_e (own_bit p0_1 (2 : Int32)) (own_c (own_bit p0_1 (1 : Int32)) (own_c (own_bit p0_1 (0 : Int32)) (0 : Int32)))) (own_e (own_bit p0_1 (3 : Int32)) (own_c (own_bit p0_1 (2 : Int32)) (own_c (own_bit p0_1 (1 : Int32)) (own_c (own_bit p0_1 (0 : Int32)) (0 : Int32))))) (own_e (own_bit p0_1 (4 : Int32)) (own_c (own_bit p0_1 (3 : Int32)) (own_c (own_bit p0_1 (2 : Int32)) (own_c (own_bit p0_1 (1 : Int32)) (own_c (own_bit p0_1 (0 : Int32)) (0 : Int32)))))) (own_e (own_bit p0_1 (5 : Int32)) (own_c (own_bit p0_1 (4 : Int32)) (own_c (own_bit p0_1 (3 : Int32)) (own_c (own_bit p0_1 (2 : Int32)) (own_c (own_bit p0_1 (1 : Int32)) (own_c (own_bit p0_1 (0 : Int32)) (0 : Int32))))))) T118.heap n0 Zs118 G118_0 (by decide : (4 : Int32) < (6 : Int32)) (by decide : (4 : Int32) < (6 : Int32))) hZ (hw _ (List.mem_of_getElem? (i := 13) rfl)) (hw _ (List.mem_of_getElem? (i := 4) rfl)) (by decide) (by decide)) (g := (mkF m 123 #[.val (.int p0_0), .val (.int p0_1), .val (.int (6 : Int32)), .val (.ref b111), .val (.ref b36_118)] [(.int (4 : Int32)), (.int p0_1), (.int (6 : Int32)), (.ref b36_118)])) rfl (by rw [hml]; rfl) (argsL := [(.ref b36_118), (.int (6 : Int32)), (.int p0_1), (.int (4 : Int32))]) (rest := []) (lenOf pd_3 rfl) rfl (by show 2 * 0 + _ ≤ _; exact Nat.le_of_eq rfl) (hb hby at_123) (fun _ _ => ⟨rfl, eh125, (by decide : 2 + 0 ≤ _), (by decide : 12 + 0 ≤ _)⟩)
    dsimp only [Pt.U, Pt.locs, Pt.cells, Pt.slots] at X126 l126 y126 z126 st126 hQ126
    subst l126 y126 z126
    obtain ⟨rfl, N126q, eh126⟩ := hQ126
    have N126 := Fr.app N125 N126q
    obtain ⟨_, _, ⟨T127, L127, k127, n127⟩, -, X127, ⟨Lc127, hQ127, l127, y127, z127⟩, st127⟩ := Jvm.LawKit.callS X126 hx (y := (⟨"com/example/leanweave/leanweave/NetworkNumberingPinLaw", "ok", "([IIII)Z"⟩ : MethodName)) hown (mvT hZ (hw _ (List.mem_of_getElem? (i := 11) rfl))) (mvT hZ (hw _ (List.mem_of_getElem? (i := 12) rfl))) (mvT hZ (hw _ (List.mem_of_getElem? (i := 4) rfl))) (mvT hZ (hw _ (List.mem_of_getElem? (i := 13) rfl))) (by decide) (backOf (W := 0) (rm65 l Z a0 hw [] b36_118 (6 : Int32) p0_1 kn36_118 (6 : Int32) (own_e (own_bit p0_1 (0 : Int32)) (0 : Int32)) (own_e (own_bit p0_1 (1 : Int32)) (own_c (own_bit p0_1 (0 : Int32)) (0 : Int32))) (own_e (own_bit p0_1 (2 : Int32)) (own_c (own_bit p0_1 (1 : Int32)) (own_c (own_bit p0_1 (0 : Int32)) (0 : Int32)))) (own_e (own_bit p0_1 (3 : Int32)) (own_c (own_bit p0_1 (2 : Int32)) (own_c (own_bit p0_1 (1 : Int32)) (own_c (own_bit p0_1 (0 : Int32)) (0 : Int32))))) (own_e (own_bit p0_1 (4 : Int32)) (own_c (own_bit p0_1 (3 : Int32)) (own_c (own_bit p0_1 (2 : Int32)) (own_c (own_bit p0_1 (1 : Int32)) (own_c (own_bit p0_1 (0 : Int32)) (0 : Int32)))))) (own_e (own_bit p0_1 (5 : Int32)) (own_c (own_bit p0_1 (4 : Int32)) (own_c (own_bit p0_1 (3 : Int32)) (own_c (own_bit p0_1 (2 : Int32)) (own_c (own_bit p0_1 (1 : Int32)) (own_c (own_bit p0_1 (0 : Int32)) (0 : Int32))))))) T118.heap n0 Zs118 G118_0 (by decide : (5 : Int32) < (6 : Int32)) (by decide : (5 : Int32) < (6 : Int32))) hZ (hw _ (List.mem_of_getElem? (i := 13) rfl)) (hw _ (List.mem_of_getElem? (i := 4) rfl)) (by decide) (by decide)) (g := (mkF m 134 #[.val (.int p0_0), .val (.int p0_1), .val (.int (6 : Int32)), .val (.ref b111), .val (.ref b36_118)] [(.int (5 : Int32)), (.int p0_1), (.int (6 : Int32)), (.ref b36_118)])) rfl (by rw [hml]; rfl) (argsL := [(.ref b36_118), (.int (6 : Int32)), (.int p0_1), (.int (5 : Int32))]) (rest := []) (lenOf pd_3 rfl) rfl (by show 2 * 0 + _ ≤ _; exact Nat.le_of_eq rfl) (hb hby at_134) (fun _ _ => ⟨rfl, eh126, (by decide : 2 + 0 ≤ _), (by decide : 12 + 0 ≤ _)⟩)
    dsimp only [Pt.U, Pt.locs, Pt.cells, Pt.slots] at X127 l127 y127 z127 st127 hQ127
    subst l127 y127 z127
    obtain ⟨rfl, N127q, eh127⟩ := hQ127
    have N127 := Fr.app N126 N127q
    have k128 : ∀ t, Steps p.tables e below (T127.setTop (mkF m 145 #[.val (.int p0_0), .val (.int p0_1), .val (.int (6 : Int32)), .val (.ref b111), .val (.ref b36_118)] [(.int (1 : Int32))])) t → Steps p.tables e below (s₁.setTop (entryFrame m #[(.int p0_0), (.int p0_1)] maxLocals)) t := by
      intro t k
      refine k1 t ?_
      show Steps p.tables e below (s₁.setTop (mkF m 8 #[.val (.int p0_0), .val (.int p0_1), .val (.int (6 : Int32)), .unset, .unset] [])) _
      refine XS.iloadN X0.here hx rfl (hb hby at_8) rfl ?_
      show Steps p.tables e below (s₁.setTop (mkF m 9 #[.val (.int p0_0), .val (.int p0_1), .val (.int (6 : Int32)), .unset, .unset] [(.int (6 : Int32))])) _
      refine st111 _ ?_
      show Steps p.tables e below (T111.setTop (mkF m 11 #[.val (.int p0_0), .val (.int p0_1), .val (.int (6 : Int32)), .unset, .unset] [(.ref b111)])) _
      refine XS.astoreN X111.here hx rfl (hb hby at_11) rfl rfl (l' := #[.val (.int p0_0), .val (.int p0_1), .val (.int (6 : Int32)), .val (.ref b111), .unset]) rfl ?_
      show Steps p.tables e below (T111.setTop (mkF m 12 #[.val (.int p0_0), .val (.int p0_1), .val (.int (6 : Int32)), .val (.ref b111), .unset] [])) _
      refine XS.aloadN X111.here hx rfl (hb hby at_12) rfl rfl ?_
      show Steps p.tables e below (T111.setTop (mkF m 13 #[.val (.int p0_0), .val (.int p0_1), .val (.int (6 : Int32)), .val (.ref b111), .unset] [(.ref b111)])) _
      refine XS.iloadN X111.here hx rfl (hb hby at_13) rfl ?_
      show Steps p.tables e below (T111.setTop (mkF m 14 #[.val (.int p0_0), .val (.int p0_1), .val (.int (6 : Int32)), .val (.ref b111), .unset] [(.int (6 : Int32)), (.ref b111)])) _
      refine XS.iloadN X111.here hx rfl (hb hby at_14) rfl ?_
      show Steps p.tables e below (T111.setTop (mkF m 15 #[.val (.int p0_0), .val (.int p0_1), .val (.int (6 : Int32)), .val (.ref b111), .unset] [(.int p0_1), (.int (6 : Int32)), (.ref b111)])) _
      refine XS.iconst X111.here hx rfl (hb hby at_15) ?_
      show Steps p.tables e below (T111.setTop (mkF m 16 #[.val (.int p0_0), .val (.int p0_1), .val (.int (6 : Int32)), .val (.ref b111), .unset] [(.int (0 : Int32)), (.int p0_1), (.int (6 : Int32)), (.ref b111)])) _
      refine st112 _ ?_
      show Steps p.tables e below (T112.setTop (mkF m 19 #[.val (.int p0_0), .val (.int p0_1), .val (.int (6 : Int32)), .val (.ref b111), .unset] [])) _
      refine XS.aloadN X112.here hx rfl (hb hby at_19) rfl rfl ?_
      show Steps p.tables e below (T112.setTop (mkF m 20 #[.val (.int p0_0), .val (.int p0_1), .val (.int (6 : Int32)), .val (.ref b111), .unset] [(.ref b111)])) _
      refine XS.iloadN X112.here hx rfl (hb hby at_20) rfl ?_
      show Steps p.tables e below (T112.setTop (mkF m 21 #[.val (.int p0_0), .val (.int p0_1), .val (.int (6 : Int32)), .val (.ref b111), .unset] [(.int (6 : Int32)), (.ref b111)])) _
      refine XS.iloadN X112.here hx rfl (hb hby at_21) rfl ?_
      show Steps p.tables e below (T112.setTop (mkF m 22 #[.val (.int p0_0), .val (.int p0_1), .val (.int (6 : Int32)), .val (.ref b111), .unset] [(.int p0_1), (.int (6 : Int32)), (.ref b111)])) _
      refine XS.iconst X112.here hx rfl (hb hby at_22) ?_
      show Steps p.tables e below (T112.setTop (mkF m 23 #[.val (.int p0_0), .val (.int p0_1), .val (.int (6 : Int32)), .val (.ref b111), .unset] [(.int (1 : Int32)), (.int p0_1), (.int (6 : Int32)), (.ref b111)])) _
      refine st113 _ ?_
      show Steps p.tables e below (T113.setTop (mkF m 26 #[.val (.int p0_0), .val (.int p0_1), .val (.int (6 : Int32)), .val (.ref b111), .unset] [])) _
      refine XS.aloadN X113.here hx rfl (hb hby at_26) rfl rfl ?_
      show Steps p.tables e below (T113.setTop (mkF m 27 #[.val (.int p0_0), .val (.int p0_1), .val (.int (6 : Int32)), .val (.ref b111), .unset] [(.ref b111)])) _
      refine XS.iloadN X113.here hx rfl (hb hby at_27) rfl ?_
      show Steps p.tables e below (T113.setTop (mkF m 28 #[.val (.int p0_0), .val (.int p0_1), .val (.int (6 : Int32)), .val (.ref b111), .unset] [(.int (6 : Int32)), (.ref b111)])) _
      refine XS.iloadN X113.here hx rfl (hb hby at_28) rfl ?_
      show Steps p.tables e below (T113.setTop (mkF m 29 #[.val (.int p0_0), .val (.int p0_1), .val (.int (6 : Int32)), .val (.ref b111), .unset] [(.int p0_1), (.int (6 : Int32)), (.ref b111)])) _
      refine XS.iconst X113.here hx rfl (hb hby at_29) ?_
      show Steps p.tables e below (T113.setTop (mkF m 30 #[.val (.int p0_0), .val (.int p0_1), .val (.int (6 : Int32)), .val (.ref b111), .unset] [(.int (2 : Int32)), (.int p0_1), (.int (6 : Int32)), (.ref b111)])) _
      refine st114 _ ?_
      show Steps p.tables e below (T114.setTop (mkF m 33 #[.val (.int p0_0), .val (.int p0_1), .val (.int (6 : Int32)), .val (.ref b111), .unset] [])) _
      refine XS.aloadN X114.here hx rfl (hb hby at_33) rfl rfl ?_
      show Steps p.tables e below (T114.setTop (mkF m 34 #[.val (.int p0_0), .val (.int p0_1), .val (.int (6 : Int32)), .val (.ref b111), .unset] [(.ref b111)])) _
      refine XS.iloadN X114.here hx rfl (hb hby at_34) rfl ?_
      show Steps p.tables e below (T114.setTop (mkF m 35 #[.val (.int p0_0), .val (.int p0_1), .val (.int (6 : Int32)), .val (.ref b111), .unset] [(.int (6 : Int32)), (.ref b111)])) _
      refine XS.iloadN X114.here hx rfl (hb hby at_35) rfl ?_
      show Steps p.tables e below (T114.setTop (mkF m 36 #[.val (.int p0_0), .val (.int p0_1), .val (.int (6 : Int32)), .val (.ref b111), .unset] [(.int p0_1), (.int (6 : Int32)), (.ref b111)])) _
      refine XS.iconst X114.here hx rfl (hb hby at_36) ?_
      show Steps p.tables e below (T114.setTop (mkF m 37 #[.val (.int p0_0), .val (.int p0_1), .val (.int (6 : Int32)), .val (.ref b111), .unset] [(.int (3 : Int32)), (.int p0_1), (.int (6 : Int32)), (.ref b111)])) _
      refine st115 _ ?_
      show Steps p.tables e below (T115.setTop (mkF m 40 #[.val (.int p0_0), .val (.int p0_1), .val (.int (6 : Int32)), .val (.ref b111), .unset] [])) _
      refine XS.aloadN X115.here hx rfl (hb hby at_40) rfl rfl ?_
      show Steps p.tables e below (T115.setTop (mkF m 41 #[.val (.int p0_0), .val (.int p0_1), .val (.int (6 : Int32)), .val (.ref b111), .unset] [(.ref b111)])) _
      refine XS.iloadN X115.here hx rfl (hb hby at_41) rfl ?_
      show Steps p.tables e below (T115.setTop (mkF m 42 #[.val (.int p0_0), .val (.int p0_1), .val (.int (6 : Int32)), .val (.ref b111), .unset] [(.int (6 : Int32)), (.ref b111)])) _
      refine XS.iloadN X115.here hx rfl (hb hby at_42) rfl ?_
      show Steps p.tables e below (T115.setTop (mkF m 43 #[.val (.int p0_0), .val (.int p0_1), .val (.int (6 : Int32)), .val (.ref b111), .unset] [(.int p0_1), (.int (6 : Int32)), (.ref b111)])) _
      refine XS.iconst X115.here hx rfl (hb hby at_43) ?_
      show Steps p.tables e below (T115.setTop (mkF m 44 #[.val (.int p0_0), .val (.int p0_1), .val (.int (6 : Int32)), .val (.ref b111), .unset] [(.int (4 : Int32)), (.int p0_1), (.int (6 : Int32)), (.ref b111)])) _
      refine st116 _ ?_
      show Steps p.tables e below (T116.setTop (mkF m 47 #[.val (.int p0_0), .val (.int p0_1), .val (.int (6 : Int32)), .val (.ref b111), .unset] [])) _
      refine XS.aloadN X116.here hx rfl (hb hby at_47) rfl rfl ?_
      show Steps p.tables e below (T116.setTop (mkF m 48 #[.val (.int p0_0), .val (.int p0_1), .val (.int (6 : Int32)), .val (.ref b111), .unset] [(.ref b111)])) _
      refine XS.iloadN X116.here hx rfl (hb hby at_48) rfl ?_
      show Steps p.tables e below (T116.setTop (mkF m 49 #[.val (.int p0_0), .val (.int p0_1), .val (.int (6 : Int32)), .val (.ref b111), .unset] [(.int (6 : Int32)), (.ref b111)])) _
      refine XS.iloadN X116.here hx rfl (hb hby at_49) rfl ?_
      show Steps p.tables e below (T116.setTop (mkF m 50 #[.val (.int p0_0), .val (.int p0_1), .val (.int (6 : Int32)), .val (.ref b111), .unset] [(.int p0_1), (.int (6 : Int32)), (.ref b111)])) _
      refine XS.iconst X116.here hx rfl (hb hby at_50) ?_
      show Steps p.tables e below (T116.setTop (mkF m 51 #[.val (.int p0_0), .val (.int p0_1), .val (.int (6 : Int32)), .val (.ref b111), .unset] [(.int (5 : Int32)), (.int p0_1), (.int (6 : Int32)), (.ref b111)])) _
      refine st117 _ ?_
      show Steps p.tables e below (T117.setTop (mkF m 54 #[.val (.int p0_0), .val (.int p0_1), .val (.int (6 : Int32)), .val (.ref b111), .unset] [])) _
      refine XS.aloadN X117.here hx rfl (hb hby at_54) rfl rfl ?_
      show Steps p.tables e below (T117.setTop (mkF m 55 #[.val (.int p0_0), .val (.int p0_1), .val (.int (6 : Int32)), .val (.ref b111), .unset] [(.ref b111)])) _
      refine st118 _ ?_
      show Steps p.tables e below (T118.setTop (mkF m 58 #[.val (.int p0_0), .val (.int p0_1), .val (.int (6 : Int32)), .val (.ref b111), .unset] [(.ref b36_118)])) _
      refine XS.astore X118.here hx rfl (hb hby at_58) rfl rfl (l' := #[.val (.int p0_0), .val (.int p0_1), .val (.int (6 : Int32)), .val (.ref b111), .val (.ref b36_118)]) rfl ?_
      show Steps p.tables e below (T118.setTop (mkF m 60 #[.val (.int p0_0), .val (.int p0_1), .val (.int (6 : Int32)), .val (.ref b111), .val (.ref b36_118)] [])) _
      refine XS.aload X118.here hx rfl (hb hby at_60) rfl rfl ?_
      show Steps p.tables e below (T118.setTop (mkF m 62 #[.val (.int p0_0), .val (.int p0_1), .val (.int (6 : Int32)), .val (.ref b111), .val (.ref b36_118)] [(.ref b36_118)])) _
      refine XS.ifnullNo X118.here hx rfl (hb hby at_62) rfl ?_
      show Steps p.tables e below (T118.setTop (mkF m 65 #[.val (.int p0_0), .val (.int p0_1), .val (.int (6 : Int32)), .val (.ref b111), .val (.ref b36_118)] [])) _
      refine XS.aload X118.here hx rfl (hb hby at_65) rfl rfl ?_
      show Steps p.tables e below (T118.setTop (mkF m 67 #[.val (.int p0_0), .val (.int p0_1), .val (.int (6 : Int32)), .val (.ref b111), .val (.ref b36_118)] [(.ref b36_118)])) _
      refine X118.arraylength hx Ar121.1 (State.isArrayOf_alike hZ.alike Ar121.2.1) (g := (mkF m 67 #[.val (.int p0_0), .val (.int p0_1), .val (.int (6 : Int32)), .val (.ref b111), .val (.ref b36_118)] [(.ref b36_118)])) rfl rfl (hb hby at_67) _ ?_
      rw [len_of Sz121 Nn121]
      show Steps p.tables e below (T118.setTop (mkF m 68 #[.val (.int p0_0), .val (.int p0_1), .val (.int (6 : Int32)), .val (.ref b111), .val (.ref b36_118)] [(.int (6 : Int32))])) _
      refine XS.iloadN X118.here hx rfl (hb hby at_68) rfl ?_
      show Steps p.tables e below (T118.setTop (mkF m 69 #[.val (.int p0_0), .val (.int p0_1), .val (.int (6 : Int32)), .val (.ref b111), .val (.ref b36_118)] [(.int (6 : Int32)), (.int (6 : Int32))])) _
      refine XS.icmpYes X118.here hx rfl (pc0 := 69) (pc' := 74) rfl (hb hby at_69) rfl (teq (by decide : (6 : Int32) = (6 : Int32))).1 (by decide) (by decide) ?_
      show Steps p.tables e below (T118.setTop (mkF m 74 #[.val (.int p0_0), .val (.int p0_1), .val (.int (6 : Int32)), .val (.ref b111), .val (.ref b36_118)] [])) _
      refine XS.aload X118.here hx rfl (hb hby at_74) rfl rfl ?_
      show Steps p.tables e below (T118.setTop (mkF m 76 #[.val (.int p0_0), .val (.int p0_1), .val (.int (6 : Int32)), .val (.ref b111), .val (.ref b36_118)] [(.ref b36_118)])) _
      refine XS.iloadN X118.here hx rfl (hb hby at_76) rfl ?_
      show Steps p.tables e below (T118.setTop (mkF m 77 #[.val (.int p0_0), .val (.int p0_1), .val (.int (6 : Int32)), .val (.ref b111), .val (.ref b36_118)] [(.int (6 : Int32)), (.ref b36_118)])) _
      refine XS.iloadN X118.here hx rfl (hb hby at_77) rfl ?_
      show Steps p.tables e below (T118.setTop (mkF m 78 #[.val (.int p0_0), .val (.int p0_1), .val (.int (6 : Int32)), .val (.ref b111), .val (.ref b36_118)] [(.int p0_1), (.int (6 : Int32)), (.ref b36_118)])) _
      refine XS.iconst X118.here hx rfl (hb hby at_78) ?_
      show Steps p.tables e below (T118.setTop (mkF m 79 #[.val (.int p0_0), .val (.int p0_1), .val (.int (6 : Int32)), .val (.ref b111), .val (.ref b36_118)] [(.int (0 : Int32)), (.int p0_1), (.int (6 : Int32)), (.ref b36_118)])) _
      refine st122 _ ?_
      show Steps p.tables e below (T122.setTop (mkF m 82 #[.val (.int p0_0), .val (.int p0_1), .val (.int (6 : Int32)), .val (.ref b111), .val (.ref b36_118)] [(.int (own_ok0 p0_1 (own_e (own_bit p0_1 (0 : Int32)) (0 : Int32))))])) _
      refine XS.ifNo X122.here hx rfl (hb hby at_82) rfl ((if0 _ _).trans (feq (by rw [own_okl0]; decide)).1) ?_
      show Steps p.tables e below (T122.setTop (mkF m 85 #[.val (.int p0_0), .val (.int p0_1), .val (.int (6 : Int32)), .val (.ref b111), .val (.ref b36_118)] [])) _
      refine XS.aload X122.here hx rfl (hb hby at_85) rfl rfl ?_
      show Steps p.tables e below (T122.setTop (mkF m 87 #[.val (.int p0_0), .val (.int p0_1), .val (.int (6 : Int32)), .val (.ref b111), .val (.ref b36_118)] [(.ref b36_118)])) _
      refine XS.iloadN X122.here hx rfl (hb hby at_87) rfl ?_
      show Steps p.tables e below (T122.setTop (mkF m 88 #[.val (.int p0_0), .val (.int p0_1), .val (.int (6 : Int32)), .val (.ref b111), .val (.ref b36_118)] [(.int (6 : Int32)), (.ref b36_118)])) _
      refine XS.iloadN X122.here hx rfl (hb hby at_88) rfl ?_
      show Steps p.tables e below (T122.setTop (mkF m 89 #[.val (.int p0_0), .val (.int p0_1), .val (.int (6 : Int32)), .val (.ref b111), .val (.ref b36_118)] [(.int p0_1), (.int (6 : Int32)), (.ref b36_118)])) _
      refine XS.iconst X122.here hx rfl (hb hby at_89) ?_
      show Steps p.tables e below (T122.setTop (mkF m 90 #[.val (.int p0_0), .val (.int p0_1), .val (.int (6 : Int32)), .val (.ref b111), .val (.ref b36_118)] [(.int (1 : Int32)), (.int p0_1), (.int (6 : Int32)), (.ref b36_118)])) _
      refine st123 _ ?_
      show Steps p.tables e below (T123.setTop (mkF m 93 #[.val (.int p0_0), .val (.int p0_1), .val (.int (6 : Int32)), .val (.ref b111), .val (.ref b36_118)] [(.int (own_ok1 p0_1 (own_e (own_bit p0_1 (1 : Int32)) (own_c (own_bit p0_1 (0 : Int32)) (0 : Int32)))))])) _
      refine XS.ifNo X123.here hx rfl (hb hby at_93) rfl ((if0 _ _).trans (feq (by rw [own_okl1]; decide)).1) ?_
      show Steps p.tables e below (T123.setTop (mkF m 96 #[.val (.int p0_0), .val (.int p0_1), .val (.int (6 : Int32)), .val (.ref b111), .val (.ref b36_118)] [])) _
      refine XS.aload X123.here hx rfl (hb hby at_96) rfl rfl ?_
      show Steps p.tables e below (T123.setTop (mkF m 98 #[.val (.int p0_0), .val (.int p0_1), .val (.int (6 : Int32)), .val (.ref b111), .val (.ref b36_118)] [(.ref b36_118)])) _
      refine XS.iloadN X123.here hx rfl (hb hby at_98) rfl ?_
      show Steps p.tables e below (T123.setTop (mkF m 99 #[.val (.int p0_0), .val (.int p0_1), .val (.int (6 : Int32)), .val (.ref b111), .val (.ref b36_118)] [(.int (6 : Int32)), (.ref b36_118)])) _
      refine XS.iloadN X123.here hx rfl (hb hby at_99) rfl ?_
      show Steps p.tables e below (T123.setTop (mkF m 100 #[.val (.int p0_0), .val (.int p0_1), .val (.int (6 : Int32)), .val (.ref b111), .val (.ref b36_118)] [(.int p0_1), (.int (6 : Int32)), (.ref b36_118)])) _
      refine XS.iconst X123.here hx rfl (hb hby at_100) ?_
      show Steps p.tables e below (T123.setTop (mkF m 101 #[.val (.int p0_0), .val (.int p0_1), .val (.int (6 : Int32)), .val (.ref b111), .val (.ref b36_118)] [(.int (2 : Int32)), (.int p0_1), (.int (6 : Int32)), (.ref b36_118)])) _
      refine st124 _ ?_
      show Steps p.tables e below (T124.setTop (mkF m 104 #[.val (.int p0_0), .val (.int p0_1), .val (.int (6 : Int32)), .val (.ref b111), .val (.ref b36_118)] [(.int (own_ok2 p0_1 (own_e (own_bit p0_1 (2 : Int32)) (own_c (own_bit p0_1 (1 : Int32)) (own_c (own_bit p0_1 (0 : Int32)) (0 : Int32))))))])) _
      refine XS.ifNo X124.here hx rfl (hb hby at_104) rfl ((if0 _ _).trans (feq (by rw [own_okl2]; decide)).1) ?_
      show Steps p.tables e below (T124.setTop (mkF m 107 #[.val (.int p0_0), .val (.int p0_1), .val (.int (6 : Int32)), .val (.ref b111), .val (.ref b36_118)] [])) _
      refine XS.aload X124.here hx rfl (hb hby at_107) rfl rfl ?_
      show Steps p.tables e below (T124.setTop (mkF m 109 #[.val (.int p0_0), .val (.int p0_1), .val (.int (6 : Int32)), .val (.ref b111), .val (.ref b36_118)] [(.ref b36_118)])) _
      refine XS.iloadN X124.here hx rfl (hb hby at_109) rfl ?_
      show Steps p.tables e below (T124.setTop (mkF m 110 #[.val (.int p0_0), .val (.int p0_1), .val (.int (6 : Int32)), .val (.ref b111), .val (.ref b36_118)] [(.int (6 : Int32)), (.ref b36_118)])) _
      refine XS.iloadN X124.here hx rfl (hb hby at_110) rfl ?_
      show Steps p.tables e below (T124.setTop (mkF m 111 #[.val (.int p0_0), .val (.int p0_1), .val (.int (6 : Int32)), .val (.ref b111), .val (.ref b36_118)] [(.int p0_1), (.int (6 : Int32)), (.ref b36_118)])) _
      refine XS.iconst X124.here hx rfl (hb hby at_111) ?_
      show Steps p.tables e below (T124.setTop (mkF m 112 #[.val (.int p0_0), .val (.int p0_1), .val (.int (6 : Int32)), .val (.ref b111), .val (.ref b36_118)] [(.int (3 : Int32)), (.int p0_1), (.int (6 : Int32)), (.ref b36_118)])) _
      refine st125 _ ?_
      show Steps p.tables e below (T125.setTop (mkF m 115 #[.val (.int p0_0), .val (.int p0_1), .val (.int (6 : Int32)), .val (.ref b111), .val (.ref b36_118)] [(.int (own_ok3 p0_1 (own_e (own_bit p0_1 (3 : Int32)) (own_c (own_bit p0_1 (2 : Int32)) (own_c (own_bit p0_1 (1 : Int32)) (own_c (own_bit p0_1 (0 : Int32)) (0 : Int32)))))))])) _
      refine XS.ifNo X125.here hx rfl (hb hby at_115) rfl ((if0 _ _).trans (feq (by rw [own_okl3]; decide)).1) ?_
      show Steps p.tables e below (T125.setTop (mkF m 118 #[.val (.int p0_0), .val (.int p0_1), .val (.int (6 : Int32)), .val (.ref b111), .val (.ref b36_118)] [])) _
      refine XS.aload X125.here hx rfl (hb hby at_118) rfl rfl ?_
      show Steps p.tables e below (T125.setTop (mkF m 120 #[.val (.int p0_0), .val (.int p0_1), .val (.int (6 : Int32)), .val (.ref b111), .val (.ref b36_118)] [(.ref b36_118)])) _
      refine XS.iloadN X125.here hx rfl (hb hby at_120) rfl ?_
      show Steps p.tables e below (T125.setTop (mkF m 121 #[.val (.int p0_0), .val (.int p0_1), .val (.int (6 : Int32)), .val (.ref b111), .val (.ref b36_118)] [(.int (6 : Int32)), (.ref b36_118)])) _
      refine XS.iloadN X125.here hx rfl (hb hby at_121) rfl ?_
      show Steps p.tables e below (T125.setTop (mkF m 122 #[.val (.int p0_0), .val (.int p0_1), .val (.int (6 : Int32)), .val (.ref b111), .val (.ref b36_118)] [(.int p0_1), (.int (6 : Int32)), (.ref b36_118)])) _
      refine XS.iconst X125.here hx rfl (hb hby at_122) ?_
      show Steps p.tables e below (T125.setTop (mkF m 123 #[.val (.int p0_0), .val (.int p0_1), .val (.int (6 : Int32)), .val (.ref b111), .val (.ref b36_118)] [(.int (4 : Int32)), (.int p0_1), (.int (6 : Int32)), (.ref b36_118)])) _
      refine st126 _ ?_
      show Steps p.tables e below (T126.setTop (mkF m 126 #[.val (.int p0_0), .val (.int p0_1), .val (.int (6 : Int32)), .val (.ref b111), .val (.ref b36_118)] [(.int (own_ok4 p0_1 (own_e (own_bit p0_1 (4 : Int32)) (own_c (own_bit p0_1 (3 : Int32)) (own_c (own_bit p0_1 (2 : Int32)) (own_c (own_bit p0_1 (1 : Int32)) (own_c (own_bit p0_1 (0 : Int32)) (0 : Int32))))))))])) _
      refine XS.ifNo X126.here hx rfl (hb hby at_126) rfl ((if0 _ _).trans (feq (by rw [own_okl4]; decide)).1) ?_
      show Steps p.tables e below (T126.setTop (mkF m 129 #[.val (.int p0_0), .val (.int p0_1), .val (.int (6 : Int32)), .val (.ref b111), .val (.ref b36_118)] [])) _
      refine XS.aload X126.here hx rfl (hb hby at_129) rfl rfl ?_
      show Steps p.tables e below (T126.setTop (mkF m 131 #[.val (.int p0_0), .val (.int p0_1), .val (.int (6 : Int32)), .val (.ref b111), .val (.ref b36_118)] [(.ref b36_118)])) _
      refine XS.iloadN X126.here hx rfl (hb hby at_131) rfl ?_
      show Steps p.tables e below (T126.setTop (mkF m 132 #[.val (.int p0_0), .val (.int p0_1), .val (.int (6 : Int32)), .val (.ref b111), .val (.ref b36_118)] [(.int (6 : Int32)), (.ref b36_118)])) _
      refine XS.iloadN X126.here hx rfl (hb hby at_132) rfl ?_
      show Steps p.tables e below (T126.setTop (mkF m 133 #[.val (.int p0_0), .val (.int p0_1), .val (.int (6 : Int32)), .val (.ref b111), .val (.ref b36_118)] [(.int p0_1), (.int (6 : Int32)), (.ref b36_118)])) _
      refine XS.iconst X126.here hx rfl (hb hby at_133) ?_
      show Steps p.tables e below (T126.setTop (mkF m 134 #[.val (.int p0_0), .val (.int p0_1), .val (.int (6 : Int32)), .val (.ref b111), .val (.ref b36_118)] [(.int (5 : Int32)), (.int p0_1), (.int (6 : Int32)), (.ref b36_118)])) _
      refine st127 _ ?_
      show Steps p.tables e below (T127.setTop (mkF m 137 #[.val (.int p0_0), .val (.int p0_1), .val (.int (6 : Int32)), .val (.ref b111), .val (.ref b36_118)] [(.int (own_ok5 p0_1 (own_e (own_bit p0_1 (5 : Int32)) (own_c (own_bit p0_1 (4 : Int32)) (own_c (own_bit p0_1 (3 : Int32)) (own_c (own_bit p0_1 (2 : Int32)) (own_c (own_bit p0_1 (1 : Int32)) (own_c (own_bit p0_1 (0 : Int32)) (0 : Int32)))))))))])) _
      refine XS.ifNo X127.here hx rfl (hb hby at_137) rfl ((if0 _ _).trans (feq (by rw [own_okl5]; decide)).1) ?_
      show Steps p.tables e below (T127.setTop (mkF m 140 #[.val (.int p0_0), .val (.int p0_1), .val (.int (6 : Int32)), .val (.ref b111), .val (.ref b36_118)] [])) _
      refine XS.iconst X127.here hx rfl (hb hby at_140) ?_
      show Steps p.tables e below (T127.setTop (mkF m 141 #[.val (.int p0_0), .val (.int p0_1), .val (.int (6 : Int32)), .val (.ref b111), .val (.ref b36_118)] [(.int (1 : Int32))])) _
      refine XS.goto X127.here hx rfl (pc0 := 141) (pc' := 145) rfl (hb hby at_141) (by decide) (by decide) ?_
      exact k
    obtain ⟨fs, hr, hrun, hended, hW, hsame⟩ := X127.leave (v := some (.int (1 : Int32))) (fun h => by rw [Bd.returns] at h; cases h)
    refine ⟨_, _, k128 _ ?_, hrun, hended, _, _, rfl, ?_, ⟨_, rfl⟩, hW, hsame.mono (by decide) (by decide)⟩
    · exact retN X127 hx (t := .boolean) Bd.returns (by simp) (hb hby at_145) hr
    · show Q0 Z p0_0 p0_1 h0 n0 _ T127.heap _
      rw [eh127]
      exact ⟨rfl, N127⟩
set_option maxRecDepth 65536 in
set_option maxHeartbeats 40000000 in
theorem comes_1 {Post : Tables → Env → Array Value → State → Outcome → State → Prop} (hpost : ∀ tb e args s v u, (limb_1_1.after args s (.returned v) u = true ∧ limb_1_2.after args s (.returned v) u = true ∧ True) → FrameEnd s (.returned v) u (Jvm.fieldLocs frame_1_writes args s ++ Jvm.arrayLocs frame_1_arrays args s ++ Jvm.staticLocs frame_1_statics s) 16 128 → Post tb e args s (.returned v) u) :
    ArmFor flags0 classFile x code maxLocals ret World_1 tables_1 room_1 Calls_1 rest_1 Pre_1 Post := by
  intro l hfl _ _ p e ha hc hk s m args below hf hA hF happ hP
  obtain ⟨hcalls, hrest, hpre⟩ := hP
  obtain ⟨-, -, -, hnamed, -, -, -, hat⟩ := (Spec.applies_iff hf).mp happ
  obtain ⟨hg, hn⟩ := and_e (Cond.before_iff.mp (show (Jvm.Cond.and given_1 narrow_1).before args s = true from hpre))
  obtain ⟨gv1, gv2⟩ := and_e hg
  obtain ⟨gv3, gv4⟩ := and_e gv2
  obtain ⟨w0, w1, rfl⟩ : ∃ w0 w1 : Value, args = #[w0, w1] := by
    have hs : args.size = 2 := by simpa [Cond.value, given_1] using gv1
    obtain ⟨L⟩ := args
    match L, hs with
    | [w0, w1], _ => exact ⟨w0, w1, rfl⟩
  have hw := fun d (hd : d ∈ tables_1) => atoms_spec (ws := Jvm.Cond.code x code maxLocals ret :: tables_1) hat d (List.mem_cons_of_mem _ hd)
  have hfit : Fit s := fun {y c} hc i hi => by
    obtain ⟨ha, rfl⟩ := Array.getElem?_eq_some_iff.mp hc
    have q := List.all_eq_true.mp ((Array.all_eq_true_iff_forall_mem.mp hF) _ (Array.getElem_mem ha)) i (List.mem_range.mpr hi)
    simpa [Array.getElem?_eq_getElem hi] using q
  obtain ⟨i0, ei0⟩ := is_v gv3
  obtain rfl : w0 = (.int i0) := Option.some.inj ei0
  obtain ⟨i1, ei1⟩ := is_v gv4
  obtain rfl : w1 = (.int i1) := Option.some.inj ei1
  obtain ⟨n, o, h1, h2, h3, _, L, rfl, ⟨rfl, N⟩, hq⟩ := rm0 l s _ hw tables_1 i0 i1 s.heap s.heap.size (Nat.le_refl _)  p e ha hc hk s m _ below hf ((Spec.applies_iff_loose hf).mp happ).1 ⟨rfl, State.Warmed39.refl s, rfl⟩ trivial
  refine ⟨n, _, h1, h2, h3, hpost _ _ _ _ _ _ ⟨Cond.after_iff.mpr rfl, Cond.after_iff.mpr (eq_i res_at (Term.int_eval (1)) rfl), trivial⟩ ⟨hq.1, hq.2.1, (hq.2.2.sift fun y hy => Or.inr (N y hy)).mono (by decide) (by decide)⟩⟩
theorem main_1_1 : Claimed_1_1 := comes_1 fun _ _ _ _ _ _ h hF => ⟨h.1, hF⟩
theorem main_1_2 : Claimed_1_2 := comes_1 fun _ _ _ _ _ _ h hF => ⟨h.2.1, hF⟩
end Jvm.Pilot.@@N@@
namespace Jvm.Pilot.@@N@@
open Jvm Jvm.ClassFile Sem Op Lib Jvm.Free Jvm.Stand Jvm.Pilot.@@N@@.Jvm.D
/-! MADE BY PROGRAM (witnessworld.py) out of the Statement's table words and the real class files: 11 classes; the members and pool entries that the words name. The judged class is class 1, her method 4. -/
namespace start1
open Jvm.ClassFile
def u (s : String) : CpInfo := .utf8 (stringToUtf16 s)
/-- a pool by its gaps: so many unusable entries, then the entry; so many at the end -/
def gap : Nat → List CpInfo → List CpInfo
  | 0, r => r
  | n + 1, r => .unusable :: gap n r
def poolList (es : List (Nat × CpInfo)) (last : Nat) : List CpInfo := es.foldr (fun e r => gap e.1 (e.2 :: r)) (gap last [])
def pool (es : List (Nat × CpInfo)) (last : Nat) : Array CpInfo := ⟨poolList es last⟩
def fileOf (pool : Array CpInfo) (this : Nat) (attrs : Array Attribute := #[]) (ms : Array MethodInfo := #[]) (fl : Nat := 33) (sup : Nat := 0) (ifs : Array Nat := #[]) (fds : Array FieldInfo := #[]) : ClassFile where
  minorVersion := 0
  majorVersion := 65
  constantPool := pool
  accessFlags := fl
  thisClass := this
  superClass := sup
  interfaces := ifs
  fields := fds
  methods := ms
  attributes := attrs
def plain (name : String) (sup : Option ClassId) : Class where
  name := name
  kind := .ordinary
  loader := none
  accessFlags := 33
  super := sup
  interfaces := #[]
  cf := none
  fields := #[]
  methods := #[]
  instanceTypes := #[]
  staticTypes := #[]
  resolved := #[]
  callSites := []
  init := .initialized
  statics := none
  mirror := none

def pool0 : Array CpInfo := pool [(5, u "<init>"), (0, u "()V"), (1, .class_ 10), (1, u "java/lang/Object")] 113

def k0m0 : Method := { name := "<init>", desc := "()V", sig := { parameters := [], returnType := none }, accessFlags := 1, code := none }
/-- java/lang/Object -/
def k0 : Class := { plain "java/lang/Object" none with
  accessFlags := 33
  interfaces := #[]
  cf := some (fileOf pool0 8 #[] #[{ accessFlags := 1, nameIndex := 5, descriptorIndex := 6, attributes := #[] }] 33 0 #[] #[])
  fields := #[]
  methods := #[k0m0]
  instanceTypes := #[]
  staticTypes := #[]
  resolved := Array.replicate 124 none
  statics := none }

def pool1 : Array CpInfo := pool [(2, .class_ 4), (1, u "java/lang/Object"), (0, u "<init>"), (0, u "()V"), (0, .methodref 8 9), (0, .class_ 10), (0, .nameAndType 11 12), (0, u "com/example/leanweave/leanweave/NetworkNumberingPinLaw"), (0, u "ones"), (0, u "(I)I"), (0, .integer 2147483647), (0, .methodref 8 15), (0, .nameAndType 16 17), (0, u "set"), (0, u "([ZIII)V"), (0, .methodref 19 20), (0, .class_ 21), (0, .nameAndType 22 23), (0, u "com/example/leanweave/leanweave/Network"), (0, u "numbering"), (0, u "([Z)[I"), (0, .methodref 8 25), (0, .nameAndType 26 27), (0, u "ok"), (0, u "([IIII)Z"), (5, u "law"), (0, u "(II)Z")] 4

def k1m0 : Method := { name := "<init>", desc := "()V", sig := { parameters := [], returnType := none }, accessFlags := 2, code := none }
def k1c1 : Code := { maxStack := 3, maxLocals := 1, code := method_2_code, exceptionTable := #[], attributes := #[] }
def k1m1 : Method := { name := "ones", desc := "(I)I", sig := { parameters := [.int], returnType := some .int }, accessFlags := 10, code := some k1c1 }
def k1c2 : Code := { maxStack := 4, maxLocals := 4, code := method_3_code, exceptionTable := #[], attributes := #[] }
def k1m2 : Method := { name := "set", desc := "([ZIII)V", sig := { parameters := [(.array .boolean), .int, .int, .int], returnType := none }, accessFlags := 10, code := some k1c2 }
def k1c3 : Code := { maxStack := 3, maxLocals := 5, code := method_4_code, exceptionTable := #[], attributes := #[] }
def k1m3 : Method := { name := "ok", desc := "([IIII)Z", sig := { parameters := [(.array .int), .int, .int, .int], returnType := some .boolean }, accessFlags := 10, code := some k1c3 }
def k1c4 : Code := { maxStack := 4, maxLocals := 5, code := code, exceptionTable := #[], attributes := #[] }
def k1m4 : Method := { name := "law", desc := "(II)Z", sig := { parameters := [.int, .int], returnType := some .boolean }, accessFlags := 9, code := some k1c4 }
/-- com/example/leanweave/leanweave/NetworkNumberingPinLaw -/
def k1 : Class := { plain "com/example/leanweave/leanweave/NetworkNumberingPinLaw" (some 0) with
  accessFlags := 49
  interfaces := #[]
  cf := some (fileOf pool1 8 #[] #[{ accessFlags := 2, nameIndex := 5, descriptorIndex := 6, attributes := #[] }, { accessFlags := 10, nameIndex := 11, descriptorIndex := 12, attributes := #[] }, { accessFlags := 10, nameIndex := 16, descriptorIndex := 17, attributes := #[] }, { accessFlags := 10, nameIndex := 26, descriptorIndex := 27, attributes := #[] }, { accessFlags := 9, nameIndex := 33, descriptorIndex := 34, attributes := #[] }] 49 2 #[] #[])
  fields := #[]
  methods := #[k1m0, k1m1, k1m2, k1m3, k1m4]
  instanceTypes := #[]
  staticTypes := #[]
  resolved := Array.replicate 39 none
  statics := none }

def pool2 : Array CpInfo := pool [(2, .class_ 4), (1, u "java/lang/Object"), (12, .class_ 19), (1, u "com/example/leanweave/leanweave/Network"), (0, u "parents"), (0, u "[I"), (2, u "initial"), (2, u "inputs"), (0, u "[[I"), (2, u "outputs"), (3, u "waiting"), (134, u "numbering"), (0, u "([Z)[I")] 19

def k2c0 : Code := { maxStack := 4, maxLocals := 4, code := prog_16_method_15_code, exceptionTable := #[], attributes := #[] }
def k2m0 : Method := { name := "numbering", desc := "([Z)[I", sig := { parameters := [(.array .boolean)], returnType := some (.array .int) }, accessFlags := 8, code := some k2c0 }
/-- com/example/leanweave/leanweave/Network -/
def k2 : Class := { plain "com/example/leanweave/leanweave/Network" (some 0) with
  accessFlags := 48
  interfaces := #[]
  cf := some (fileOf pool2 17 #[] #[{ accessFlags := 8, nameIndex := 170, descriptorIndex := 171, attributes := #[] }] 48 2 #[] #[{ accessFlags := 18, nameIndex := 20, descriptorIndex := 21, attributes := #[] }, { accessFlags := 18, nameIndex := 24, descriptorIndex := 21, attributes := #[] }, { accessFlags := 18, nameIndex := 27, descriptorIndex := 28, attributes := #[] }, { accessFlags := 18, nameIndex := 31, descriptorIndex := 28, attributes := #[] }, { accessFlags := 18, nameIndex := 35, descriptorIndex := 28, attributes := #[] }])
  fields := #[{ name := "parents", type := (.array .int), accessFlags := 18, slot := 0, constantValue := 0 }, { name := "initial", type := (.array .int), accessFlags := 18, slot := 1, constantValue := 0 }, { name := "inputs", type := (.array (.array .int)), accessFlags := 18, slot := 2, constantValue := 0 }, { name := "outputs", type := (.array (.array .int)), accessFlags := 18, slot := 3, constantValue := 0 }, { name := "waiting", type := (.array (.array .int)), accessFlags := 18, slot := 4, constantValue := 0 }]
  methods := #[k2m0]
  instanceTypes := #[(.array .int), (.array .int), (.array (.array .int)), (.array (.array .int)), (.array (.array .int))]
  staticTypes := #[]
  resolved := Array.replicate 191 none
  statics := none }

def pool3 : Array CpInfo := pool [(1, u "java/lang/Cloneable"), (0, .class_ 1), (0, u "java/lang/Object"), (0, .class_ 3)] 3

/-- java/lang/Cloneable -/
def k3 : Class := { plain "java/lang/Cloneable" (some 0) with
  accessFlags := 1537
  interfaces := #[]
  cf := some (fileOf pool3 2 #[] #[] 1537 4 #[] #[])
  fields := #[]
  methods := #[]
  instanceTypes := #[]
  staticTypes := #[]
  resolved := Array.replicate 8 none
  statics := none }

def pool4 : Array CpInfo := pool [(1, u "java/io/Serializable"), (0, .class_ 1), (0, u "java/lang/Object"), (0, .class_ 3)] 3

/-- java/io/Serializable -/
def k4 : Class := { plain "java/io/Serializable" (some 0) with
  accessFlags := 1537
  interfaces := #[]
  cf := some (fileOf pool4 2 #[] #[] 1537 4 #[] #[])
  fields := #[]
  methods := #[]
  instanceTypes := #[]
  staticTypes := #[]
  resolved := Array.replicate 8 none
  statics := none }

/-- the primitive boolean -/
def k5 : Class := { plain "boolean" none with kind := .primitive 'Z', accessFlags := 0x411 }
/-- [Z -/
def k6 : Class := { plain "[Z" (some 0) with kind := .array 5 .boolean, interfaces := #[3, 4], accessFlags := 1041 }

/-- the primitive byte -/
def k7 : Class := { plain "byte" none with kind := .primitive 'B', accessFlags := 0x411 }
/-- [B -/
def k8 : Class := { plain "[B" (some 0) with kind := .array 7 .byte, interfaces := #[3, 4], accessFlags := 1041 }

/-- the primitive int -/
def k9 : Class := { plain "int" none with kind := .primitive 'I', accessFlags := 0x411 }
/-- [I -/
def k10 : Class := { plain "[I" (some 0) with kind := .array 9 .int, interfaces := #[3, 4], accessFlags := 1041 }

def heap : Heap := #[]
def classes : Array Class := #[k0, k1, k2, k3, k4, k5, k6, k7, k8, k9, k10]
def interned : List (Array UInt16 × Addr) := []
def slotsUsed : Nat := 0
def theMethod : MethodId := ⟨1, 4⟩
def args0 : Array Value := #[.int 5, .int 3]
def aboutOver (below : List Frame) : State where
  vm := { classes := classes, interned := interned.toArray }
  heap := heap
  slotsUsed := slotsUsed
  threads := #[{ frames := .invoking theMethod args0 :: below }]
def below0 : List Frame := [.native { method := ⟨0, 0⟩, args := #[] }]
def about1 : State := aboutOver below0
def p0 : Program := .bare "" "" ""
def e0 : Env := launch0.env 0 0 0
theorem w_frames : about1.frames = Frame.invoking theMethod args0 :: below0 := rfl
set_option maxRecDepth 65536 in
theorem w_args : argsFit about1.vm theMethod args0 = true := by decide +kernel
set_option maxRecDepth 65536 in
theorem w_heap : heapFits about1 = true := by decide +kernel
set_option maxRecDepth 65536 in
theorem w_runnable : about1.curStatus? = some .runnable := by decide +kernel
set_option maxRecDepth 65536 in
theorem w_alone : about1.alone = true := by decide +kernel
set_option maxRecDepth 65536 in
theorem w_named : about1.methodNamed? x = some theMethod := by decide +kernel
set_option maxRecDepth 65536 in
theorem w_hears : about1.hears theMethod below0 = true := by decide +kernel
set_option maxRecDepth 65536 in
theorem w_ripe : about1.ripe theMethod args0 below0 = true := by decide +kernel
theorem w_running : about1.status = .running := rfl
set_option maxRecDepth 65536 in
theorem w_room : about1.hasRoom e0.platform room_1 = true :=
  launch0.hasRoom_least _ room_1 (by decide +kernel) (by decide +kernel) (by decide +kernel) (by decide +kernel) (by decide +kernel) (by decide +kernel)
theorem allAtoms_all (ts : List Jvm.Cond) (a : Array Jvm.Value) (st : Jvm.State) : (allAtoms ts).before a st = ts.all (fun c => c.before a st) := by
  induction ts with
  | nil => rfl
  | cons c t ih =>
    show (Jvm.Cond.and c (allAtoms t)).before a st = _
    rw [Jvm.Cond.before_and, ih, List.all_cons]
def words1 : List Jvm.Cond := Jvm.Cond.code x code maxLocals ret :: tables_1
/-- a 'code' word, met by the world's own term for the bytes: nothing is compared byte by byte -/
theorem code_word {y : MethodName} {bytes : ByteArray} {mx : Nat} {rt : Option FieldType} {a : Array Value} {s : State} {m : MethodId} {meth : Method} {c : Code} (h1 : s.methodNamed? y = some m) (h2 : s.vm.method? m = some meth) (h3 : meth.code = some c) (h4 : c.code = bytes)
    (h5 : (c.maxLocals == mx && c.exceptionTable.isEmpty && decide (c.maxStack ≤ mostOperands) && decide (meth.sig.returnType = rt) && !meth.locks && decide (parseMethodDescriptor y.desc = some meth.sig)) = true) : (Jvm.Cond.code y bytes mx rt).before a s = true := by
  simp only [Bool.and_eq_true, beq_iff_eq, Bool.not_eq_true', decide_eq_true_eq] at h5
  obtain ⟨⟨⟨⟨⟨g1, g2⟩, g3⟩, g4⟩, g5⟩, g6⟩ := h5
  simp [Cond.before, Cond.holds, Cond.value, h1, h2, h3, h4, g1, g2, g3, g4, g5, g6]
def isCode : Jvm.Cond → Bool
  | .code _ _ _ _ => true
  | _ => false
theorem all_split {L : List Jvm.Cond} {P : Jvm.Cond → Bool} (h1 : L.all (fun c => isCode c || P c) = true) (h2 : ∀ c ∈ L.filter isCode, P c = true) : L.all P = true := by
  refine List.all_eq_true.mpr fun c hc => ?_
  have h := List.all_eq_true.mp h1 c hc
  rcases Bool.eq_false_or_eq_true (isCode c) with hi | hi
  · exact h2 c (List.mem_filter.mpr ⟨hc, hi⟩)
  · simpa [hi] using h
set_option maxRecDepth 65536 in
theorem w_c0 : (Jvm.Cond.code x code maxLocals ret).before args0 about1 = true := code_word (m := ⟨1, 4⟩) (meth := k1m4) (c := k1c4) (by decide +kernel) rfl rfl rfl (by decide +kernel)
set_option maxRecDepth 65536 in
theorem w_c1 : (Jvm.Cond.code ({ cls := "com/example/leanweave/leanweave/NetworkNumberingPinLaw", name := "set", desc := "([ZIII)V" } : Jvm.MethodName) method_3_code (4 : Nat) (Option.none : Option Jvm.ClassFile.FieldType)).before args0 about1 = true := code_word (m := ⟨1, 2⟩) (meth := k1m2) (c := k1c2) (by decide +kernel) rfl rfl rfl (by decide +kernel)
set_option maxRecDepth 65536 in
theorem w_c2 : (Jvm.Cond.code ({ cls := "com/example/leanweave/leanweave/Network", name := "numbering", desc := "([Z)[I" } : Jvm.MethodName) prog_16_method_15_code (4 : Nat) (Option.some (Jvm.ClassFile.FieldType.array Jvm.ClassFile.FieldType.int))).before args0 about1 = true := code_word (m := ⟨2, 0⟩) (meth := k2m0) (c := k2c0) (by decide +kernel) rfl rfl rfl (by decide +kernel)
set_option maxRecDepth 65536 in
theorem w_c3 : (Jvm.Cond.code ({ cls := "com/example/leanweave/leanweave/NetworkNumberingPinLaw", name := "ok", desc := "([IIII)Z" } : Jvm.MethodName) method_4_code (5 : Nat) (Option.some Jvm.ClassFile.FieldType.boolean)).before args0 about1 = true := code_word (m := ⟨1, 3⟩) (meth := k1m3) (c := k1c3) (by decide +kernel) rfl rfl rfl (by decide +kernel)
set_option maxRecDepth 65536 in
theorem w_c4 : (Jvm.Cond.code ({ cls := "com/example/leanweave/leanweave/NetworkNumberingPinLaw", name := "ones", desc := "(I)I" } : Jvm.MethodName) method_2_code (1 : Nat) (Option.some Jvm.ClassFile.FieldType.int)).before args0 about1 = true := code_word (m := ⟨1, 1⟩) (meth := k1m1) (c := k1c1) (by decide +kernel) rfl rfl rfl (by decide +kernel)
def codes1 : List Jvm.Cond := [Jvm.Cond.code x code maxLocals ret, Jvm.Cond.code ({ cls := "com/example/leanweave/leanweave/NetworkNumberingPinLaw", name := "set", desc := "([ZIII)V" } : Jvm.MethodName) method_3_code (4 : Nat) (Option.none : Option Jvm.ClassFile.FieldType), Jvm.Cond.code ({ cls := "com/example/leanweave/leanweave/Network", name := "numbering", desc := "([Z)[I" } : Jvm.MethodName) prog_16_method_15_code (4 : Nat) (Option.some (Jvm.ClassFile.FieldType.array Jvm.ClassFile.FieldType.int)), Jvm.Cond.code ({ cls := "com/example/leanweave/leanweave/NetworkNumberingPinLaw", name := "ok", desc := "([IIII)Z" } : Jvm.MethodName) method_4_code (5 : Nat) (Option.some Jvm.ClassFile.FieldType.boolean), Jvm.Cond.code ({ cls := "com/example/leanweave/leanweave/NetworkNumberingPinLaw", name := "ones", desc := "(I)I" } : Jvm.MethodName) method_2_code (1 : Nat) (Option.some Jvm.ClassFile.FieldType.int)]
set_option maxRecDepth 65536 in
theorem codes_eq : words1.filter isCode = codes1 := rfl
theorem w_codes : ∀ c ∈ words1.filter isCode, c.before args0 about1 = true := by
  rw [codes_eq]
  intro c hc
  simp only [codes1, List.mem_cons, List.not_mem_nil, or_false] at hc
  rcases hc with rfl | rfl | rfl | rfl | rfl
  · exact w_c0
  · exact w_c1
  · exact w_c2
  · exact w_c3
  · exact w_c4
set_option maxRecDepth 65536 in
theorem w_t1 : words1.all (fun c => isCode c || c.before args0 about1) = true := by decide +kernel
theorem w_tables : (allAtoms (Jvm.Cond.code x code maxLocals ret :: tables_1)).before args0 about1 = true := by
  rw [allAtoms_all]
  show words1.all (fun c => c.before args0 about1) = true
  refine all_split ?_ w_codes
  rw [w_t1]
set_option maxRecDepth 65536 in
theorem w_case : (Jvm.Cond.and given_1 narrow_1).before args0 about1 = true := by decide +kernel
theorem w_applies : (headSpec (Jvm.Cond.code x code maxLocals ret :: tables_1) room_1).applies x e0.platform about1 = true :=
  (Spec.applies_iff w_frames).mpr ⟨w_running, w_runnable, w_alone, w_named, w_hears, w_ripe, w_room, w_tables⟩
theorem atStart : AtStart classFile x code maxLocals ret World_1 tables_1 room_1 Calls_1 rest_1 Pre_1 launch0 p0 e0 about1 theMethod args0 below0 :=
  ⟨lists_1, trivial, launch0.admits_env _ _ _, launch0.least_env, fairChoices_fair.cas, fairChoices_fair.clock, w_frames, w_args, w_heap, w_applies, trivial, trivial, w_case⟩
end start1
theorem witness_1 : WitnessClaimed_1 := ⟨start1.p0, start1.e0, start1.about1, start1.theMethod, start1.args0, start1.below0, start1.atStart⟩
end Jvm.Pilot.@@N@@
