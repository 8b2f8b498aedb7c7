import JvmDerived
import JvmDerived.Pilot.@@N@@Statement
import JvmDerived.Pilot.@@N@@Code
set_option linter.unusedVariables false
set_option linter.unusedSimpArgs false
namespace Jvm.RoadKit
open Sem ClassFile Op Lib Jvm.Stand Jvm.Free Jvm.LawKit
section New
variable {p : Program} {l : Launch} {e : Env} {R : Room} {s : State} {m : MethodId} {args : Array Value} {below : List Frame} {meth : Method} {c : Code} {T : State} {locs : List Loc} {cells slots : Nat}
theorem retI (X : Stand p l e R s m args below meth c T locs cells slots) (hx : p.tables.exec = Jvm.exec) {pc : Nat} {Ls : Array Slot} {z : Int32} {rest : List Value} (hret : meth.sig.returnType = some .int) (hd : decode c.code pc = .ok (.ireturn, 1)) {fs : List Frame}
    (hl : ∀ (f : JFrame) (acts : List Action), f.method = m → f.locked = none → f.entered = [] → (doReturn e (T.setTop f) acts (some (.int z))).1 = T.setFrames fs) : Steps p.tables e below (T.setTop (mkF m pc Ls (.int z :: rest))) (T.setFrames fs) := by
  have hm' : T.vm.method? m = some meth := X.method'
  have hn : narrow .int (.int z) = .int z := rfl
  show Steps p.tables e below (T.setTop { method := m, pc := pc, locals := Ls, stack := _ :: rest, locked := none }) _
  jvm_step X.here [X.here.top, hx, hd, hm', hret, hn]
  first | (intro acts; rw [hl _ acts rfl rfl rfl]) | rw [hl _ _ rfl rfl rfl]
  exact Steps.refl _
end New
end Jvm.RoadKit
namespace Jvm.Pilot.@@N@@
open Jvm Jvm.ClassFile Sem Op Lib Jvm.Free Jvm.Stand Jvm.LawKit Jvm.RoadKit Bundle Jvm.Pilot.@@N@@.Jvm.D
theorem own_w {a0 : Array Value} {Z : State} (hw : ∀ d ∈ tables_1, d.before a0 Z = true) (i : Nat) {d : Jvm.Cond} (h : tables_1[i]? = some d) : d.before a0 Z = true := hw d (List.mem_of_getElem? h)
/-- from U the run comes to the method's end, and Q holds there -/
def own_Go (tb : Tables) (e : Env) (below : List Frame) (s : State) (C N : Nat) (Q : Option Value → Heap → List Loc → Prop) (U : State) : Prop :=
  ∃ t o, Steps tb e below U t ∧ t.status = .running ∧ Ended t below o ∧ ∃ v L, o = .returned v ∧ Q v t.heap L ∧ FrameEnd s o t L C N
theorem own_step {tb : Tables} {e : Env} {below : List Frame} {s : State} {C N : Nat} {Q : Option Value → Heap → List Loc → Prop} {U U' : State} (h : ∀ t, Steps tb e below U' t → Steps tb e below U t) (k : own_Go tb e below s C N Q U') : own_Go tb e below s C N Q U := by
  obtain ⟨t, o, h1, h2⟩ := k
  exact ⟨t, o, h t h1, h2⟩
theorem own_steps {tb : Tables} {e : Env} {below : List Frame} {s : State} {C N : Nat} {Q : Option Value → Heap → List Loc → Prop} {U U' : State} (h : Steps tb e below U U') (k : own_Go tb e below s C N Q U') : own_Go tb e below s C N Q U := own_step (fun _ q => h.trans q) k
theorem own_out {p : Program} {l : Launch} {e : Env} {R : Room} {s : State} {m : MethodId} {args : Array Value} {below : List Frame} {meth : Method} {c : Code} {T : State} {locs : List Loc} {cells slots : Nat} (X : Stand p l e R s m args below meth c T locs cells slots) {v : Option Value}
    (hlk : meth.locks = false) (hv : meth.sig.returnType = none → v = none) {C N : Nat} {Q : Option Value → Heap → List Loc → Prop} (hQ : Q v T.heap locs) (hC : cells ≤ C) (hN : slots ≤ N) {U : State}
    (k : ∀ fs, (∀ (f : JFrame) (acts : List Action), f.method = m → f.locked = none → f.entered = [] → (doReturn e (T.setTop f) acts v).1 = T.setFrames fs) → Steps p.tables e below U (T.setFrames fs)) : own_Go p.tables e below s C N Q U := by
  obtain ⟨fs, hr, hrun, hended, hW, hsame⟩ := X.leave hv hlk
  exact ⟨_, _, k fs hr, hrun, hended, _, _, rfl, hQ, ⟨_, rfl⟩, hW, hsame.mono hC hN⟩
theorem own_exaP {Z : State} {h : Heap} {a : Addr} {C : String} (E : Exa Z h a C) : ∀ c : Cell, h[a]? = some c → c.vm.isStatics = false := fun c hc => by
  obtain ⟨cell, k, h1, -, -, h4, -⟩ := E
  cases h1.symm.trans hc; exact h4
theorem own_staK {Z : State} {h h' : Heap} {C n d : String} {v : Value} {ws : List Addr} (S : Sta Z h C n d v) (K : Keep h h' ws) (q : ∀ w ∈ ws, ∀ c : Cell, h[w]? = some c → c.vm.isStatics = false) : Sta Z h' C n d v := by
  obtain ⟨cf, i, k, f, st, cell, h1, h2, h3, h4, h5, h6, h7⟩ := S
  exact ⟨cf, i, k, f, st, cell, h1, h2, h3, h4, K.2.1 st cell h5 (fun z => by have := q st z cell h5; rw [h6] at this; cases this), h6, h7⟩
theorem own_anyF {Z : State} {a0 : Array Value} {h : Heap} {a : Addr} {C O n d O' n' d' : String} {v' : Value} {k : Nat} (E : Exa Z h a C) (F : Fld Z h a O' n' d' v') (wi : (Cond.instantiable C k).before a0 Z = true) (L : Laid Z a0 C O n d) : ∃ v, Fld Z h a O n d v :=
  fld_laid E (by obtain ⟨cell, _, _, _, _, h1, _, _, h4, _⟩ := F; exact ⟨cell, h1, h4⟩) wi L
theorem own_nv {meth : Method} {t : FieldType} (h : meth.sig.returnType = some t) {v : Option Value} : meth.sig.returnType = none → v = none := fun q => by rw [h] at q; cases q
theorem pd__II_I : parseMethodDescriptor "(II)I" = some ⟨[.int, .int], some .int⟩ := by decide +kernel
theorem pd__II_V : parseMethodDescriptor "(II)V" = some ⟨[.int, .int], none⟩ := by decide +kernel
theorem pd__I_Z : parseMethodDescriptor "(I)Z" = some ⟨[.int], some .boolean⟩ := by decide +kernel
theorem pd___V : parseMethodDescriptor "()V" = some ⟨[], none⟩ := by decide +kernel
theorem d1_0 : decode jdk_29_method_65_code 0 = .ok (.iload_n 0, 1) := by decide +kernel
theorem d1_1 : decode jdk_29_method_65_code 1 = .ok (.iload_n 1, 1) := by decide +kernel
theorem d1_2 : decode jdk_29_method_65_code 2 = .ok (.if_icmp .lt 7, 3) := by decide +kernel
theorem d1_5 : decode jdk_29_method_65_code 5 = .ok (.iload_n 0, 1) := by decide +kernel
theorem d1_6 : decode jdk_29_method_65_code 6 = .ok (.goto 4, 3) := by decide +kernel
theorem d1_9 : decode jdk_29_method_65_code 9 = .ok (.iload_n 1, 1) := by decide +kernel
theorem d1_10 : decode jdk_29_method_65_code 10 = .ok (.ireturn, 1) := by decide +kernel
theorem ef_1 (m : MethodId) (p0 : Int32) (p1 : Int32) : entryFrame m #[(.int p0), (.int p1)] 2 = mkF m 0 #[iv p0, iv p1] [] := by first | (simp [entryFrame, mkF, argsToLocals, Value.category]; done) | rfl
def F1 (p0 : Int32) (p1 : Int32) : Int32 :=
  if p0 < p1 then
    p1
  else
    p0
def Q1 (Z : State) (p0 : Int32) (p1 : Int32) (h0 : Heap) (n0 : Nat) (v : Option Value) (h : Heap) (L : List Loc) : Prop := v = some (.int (F1 p0 p1)) ∧ Fr n0 L ∧ h = h0
set_option maxRecDepth 65536 in
set_option maxHeartbeats 40000000 in
theorem rm1 (l : Launch) (Z : State) (a0 : Array Value) (hw : ∀ d ∈ tables_1, d.before a0 Z = true) (ws : List Jvm.Cond) (p0 : Int32) (p1 : Int32) (h0 : Heap) (n0 : Nat) (Z0 : n0 ≤ h0.size) :
    MetFree l (⟨"java/lang/Math", "max", "(II)I"⟩ : MethodName) (head1 (Jvm.Cond.code (⟨"java/lang/Math", "max", "(II)I"⟩ : MethodName) jdk_29_method_65_code 2 (some .int) :: ws) ({ frames := 0, cells := 0, slots := 0, locals := 0 } : Room)) (fun a U => a = #[(.int p0), (.int p1)] ∧ Z.Warmed39 U.vm ∧ U.heap = h0) (fun _ _ _ _ _ => True) (fun _ U o U' => ∃ v L, o = .returned v ∧ Q1 Z p0 p1 h0 n0 v U'.heap L ∧ FrameEnd U o U' L ({ frames := 0, cells := 0, slots := 0, locals := 0 } : Room).cells ({ frames := 0, cells := 0, slots := 0, locals := 0 } : Room).slots) := by
  refine MetFree.of_bodySF (Jvm.Free.JP.mathPlain rfl (by decide +kernel)) hisR ?_
  intro p e s m args below meth c s₁ Bd hml0 hP hK
  obtain ⟨rfl, hZ, hh⟩ := hP
  have hx := Bd.exec
  have hby := Bd.bytes
  have hml : c.maxLocals = 2 := hml0
  have hown : s.vm.findClass "java/lang/Math" = some m.cls := findClass_of_methodNamed Bd.named
  have hnm := (name_of_methodNamed Bd.named Bd.method).1
  have hlk : meth.locks = false := Bd.notSynchronized
  have X0 : Stand p l e ({ frames := 0, cells := 0, slots := 0, locals := 0 } : Room) s m #[(.int p0), (.int p1)] below meth c s₁ [] 0 0 := Stand.of_body Bd
  have e0 : s₁.heap = h0 := by rw [← hh, Bd.state]; rfl
  have N0 := Fr.nil n0
  have KK0 := Keep.refl h0 []
  show own_Go p.tables e below s 0 0 (Q1 Z p0 p1 h0 n0) (s₁.setTop (entryFrame m #[(.int p0), (.int p1)] 2))
  rw [ef_1]
  refine own_step (U' := s₁.setTop (mkF m 2 #[iv p0, iv p1] [(.int p1), (.int p0)])) (fun t k => XS.iloadN X0.here hx rfl (hb hby d1_0) rfl (XS.iloadN X0.here hx rfl (hb hby d1_1) rfl k)) ?_
  by_cases hc2_1 : p0 < p1
  · refine own_step (U' := s₁.setTop (mkF m 10 #[iv p0, iv p1] [(.int p1)])) (fun t k => XS.icmpYes X0.here hx rfl (pc0 := 2) (pc' := 9) rfl (hb hby d1_2) rfl (tlt hc2_1).1 (by decide) (by decide) (XS.iloadN X0.here hx rfl (hb hby d1_9) rfl k)) ?_
    exact own_out X0 (v := (some (.int p1))) hlk (own_nv Bd.returns) (by rw [e0]; exact ⟨by rw [show (F1 p0 p1) = p1 from (by simp only [F1, if_pos hc2_1])], N0, rfl⟩) (by decide) (by decide) (fun fs hr => retI X0 hx Bd.returns (hb hby d1_10) hr)
  · refine own_step (U' := s₁.setTop (mkF m 10 #[iv p0, iv p1] [(.int p0)])) (fun t k => XS.icmpNo X0.here hx rfl (hb hby d1_2) rfl (flt hc2_1).1 (XS.iloadN X0.here hx rfl (hb hby d1_5) rfl (XS.goto X0.here hx rfl (pc0 := 6) (pc' := 10) rfl (hb hby d1_6) (by decide) (by decide) k))) ?_
    exact own_out X0 (v := (some (.int p0))) hlk (own_nv Bd.returns) (by rw [e0]; exact ⟨by rw [show (F1 p0 p1) = p0 from (by simp only [F1, if_neg hc2_1])], N0, rfl⟩) (by decide) (by decide) (fun fs hr => retI X0 hx Bd.returns (hb hby d1_10) hr)
theorem d3_0 : decode jdk_30_method_1_code 0 = .ok (.aload_n 0, 1) := by decide +kernel
theorem d3_1 : decode jdk_30_method_1_code 1 = .ok (.invokespecial 1, 3) := by decide +kernel
theorem d3_4 : decode jdk_30_method_1_code 4 = .ok (.return_, 1) := by decide +kernel
theorem pn_3 : plainName "java/lang/Record" = true := by first | (simp [plainName, overriddenIn]; done) | decide +kernel
theorem ef_3 (m : MethodId) (r0 : Addr) : entryFrame m #[(.ref r0)] 1 = mkF m 0 #[rv r0] [] := by first | (simp [entryFrame, mkF, argsToLocals, Value.category]; done) | rfl
def Q3 (Z : State) (r0 : Addr) (h0 : Heap) (n0 : Nat) (v : Option Value) (h : Heap) (L : List Loc) : Prop := v = none ∧ Fr n0 L ∧ h = h0
set_option maxRecDepth 65536 in
set_option maxHeartbeats 40000000 in
theorem rm3 (l : Launch) (Z : State) (a0 : Array Value) (hw : ∀ d ∈ tables_1, d.before a0 Z = true) (ws : List Jvm.Cond) (r0 : Addr) (h0 : Heap) (n0 : Nat) (Z0 : n0 ≤ h0.size) :
    MetFree l (⟨"java/lang/Record", "<init>", "()V"⟩ : MethodName) (head1 (Jvm.Cond.code (⟨"java/lang/Record", "<init>", "()V"⟩ : MethodName) jdk_30_method_1_code 1 none :: ws) ({ frames := 1, cells := 0, slots := 0, locals := 12 } : Room)) (fun a U => a = #[(.ref r0)] ∧ Z.Warmed39 U.vm ∧ U.heap = h0) (fun _ _ _ _ _ => True) (fun _ U o U' => ∃ v L, o = .returned v ∧ Q3 Z r0 h0 n0 v U'.heap L ∧ FrameEnd U o U' L ({ frames := 1, cells := 0, slots := 0, locals := 12 } : Room).cells ({ frames := 1, cells := 0, slots := 0, locals := 12 } : Room).slots) := by
  refine MetFree.of_bodySF (plainFor_of_name pn_3) hisR ?_
  intro p e s m args below meth c s₁ Bd hml0 hP hK
  obtain ⟨rfl, hZ, hh⟩ := hP
  have hx := Bd.exec
  have hby := Bd.bytes
  have hml : c.maxLocals = 1 := hml0
  have hown : s.vm.findClass "java/lang/Record" = some m.cls := findClass_of_methodNamed Bd.named
  have hnm := (name_of_methodNamed Bd.named Bd.method).1
  have hlk : meth.locks = false := Bd.notSynchronized
  have X0 : Stand p l e ({ frames := 1, cells := 0, slots := 0, locals := 12 } : Room) s m #[(.ref r0)] below meth c s₁ [] 0 0 := Stand.of_body Bd
  have e0 : s₁.heap = h0 := by rw [← hh, Bd.state]; rfl
  have N0 := Fr.nil n0
  have KK0 := Keep.refl h0 []
  show own_Go p.tables e below s 0 0 (Q3 Z r0 h0 n0) (s₁.setTop (entryFrame m #[(.ref r0)] 1))
  rw [ef_3]
  refine own_step (U' := s₁.setTop (mkF m 1 #[rv r0] [(.ref r0)])) (fun t k => XS.aloadN X0.here hx rfl (hb hby d3_0) rfl rfl k) ?_
  obtain ⟨T1, X1, e1, st1⟩ := initO X0 hx hZ hown (own_w hw 17 rfl) (own_w hw 18 rfl) (own_w hw 19 rfl) e0 (g := (mkF m 1 #[rv r0] [(.ref r0)])) rfl (by rw [hml]; rfl) rfl (hb hby d3_1) (by decide) (W := 0) (by show 2 * 0 + _ ≤ _; exact Nat.le_of_eq rfl) (by decide)
  refine own_step (U' := T1.setTop (mkF m 4 #[rv r0] [])) st1 ?_
  exact own_out X1 (v := none) hlk (fun _ => rfl) (by rw [e1]; exact ⟨rfl, N0, rfl⟩) (by decide) (by decide) (fun fs hr => X1.returnOut hx Bd.returns (hb hby d3_4) hr)
theorem d2_0 : decode prog_23_method_1_code 0 = .ok (.aload_n 0, 1) := by decide +kernel
theorem d2_1 : decode prog_23_method_1_code 1 = .ok (.invokespecial 1, 3) := by decide +kernel
theorem d2_4 : decode prog_23_method_1_code 4 = .ok (.iload_n 1, 1) := by decide +kernel
theorem d2_5 : decode prog_23_method_1_code 5 = .ok (.iconst 1, 1) := by decide +kernel
theorem d2_6 : decode prog_23_method_1_code 6 = .ok (.if_icmp .ge 17, 3) := by decide +kernel
theorem d2_23 : decode prog_23_method_1_code 23 = .ok (.iload_n 2, 1) := by decide +kernel
theorem d2_24 : decode prog_23_method_1_code 24 = .ok (.ifCond .ge 17, 3) := by decide +kernel
theorem d2_41 : decode prog_23_method_1_code 41 = .ok (.iload_n 2, 1) := by decide +kernel
theorem d2_42 : decode prog_23_method_1_code 42 = .ok (.iload_n 1, 1) := by decide +kernel
theorem d2_43 : decode prog_23_method_1_code 43 = .ok (.if_icmp .lt 18, 3) := by decide +kernel
theorem d2_61 : decode prog_23_method_1_code 61 = .ok (.aload_n 0, 1) := by decide +kernel
theorem d2_62 : decode prog_23_method_1_code 62 = .ok (.iload_n 1, 1) := by decide +kernel
theorem d2_63 : decode prog_23_method_1_code 63 = .ok (.putfield 20, 3) := by decide +kernel
theorem d2_66 : decode prog_23_method_1_code 66 = .ok (.aload_n 0, 1) := by decide +kernel
theorem d2_67 : decode prog_23_method_1_code 67 = .ok (.iload_n 2, 1) := by decide +kernel
theorem d2_68 : decode prog_23_method_1_code 68 = .ok (.putfield 26, 3) := by decide +kernel
theorem d2_71 : decode prog_23_method_1_code 71 = .ok (.return_, 1) := by decide +kernel
theorem pn_2 : plainName "com/example/urd/urd/model/Diagnosis" = true := by first | (simp [plainName, overriddenIn]; done) | decide +kernel
theorem ef_2 (m : MethodId) (r0 : Addr) (p1 : Int32) (p2 : Int32) : entryFrame m #[(.ref r0), (.int p1), (.int p2)] 3 = mkF m 0 #[rv r0, iv p1, iv p2] [] := by first | (simp [entryFrame, mkF, argsToLocals, Value.category]; done) | rfl
def Q2 (Z : State) (r0 : Addr) (p1 : Int32) (p2 : Int32) (h0 : Heap) (n0 : Nat) (v : Option Value) (h : Heap) (L : List Loc) : Prop := v = none ∧ Fr n0 L ∧ Keep h0 h [r0] ∧ Exa Z h r0 "com/example/urd/urd/model/Diagnosis" ∧ Fld Z h r0 "com/example/urd/urd/model/Diagnosis" "period" "I" (.int p1) ∧ Fld Z h r0 "com/example/urd/urd/model/Diagnosis" "threshold" "I" (.int p2)
set_option maxRecDepth 65536 in
set_option maxHeartbeats 40000000 in
theorem rm2 (l : Launch) (Z : State) (a0 : Array Value) (hw : ∀ d ∈ tables_1, d.before a0 Z = true) (ws : List Jvm.Cond) (r0 : Addr) (p1 : Int32) (p2 : Int32) (h0 : Heap) (n0 : Nat) (Z0 : n0 ≤ h0.size) (E_r0 : Exa Z h0 r0 "com/example/urd/urd/model/Diagnosis") (F_period_r0 : Fld Z h0 r0 "com/example/urd/urd/model/Diagnosis" "period" "I" (.int (0 : Int32))) (F_threshold_r0 : Fld Z h0 r0 "com/example/urd/urd/model/Diagnosis" "threshold" "I" (.int (0 : Int32))) (g_r0 : n0 ≤ r0) (hp : ¬ p1 < (1 : Int32)) (ht : ¬ p2 < (0 : Int32)) (hlt : p2 < p1) :
    MetFree l (⟨"com/example/urd/urd/model/Diagnosis", "<init>", "(II)V"⟩ : MethodName) (head1 (Jvm.Cond.code (⟨"com/example/urd/urd/model/Diagnosis", "<init>", "(II)V"⟩ : MethodName) prog_23_method_1_code 3 none :: ws) ({ frames := 2, cells := 0, slots := 0, locals := 24 } : Room)) (fun a U => a = #[(.ref r0), (.int p1), (.int p2)] ∧ Z.Warmed39 U.vm ∧ U.heap = h0) (fun _ _ _ _ _ => True) (fun _ U o U' => ∃ v L, o = .returned v ∧ Q2 Z r0 p1 p2 h0 n0 v U'.heap L ∧ FrameEnd U o U' L ({ frames := 2, cells := 0, slots := 0, locals := 24 } : Room).cells ({ frames := 2, cells := 0, slots := 0, locals := 24 } : Room).slots) := by
  refine MetFree.of_bodySF (plainFor_of_name pn_2) hisR ?_
  intro p e s m args below meth c s₁ Bd hml0 hP hK
  obtain ⟨rfl, hZ, hh⟩ := hP
  have hx := Bd.exec
  have hby := Bd.bytes
  have hml : c.maxLocals = 3 := hml0
  have hown : s.vm.findClass "com/example/urd/urd/model/Diagnosis" = some m.cls := findClass_of_methodNamed Bd.named
  have hnm := (name_of_methodNamed Bd.named Bd.method).1
  have hlk : meth.locks = false := Bd.notSynchronized
  have X0 : Stand p l e ({ frames := 2, cells := 0, slots := 0, locals := 24 } : Room) s m #[(.ref r0), (.int p1), (.int p2)] below meth c s₁ [] 0 0 := Stand.of_body Bd
  have e0 : s₁.heap = h0 := by rw [← hh, Bd.state]; rfl
  have N0 := Fr.nil n0
  have KK0 := Keep.refl h0 [r0]
  show own_Go p.tables e below s 0 0 (Q2 Z r0 p1 p2 h0 n0) (s₁.setTop (entryFrame m #[(.ref r0), (.int p1), (.int p2)] 3))
  rw [ef_2]
  refine own_step (U' := s₁.setTop (mkF m 1 #[rv r0, iv p1, iv p2] [(.ref r0)])) (fun t k => XS.aloadN X0.here hx rfl (hb hby d2_0) rfl rfl k) ?_
  obtain ⟨_, _, ⟨T1, L1, k1, n1⟩, -, X1, ⟨Lc1, hQ1, l1, y1, z1⟩, st1⟩ := X0.specialBack hx (y := (⟨"java/lang/Record", "<init>", "()V"⟩ : MethodName)) rfl hown (mvT hZ (own_w hw 12 rfl)) (mvT hZ (own_w hw 13 rfl)) (mvT hZ (own_w hw 16 rfl)) (by decide) (backOf (W := 0) (rm3 l Z a0 hw [] r0 h0 n0 Z0) hZ (own_w hw 16 rfl) (own_w hw 15 rfl) (by decide) (by decide)) (g := (mkF m 1 #[rv r0, iv p1, iv p2] [(.ref r0)])) rfl (by rw [hml]; rfl) (Steps.refl _) (a := r0) (argsL := []) (rest := []) (lenOf pd___V rfl) rfl (by show 2 * 0 + _ ≤ _; exact Nat.le_of_eq rfl) (hb hby d2_1) (fun _ _ => ⟨rfl, e0, (by decide : 0 + 0 ≤ _), (by decide : 0 + 0 ≤ _)⟩)
  dsimp only [Pt.U, Pt.locs, Pt.cells, Pt.slots] at X1 l1 y1 z1 st1 hQ1
  subst l1 y1 z1
  obtain ⟨rfl, N1q, eq1⟩ := hQ1
  have N1 := Fr.app N0 N1q
  refine own_steps (U' := T1.setTop (mkF m 4 #[rv r0, iv p1, iv p2] [])) st1 ?_
  refine own_step (U' := T1.setTop (mkF m 61 #[rv r0, iv p1, iv p2] [])) (fun t k => XS.iloadN X1.here hx rfl (hb hby d2_4) rfl (XS.iconst X1.here hx rfl (hb hby d2_5) (XS.icmpYes X1.here hx rfl (pc0 := 6) (pc' := 23) rfl (hb hby d2_6) rfl (flt hp).2.1 (by decide) (by decide) (XS.iloadN X1.here hx rfl (hb hby d2_23) rfl (XS.ifYes X1.here hx rfl (pc0 := 24) (pc' := 41) rfl (hb hby d2_24) rfl ((if0 _ _).trans (flt ht).2.1) (by decide) (by decide) (XS.iloadN X1.here hx rfl (hb hby d2_41) rfl (XS.iloadN X1.here hx rfl (hb hby d2_42) rfl (XS.icmpYes X1.here hx rfl (pc0 := 43) (pc' := 61) rfl (hb hby d2_43) rfl (tlt hlt).1 (by decide) (by decide) k)))))))) ?_
  refine own_step (U' := T1.setTop (mkF m 63 #[rv r0, iv p1, iv p2] [(.int p1), (.ref r0)])) (fun t k => XS.aloadN X1.here hx rfl (hb hby d2_61) rfl rfl (XS.iloadN X1.here hx rfl (hb hby d2_62) rfl k)) ?_
  obtain ⟨T2, h2, X2, e2, W2, st2⟩ := putF X1 hx hZ hown (host := "") (Or.inl (own_w hw 20 rfl)) Via.refl eq1 F_period_r0 E_r0 (Or.inr ⟨(own_w hw 21 rfl), rfl, hnm⟩) (own_w hw 7 rfl) (ty := .int) (by decide) rfl rfl (g := (mkF m 63 #[rv r0, iv p1, iv p2] [(.int p1), (.ref r0)])) rfl rfl (hb hby d2_63)
  have E_r0_2 := E_r0.wr W2
  have F_threshold_r0_2 := F_threshold_r0.other W2 (Or.inr (slot_ne (Or.inr (own_w hw 23 rfl)) (Or.inr (own_w hw 21 rfl)) (by decide) (t := .int) (t' := .int) (by decide) (by decide)))
  have F_period_r0_2 := F_period_r0.same W2
  have Z2 : n0 ≤ h2.size := Nat.le_trans Z0 (Keep.of_wr W2).1
  have KK2 := KK0.wr W2 (Or.inl (List.mem_of_getElem? (i := 0) rfl))
  have N2 := Fr.snoc X2 N1 g_r0
  refine own_step (U' := T2.setTop (mkF m 66 #[rv r0, iv p1, iv p2] [])) st2 ?_
  refine own_step (U' := T2.setTop (mkF m 68 #[rv r0, iv p1, iv p2] [(.int p2), (.ref r0)])) (fun t k => XS.aloadN X2.here hx rfl (hb hby d2_66) rfl rfl (XS.iloadN X2.here hx rfl (hb hby d2_67) rfl k)) ?_
  obtain ⟨T3, h3, X3, e3, W3, st3⟩ := putF X2 hx hZ hown (host := "") (Or.inl (own_w hw 22 rfl)) Via.refl e2 F_threshold_r0_2 E_r0_2 (Or.inr ⟨(own_w hw 23 rfl), rfl, hnm⟩) (own_w hw 7 rfl) (ty := .int) (by decide) rfl rfl (g := (mkF m 68 #[rv r0, iv p1, iv p2] [(.int p2), (.ref r0)])) rfl rfl (hb hby d2_68)
  have E_r0_3 := E_r0_2.wr W3
  have F_period_r0_3 := F_period_r0_2.other W3 (Or.inr (slot_ne (Or.inr (own_w hw 21 rfl)) (Or.inr (own_w hw 23 rfl)) (by decide) (t := .int) (t' := .int) (by decide) (by decide)))
  have F_threshold_r0_3 := F_threshold_r0_2.same W3
  have Z3 : n0 ≤ h3.size := Nat.le_trans Z2 (Keep.of_wr W3).1
  have KK3 := KK2.wr W3 (Or.inl (List.mem_of_getElem? (i := 0) rfl))
  have N3 := Fr.snoc X3 N2 g_r0
  refine own_step (U' := T3.setTop (mkF m 71 #[rv r0, iv p1, iv p2] [])) st3 ?_
  exact own_out X3 (v := none) hlk (fun _ => rfl) (by rw [e3]; exact ⟨rfl, N3, KK3, E_r0_3, F_period_r0_3, F_threshold_r0_3⟩) (by decide) (by decide) (fun fs hr => X3.returnOut hx Bd.returns (hb hby d2_71) hr)
theorem d5_0 : decode prog_23_method_2_code 0 = .ok (.iload_n 1, 1) := by decide +kernel
theorem d5_1 : decode prog_23_method_2_code 1 = .ok (.iconst 1, 1) := by decide +kernel
theorem d5_2 : decode prog_23_method_2_code 2 = .ok (.isub, 1) := by decide +kernel
theorem d5_3 : decode prog_23_method_2_code 3 = .ok (.aload_n 0, 1) := by decide +kernel
theorem d5_4 : decode prog_23_method_2_code 4 = .ok (.getfield 20, 3) := by decide +kernel
theorem d5_7 : decode prog_23_method_2_code 7 = .ok (.irem, 1) := by decide +kernel
theorem d5_8 : decode prog_23_method_2_code 8 = .ok (.ifCond .ne 7, 3) := by decide +kernel
theorem d5_11 : decode prog_23_method_2_code 11 = .ok (.iconst 1, 1) := by decide +kernel
theorem d5_12 : decode prog_23_method_2_code 12 = .ok (.goto 4, 3) := by decide +kernel
theorem d5_15 : decode prog_23_method_2_code 15 = .ok (.iconst 0, 1) := by decide +kernel
theorem d5_16 : decode prog_23_method_2_code 16 = .ok (.ireturn, 1) := by decide +kernel
theorem pn_5 : plainName "com/example/urd/urd/model/Diagnosis" = true := by first | (simp [plainName, overriddenIn]; done) | decide +kernel
theorem ef_5 (m : MethodId) (r0 : Addr) (p1 : Int32) : entryFrame m #[(.ref r0), (.int p1)] 2 = mkF m 0 #[rv r0, iv p1] [] := by first | (simp [entryFrame, mkF, argsToLocals, Value.category]; done) | rfl
def F5 (p1 : Int32) (w : Int32) : Int32 :=
  if ((p1 - (1 : Int32)) % w) = (0 : Int32) then
    (1 : Int32)
  else
    (0 : Int32)
def Q5 (Z : State) (r0 : Addr) (p1 : Int32) (w : Int32) (h0 : Heap) (n0 : Nat) (v : Option Value) (h : Heap) (L : List Loc) : Prop := v = some (.int (F5 p1 w)) ∧ Fr n0 L ∧ h = h0
set_option maxRecDepth 65536 in
set_option maxHeartbeats 40000000 in
theorem rm5 (l : Launch) (Z : State) (a0 : Array Value) (hw : ∀ d ∈ tables_1, d.before a0 Z = true) (ws : List Jvm.Cond) (r0 : Addr) (p1 : Int32) (w : Int32) (h0 : Heap) (n0 : Nat) (Z0 : n0 ≤ h0.size) (E_r0 : Exa Z h0 r0 "com/example/urd/urd/model/Diagnosis") (F_period_r0 : Fld Z h0 r0 "com/example/urd/urd/model/Diagnosis" "period" "I" (.int w)) (hnz : w ≠ 0) :
    MetFree l (⟨"com/example/urd/urd/model/Diagnosis", "startsPeriod", "(I)Z"⟩ : MethodName) (head1 (Jvm.Cond.code (⟨"com/example/urd/urd/model/Diagnosis", "startsPeriod", "(I)Z"⟩ : MethodName) prog_23_method_2_code 2 (some .boolean) :: ws) ({ frames := 0, cells := 0, slots := 0, locals := 0 } : Room)) (fun a U => a = #[(.ref r0), (.int p1)] ∧ Z.Warmed39 U.vm ∧ U.heap = h0) (fun _ _ _ _ _ => True) (fun _ U o U' => ∃ v L, o = .returned v ∧ Q5 Z r0 p1 w h0 n0 v U'.heap L ∧ FrameEnd U o U' L ({ frames := 0, cells := 0, slots := 0, locals := 0 } : Room).cells ({ frames := 0, cells := 0, slots := 0, locals := 0 } : Room).slots) := by
  refine MetFree.of_bodySF (plainFor_of_name pn_5) hisR ?_
  intro p e s m args below meth c s₁ Bd hml0 hP hK
  obtain ⟨rfl, hZ, hh⟩ := hP
  have hx := Bd.exec
  have hby := Bd.bytes
  have hml : c.maxLocals = 2 := hml0
  have hown : s.vm.findClass "com/example/urd/urd/model/Diagnosis" = some m.cls := findClass_of_methodNamed Bd.named
  have hnm := (name_of_methodNamed Bd.named Bd.method).1
  have hlk : meth.locks = false := Bd.notSynchronized
  have X0 : Stand p l e ({ frames := 0, cells := 0, slots := 0, locals := 0 } : Room) s m #[(.ref r0), (.int p1)] below meth c s₁ [] 0 0 := Stand.of_body Bd
  have e0 : s₁.heap = h0 := by rw [← hh, Bd.state]; rfl
  have N0 := Fr.nil n0
  have KK0 := Keep.refl h0 []
  show own_Go p.tables e below s 0 0 (Q5 Z r0 p1 w h0 n0) (s₁.setTop (entryFrame m #[(.ref r0), (.int p1)] 2))
  rw [ef_5]
  refine own_step (U' := s₁.setTop (mkF m 4 #[rv r0, iv p1] [(.ref r0), (.int (p1 - (1 : Int32)))])) (fun t k => XS.iloadN X0.here hx rfl (hb hby d5_0) rfl (XS.iconst X0.here hx rfl (hb hby d5_1) (XS.isub X0.here hx rfl (hb hby d5_2) rfl (XS.aloadN X0.here hx rfl (hb hby d5_3) rfl rfl k)))) ?_
  obtain ⟨T1, X1, e1, st1⟩ := getF X0 hx hZ hown (host := "") (Or.inl (own_w hw 20 rfl)) Via.refl e0 F_period_r0 (g := (mkF m 4 #[rv r0, iv p1] [(.ref r0), (.int (p1 - (1 : Int32)))])) rfl rfl (hb hby d5_4)
  refine own_step (U' := T1.setTop (mkF m 7 #[rv r0, iv p1] [(.int w), (.int (p1 - (1 : Int32)))])) st1 ?_
  refine own_step (U' := T1.setTop (mkF m 8 #[rv r0, iv p1] [(.int ((p1 - (1 : Int32)) % w))])) (fun t k => iremM X1 hx rfl (hb hby d5_7) rfl hnz k) ?_
  by_cases hc8_2 : ((p1 - (1 : Int32)) % w) = (0 : Int32)
  · refine own_step (U' := T1.setTop (mkF m 16 #[rv r0, iv p1] [(.int (1 : Int32))])) (fun t k => XS.ifNo X1.here hx rfl (hb hby d5_8) rfl ((if0 _ _).trans (teq hc8_2).2) (XS.iconst X1.here hx rfl (hb hby d5_11) (XS.goto X1.here hx rfl (pc0 := 12) (pc' := 16) rfl (hb hby d5_12) (by decide) (by decide) k))) ?_
    exact own_out X1 (v := (some (.int (1 : Int32)))) hlk (own_nv Bd.returns) (by rw [e1]; exact ⟨by rw [show (F5 p1 w) = (1 : Int32) from (by simp only [F5, if_pos hc8_2])], N0, rfl⟩) (by decide) (by decide) (fun fs hr => retN X1 hx (t := .boolean) Bd.returns (by simp) (hb hby d5_16) hr)
  · refine own_step (U' := T1.setTop (mkF m 16 #[rv r0, iv p1] [(.int (0 : Int32))])) (fun t k => XS.ifYes X1.here hx rfl (pc0 := 8) (pc' := 15) rfl (hb hby d5_8) rfl ((if0 _ _).trans (feq hc8_2).2) (by decide) (by decide) (XS.iconst X1.here hx rfl (hb hby d5_15) k)) ?_
    exact own_out X1 (v := (some (.int (0 : Int32)))) hlk (own_nv Bd.returns) (by rw [e1]; exact ⟨by rw [show (F5 p1 w) = (0 : Int32) from (by simp only [F5, if_neg hc8_2])], N0, rfl⟩) (by decide) (by decide) (fun fs hr => retN X1 hx (t := .boolean) Bd.returns (by simp) (hb hby d5_16) hr)

def own_P (p : Int32) : Int32 := F1 (1 : Int32) (p &&& (2147483647 : Int32))
theorem own_Pge (p : Int32) : 1 ≤ (own_P p).toInt := by
  have m := c_mask p 2147483647 31 (by decide) (by decide)
  have k1 : (1 : Int32).toInt = 1 := by decide
  simp only [own_P, F1]
  split
  · rename_i h; rw [Int32.lt_iff_toInt_lt] at h; omega
  · rw [k1]; omega
theorem own_p1 (p : Int32) : ¬ F1 (1 : Int32) (p &&& (2147483647 : Int32)) < (1 : Int32) := by
  have h := own_Pge p
  have k1 : (1 : Int32).toInt = 1 := by decide
  rw [own_P] at h
  rw [Int32.lt_iff_toInt_lt, k1]; omega
theorem own_nz (p : Int32) : F1 (1 : Int32) (p &&& (2147483647 : Int32)) ≠ 0 := by
  intro q
  have h := own_Pge p
  rw [own_P, q] at h
  revert h; decide
theorem own_rem (t P : Int32) (h : 1 ≤ P.toInt) : 0 ≤ ((t &&& (2147483647 : Int32)) % P).toInt ∧ ((t &&& (2147483647 : Int32)) % P).toInt < P.toInt := by
  have m := c_mask t 2147483647 31 (by decide) (by decide)
  have c := (c_iremV (t &&& 2147483647) P).1 (by omega) (by omega)
  omega
theorem own_t0 (p t : Int32) : ¬ ((t &&& (2147483647 : Int32)) % (F1 (1 : Int32) (p &&& (2147483647 : Int32)))) < (0 : Int32) := by
  have h := own_rem t _ (own_Pge p)
  rw [own_P] at h
  have k0 : (0 : Int32).toInt = 0 := by decide
  rw [Int32.lt_iff_toInt_lt, k0]; omega
theorem own_t1 (p t : Int32) : ((t &&& (2147483647 : Int32)) % (F1 (1 : Int32) (p &&& (2147483647 : Int32)))) < (F1 (1 : Int32) (p &&& (2147483647 : Int32))) := by
  have h := own_rem t _ (own_Pge p)
  rw [own_P] at h
  rw [Int32.lt_iff_toInt_lt]; omega
theorem own_j {p jj u v : Int32} (hv : v = (if u = (0 : Int32) then ((jj &&& (2147483647 : Int32)) % (F1 (1 : Int32) (p &&& (2147483647 : Int32)))) else (0 : Int32))) : 0 ≤ v.toInt ∧ v.toInt < (own_P p).toInt := by
  subst hv
  split
  · exact own_rem jj _ (own_Pge p)
  · have k0 : (0 : Int32).toInt = 0 := by decide
    rw [k0]; have := own_Pge p; omega
theorem own_K {P v : Int32} (hP : 1 ≤ P.toInt) (h0 : 0 ≤ v.toInt) (h1 : v.toInt < P.toInt) : ((((2147483646 : Int32) - v) / P) + (1 : Int32)).toInt = (2147483646 - v.toInt) / P.toInt + 1 ∧ 0 ≤ (2147483646 - v.toInt) / P.toInt := by
  have k : (2147483646 : Int32).toInt = 2147483646 := by decide
  have k1 : (1 : Int32).toInt = 1 := by decide
  have r := rng32 v; have rP := rng32 P
  have s := c_isub 2147483646 v
  have rs := rng32 (2147483646 - v)
  rw [k] at s
  have es : ((2147483646 : Int32) - v).toInt = 2147483646 - v.toInt := by omega
  have ne : P ≠ -1 := fun q => by rw [q] at hP; revert hP; decide
  have d := (c_idiv (2147483646 - v) P P.toInt rfl ne).1 (by omega)
  rw [es] at d
  have g0 : 0 ≤ (2147483646 - v.toInt) / P.toInt := Int.ediv_nonneg (by omega) (by omega)
  have g1 : (2147483646 - v.toInt) / P.toInt ≤ 2147483646 - v.toInt := Int.ediv_le_self _ (by omega)
  have a := c_iadd ((2147483646 - v) / P) 1
  have ra := rng32 (((2147483646 : Int32) - v) / P + 1)
  rw [k1, d] at a
  exact ⟨by omega, g0⟩
theorem own_nzK {p jj u v : Int32} (hv : v = (if u = (0 : Int32) then ((jj &&& (2147483647 : Int32)) % (F1 (1 : Int32) (p &&& (2147483647 : Int32)))) else (0 : Int32))) : ((((2147483646 : Int32) - v) / (F1 (1 : Int32) (p &&& (2147483647 : Int32)))) + (1 : Int32)) ≠ 0 := by
  obtain ⟨h0, h1⟩ := own_j hv
  have h := own_K (own_Pge p) h0 h1
  rw [own_P] at h
  intro q
  rw [q] at h
  have k0 : (0 : Int32).toInt = 0 := by decide
  rw [k0] at h
  omega
theorem own_law {p jj kk u v w : Int32} (hv : v = (if u = (0 : Int32) then ((jj &&& (2147483647 : Int32)) % (F1 (1 : Int32) (p &&& (2147483647 : Int32)))) else (0 : Int32))) (hw : w = (if v = (0 : Int32) then (1 : Int32) else (0 : Int32))) :
    F5 ((((((kk &&& (2147483647 : Int32)) % ((((2147483646 : Int32) - v) / (F1 (1 : Int32) (p &&& (2147483647 : Int32)))) + (1 : Int32))) * (F1 (1 : Int32) (p &&& (2147483647 : Int32)))) + (1 : Int32)) + v)) (F1 (1 : Int32) (p &&& (2147483647 : Int32))) = w := by
  obtain ⟨h0, h1⟩ := own_j hv
  have hP := own_Pge p
  have hK := own_K hP h0 h1
  have k1 : (1 : Int32).toInt = 1 := by decide
  have k0 : (0 : Int32).toInt = 0 := by decide
  rw [own_P] at h1 hP hK
  generalize F1 (1 : Int32) (p &&& (2147483647 : Int32)) = P at *
  obtain ⟨hK, hK0⟩ := hK
  have hk := own_rem kk ((((2147483646 : Int32) - v) / P) + (1 : Int32)) (by omega)
  generalize (kk &&& (2147483647 : Int32)) % ((((2147483646 : Int32) - v) / P) + (1 : Int32)) = k at *
  rw [hK] at hk
  have b1 : (2147483646 - v.toInt) / P.toInt * P.toInt ≤ 2147483646 - v.toInt := Int.ediv_mul_le _ (by omega)
  have b2 : k.toInt * P.toInt ≤ (2147483646 - v.toInt) / P.toInt * P.toInt := Int.mul_le_mul_of_nonneg_right (by omega) (by omega)
  have b3 : 0 ≤ k.toInt * P.toInt := Int.mul_nonneg hk.1 (by omega)
  have m := c_imul k P
  have rm := rng32 (k * P)
  have em : (k * P).toInt = k.toInt * P.toInt := by omega
  have a1 := c_iadd (k * P) 1
  have ra1 := rng32 (k * P + 1)
  rw [k1, em] at a1
  have a2 := c_iadd (k * P + 1) v
  have ra2 := rng32 (k * P + 1 + v)
  have e2 : (k * P + 1 + v).toInt = k.toInt * P.toInt + 1 + v.toInt := by omega
  have a3 := c_isub (k * P + 1 + v) 1
  have ra3 := rng32 (k * P + 1 + v - 1)
  rw [k1] at a3
  have e3 : (k * P + 1 + v - 1).toInt = v.toInt + k.toInt * P.toInt := by omega
  have e4 : ((k * P + 1 + v - 1) % P).toInt = v.toInt := by
    rw [((c_irem (k * P + 1 + v - 1) P P.toInt rfl).1 (by omega)), e3, Int.add_mul_emod_self_right]
    exact Int.emod_eq_of_lt h0 h1
  have e5 : (k * P + 1 + v - 1) % P = v := Int32.toInt_inj.mp e4
  subst hw
  simp only [F5]
  rw [e5]

theorem pn_0 : plainName "com/example/urd/urd/model/DiagnosisStartsPeriodPinLaw" = true := by first | (simp [plainName, overriddenIn]; done) | decide +kernel
theorem ef_0 (m : MethodId) (p0 : Int32) (p1 : Int32) (p2 : Int32) (p3 : Int32) (p4 : Int32) : entryFrame m #[(.int p0), (.int p1), (.int p2), (.int p3), (.int p4)] maxLocals = mkF m 0 #[iv p0, iv p1, iv p2, iv p3, iv p4, .unset, .unset, .unset, .unset, .unset, .unset, .unset, .unset, .unset] [] := by first | (simp [entryFrame, mkF, argsToLocals, Value.category, maxLocals]; done) | rfl
def Q0 (Z : State) (p0 : Int32) (p1 : Int32) (p2 : Int32) (p3 : Int32) (p4 : Int32) (h0 : Heap) (n0 : Nat) (v : Option Value) (h : Heap) (L : List Loc) : Prop := v = some (.int 1) ∧ Fr n0 L
set_option maxRecDepth 65536 in
set_option maxHeartbeats 40000000 in
theorem rm0 (l : Launch) (Z : State) (a0 : Array Value) (hw : ∀ d ∈ tables_1, d.before a0 Z = true) (ws : List Jvm.Cond) (p0 : Int32) (p1 : Int32) (p2 : Int32) (p3 : Int32) (p4 : Int32) (h0 : Heap) (n0 : Nat) (Z0 : n0 ≤ h0.size) :
    MetFree l x (head1 (Jvm.Cond.code x code maxLocals ret :: ws) room_1) (fun a U => a = #[(.int p0), (.int p1), (.int p2), (.int p3), (.int p4)] ∧ Z.Warmed39 U.vm ∧ U.heap = h0) (fun _ _ _ _ _ => True) (fun _ U o U' => ∃ v L, o = .returned v ∧ Q0 Z p0 p1 p2 p3 p4 h0 n0 v U'.heap L ∧ FrameEnd U o U' L 16 128) := by
  refine MetFree.of_bodySF (plainFor_of_name pn_0) hisR ?_
  intro p e s m args below meth c s₁ Bd hml0 hP hK
  obtain ⟨rfl, hZ, hh⟩ := hP
  have hx := Bd.exec
  have hby := Bd.bytes
  have hml : c.maxLocals = 14 := hml0
  have hown : s.vm.findClass "com/example/urd/urd/model/DiagnosisStartsPeriodPinLaw" = some m.cls := findClass_of_methodNamed Bd.named
  have hnm := (name_of_methodNamed Bd.named Bd.method).1
  have hlk : meth.locks = false := Bd.notSynchronized
  have X0 : Stand p l e room_1 s m #[(.int p0), (.int p1), (.int p2), (.int p3), (.int p4)] below meth c s₁ [] 0 0 := Stand.of_body Bd
  have e0 : s₁.heap = h0 := by rw [← hh, Bd.state]; rfl
  have N0 := Fr.nil n0
  have KK0 := Keep.refl h0 []
  show own_Go p.tables e below s 16 128 (Q0 Z p0 p1 p2 p3 p4 h0 n0) (s₁.setTop (entryFrame m #[(.int p0), (.int p1), (.int p2), (.int p3), (.int p4)] maxLocals))
  rw [ef_0]
  refine own_step (U' := s₁.setTop (mkF m 5 #[iv p0, iv p1, iv p2, iv p3, iv p4, .unset, .unset, .unset, .unset, .unset, .unset, .unset, .unset, .unset] [(.int (p0 &&& (2147483647 : Int32))), (.int (1 : Int32))])) (fun t k => XS.iconst X0.here hx rfl (hb hby at_0) (XS.iloadN X0.here hx rfl (hb hby at_1) rfl (X0.ldcInt hx hown (mvT hZ (own_w hw 0 rfl)) (g := (mkF m 2 #[iv p0, iv p1, iv p2, iv p3, iv p4, .unset, .unset, .unset, .unset, .unset, .unset, .unset, .unset, .unset] [(.int p0), (.int (1 : Int32))])) rfl (hb hby at_2) t (XS.iand X0.here hx rfl (hb hby at_4) rfl k)))) ?_
  obtain ⟨_, _, ⟨T1, L1, k1, n1⟩, -, X1, ⟨Lc1, hQ1, l1, y1, z1⟩, st1⟩ := Jvm.LawKit.callS X0 hx (y := (⟨"java/lang/Math", "max", "(II)I"⟩ : MethodName)) hown (mvT hZ (own_w hw 1 rfl)) (mvT hZ (own_w hw 2 rfl)) (mvT hZ (own_w hw 3 rfl)) (mvT hZ (own_w hw 4 rfl)) (by decide) (backOf (W := 0) (rm1 l Z a0 hw [] (1 : Int32) (p0 &&& (2147483647 : Int32)) h0 n0 Z0) hZ (own_w hw 4 rfl) (own_w hw 3 rfl) (by decide) (by decide)) (g := (mkF m 5 #[iv p0, iv p1, iv p2, iv p3, iv p4, .unset, .unset, .unset, .unset, .unset, .unset, .unset, .unset, .unset] [(.int (p0 &&& (2147483647 : Int32))), (.int (1 : Int32))])) rfl (by rw [hml]; rfl) (argsL := [(.int (1 : Int32)), (.int (p0 &&& (2147483647 : Int32)))]) (rest := []) (lenOf pd__II_I rfl) rfl (by show 2 * 0 + _ ≤ _; exact Nat.le_of_eq rfl) (hb hby at_5) (fun _ _ => ⟨rfl, e0, (by decide : 0 + 0 ≤ _), (by decide : 0 + 0 ≤ _)⟩)
  dsimp only [Pt.U, Pt.locs, Pt.cells, Pt.slots] at X1 l1 y1 z1 st1 hQ1
  subst l1 y1 z1
  obtain ⟨rfl, N1q, eq1⟩ := hQ1
  have N1 := Fr.app N0 N1q
  refine own_step (U' := T1.setTop (mkF m 8 #[iv p0, iv p1, iv p2, iv p3, iv p4, .unset, .unset, .unset, .unset, .unset, .unset, .unset, .unset, .unset] [(.int (F1 (1 : Int32) (p0 &&& (2147483647 : Int32))))])) st1 ?_
  refine own_step (U' := T1.setTop (mkF m 21 #[iv p0, iv p1, iv p2, iv p3, iv p4, iv (F1 (1 : Int32) (p0 &&& (2147483647 : Int32))), iv ((p1 &&& (2147483647 : Int32)) % (F1 (1 : Int32) (p0 &&& (2147483647 : Int32)))), .unset, .unset, .unset, .unset, .unset, .unset, .unset] [(.int p4)])) (fun t k => XS.istore X1.here hx rfl (hb hby at_8) rfl (l' := #[iv p0, iv p1, iv p2, iv p3, iv p4, iv (F1 (1 : Int32) (p0 &&& (2147483647 : Int32))), .unset, .unset, .unset, .unset, .unset, .unset, .unset, .unset]) rfl (XS.iloadN X1.here hx rfl (hb hby at_10) rfl (X1.ldcInt hx hown (mvT hZ (own_w hw 0 rfl)) (g := (mkF m 11 #[iv p0, iv p1, iv p2, iv p3, iv p4, iv (F1 (1 : Int32) (p0 &&& (2147483647 : Int32))), .unset, .unset, .unset, .unset, .unset, .unset, .unset, .unset] [(.int p1)])) rfl (hb hby at_11) t (XS.iand X1.here hx rfl (hb hby at_13) rfl (XS.iload X1.here hx rfl (hb hby at_14) rfl (iremM X1 hx rfl (hb hby at_16) rfl (own_nz p0) (XS.istore X1.here hx rfl (hb hby at_17) rfl (l' := #[iv p0, iv p1, iv p2, iv p3, iv p4, iv (F1 (1 : Int32) (p0 &&& (2147483647 : Int32))), iv ((p1 &&& (2147483647 : Int32)) % (F1 (1 : Int32) (p0 &&& (2147483647 : Int32)))), .unset, .unset, .unset, .unset, .unset, .unset, .unset]) rfl (XS.iload X1.here hx rfl (hb hby at_19) rfl k)))))))) ?_
  refine own_step (U' := T1.setTop (mkF m 23 #[iv p0, iv p1, iv p2, iv p3, iv p4, iv (F1 (1 : Int32) (p0 &&& (2147483647 : Int32))), iv ((p1 &&& (2147483647 : Int32)) % (F1 (1 : Int32) (p0 &&& (2147483647 : Int32)))), .unset, .unset, .unset, .unset, .unset, .unset, .unset] [(.int (p4 &&& (1 : Int32)))])) (fun t k => XS.iconst X1.here hx rfl (hb hby at_21) (XS.iand X1.here hx rfl (hb hby at_22) rfl k)) ?_
  obtain ⟨v31_3, hv31_3⟩ : ∃ v : Int32, v = (if (p4 &&& (1 : Int32)) = (0 : Int32) then (0 : Int32) else (1 : Int32)) := ⟨_, rfl⟩
  have K31_4 : ∀ (T' : State) (locs' : List Loc) (X' : Stand p l e room_1 s m #[(.int p0), (.int p1), (.int p2), (.int p3), (.int p4)] below meth c T' locs' 0 0) (N' : Fr n0 locs') (e' : T'.heap = h0), own_Go p.tables e below s 16 128 (Q0 Z p0 p1 p2 p3 p4 h0 n0) (T'.setTop (mkF m 31 #[iv p0, iv p1, iv p2, iv p3, iv p4, iv (F1 (1 : Int32) (p0 &&& (2147483647 : Int32))), iv ((p1 &&& (2147483647 : Int32)) % (F1 (1 : Int32) (p0 &&& (2147483647 : Int32)))), .unset, .unset, .unset, .unset, .unset, .unset, .unset] [(.int v31_3)])) := by
    intro T4 L4 X4 N4 e4
    refine own_step (U' := T4.setTop (mkF m 35 #[iv p0, iv p1, iv p2, iv p3, iv p4, iv (F1 (1 : Int32) (p0 &&& (2147483647 : Int32))), iv ((p1 &&& (2147483647 : Int32)) % (F1 (1 : Int32) (p0 &&& (2147483647 : Int32)))), iv v31_3, .unset, .unset, .unset, .unset, .unset, .unset] [(.int v31_3)])) (fun t k => XS.istore X4.here hx rfl (hb hby at_31) rfl (l' := #[iv p0, iv p1, iv p2, iv p3, iv p4, iv (F1 (1 : Int32) (p0 &&& (2147483647 : Int32))), iv ((p1 &&& (2147483647 : Int32)) % (F1 (1 : Int32) (p0 &&& (2147483647 : Int32)))), iv v31_3, .unset, .unset, .unset, .unset, .unset, .unset]) rfl (XS.iload X4.here hx rfl (hb hby at_33) rfl k)) ?_
    obtain ⟨v49_6, hv49_6⟩ : ∃ v : Int32, v = (if v31_3 = (0 : Int32) then ((p2 &&& (2147483647 : Int32)) % (F1 (1 : Int32) (p0 &&& (2147483647 : Int32)))) else (0 : Int32)) := ⟨_, rfl⟩
    have K49_7 : ∀ (T' : State) (locs' : List Loc) (X' : Stand p l e room_1 s m #[(.int p0), (.int p1), (.int p2), (.int p3), (.int p4)] below meth c T' locs' 0 0) (N' : Fr n0 locs') (e' : T'.heap = h0), own_Go p.tables e below s 16 128 (Q0 Z p0 p1 p2 p3 p4 h0 n0) (T'.setTop (mkF m 49 #[iv p0, iv p1, iv p2, iv p3, iv p4, iv (F1 (1 : Int32) (p0 &&& (2147483647 : Int32))), iv ((p1 &&& (2147483647 : Int32)) % (F1 (1 : Int32) (p0 &&& (2147483647 : Int32)))), iv v31_3, .unset, .unset, .unset, .unset, .unset, .unset] [(.int v49_6)])) := by
      intro T7 L7 X7 N7 e7
      refine own_step (U' := T7.setTop (mkF m 62 #[iv p0, iv p1, iv p2, iv p3, iv p4, iv (F1 (1 : Int32) (p0 &&& (2147483647 : Int32))), iv ((p1 &&& (2147483647 : Int32)) % (F1 (1 : Int32) (p0 &&& (2147483647 : Int32)))), iv v31_3, iv v49_6, iv (((2147483646 : Int32) - v49_6) / (F1 (1 : Int32) (p0 &&& (2147483647 : Int32)))), .unset, .unset, .unset, .unset] [(.int p3)])) (fun t k => XS.istore X7.here hx rfl (hb hby at_49) rfl (l' := #[iv p0, iv p1, iv p2, iv p3, iv p4, iv (F1 (1 : Int32) (p0 &&& (2147483647 : Int32))), iv ((p1 &&& (2147483647 : Int32)) % (F1 (1 : Int32) (p0 &&& (2147483647 : Int32)))), iv v31_3, iv v49_6, .unset, .unset, .unset, .unset, .unset]) rfl (X7.ldcInt hx hown (mvT hZ (own_w hw 5 rfl)) (g := (mkF m 51 #[iv p0, iv p1, iv p2, iv p3, iv p4, iv (F1 (1 : Int32) (p0 &&& (2147483647 : Int32))), iv ((p1 &&& (2147483647 : Int32)) % (F1 (1 : Int32) (p0 &&& (2147483647 : Int32)))), iv v31_3, iv v49_6, .unset, .unset, .unset, .unset, .unset] [])) rfl (hb hby at_51) t (XS.iload X7.here hx rfl (hb hby at_53) rfl (XS.isub X7.here hx rfl (hb hby at_55) rfl (XS.iload X7.here hx rfl (hb hby at_56) rfl (XS.idiv X7.here hx rfl (hb hby at_58) rfl (own_nz p0) (XS.istore X7.here hx rfl (hb hby at_59) rfl (l' := #[iv p0, iv p1, iv p2, iv p3, iv p4, iv (F1 (1 : Int32) (p0 &&& (2147483647 : Int32))), iv ((p1 &&& (2147483647 : Int32)) % (F1 (1 : Int32) (p0 &&& (2147483647 : Int32)))), iv v31_3, iv v49_6, iv (((2147483646 : Int32) - v49_6) / (F1 (1 : Int32) (p0 &&& (2147483647 : Int32)))), .unset, .unset, .unset, .unset]) rfl (XS.iloadN X7.here hx rfl (hb hby at_61) rfl k)))))))) ?_
      refine own_step (U' := T7.setTop (mkF m 74 #[iv p0, iv p1, iv p2, iv p3, iv p4, iv (F1 (1 : Int32) (p0 &&& (2147483647 : Int32))), iv ((p1 &&& (2147483647 : Int32)) % (F1 (1 : Int32) (p0 &&& (2147483647 : Int32)))), iv v31_3, iv v49_6, iv (((2147483646 : Int32) - v49_6) / (F1 (1 : Int32) (p0 &&& (2147483647 : Int32)))), iv ((p3 &&& (2147483647 : Int32)) % ((((2147483646 : Int32) - v49_6) / (F1 (1 : Int32) (p0 &&& (2147483647 : Int32)))) + (1 : Int32))), .unset, .unset, .unset] [(.int ((p3 &&& (2147483647 : Int32)) % ((((2147483646 : Int32) - v49_6) / (F1 (1 : Int32) (p0 &&& (2147483647 : Int32)))) + (1 : Int32))))])) (fun t k => X7.ldcInt hx hown (mvT hZ (own_w hw 0 rfl)) (g := (mkF m 62 #[iv p0, iv p1, iv p2, iv p3, iv p4, iv (F1 (1 : Int32) (p0 &&& (2147483647 : Int32))), iv ((p1 &&& (2147483647 : Int32)) % (F1 (1 : Int32) (p0 &&& (2147483647 : Int32)))), iv v31_3, iv v49_6, iv (((2147483646 : Int32) - v49_6) / (F1 (1 : Int32) (p0 &&& (2147483647 : Int32)))), .unset, .unset, .unset, .unset] [(.int p3)])) rfl (hb hby at_62) t (XS.iand X7.here hx rfl (hb hby at_64) rfl (XS.iload X7.here hx rfl (hb hby at_65) rfl (XS.iconst X7.here hx rfl (hb hby at_67) (XS.iadd X7.here hx rfl (hb hby at_68) rfl (iremM X7 hx rfl (hb hby at_69) rfl (own_nzK hv49_6) (XS.istore X7.here hx rfl (hb hby at_70) rfl (l' := #[iv p0, iv p1, iv p2, iv p3, iv p4, iv (F1 (1 : Int32) (p0 &&& (2147483647 : Int32))), iv ((p1 &&& (2147483647 : Int32)) % (F1 (1 : Int32) (p0 &&& (2147483647 : Int32)))), iv v31_3, iv v49_6, iv (((2147483646 : Int32) - v49_6) / (F1 (1 : Int32) (p0 &&& (2147483647 : Int32)))), iv ((p3 &&& (2147483647 : Int32)) % ((((2147483646 : Int32) - v49_6) / (F1 (1 : Int32) (p0 &&& (2147483647 : Int32)))) + (1 : Int32))), .unset, .unset, .unset]) rfl (XS.iload X7.here hx rfl (hb hby at_72) rfl k)))))))) ?_
      refine own_step (U' := T7.setTop (mkF m 84 #[iv p0, iv p1, iv p2, iv p3, iv p4, iv (F1 (1 : Int32) (p0 &&& (2147483647 : Int32))), iv ((p1 &&& (2147483647 : Int32)) % (F1 (1 : Int32) (p0 &&& (2147483647 : Int32)))), iv v31_3, iv v49_6, iv (((2147483646 : Int32) - v49_6) / (F1 (1 : Int32) (p0 &&& (2147483647 : Int32)))), iv ((p3 &&& (2147483647 : Int32)) % ((((2147483646 : Int32) - v49_6) / (F1 (1 : Int32) (p0 &&& (2147483647 : Int32)))) + (1 : Int32))), iv (((((p3 &&& (2147483647 : Int32)) % ((((2147483646 : Int32) - v49_6) / (F1 (1 : Int32) (p0 &&& (2147483647 : Int32)))) + (1 : Int32))) * (F1 (1 : Int32) (p0 &&& (2147483647 : Int32)))) + (1 : Int32)) + v49_6), .unset, .unset] [])) (fun t k => XS.iload X7.here hx rfl (hb hby at_74) rfl (XS.imul X7.here hx rfl (hb hby at_76) rfl (XS.iconst X7.here hx rfl (hb hby at_77) (XS.iadd X7.here hx rfl (hb hby at_78) rfl (XS.iload X7.here hx rfl (hb hby at_79) rfl (XS.iadd X7.here hx rfl (hb hby at_81) rfl (XS.istore X7.here hx rfl (hb hby at_82) rfl (l' := #[iv p0, iv p1, iv p2, iv p3, iv p4, iv (F1 (1 : Int32) (p0 &&& (2147483647 : Int32))), iv ((p1 &&& (2147483647 : Int32)) % (F1 (1 : Int32) (p0 &&& (2147483647 : Int32)))), iv v31_3, iv v49_6, iv (((2147483646 : Int32) - v49_6) / (F1 (1 : Int32) (p0 &&& (2147483647 : Int32)))), iv ((p3 &&& (2147483647 : Int32)) % ((((2147483646 : Int32) - v49_6) / (F1 (1 : Int32) (p0 &&& (2147483647 : Int32)))) + (1 : Int32))), iv (((((p3 &&& (2147483647 : Int32)) % ((((2147483646 : Int32) - v49_6) / (F1 (1 : Int32) (p0 &&& (2147483647 : Int32)))) + (1 : Int32))) * (F1 (1 : Int32) (p0 &&& (2147483647 : Int32)))) + (1 : Int32)) + v49_6), .unset, .unset]) rfl k))))))) ?_
      obtain ⟨T8, h8, X8, e8, E8, A8, D8, -, st8⟩ := newO X7 hx hZ hown (own_w hw 6 rfl) (own_w hw 7 rfl) (own_w hw 8 rfl) e7 (g := (mkF m 84 #[iv p0, iv p1, iv p2, iv p3, iv p4, iv (F1 (1 : Int32) (p0 &&& (2147483647 : Int32))), iv ((p1 &&& (2147483647 : Int32)) % (F1 (1 : Int32) (p0 &&& (2147483647 : Int32)))), iv v31_3, iv v49_6, iv (((2147483646 : Int32) - v49_6) / (F1 (1 : Int32) (p0 &&& (2147483647 : Int32)))), iv ((p3 &&& (2147483647 : Int32)) % ((((2147483646 : Int32) - v49_6) / (F1 (1 : Int32) (p0 &&& (2147483647 : Int32)))) + (1 : Int32))), iv (((((p3 &&& (2147483647 : Int32)) % ((((2147483646 : Int32) - v49_6) / (F1 (1 : Int32) (p0 &&& (2147483647 : Int32)))) + (1 : Int32))) * (F1 (1 : Int32) (p0 &&& (2147483647 : Int32)))) + (1 : Int32)) + v49_6), .unset, .unset] [])) rfl (hb hby at_84) (by decide) (by decide)
      obtain ⟨b8, g8⟩ : ∃ z, z = h0.size := ⟨_, rfl⟩
      have ge_b8 : n0 ≤ b8 := Nat.le_trans Z0 (Nat.le_of_eq g8.symm)
      have sz_b8 : h0.size ≤ b8 := Nat.le_trans KK0.1 (Nat.le_of_eq g8.symm)
      rw [← g8] at A8 D8 st8
      have F_period_b8 : Fld Z h8 b8 "com/example/urd/urd/model/Diagnosis" "period" "I" (.int (0 : Int32)) := D8 (Or.inr (own_w hw 21 rfl)) (ty := .int) (by decide)
      have F_threshold_b8 : Fld Z h8 b8 "com/example/urd/urd/model/Diagnosis" "threshold" "I" (.int (0 : Int32)) := D8 (Or.inr (own_w hw 23 rfl)) (ty := .int) (by decide)
      have Z8 : n0 ≤ h8.size := Nat.le_trans Z0 E8.1
      have KK8 := KK0.ext E8
      refine own_step (U' := T8.setTop (mkF m 87 #[iv p0, iv p1, iv p2, iv p3, iv p4, iv (F1 (1 : Int32) (p0 &&& (2147483647 : Int32))), iv ((p1 &&& (2147483647 : Int32)) % (F1 (1 : Int32) (p0 &&& (2147483647 : Int32)))), iv v31_3, iv v49_6, iv (((2147483646 : Int32) - v49_6) / (F1 (1 : Int32) (p0 &&& (2147483647 : Int32)))), iv ((p3 &&& (2147483647 : Int32)) % ((((2147483646 : Int32) - v49_6) / (F1 (1 : Int32) (p0 &&& (2147483647 : Int32)))) + (1 : Int32))), iv (((((p3 &&& (2147483647 : Int32)) % ((((2147483646 : Int32) - v49_6) / (F1 (1 : Int32) (p0 &&& (2147483647 : Int32)))) + (1 : Int32))) * (F1 (1 : Int32) (p0 &&& (2147483647 : Int32)))) + (1 : Int32)) + v49_6), .unset, .unset] [(.ref b8)])) st8 ?_
      refine own_step (U' := T8.setTop (mkF m 92 #[iv p0, iv p1, iv p2, iv p3, iv p4, iv (F1 (1 : Int32) (p0 &&& (2147483647 : Int32))), iv ((p1 &&& (2147483647 : Int32)) % (F1 (1 : Int32) (p0 &&& (2147483647 : Int32)))), iv v31_3, iv v49_6, iv (((2147483646 : Int32) - v49_6) / (F1 (1 : Int32) (p0 &&& (2147483647 : Int32)))), iv ((p3 &&& (2147483647 : Int32)) % ((((2147483646 : Int32) - v49_6) / (F1 (1 : Int32) (p0 &&& (2147483647 : Int32)))) + (1 : Int32))), iv (((((p3 &&& (2147483647 : Int32)) % ((((2147483646 : Int32) - v49_6) / (F1 (1 : Int32) (p0 &&& (2147483647 : Int32)))) + (1 : Int32))) * (F1 (1 : Int32) (p0 &&& (2147483647 : Int32)))) + (1 : Int32)) + v49_6), .unset, .unset] [(.int ((p1 &&& (2147483647 : Int32)) % (F1 (1 : Int32) (p0 &&& (2147483647 : Int32))))), (.int (F1 (1 : Int32) (p0 &&& (2147483647 : Int32)))), (.ref b8), (.ref b8)])) (fun t k => XS.dup X8.here hx rfl (hb hby at_87) rfl rfl (XS.iload X8.here hx rfl (hb hby at_88) rfl (XS.iload X8.here hx rfl (hb hby at_90) rfl k))) ?_
      obtain ⟨_, _, ⟨T9, L9, k9, n9⟩, -, X9, ⟨Lc9, hQ9, l9, y9, z9⟩, st9⟩ := X8.specialBack hx (y := (⟨"com/example/urd/urd/model/Diagnosis", "<init>", "(II)V"⟩ : MethodName)) rfl hown (mvT hZ (own_w hw 9 rfl)) (mvT hZ (own_w hw 10 rfl)) (mvT hZ (own_w hw 11 rfl)) (by decide) (backOf (W := 1) (rm2 l Z a0 hw [] b8 (F1 (1 : Int32) (p0 &&& (2147483647 : Int32))) ((p1 &&& (2147483647 : Int32)) % (F1 (1 : Int32) (p0 &&& (2147483647 : Int32)))) h8 n0 Z8 A8 F_period_b8 F_threshold_b8 ge_b8 (own_p1 p0) (own_t0 p0 p1) (own_t1 p0 p1)) hZ (own_w hw 11 rfl) (own_w hw 8 rfl) (by decide) (by decide)) (g := (mkF m 92 #[iv p0, iv p1, iv p2, iv p3, iv p4, iv (F1 (1 : Int32) (p0 &&& (2147483647 : Int32))), iv ((p1 &&& (2147483647 : Int32)) % (F1 (1 : Int32) (p0 &&& (2147483647 : Int32)))), iv v31_3, iv v49_6, iv (((2147483646 : Int32) - v49_6) / (F1 (1 : Int32) (p0 &&& (2147483647 : Int32)))), iv ((p3 &&& (2147483647 : Int32)) % ((((2147483646 : Int32) - v49_6) / (F1 (1 : Int32) (p0 &&& (2147483647 : Int32)))) + (1 : Int32))), iv (((((p3 &&& (2147483647 : Int32)) % ((((2147483646 : Int32) - v49_6) / (F1 (1 : Int32) (p0 &&& (2147483647 : Int32)))) + (1 : Int32))) * (F1 (1 : Int32) (p0 &&& (2147483647 : Int32)))) + (1 : Int32)) + v49_6), .unset, .unset] [(.int ((p1 &&& (2147483647 : Int32)) % (F1 (1 : Int32) (p0 &&& (2147483647 : Int32))))), (.int (F1 (1 : Int32) (p0 &&& (2147483647 : Int32)))), (.ref b8), (.ref b8)])) rfl (by rw [hml]; rfl) (Steps.refl _) (a := b8) (argsL := [(.int (F1 (1 : Int32) (p0 &&& (2147483647 : Int32)))), (.int ((p1 &&& (2147483647 : Int32)) % (F1 (1 : Int32) (p0 &&& (2147483647 : Int32)))))]) (rest := [(.ref b8)]) (lenOf pd__II_V rfl) rfl (by show 2 * 0 + _ ≤ _; exact Nat.le_of_eq rfl) (hb hby at_92) (fun _ _ => ⟨rfl, e8, (by decide : 1 + 0 ≤ _), (by decide : 2 + 0 ≤ _)⟩)
      dsimp only [Pt.U, Pt.locs, Pt.cells, Pt.slots] at X9 l9 y9 z9 st9 hQ9
      subst l9 y9 z9
      obtain ⟨rfl, N9q, K9q, Ea9_b8, Fa9_period_b8, Fa9_threshold_b8⟩ := hQ9
      have N9 := Fr.app N7 N9q
      have A8_9 := A8.keep K9q
      have Z9 : n0 ≤ T9.heap.size := Nat.le_trans Z8 K9q.1
      have KK9 := KK8.trans K9q (allS (Or.inr sz_b8) all0)
      refine own_steps (U' := T9.setTop (mkF m 95 #[iv p0, iv p1, iv p2, iv p3, iv p4, iv (F1 (1 : Int32) (p0 &&& (2147483647 : Int32))), iv ((p1 &&& (2147483647 : Int32)) % (F1 (1 : Int32) (p0 &&& (2147483647 : Int32)))), iv v31_3, iv v49_6, iv (((2147483646 : Int32) - v49_6) / (F1 (1 : Int32) (p0 &&& (2147483647 : Int32)))), iv ((p3 &&& (2147483647 : Int32)) % ((((2147483646 : Int32) - v49_6) / (F1 (1 : Int32) (p0 &&& (2147483647 : Int32)))) + (1 : Int32))), iv (((((p3 &&& (2147483647 : Int32)) % ((((2147483646 : Int32) - v49_6) / (F1 (1 : Int32) (p0 &&& (2147483647 : Int32)))) + (1 : Int32))) * (F1 (1 : Int32) (p0 &&& (2147483647 : Int32)))) + (1 : Int32)) + v49_6), .unset, .unset] [(.ref b8)])) st9 ?_
      refine own_step (U' := T9.setTop (mkF m 99 #[iv p0, iv p1, iv p2, iv p3, iv p4, iv (F1 (1 : Int32) (p0 &&& (2147483647 : Int32))), iv ((p1 &&& (2147483647 : Int32)) % (F1 (1 : Int32) (p0 &&& (2147483647 : Int32)))), iv v31_3, iv v49_6, iv (((2147483646 : Int32) - v49_6) / (F1 (1 : Int32) (p0 &&& (2147483647 : Int32)))), iv ((p3 &&& (2147483647 : Int32)) % ((((2147483646 : Int32) - v49_6) / (F1 (1 : Int32) (p0 &&& (2147483647 : Int32)))) + (1 : Int32))), iv (((((p3 &&& (2147483647 : Int32)) % ((((2147483646 : Int32) - v49_6) / (F1 (1 : Int32) (p0 &&& (2147483647 : Int32)))) + (1 : Int32))) * (F1 (1 : Int32) (p0 &&& (2147483647 : Int32)))) + (1 : Int32)) + v49_6), rv b8, .unset] [(.int v49_6)])) (fun t k => XS.astore X9.here hx rfl (hb hby at_95) rfl rfl (l' := #[iv p0, iv p1, iv p2, iv p3, iv p4, iv (F1 (1 : Int32) (p0 &&& (2147483647 : Int32))), iv ((p1 &&& (2147483647 : Int32)) % (F1 (1 : Int32) (p0 &&& (2147483647 : Int32)))), iv v31_3, iv v49_6, iv (((2147483646 : Int32) - v49_6) / (F1 (1 : Int32) (p0 &&& (2147483647 : Int32)))), iv ((p3 &&& (2147483647 : Int32)) % ((((2147483646 : Int32) - v49_6) / (F1 (1 : Int32) (p0 &&& (2147483647 : Int32)))) + (1 : Int32))), iv (((((p3 &&& (2147483647 : Int32)) % ((((2147483646 : Int32) - v49_6) / (F1 (1 : Int32) (p0 &&& (2147483647 : Int32)))) + (1 : Int32))) * (F1 (1 : Int32) (p0 &&& (2147483647 : Int32)))) + (1 : Int32)) + v49_6), rv b8, .unset]) rfl (XS.iload X9.here hx rfl (hb hby at_97) rfl k)) ?_
      obtain ⟨v107_11, hv107_11⟩ : ∃ v : Int32, v = (if v49_6 = (0 : Int32) then (1 : Int32) else (0 : Int32)) := ⟨_, rfl⟩
      have K107_12 : ∀ (T' : State) (locs' : List Loc) (X' : Stand p l e room_1 s m #[(.int p0), (.int p1), (.int p2), (.int p3), (.int p4)] below meth c T' locs' 1 2) (N' : Fr n0 locs') (e' : T'.heap = T9.heap), own_Go p.tables e below s 16 128 (Q0 Z p0 p1 p2 p3 p4 h0 n0) (T'.setTop (mkF m 107 #[iv p0, iv p1, iv p2, iv p3, iv p4, iv (F1 (1 : Int32) (p0 &&& (2147483647 : Int32))), iv ((p1 &&& (2147483647 : Int32)) % (F1 (1 : Int32) (p0 &&& (2147483647 : Int32)))), iv v31_3, iv v49_6, iv (((2147483646 : Int32) - v49_6) / (F1 (1 : Int32) (p0 &&& (2147483647 : Int32)))), iv ((p3 &&& (2147483647 : Int32)) % ((((2147483646 : Int32) - v49_6) / (F1 (1 : Int32) (p0 &&& (2147483647 : Int32)))) + (1 : Int32))), iv (((((p3 &&& (2147483647 : Int32)) % ((((2147483646 : Int32) - v49_6) / (F1 (1 : Int32) (p0 &&& (2147483647 : Int32)))) + (1 : Int32))) * (F1 (1 : Int32) (p0 &&& (2147483647 : Int32)))) + (1 : Int32)) + v49_6), rv b8, .unset] [(.int v107_11)])) := by
        intro T12 L12 X12 N12 e12
        refine own_step (U' := T12.setTop (mkF m 113 #[iv p0, iv p1, iv p2, iv p3, iv p4, iv (F1 (1 : Int32) (p0 &&& (2147483647 : Int32))), iv ((p1 &&& (2147483647 : Int32)) % (F1 (1 : Int32) (p0 &&& (2147483647 : Int32)))), iv v31_3, iv v49_6, iv (((2147483646 : Int32) - v49_6) / (F1 (1 : Int32) (p0 &&& (2147483647 : Int32)))), iv ((p3 &&& (2147483647 : Int32)) % ((((2147483646 : Int32) - v49_6) / (F1 (1 : Int32) (p0 &&& (2147483647 : Int32)))) + (1 : Int32))), iv (((((p3 &&& (2147483647 : Int32)) % ((((2147483646 : Int32) - v49_6) / (F1 (1 : Int32) (p0 &&& (2147483647 : Int32)))) + (1 : Int32))) * (F1 (1 : Int32) (p0 &&& (2147483647 : Int32)))) + (1 : Int32)) + v49_6), rv b8, iv v107_11] [(.int (((((p3 &&& (2147483647 : Int32)) % ((((2147483646 : Int32) - v49_6) / (F1 (1 : Int32) (p0 &&& (2147483647 : Int32)))) + (1 : Int32))) * (F1 (1 : Int32) (p0 &&& (2147483647 : Int32)))) + (1 : Int32)) + v49_6)), (.ref b8)])) (fun t k => XS.istore X12.here hx rfl (hb hby at_107) rfl (l' := #[iv p0, iv p1, iv p2, iv p3, iv p4, iv (F1 (1 : Int32) (p0 &&& (2147483647 : Int32))), iv ((p1 &&& (2147483647 : Int32)) % (F1 (1 : Int32) (p0 &&& (2147483647 : Int32)))), iv v31_3, iv v49_6, iv (((2147483646 : Int32) - v49_6) / (F1 (1 : Int32) (p0 &&& (2147483647 : Int32)))), iv ((p3 &&& (2147483647 : Int32)) % ((((2147483646 : Int32) - v49_6) / (F1 (1 : Int32) (p0 &&& (2147483647 : Int32)))) + (1 : Int32))), iv (((((p3 &&& (2147483647 : Int32)) % ((((2147483646 : Int32) - v49_6) / (F1 (1 : Int32) (p0 &&& (2147483647 : Int32)))) + (1 : Int32))) * (F1 (1 : Int32) (p0 &&& (2147483647 : Int32)))) + (1 : Int32)) + v49_6), rv b8, iv v107_11]) rfl (XS.aload X12.here hx rfl (hb hby at_109) rfl rfl (XS.iload X12.here hx rfl (hb hby at_111) rfl k))) ?_
        obtain ⟨cq13, kq13, qa13, qb13, qc13⟩ := isOf hZ e12 Ea9_b8
        obtain ⟨_, _, ⟨T13, L13, k13, n13⟩, -, X13, ⟨Lc13, hQ13, l13, y13, z13⟩, st13⟩ := X12.virtualBack hx (y := (⟨"com/example/urd/urd/model/Diagnosis", "startsPeriod", "(I)Z"⟩ : MethodName)) (z := (⟨"com/example/urd/urd/model/Diagnosis", "startsPeriod", "(I)Z"⟩ : MethodName)) hown (mvT hZ (own_w hw 24 rfl)) (mvT hZ (own_w hw 25 rfl)) (notFace_of_selects (args := #[]) (mvT hZ (own_w hw 27 rfl))) (mvT hZ (own_w hw 27 rfl)) (mvT hZ (own_w hw 26 rfl)) (by decide) (backOf (W := 0) (rm5 l Z a0 hw [] b8 (((((p3 &&& (2147483647 : Int32)) % ((((2147483646 : Int32) - v49_6) / (F1 (1 : Int32) (p0 &&& (2147483647 : Int32)))) + (1 : Int32))) * (F1 (1 : Int32) (p0 &&& (2147483647 : Int32)))) + (1 : Int32)) + v49_6) (F1 (1 : Int32) (p0 &&& (2147483647 : Int32))) T9.heap n0 Z9 Ea9_b8 Fa9_period_b8 (own_nz p0)) hZ (own_w hw 28 rfl) (own_w hw 8 rfl) (by decide) (by decide)) qa13 qc13 (g := (mkF m 113 #[iv p0, iv p1, iv p2, iv p3, iv p4, iv (F1 (1 : Int32) (p0 &&& (2147483647 : Int32))), iv ((p1 &&& (2147483647 : Int32)) % (F1 (1 : Int32) (p0 &&& (2147483647 : Int32)))), iv v31_3, iv v49_6, iv (((2147483646 : Int32) - v49_6) / (F1 (1 : Int32) (p0 &&& (2147483647 : Int32)))), iv ((p3 &&& (2147483647 : Int32)) % ((((2147483646 : Int32) - v49_6) / (F1 (1 : Int32) (p0 &&& (2147483647 : Int32)))) + (1 : Int32))), iv (((((p3 &&& (2147483647 : Int32)) % ((((2147483646 : Int32) - v49_6) / (F1 (1 : Int32) (p0 &&& (2147483647 : Int32)))) + (1 : Int32))) * (F1 (1 : Int32) (p0 &&& (2147483647 : Int32)))) + (1 : Int32)) + v49_6), rv b8, iv v107_11] [(.int (((((p3 &&& (2147483647 : Int32)) % ((((2147483646 : Int32) - v49_6) / (F1 (1 : Int32) (p0 &&& (2147483647 : Int32)))) + (1 : Int32))) * (F1 (1 : Int32) (p0 &&& (2147483647 : Int32)))) + (1 : Int32)) + v49_6)), (.ref b8)])) rfl (by rw [hml]; rfl) (Steps.refl _) (argsL := [(.int (((((p3 &&& (2147483647 : Int32)) % ((((2147483646 : Int32) - v49_6) / (F1 (1 : Int32) (p0 &&& (2147483647 : Int32)))) + (1 : Int32))) * (F1 (1 : Int32) (p0 &&& (2147483647 : Int32)))) + (1 : Int32)) + v49_6))]) (rest := []) (lenOf pd__I_Z rfl) rfl (by show 2 * 0 + _ ≤ _; exact Nat.le_of_eq rfl) (hb hby at_113) (fun _ _ => ⟨rfl, e12, (by decide : 1 + 0 ≤ _), (by decide : 2 + 0 ≤ _)⟩)
        dsimp only [Pt.U, Pt.locs, Pt.cells, Pt.slots] at X13 l13 y13 z13 st13 hQ13
        subst l13 y13 z13
        obtain ⟨rfl, N13q, eq13⟩ := hQ13
        have N13 := Fr.app N12 N13q
        refine own_steps (U' := T13.setTop (mkF m 116 #[iv p0, iv p1, iv p2, iv p3, iv p4, iv (F1 (1 : Int32) (p0 &&& (2147483647 : Int32))), iv ((p1 &&& (2147483647 : Int32)) % (F1 (1 : Int32) (p0 &&& (2147483647 : Int32)))), iv v31_3, iv v49_6, iv (((2147483646 : Int32) - v49_6) / (F1 (1 : Int32) (p0 &&& (2147483647 : Int32)))), iv ((p3 &&& (2147483647 : Int32)) % ((((2147483646 : Int32) - v49_6) / (F1 (1 : Int32) (p0 &&& (2147483647 : Int32)))) + (1 : Int32))), iv (((((p3 &&& (2147483647 : Int32)) % ((((2147483646 : Int32) - v49_6) / (F1 (1 : Int32) (p0 &&& (2147483647 : Int32)))) + (1 : Int32))) * (F1 (1 : Int32) (p0 &&& (2147483647 : Int32)))) + (1 : Int32)) + v49_6), rv b8, iv v107_11] [(.int (F5 (((((p3 &&& (2147483647 : Int32)) % ((((2147483646 : Int32) - v49_6) / (F1 (1 : Int32) (p0 &&& (2147483647 : Int32)))) + (1 : Int32))) * (F1 (1 : Int32) (p0 &&& (2147483647 : Int32)))) + (1 : Int32)) + v49_6) (F1 (1 : Int32) (p0 &&& (2147483647 : Int32)))))])) st13 ?_
        refine own_step (U' := T13.setTop (mkF m 126 #[iv p0, iv p1, iv p2, iv p3, iv p4, iv (F1 (1 : Int32) (p0 &&& (2147483647 : Int32))), iv ((p1 &&& (2147483647 : Int32)) % (F1 (1 : Int32) (p0 &&& (2147483647 : Int32)))), iv v31_3, iv v49_6, iv (((2147483646 : Int32) - v49_6) / (F1 (1 : Int32) (p0 &&& (2147483647 : Int32)))), iv ((p3 &&& (2147483647 : Int32)) % ((((2147483646 : Int32) - v49_6) / (F1 (1 : Int32) (p0 &&& (2147483647 : Int32)))) + (1 : Int32))), iv (((((p3 &&& (2147483647 : Int32)) % ((((2147483646 : Int32) - v49_6) / (F1 (1 : Int32) (p0 &&& (2147483647 : Int32)))) + (1 : Int32))) * (F1 (1 : Int32) (p0 &&& (2147483647 : Int32)))) + (1 : Int32)) + v49_6), rv b8, iv v107_11] [(.int (1 : Int32))])) (fun t k => XS.iload X13.here hx rfl (hb hby at_116) rfl (XS.icmpNo X13.here hx rfl (hb hby at_118) rfl (teq (own_law hv49_6 hv107_11)).2 (XS.iconst X13.here hx rfl (hb hby at_121) (XS.goto X13.here hx rfl (pc0 := 122) (pc' := 126) rfl (hb hby at_122) (by decide) (by decide) k)))) ?_
        exact own_out X13 (v := (some (.int (1 : Int32)))) hlk (own_nv Bd.returns) (by rw [eq13]; exact ⟨rfl, N13⟩) (by decide) (by decide) (fun fs hr => retN X13 hx (t := .boolean) Bd.returns (by simp) (hb hby at_126) hr)
      by_cases hc99_14 : v49_6 = (0 : Int32)
      · refine own_step (U' := T9.setTop (mkF m 107 #[iv p0, iv p1, iv p2, iv p3, iv p4, iv (F1 (1 : Int32) (p0 &&& (2147483647 : Int32))), iv ((p1 &&& (2147483647 : Int32)) % (F1 (1 : Int32) (p0 &&& (2147483647 : Int32)))), iv v31_3, iv v49_6, iv (((2147483646 : Int32) - v49_6) / (F1 (1 : Int32) (p0 &&& (2147483647 : Int32)))), iv ((p3 &&& (2147483647 : Int32)) % ((((2147483646 : Int32) - v49_6) / (F1 (1 : Int32) (p0 &&& (2147483647 : Int32)))) + (1 : Int32))), iv (((((p3 &&& (2147483647 : Int32)) % ((((2147483646 : Int32) - v49_6) / (F1 (1 : Int32) (p0 &&& (2147483647 : Int32)))) + (1 : Int32))) * (F1 (1 : Int32) (p0 &&& (2147483647 : Int32)))) + (1 : Int32)) + v49_6), rv b8, .unset] [(.int (1 : Int32))])) (fun t k => XS.ifNo X9.here hx rfl (hb hby at_99) rfl ((if0 _ _).trans (teq hc99_14).2) (XS.iconst X9.here hx rfl (hb hby at_102) (XS.goto X9.here hx rfl (pc0 := 103) (pc' := 107) rfl (hb hby at_103) (by decide) (by decide) k))) ?_
        have q_v107_11 : v107_11 = (1 : Int32) := by rw [hv107_11, if_pos hc99_14]
        rw [q_v107_11] at K107_12
        exact K107_12 _ _ X9 N9 rfl
      · refine own_step (U' := T9.setTop (mkF m 107 #[iv p0, iv p1, iv p2, iv p3, iv p4, iv (F1 (1 : Int32) (p0 &&& (2147483647 : Int32))), iv ((p1 &&& (2147483647 : Int32)) % (F1 (1 : Int32) (p0 &&& (2147483647 : Int32)))), iv v31_3, iv v49_6, iv (((2147483646 : Int32) - v49_6) / (F1 (1 : Int32) (p0 &&& (2147483647 : Int32)))), iv ((p3 &&& (2147483647 : Int32)) % ((((2147483646 : Int32) - v49_6) / (F1 (1 : Int32) (p0 &&& (2147483647 : Int32)))) + (1 : Int32))), iv (((((p3 &&& (2147483647 : Int32)) % ((((2147483646 : Int32) - v49_6) / (F1 (1 : Int32) (p0 &&& (2147483647 : Int32)))) + (1 : Int32))) * (F1 (1 : Int32) (p0 &&& (2147483647 : Int32)))) + (1 : Int32)) + v49_6), rv b8, .unset] [(.int (0 : Int32))])) (fun t k => XS.ifYes X9.here hx rfl (pc0 := 99) (pc' := 106) rfl (hb hby at_99) rfl ((if0 _ _).trans (feq hc99_14).2) (by decide) (by decide) (XS.iconst X9.here hx rfl (hb hby at_106) k)) ?_
        have q_v107_11 : v107_11 = (0 : Int32) := by rw [hv107_11, if_neg hc99_14]
        rw [q_v107_11] at K107_12
        exact K107_12 _ _ X9 N9 rfl
    by_cases hc35_15 : v31_3 = (0 : Int32)
    · refine own_step (U' := T4.setTop (mkF m 49 #[iv p0, iv p1, iv p2, iv p3, iv p4, iv (F1 (1 : Int32) (p0 &&& (2147483647 : Int32))), iv ((p1 &&& (2147483647 : Int32)) % (F1 (1 : Int32) (p0 &&& (2147483647 : Int32)))), iv v31_3, .unset, .unset, .unset, .unset, .unset, .unset] [(.int ((p2 &&& (2147483647 : Int32)) % (F1 (1 : Int32) (p0 &&& (2147483647 : Int32)))))])) (fun t k => XS.ifYes X4.here hx rfl (pc0 := 35) (pc' := 42) rfl (hb hby at_35) rfl ((if0 _ _).trans (teq hc35_15).1) (by decide) (by decide) (XS.iloadN X4.here hx rfl (hb hby at_42) rfl (X4.ldcInt hx hown (mvT hZ (own_w hw 0 rfl)) (g := (mkF m 43 #[iv p0, iv p1, iv p2, iv p3, iv p4, iv (F1 (1 : Int32) (p0 &&& (2147483647 : Int32))), iv ((p1 &&& (2147483647 : Int32)) % (F1 (1 : Int32) (p0 &&& (2147483647 : Int32)))), iv v31_3, .unset, .unset, .unset, .unset, .unset, .unset] [(.int p2)])) rfl (hb hby at_43) t (XS.iand X4.here hx rfl (hb hby at_45) rfl (XS.iload X4.here hx rfl (hb hby at_46) rfl (iremM X4 hx rfl (hb hby at_48) rfl (own_nz p0) k)))))) ?_
      have q_v49_6 : v49_6 = ((p2 &&& (2147483647 : Int32)) % (F1 (1 : Int32) (p0 &&& (2147483647 : Int32)))) := by rw [hv49_6, if_pos hc35_15]
      rw [q_v49_6] at K49_7
      exact K49_7 _ _ X4 N4 e4
    · refine own_step (U' := T4.setTop (mkF m 49 #[iv p0, iv p1, iv p2, iv p3, iv p4, iv (F1 (1 : Int32) (p0 &&& (2147483647 : Int32))), iv ((p1 &&& (2147483647 : Int32)) % (F1 (1 : Int32) (p0 &&& (2147483647 : Int32)))), iv v31_3, .unset, .unset, .unset, .unset, .unset, .unset] [(.int (0 : Int32))])) (fun t k => XS.ifNo X4.here hx rfl (hb hby at_35) rfl ((if0 _ _).trans (feq hc35_15).1) (XS.iconst X4.here hx rfl (hb hby at_38) (XS.goto X4.here hx rfl (pc0 := 39) (pc' := 49) rfl (hb hby at_39) (by decide) (by decide) k))) ?_
      have q_v49_6 : v49_6 = (0 : Int32) := by rw [hv49_6, if_neg hc35_15]
      rw [q_v49_6] at K49_7
      exact K49_7 _ _ X4 N4 e4
  by_cases hc23_16 : (p4 &&& (1 : Int32)) = (0 : Int32)
  · refine own_step (U' := T1.setTop (mkF m 31 #[iv p0, iv p1, iv p2, iv p3, iv p4, iv (F1 (1 : Int32) (p0 &&& (2147483647 : Int32))), iv ((p1 &&& (2147483647 : Int32)) % (F1 (1 : Int32) (p0 &&& (2147483647 : Int32)))), .unset, .unset, .unset, .unset, .unset, .unset, .unset] [(.int (0 : Int32))])) (fun t k => XS.ifYes X1.here hx rfl (pc0 := 23) (pc' := 30) rfl (hb hby at_23) rfl ((if0 _ _).trans (teq hc23_16).1) (by decide) (by decide) (XS.iconst X1.here hx rfl (hb hby at_30) k)) ?_
    have q_v31_3 : v31_3 = (0 : Int32) := by rw [hv31_3, if_pos hc23_16]
    rw [q_v31_3] at K31_4
    exact K31_4 _ _ X1 N1 eq1
  · refine own_step (U' := T1.setTop (mkF m 31 #[iv p0, iv p1, iv p2, iv p3, iv p4, iv (F1 (1 : Int32) (p0 &&& (2147483647 : Int32))), iv ((p1 &&& (2147483647 : Int32)) % (F1 (1 : Int32) (p0 &&& (2147483647 : Int32)))), .unset, .unset, .unset, .unset, .unset, .unset, .unset] [(.int (1 : Int32))])) (fun t k => XS.ifNo X1.here hx rfl (hb hby at_23) rfl ((if0 _ _).trans (feq hc23_16).1) (XS.iconst X1.here hx rfl (hb hby at_26) (XS.goto X1.here hx rfl (pc0 := 27) (pc' := 31) rfl (hb hby at_27) (by decide) (by decide) k))) ?_
    have q_v31_3 : v31_3 = (1 : Int32) := by rw [hv31_3, if_neg hc23_16]
    rw [q_v31_3] at K31_4
    exact K31_4 _ _ X1 N1 eq1
set_option maxRecDepth 65536 in
set_option maxHeartbeats 40000000 in
theorem comes_1 {Post : Tables → Env → Array Value → State → Outcome → State → Prop} (hpost : ∀ tb e args s v u, (limb_1_1.after args s (.returned v) u = true ∧ limb_1_2.after args s (.returned v) u = true ∧ True) → FrameEnd s (.returned v) u (Jvm.fieldLocs frame_1_writes args s ++ Jvm.arrayLocs frame_1_arrays args s ++ Jvm.staticLocs frame_1_statics s) 16 128 → Post tb e args s (.returned v) u) :
    ArmFor flags0 classFile x code maxLocals ret World_1 tables_1 room_1 Calls_1 rest_1 Pre_1 Post := by
  intro l hfl _ _ p e ha hc hk s m args below hf hA hF happ hP
  obtain ⟨hcalls, hrest, hpre⟩ := hP
  obtain ⟨-, -, -, hnamed, -, -, -, hat⟩ := (Spec.applies_iff hf).mp happ
  obtain ⟨hg, hn⟩ := and_e (Cond.before_iff.mp (show (Jvm.Cond.and given_1 narrow_1).before args s = true from hpre))
  obtain ⟨gc, gr0⟩ := and_e hg
  obtain ⟨ga0, gr1⟩ := and_e gr0
  obtain ⟨ga1, gr2⟩ := and_e gr1
  obtain ⟨ga2, gr3⟩ := and_e gr2
  obtain ⟨ga3, gr4⟩ := and_e gr3
  obtain ⟨w0, w1, w2, w3, w4, rfl⟩ : ∃ w0 w1 w2 w3 w4 : Value, args = #[w0, w1, w2, w3, w4] := by
    have hs : args.size = 5 := by simpa [Cond.value, given_1] using gc
    obtain ⟨L⟩ := args
    match L, hs with
    | [w0, w1, w2, w3, w4], _ => exact ⟨w0, w1, w2, w3, w4, rfl⟩
  have hw := fun d (hd : d ∈ tables_1) => atoms_spec (ws := Jvm.Cond.code x code maxLocals ret :: tables_1) hat d (List.mem_cons_of_mem _ hd)
  have hfit : Fit s := fun {y c} hc i hi => by
    obtain ⟨ha, rfl⟩ := Array.getElem?_eq_some_iff.mp hc
    have q := List.all_eq_true.mp ((Array.all_eq_true_iff_forall_mem.mp hF) _ (Array.getElem_mem ha)) i (List.mem_range.mpr hi)
    simpa [Array.getElem?_eq_getElem hi] using q
  obtain ⟨i0, ei0⟩ := is_v ga0
  obtain rfl : w0 = (.int i0) := Option.some.inj ei0
  obtain ⟨i1, ei1⟩ := is_v ga1
  obtain rfl : w1 = (.int i1) := Option.some.inj ei1
  obtain ⟨i2, ei2⟩ := is_v ga2
  obtain rfl : w2 = (.int i2) := Option.some.inj ei2
  obtain ⟨i3, ei3⟩ := is_v ga3
  obtain rfl : w3 = (.int i3) := Option.some.inj ei3
  obtain ⟨i4, ei4⟩ := is_v gr4
  obtain rfl : w4 = (.int i4) := Option.some.inj ei4
  obtain ⟨n, o, h1, h2, h3, _, L, rfl, ⟨rfl, N⟩, hq⟩ := rm0 l s _ hw tables_1 i0 i1 i2 i3 i4  s.heap s.heap.size (Nat.le_refl _)  p e ha hc hk s m _ below hf ((Spec.applies_iff_loose hf).mp happ).1 ⟨rfl, State.Warmed39.refl s, rfl⟩ trivial
  refine ⟨n, _, h1, h2, h3, hpost _ _ _ _ _ _ ⟨Cond.after_iff.mpr rfl, Cond.after_iff.mpr (eq_i res_at (Term.int_eval (1)) rfl), trivial⟩ ⟨hq.1, hq.2.1, (hq.2.2.sift fun y hy => Or.inr (N y hy)).mono (by decide) (by decide)⟩⟩
theorem main_1_1 : Claimed_1_1 := comes_1 fun _ _ _ _ _ _ h hF => ⟨h.1, hF⟩
theorem main_1_2 : Claimed_1_2 := comes_1 fun _ _ _ _ _ _ h hF => ⟨h.2.1, hF⟩
end Jvm.Pilot.@@N@@
namespace Jvm.Pilot.@@N@@
open Jvm Jvm.ClassFile Sem Op Lib Jvm.Free Jvm.Stand Jvm.Pilot.@@N@@.Jvm.D
/-! MADE BY PROGRAM (witnessworld.py) out of the Statement's table words and the real class files: 11 classes; the members and pool entries that the words name. The judged class is class 1, her method 1. -/
namespace start1
open Jvm.ClassFile
def u (s : String) : CpInfo := .utf8 (stringToUtf16 s)
/-- a pool by its gaps: so many unusable entries, then the entry; so many at the end -/
def gap : Nat → List CpInfo → List CpInfo
  | 0, r => r
  | n + 1, r => .unusable :: gap n r
def poolList (es : List (Nat × CpInfo)) (last : Nat) : List CpInfo := es.foldr (fun e r => gap e.1 (e.2 :: r)) (gap last [])
def pool (es : List (Nat × CpInfo)) (last : Nat) : Array CpInfo := ⟨poolList es last⟩
def fileOf (pool : Array CpInfo) (this : Nat) (attrs : Array Attribute := #[]) (ms : Array MethodInfo := #[]) (fl : Nat := 33) (sup : Nat := 0) (ifs : Array Nat := #[]) (fds : Array FieldInfo := #[]) : ClassFile where
  minorVersion := 0
  majorVersion := 65
  constantPool := pool
  accessFlags := fl
  thisClass := this
  superClass := sup
  interfaces := ifs
  fields := fds
  methods := ms
  attributes := attrs
def plain (name : String) (sup : Option ClassId) : Class where
  name := name
  kind := .ordinary
  loader := none
  accessFlags := 33
  super := sup
  interfaces := #[]
  cf := none
  fields := #[]
  methods := #[]
  instanceTypes := #[]
  staticTypes := #[]
  resolved := #[]
  callSites := []
  init := .initialized
  statics := none
  mirror := none

def pool0 : Array CpInfo := pool [(5, u "<init>"), (0, u "()V"), (1, .class_ 10), (1, u "java/lang/Object")] 113

def k0c0 : Code := { maxStack := 0, maxLocals := 1, code := object_method_1_code, exceptionTable := #[], attributes := #[] }
def k0m0 : Method := { name := "<init>", desc := "()V", sig := { parameters := [], returnType := none }, accessFlags := 1, code := some k0c0 }
/-- java/lang/Object -/
def k0 : Class := { plain "java/lang/Object" none with
  accessFlags := 33
  interfaces := #[]
  cf := some (fileOf pool0 8 #[] #[{ accessFlags := 1, nameIndex := 5, descriptorIndex := 6, attributes := #[] }] 33 0 #[] #[])
  fields := #[]
  methods := #[k0m0]
  instanceTypes := #[]
  staticTypes := #[]
  resolved := Array.replicate 124 none
  statics := none }

def pool1 : Array CpInfo := pool [(2, .class_ 4), (1, u "java/lang/Object"), (0, u "<init>"), (0, u "()V"), (0, .integer 2147483647), (0, .methodref 9 10), (0, .class_ 11), (0, .nameAndType 12 13), (0, u "java/lang/Math"), (0, u "max"), (0, u "(II)I"), (2, .integer 2147483646), (0, .class_ 18), (0, u "com/example/urd/urd/model/Diagnosis"), (0, .methodref 17 20), (0, .nameAndType 5 21), (0, u "(II)V"), (0, .methodref 17 23), (0, .nameAndType 24 25), (0, u "startsPeriod"), (0, u "(I)Z"), (0, .class_ 27), (0, u "com/example/urd/urd/model/DiagnosisStartsPeriodPinLaw"), (2, u "law"), (0, u "(IIIII)Z")] 3

def k1m0 : Method := { name := "<init>", desc := "()V", sig := { parameters := [], returnType := none }, accessFlags := 1, code := none }
def k1c1 : Code := { maxStack := 4, maxLocals := 14, code := code, exceptionTable := #[], attributes := #[] }
def k1m1 : Method := { name := "law", desc := "(IIIII)Z", sig := { parameters := [.int, .int, .int, .int, .int], returnType := some .boolean }, accessFlags := 9, code := some k1c1 }
/-- com/example/urd/urd/model/DiagnosisStartsPeriodPinLaw -/
def k1 : Class := { plain "com/example/urd/urd/model/DiagnosisStartsPeriodPinLaw" (some 0) with
  accessFlags := 49
  interfaces := #[]
  cf := some (fileOf pool1 26 #[] #[{ accessFlags := 1, nameIndex := 5, descriptorIndex := 6, attributes := #[] }, { accessFlags := 9, nameIndex := 30, descriptorIndex := 31, attributes := #[] }] 49 2 #[] #[])
  fields := #[]
  methods := #[k1m0, k1m1]
  instanceTypes := #[]
  staticTypes := #[]
  resolved := Array.replicate 35 none
  statics := none }

def pool2 : Array CpInfo := pool [(1, .class_ 2), (0, u "java/lang/Math"), (1, .class_ 6), (1, u "java/lang/Object"), (0, u "<init>"), (0, u "()V"), (89, .class_ 100), (1, u "java/lang/Math$RandomNumberGeneratorHolder"), (71, u "negativeZeroFloatBits"), (0, u "J"), (2, u "negativeZeroDoubleBits"), (21, u "max"), (46, u "$assertionsDisabled"), (0, u "Z"), (88, u "(II)I"), (2, u "twoToTheDoubleScaleDown"), (0, u "D"), (4, u "twoToTheDoubleScaleUp"), (9, u "E"), (3, u "PI"), (2, u "TAU"), (2, u "DEGREES_TO_RADIANS"), (0, u "RADIANS_TO_DEGREES")] 94

def k2m0 : Method := { name := "<init>", desc := "()V", sig := { parameters := [], returnType := none }, accessFlags := 2, code := none }
def k2c1 : Code := { maxStack := 2, maxLocals := 2, code := jdk_29_method_65_code, exceptionTable := #[], attributes := #[] }
def k2m1 : Method := { name := "max", desc := "(II)I", sig := { parameters := [.int, .int], returnType := some .int }, accessFlags := 9, code := some k2c1 }
/-- java/lang/Math -/
def k2 : Class := { plain "java/lang/Math" (some 0) with
  accessFlags := 49
  interfaces := #[]
  cf := some (fileOf pool2 1 #[.nestMembers #[98]] #[{ accessFlags := 2, nameIndex := 7, descriptorIndex := 8, attributes := #[] }, { accessFlags := 9, nameIndex := 198, descriptorIndex := 335, attributes := #[] }] 49 4 #[] #[{ accessFlags := 25, nameIndex := 354, descriptorIndex := 339, attributes := #[] }, { accessFlags := 25, nameIndex := 358, descriptorIndex := 339, attributes := #[] }, { accessFlags := 25, nameIndex := 361, descriptorIndex := 339, attributes := #[] }, { accessFlags := 26, nameIndex := 364, descriptorIndex := 339, attributes := #[] }, { accessFlags := 26, nameIndex := 365, descriptorIndex := 339, attributes := #[] }, { accessFlags := 26, nameIndex := 172, descriptorIndex := 173, attributes := #[] }, { accessFlags := 26, nameIndex := 176, descriptorIndex := 173, attributes := #[] }, { accessFlags := 8, nameIndex := 344, descriptorIndex := 339, attributes := #[] }, { accessFlags := 8, nameIndex := 338, descriptorIndex := 339, attributes := #[] }, { accessFlags := 4120, nameIndex := 245, descriptorIndex := 246, attributes := #[] }])
  fields := #[{ name := "E", type := .double, accessFlags := 25, slot := 0, constantValue := 0 }, { name := "PI", type := .double, accessFlags := 25, slot := 1, constantValue := 0 }, { name := "TAU", type := .double, accessFlags := 25, slot := 2, constantValue := 0 }, { name := "DEGREES_TO_RADIANS", type := .double, accessFlags := 26, slot := 3, constantValue := 0 }, { name := "RADIANS_TO_DEGREES", type := .double, accessFlags := 26, slot := 4, constantValue := 0 }, { name := "negativeZeroFloatBits", type := .long, accessFlags := 26, slot := 5, constantValue := 0 }, { name := "negativeZeroDoubleBits", type := .long, accessFlags := 26, slot := 6, constantValue := 0 }, { name := "twoToTheDoubleScaleUp", type := .double, accessFlags := 8, slot := 7, constantValue := 0 }, { name := "twoToTheDoubleScaleDown", type := .double, accessFlags := 8, slot := 8, constantValue := 0 }, { name := "$assertionsDisabled", type := .boolean, accessFlags := 4120, slot := 9, constantValue := 0 }]
  methods := #[k2m0, k2m1]
  instanceTypes := #[]
  staticTypes := #[.double, .double, .double, .double, .double, .long, .long, .double, .double, .boolean]
  resolved := Array.replicate 460 none
  statics := none }

def pool3 : Array CpInfo := pool [(1, .methodref 2 3), (0, .class_ 4), (0, .nameAndType 5 6), (0, u "java/lang/Object"), (0, u "<init>"), (0, u "()V"), (0, .class_ 8), (0, u "java/lang/Record")] 13

def k3c0 : Code := { maxStack := 1, maxLocals := 1, code := jdk_30_method_1_code, exceptionTable := #[], attributes := #[] }
def k3m0 : Method := { name := "<init>", desc := "()V", sig := { parameters := [], returnType := none }, accessFlags := 4, code := some k3c0 }
/-- java/lang/Record -/
def k3 : Class := { plain "java/lang/Record" (some 0) with
  accessFlags := 1057
  interfaces := #[]
  cf := some (fileOf pool3 7 #[] #[{ accessFlags := 4, nameIndex := 5, descriptorIndex := 6, attributes := #[] }] 1057 2 #[] #[])
  fields := #[]
  methods := #[k3m0]
  instanceTypes := #[]
  staticTypes := #[]
  resolved := Array.replicate 22 none
  statics := none }

def pool4 : Array CpInfo := pool [(1, .methodref 2 3), (0, .class_ 4), (0, .nameAndType 5 6), (0, u "java/lang/Record"), (0, u "<init>"), (0, u "()V"), (13, .fieldref 21 22), (0, .class_ 23), (0, .nameAndType 24 25), (0, u "com/example/urd/urd/model/Diagnosis"), (0, u "period"), (0, u "I"), (0, .fieldref 21 27), (0, .nameAndType 28 25), (0, u "threshold"), (14, u "(II)V"), (2, u "ONE_CYCLE"), (0, u "Lcom/example/urd/urd/model/Diagnosis;"), (4, u "startsPeriod"), (0, u "(I)Z")] 38

def k4c0 : Code := { maxStack := 4, maxLocals := 3, code := prog_23_method_1_code, exceptionTable := #[], attributes := #[] }
def k4m0 : Method := { name := "<init>", desc := "(II)V", sig := { parameters := [.int, .int], returnType := none }, accessFlags := 1, code := some k4c0 }
def k4c1 : Code := { maxStack := 2, maxLocals := 2, code := prog_23_method_2_code, exceptionTable := #[], attributes := #[] }
def k4m1 : Method := { name := "startsPeriod", desc := "(I)Z", sig := { parameters := [.int], returnType := some .boolean }, accessFlags := 1, code := some k4c1 }
/-- com/example/urd/urd/model/Diagnosis -/
def k4 : Class := { plain "com/example/urd/urd/model/Diagnosis" (some 3) with
  accessFlags := 49
  interfaces := #[]
  cf := some (fileOf pool4 21 #[] #[{ accessFlags := 1, nameIndex := 5, descriptorIndex := 43, attributes := #[] }, { accessFlags := 1, nameIndex := 52, descriptorIndex := 53, attributes := #[] }] 49 2 #[] #[{ accessFlags := 18, nameIndex := 24, descriptorIndex := 25, attributes := #[] }, { accessFlags := 18, nameIndex := 28, descriptorIndex := 25, attributes := #[] }, { accessFlags := 25, nameIndex := 46, descriptorIndex := 47, attributes := #[] }])
  fields := #[{ name := "period", type := .int, accessFlags := 18, slot := 0, constantValue := 0 }, { name := "threshold", type := .int, accessFlags := 18, slot := 1, constantValue := 0 }, { name := "ONE_CYCLE", type := (.object "com/example/urd/urd/model/Diagnosis"), accessFlags := 25, slot := 0, constantValue := 0 }]
  methods := #[k4m0, k4m1]
  instanceTypes := #[.int, .int]
  staticTypes := #[(.object "com/example/urd/urd/model/Diagnosis")]
  resolved := Array.replicate 92 none
  statics := none }

def pool5 : Array CpInfo := pool [(1, u "java/lang/Cloneable"), (0, .class_ 1), (0, u "java/lang/Object"), (0, .class_ 3)] 3

/-- java/lang/Cloneable -/
def k5 : Class := { plain "java/lang/Cloneable" (some 0) with
  accessFlags := 1537
  interfaces := #[]
  cf := some (fileOf pool5 2 #[] #[] 1537 4 #[] #[])
  fields := #[]
  methods := #[]
  instanceTypes := #[]
  staticTypes := #[]
  resolved := Array.replicate 8 none
  statics := none }

def pool6 : Array CpInfo := pool [(1, u "java/io/Serializable"), (0, .class_ 1), (0, u "java/lang/Object"), (0, .class_ 3)] 3

/-- java/io/Serializable -/
def k6 : Class := { plain "java/io/Serializable" (some 0) with
  accessFlags := 1537
  interfaces := #[]
  cf := some (fileOf pool6 2 #[] #[] 1537 4 #[] #[])
  fields := #[]
  methods := #[]
  instanceTypes := #[]
  staticTypes := #[]
  resolved := Array.replicate 8 none
  statics := none }

/-- the primitive byte -/
def k7 : Class := { plain "byte" none with kind := .primitive 'B', accessFlags := 0x411 }
/-- [B -/
def k8 : Class := { plain "[B" (some 0) with kind := .array 7 .byte, interfaces := #[5, 6], accessFlags := 1041 }

/-- the primitive int -/
def k9 : Class := { plain "int" none with kind := .primitive 'I', accessFlags := 0x411 }
/-- [I -/
def k10 : Class := { plain "[I" (some 0) with kind := .array 9 .int, interfaces := #[5, 6], accessFlags := 1041 }

def heap : Heap := #[]
def classes : Array Class := #[k0, k1, k2, k3, k4, k5, k6, k7, k8, k9, k10]
def interned : List (Array UInt16 × Addr) := []
def slotsUsed : Nat := 0
def theMethod : MethodId := ⟨1, 1⟩
def args0 : Array Value := #[.int 5, .int 6, .int 7, .int 8, .int 9]
def aboutOver (below : List Frame) : State where
  vm := { classes := classes, interned := interned.toArray }
  heap := heap
  slotsUsed := slotsUsed
  threads := #[{ frames := .invoking theMethod args0 :: below }]
def below0 : List Frame := [.native { method := ⟨0, 0⟩, args := #[] }]
def about1 : State := aboutOver below0
def p0 : Program := .bare "" "" ""
def e0 : Env := launch0.env 0 0 0
theorem w_frames : about1.frames = Frame.invoking theMethod args0 :: below0 := rfl
set_option maxRecDepth 65536 in
theorem w_args : argsFit about1.vm theMethod args0 = true := by decide +kernel
set_option maxRecDepth 65536 in
theorem w_heap : heapFits about1 = true := by decide +kernel
set_option maxRecDepth 65536 in
theorem w_runnable : about1.curStatus? = some .runnable := by decide +kernel
set_option maxRecDepth 65536 in
theorem w_alone : about1.alone = true := by decide +kernel
set_option maxRecDepth 65536 in
theorem w_named : about1.methodNamed? x = some theMethod := by decide +kernel
set_option maxRecDepth 65536 in
theorem w_hears : about1.hears theMethod below0 = true := by decide +kernel
set_option maxRecDepth 65536 in
theorem w_ripe : about1.ripe theMethod args0 below0 = true := by decide +kernel
theorem w_running : about1.status = .running := rfl
set_option maxRecDepth 65536 in
theorem w_room : about1.hasRoom e0.platform room_1 = true :=
  launch0.hasRoom_least _ room_1 (by decide +kernel) (by decide +kernel) (by decide +kernel) (by decide +kernel) (by decide +kernel) (by decide +kernel)
theorem allAtoms_all (ts : List Jvm.Cond) (a : Array Jvm.Value) (st : Jvm.State) : (allAtoms ts).before a st = ts.all (fun c => c.before a st) := by
  induction ts with
  | nil => rfl
  | cons c t ih =>
    show (Jvm.Cond.and c (allAtoms t)).before a st = _
    rw [Jvm.Cond.before_and, ih, List.all_cons]
def words1 : List Jvm.Cond := Jvm.Cond.code x code maxLocals ret :: tables_1
/-- a 'code' word, met by the world's own term for the bytes: nothing is compared byte by byte -/
theorem code_word {y : MethodName} {bytes : ByteArray} {mx : Nat} {rt : Option FieldType} {a : Array Value} {s : State} {m : MethodId} {meth : Method} {c : Code} (h1 : s.methodNamed? y = some m) (h2 : s.vm.method? m = some meth) (h3 : meth.code = some c) (h4 : c.code = bytes)
    (h5 : (c.maxLocals == mx && c.exceptionTable.isEmpty && decide (c.maxStack ≤ mostOperands) && decide (meth.sig.returnType = rt) && !meth.locks && decide (parseMethodDescriptor y.desc = some meth.sig)) = true) : (Jvm.Cond.code y bytes mx rt).before a s = true := by
  simp only [Bool.and_eq_true, beq_iff_eq, Bool.not_eq_true', decide_eq_true_eq] at h5
  obtain ⟨⟨⟨⟨⟨g1, g2⟩, g3⟩, g4⟩, g5⟩, g6⟩ := h5
  simp [Cond.before, Cond.holds, Cond.value, h1, h2, h3, h4, g1, g2, g3, g4, g5, g6]
def isCode : Jvm.Cond → Bool
  | .code _ _ _ _ => true
  | _ => false
theorem all_split {L : List Jvm.Cond} {P : Jvm.Cond → Bool} (h1 : L.all (fun c => isCode c || P c) = true) (h2 : ∀ c ∈ L.filter isCode, P c = true) : L.all P = true := by
  refine List.all_eq_true.mpr fun c hc => ?_
  have h := List.all_eq_true.mp h1 c hc
  rcases Bool.eq_false_or_eq_true (isCode c) with hi | hi
  · exact h2 c (List.mem_filter.mpr ⟨hc, hi⟩)
  · simpa [hi] using h
set_option maxRecDepth 65536 in
theorem w_c0 : (Jvm.Cond.code x code maxLocals ret).before args0 about1 = true := code_word (m := ⟨1, 1⟩) (meth := k1m1) (c := k1c1) (by decide +kernel) rfl rfl rfl (by decide +kernel)
set_option maxRecDepth 65536 in
theorem w_c1 : (Jvm.Cond.code ({ cls := "java/lang/Math", name := "max", desc := "(II)I" } : Jvm.MethodName) jdk_29_method_65_code (2 : Nat) (Option.some Jvm.ClassFile.FieldType.int)).before args0 about1 = true := code_word (m := ⟨2, 1⟩) (meth := k2m1) (c := k2c1) (by decide +kernel) rfl rfl rfl (by decide +kernel)
set_option maxRecDepth 65536 in
theorem w_c2 : (Jvm.Cond.code ({ cls := "com/example/urd/urd/model/Diagnosis", name := "<init>", desc := "(II)V" } : Jvm.MethodName) prog_23_method_1_code (3 : Nat) (Option.none : Option Jvm.ClassFile.FieldType)).before args0 about1 = true := code_word (m := ⟨4, 0⟩) (meth := k4m0) (c := k4c0) (by decide +kernel) rfl rfl rfl (by decide +kernel)
set_option maxRecDepth 65536 in
theorem w_c3 : (Jvm.Cond.code ({ cls := "java/lang/Record", name := "<init>", desc := "()V" } : Jvm.MethodName) jdk_30_method_1_code (1 : Nat) (Option.none : Option Jvm.ClassFile.FieldType)).before args0 about1 = true := code_word (m := ⟨3, 0⟩) (meth := k3m0) (c := k3c0) (by decide +kernel) rfl rfl rfl (by decide +kernel)
set_option maxRecDepth 65536 in
theorem w_c4 : (Jvm.Cond.code ({ cls := "java/lang/Object", name := "<init>", desc := "()V" } : Jvm.MethodName) object_method_1_code (1 : Nat) (Option.none : Option Jvm.ClassFile.FieldType)).before args0 about1 = true := code_word (m := ⟨0, 0⟩) (meth := k0m0) (c := k0c0) (by decide +kernel) rfl rfl rfl (by decide +kernel)
set_option maxRecDepth 65536 in
theorem w_c5 : (Jvm.Cond.code ({ cls := "com/example/urd/urd/model/Diagnosis", name := "startsPeriod", desc := "(I)Z" } : Jvm.MethodName) prog_23_method_2_code (2 : Nat) (Option.some Jvm.ClassFile.FieldType.boolean)).before args0 about1 = true := code_word (m := ⟨4, 1⟩) (meth := k4m1) (c := k4c1) (by decide +kernel) rfl rfl rfl (by decide +kernel)
def codes1 : List Jvm.Cond := [Jvm.Cond.code x code maxLocals ret, Jvm.Cond.code ({ cls := "java/lang/Math", name := "max", desc := "(II)I" } : Jvm.MethodName) jdk_29_method_65_code (2 : Nat) (Option.some Jvm.ClassFile.FieldType.int), Jvm.Cond.code ({ cls := "com/example/urd/urd/model/Diagnosis", name := "<init>", desc := "(II)V" } : Jvm.MethodName) prog_23_method_1_code (3 : Nat) (Option.none : Option Jvm.ClassFile.FieldType), Jvm.Cond.code ({ cls := "java/lang/Record", name := "<init>", desc := "()V" } : Jvm.MethodName) jdk_30_method_1_code (1 : Nat) (Option.none : Option Jvm.ClassFile.FieldType), Jvm.Cond.code ({ cls := "java/lang/Object", name := "<init>", desc := "()V" } : Jvm.MethodName) object_method_1_code (1 : Nat) (Option.none : Option Jvm.ClassFile.FieldType), Jvm.Cond.code ({ cls := "com/example/urd/urd/model/Diagnosis", name := "startsPeriod", desc := "(I)Z" } : Jvm.MethodName) prog_23_method_2_code (2 : Nat) (Option.some Jvm.ClassFile.FieldType.boolean)]
set_option maxRecDepth 65536 in
theorem codes_eq : words1.filter isCode = codes1 := rfl
theorem w_codes : ∀ c ∈ words1.filter isCode, c.before args0 about1 = true := by
  rw [codes_eq]
  intro c hc
  simp only [codes1, List.mem_cons, List.not_mem_nil, or_false] at hc
  rcases hc with rfl | rfl | rfl | rfl | rfl | rfl
  · exact w_c0
  · exact w_c1
  · exact w_c2
  · exact w_c3
  · exact w_c4
  · exact w_c5
set_option maxRecDepth 65536 in
theorem w_t1 : (words1.take 24).all (fun c => isCode c || c.before args0 about1) = true := by decide +kernel
set_option maxRecDepth 65536 in
theorem w_t2 : (words1.drop 24).all (fun c => isCode c || c.before args0 about1) = true := by decide +kernel
theorem w_tables : (allAtoms (Jvm.Cond.code x code maxLocals ret :: tables_1)).before args0 about1 = true := by
  rw [allAtoms_all]
  show words1.all (fun c => c.before args0 about1) = true
  refine all_split ?_ w_codes
  rw [← List.take_append_drop 24 words1, List.all_append, w_t1, w_t2]
  rfl
set_option maxRecDepth 65536 in
theorem w_case : (Jvm.Cond.and given_1 narrow_1).before args0 about1 = true := by decide +kernel
theorem w_applies : (headSpec (Jvm.Cond.code x code maxLocals ret :: tables_1) room_1).applies x e0.platform about1 = true :=
  (Spec.applies_iff w_frames).mpr ⟨w_running, w_runnable, w_alone, w_named, w_hears, w_ripe, w_room, w_tables⟩
theorem atStart : AtStart classFile x code maxLocals ret World_1 tables_1 room_1 Calls_1 rest_1 Pre_1 launch0 p0 e0 about1 theMethod args0 below0 :=
  ⟨lists_1, trivial, launch0.admits_env _ _ _, launch0.least_env, fairChoices_fair.cas, fairChoices_fair.clock, w_frames, w_args, w_heap, w_applies, trivial, trivial, w_case⟩
end start1
theorem witness_1 : WitnessClaimed_1 := ⟨start1.p0, start1.e0, start1.about1, start1.theMethod, start1.args0, start1.below0, start1.atStart⟩
end Jvm.Pilot.@@N@@
