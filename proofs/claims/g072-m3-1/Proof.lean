import JvmDerived
import JvmDerived.Pilot.@@N@@Statement
import JvmDerived.Pilot.@@N@@Code
set_option linter.unusedVariables false
set_option linter.unusedSimpArgs false
namespace Jvm.RoadKit
open Sem ClassFile Op Lib Jvm.Stand Jvm.Free Jvm.LawKit
section New
variable {p : Program} {l : Launch} {e : Env} {R : Room} {s : State} {m : MethodId} {args : Array Value} {below : List Frame} {meth : Method} {c : Code} {T : State} {locs : List Loc} {cells slots : Nat}
theorem retI (X : Stand p l e R s m args below meth c T locs cells slots) (hx : p.tables.exec = Jvm.exec) {pc : Nat} {Ls : Array Slot} {z : Int32} {rest : List Value} (hret : meth.sig.returnType = some .int) (hd : decode c.code pc = .ok (.ireturn, 1)) {fs : List Frame}
    (hl : ∀ (f : JFrame) (acts : List Action), f.method = m → f.locked = none → f.entered = [] → (doReturn e (T.setTop f) acts (some (.int z))).1 = T.setFrames fs) : Steps p.tables e below (T.setTop (mkF m pc Ls (.int z :: rest))) (T.setFrames fs) := by
  have hm' : T.vm.method? m = some meth := X.method'
  have hn : narrow .int (.int z) = .int z := rfl
  show Steps p.tables e below (T.setTop { method := m, pc := pc, locals := Ls, stack := _ :: rest, locked := none }) _
  jvm_step X.here [X.here.top, hx, hd, hm', hret, hn]
  first | (intro acts; rw [hl _ acts rfl rfl rfl]) | rw [hl _ _ rfl rfl rfl]
  exact Steps.refl _
end New
end Jvm.RoadKit
namespace Jvm.Pilot.@@N@@
open Jvm Jvm.ClassFile Sem Op Lib Jvm.Free Jvm.Stand Jvm.LawKit Jvm.RoadKit Bundle Jvm.Pilot.@@N@@.Jvm.D
theorem own_w {a0 : Array Value} {Z : State} (hw : ∀ d ∈ tables_1, d.before a0 Z = true) (i : Nat) {d : Jvm.Cond} (h : tables_1[i]? = some d) : d.before a0 Z = true := hw d (List.mem_of_getElem? h)
/-- from U the run comes to the method's end, and Q holds there -/
def own_Go (tb : Tables) (e : Env) (below : List Frame) (s : State) (C N : Nat) (Q : Option Value → Heap → List Loc → Prop) (U : State) : Prop :=
  ∃ t o, Steps tb e below U t ∧ t.status = .running ∧ Ended t below o ∧ ∃ v L, o = .returned v ∧ Q v t.heap L ∧ FrameEnd s o t L C N
theorem own_step {tb : Tables} {e : Env} {below : List Frame} {s : State} {C N : Nat} {Q : Option Value → Heap → List Loc → Prop} {U U' : State} (h : ∀ t, Steps tb e below U' t → Steps tb e below U t) (k : own_Go tb e below s C N Q U') : own_Go tb e below s C N Q U := by
  obtain ⟨t, o, h1, h2⟩ := k
  exact ⟨t, o, h t h1, h2⟩
theorem own_steps {tb : Tables} {e : Env} {below : List Frame} {s : State} {C N : Nat} {Q : Option Value → Heap → List Loc → Prop} {U U' : State} (h : Steps tb e below U U') (k : own_Go tb e below s C N Q U') : own_Go tb e below s C N Q U := own_step (fun _ q => h.trans q) k
theorem own_out {p : Program} {l : Launch} {e : Env} {R : Room} {s : State} {m : MethodId} {args : Array Value} {below : List Frame} {meth : Method} {c : Code} {T : State} {locs : List Loc} {cells slots : Nat} (X : Stand p l e R s m args below meth c T locs cells slots) {v : Option Value}
    (hlk : meth.locks = false) (hv : meth.sig.returnType = none → v = none) {C N : Nat} {Q : Option Value → Heap → List Loc → Prop} (hQ : Q v T.heap locs) (hC : cells ≤ C) (hN : slots ≤ N) {U : State}
    (k : ∀ fs, (∀ (f : JFrame) (acts : List Action), f.method = m → f.locked = none → f.entered = [] → (doReturn e (T.setTop f) acts v).1 = T.setFrames fs) → Steps p.tables e below U (T.setFrames fs)) : own_Go p.tables e below s C N Q U := by
  obtain ⟨fs, hr, hrun, hended, hW, hsame⟩ := X.leave hv hlk
  exact ⟨_, _, k fs hr, hrun, hended, _, _, rfl, hQ, ⟨_, rfl⟩, hW, hsame.mono hC hN⟩
theorem own_exaP {Z : State} {h : Heap} {a : Addr} {C : String} (E : Exa Z h a C) : ∀ c : Cell, h[a]? = some c → c.vm.isStatics = false := fun c hc => by
  obtain ⟨cell, k, h1, -, -, h4, -⟩ := E
  cases h1.symm.trans hc; exact h4
theorem own_staK {Z : State} {h h' : Heap} {C n d : String} {v : Value} {ws : List Addr} (S : Sta Z h C n d v) (K : Keep h h' ws) (q : ∀ w ∈ ws, ∀ c : Cell, h[w]? = some c → c.vm.isStatics = false) : Sta Z h' C n d v := by
  obtain ⟨cf, i, k, f, st, cell, h1, h2, h3, h4, h5, h6, h7⟩ := S
  exact ⟨cf, i, k, f, st, cell, h1, h2, h3, h4, K.2.1 st cell h5 (fun z => by have := q st z cell h5; rw [h6] at this; cases this), h6, h7⟩
theorem own_anyF {Z : State} {a0 : Array Value} {h : Heap} {a : Addr} {C O n d O' n' d' : String} {v' : Value} {k : Nat} (E : Exa Z h a C) (F : Fld Z h a O' n' d' v') (wi : (Cond.instantiable C k).before a0 Z = true) (L : Laid Z a0 C O n d) : ∃ v, Fld Z h a O n d v :=
  fld_laid E (by obtain ⟨cell, _, _, _, _, h1, _, _, h4, _⟩ := F; exact ⟨cell, h1, h4⟩) wi L
theorem own_nv {meth : Method} {t : FieldType} (h : meth.sig.returnType = some t) {v : Option Value} : meth.sig.returnType = none → v = none := fun q => by rw [h] at q; cases q
theorem pd__II_I : parseMethodDescriptor "(II)I" = some ⟨[.int, .int], some .int⟩ := by decide +kernel
theorem pd__II_Ljava_util_Optional_ : parseMethodDescriptor "(II)Ljava/util/Optional;" = some ⟨[.int, .int], some (.object "java/util/Optional")⟩ := by decide +kernel
theorem pd___Z : parseMethodDescriptor "()Z" = some ⟨[], some .boolean⟩ := by decide +kernel
theorem pd___Ljava_lang_Object_ : parseMethodDescriptor "()Ljava/lang/Object;" = some ⟨[], some (.object "java/lang/Object")⟩ := by decide +kernel
theorem pd___I : parseMethodDescriptor "()I" = some ⟨[], some .int⟩ := by decide +kernel
theorem pd___V : parseMethodDescriptor "()V" = some ⟨[], none⟩ := by decide +kernel
theorem pd__Ljava_lang_Object__Ljava_lang_Object_ : parseMethodDescriptor "(Ljava/lang/Object;)Ljava/lang/Object;" = some ⟨[(.object "java/lang/Object")], some (.object "java/lang/Object")⟩ := by decide +kernel
theorem pd__Ljava_lang_Object__V : parseMethodDescriptor "(Ljava/lang/Object;)V" = some ⟨[(.object "java/lang/Object")], none⟩ := by decide +kernel
theorem pd__II_V : parseMethodDescriptor "(II)V" = some ⟨[.int, .int], none⟩ := by decide +kernel
theorem pd__Ljava_lang_Object__Ljava_util_Optional_ : parseMethodDescriptor "(Ljava/lang/Object;)Ljava/util/Optional;" = some ⟨[(.object "java/lang/Object")], some (.object "java/util/Optional")⟩ := by decide +kernel
theorem pd___Ljava_util_Optional_ : parseMethodDescriptor "()Ljava/util/Optional;" = some ⟨[], some (.object "java/util/Optional")⟩ := by decide +kernel

theorem own_no32 {x : Int32} (h : ¬ (1 : Int32) < x) : ¬ (32 : Int32) < x := by
  have e1 : (1 : Int32).toInt = 1 := by decide
  have e32 : (32 : Int32).toInt = 32 := by decide
  rw [Int32.lt_iff_toInt_lt] at h ⊢
  omega

theorem d1_0 : decode jdk_29_method_69_code 0 = .ok (.iload_n 0, 1) := by decide +kernel
theorem d1_1 : decode jdk_29_method_69_code 1 = .ok (.iload_n 1, 1) := by decide +kernel
theorem d1_2 : decode jdk_29_method_69_code 2 = .ok (.if_icmp .gt 7, 3) := by decide +kernel
theorem d1_5 : decode jdk_29_method_69_code 5 = .ok (.iload_n 0, 1) := by decide +kernel
theorem d1_6 : decode jdk_29_method_69_code 6 = .ok (.goto 4, 3) := by decide +kernel
theorem d1_9 : decode jdk_29_method_69_code 9 = .ok (.iload_n 1, 1) := by decide +kernel
theorem d1_10 : decode jdk_29_method_69_code 10 = .ok (.ireturn, 1) := by decide +kernel
theorem ef_1 (m : MethodId) (p0 : Int32) (p1 : Int32) : entryFrame m #[(.int p0), (.int p1)] 2 = mkF m 0 #[iv p0, iv p1] [] := by first | (simp [entryFrame, mkF, argsToLocals, Value.category]; done) | rfl
def F1 (p0 : Int32) (p1 : Int32) : Int32 :=
  if p1 < p0 then
    p1
  else
    p0
def Q1 (Z : State) (p0 : Int32) (p1 : Int32) (h0 : Heap) (n0 : Nat) (v : Option Value) (h : Heap) (L : List Loc) : Prop := v = some (.int (F1 p0 p1)) ∧ Fr n0 L ∧ h = h0
set_option maxRecDepth 65536 in
set_option maxHeartbeats 40000000 in
theorem rm1 (l : Launch) (Z : State) (a0 : Array Value) (hw : ∀ d ∈ tables_1, d.before a0 Z = true) (ws : List Jvm.Cond) (p0 : Int32) (p1 : Int32) (h0 : Heap) (n0 : Nat) (Z0 : n0 ≤ h0.size) :
    MetFree l (⟨"java/lang/Math", "min", "(II)I"⟩ : MethodName) (head1 (Jvm.Cond.code (⟨"java/lang/Math", "min", "(II)I"⟩ : MethodName) jdk_29_method_69_code 2 (some .int) :: ws) ({ frames := 0, cells := 0, slots := 0, locals := 0 } : Room)) (fun a U => a = #[(.int p0), (.int p1)] ∧ Z.Warmed39 U.vm ∧ U.heap = h0) (fun _ _ _ _ _ => True) (fun _ U o U' => ∃ v L, o = .returned v ∧ Q1 Z p0 p1 h0 n0 v U'.heap L ∧ FrameEnd U o U' L ({ frames := 0, cells := 0, slots := 0, locals := 0 } : Room).cells ({ frames := 0, cells := 0, slots := 0, locals := 0 } : Room).slots) := by
  refine MetFree.of_bodySF (Jvm.Free.JP.mathPlain rfl (by decide +kernel)) hisR ?_
  intro p e s m args below meth c s₁ Bd hml0 hP hK
  obtain ⟨rfl, hZ, hh⟩ := hP
  have hx := Bd.exec
  have hby := Bd.bytes
  have hml : c.maxLocals = 2 := hml0
  have hown : s.vm.findClass "java/lang/Math" = some m.cls := findClass_of_methodNamed Bd.named
  have hnm := (name_of_methodNamed Bd.named Bd.method).1
  have hlk : meth.locks = false := Bd.notSynchronized
  have X0 : Stand p l e ({ frames := 0, cells := 0, slots := 0, locals := 0 } : Room) s m #[(.int p0), (.int p1)] below meth c s₁ [] 0 0 := Stand.of_body Bd
  have e0 : s₁.heap = h0 := by rw [← hh, Bd.state]; rfl
  have N0 := Fr.nil n0
  have KK0 := Keep.refl h0 []
  show own_Go p.tables e below s 0 0 (Q1 Z p0 p1 h0 n0) (s₁.setTop (entryFrame m #[(.int p0), (.int p1)] 2))
  rw [ef_1]
  refine own_step (U' := s₁.setTop (mkF m 2 #[iv p0, iv p1] [(.int p1), (.int p0)])) (fun t k => XS.iloadN X0.here hx rfl (hb hby d1_0) rfl (XS.iloadN X0.here hx rfl (hb hby d1_1) rfl k)) ?_
  by_cases hc2_1 : p1 < p0
  · refine own_step (U' := s₁.setTop (mkF m 10 #[iv p0, iv p1] [(.int p1)])) (fun t k => XS.icmpYes X0.here hx rfl (pc0 := 2) (pc' := 9) rfl (hb hby d1_2) rfl (tlt hc2_1).2.2.1 (by decide) (by decide) (XS.iloadN X0.here hx rfl (hb hby d1_9) rfl k)) ?_
    exact own_out X0 (v := (some (.int p1))) hlk (own_nv Bd.returns) (by rw [e0]; exact ⟨by rw [show (F1 p0 p1) = p1 from (by simp only [F1, if_pos hc2_1])], N0, rfl⟩) (by decide) (by decide) (fun fs hr => retI X0 hx Bd.returns (hb hby d1_10) hr)
  · refine own_step (U' := s₁.setTop (mkF m 10 #[iv p0, iv p1] [(.int p0)])) (fun t k => XS.icmpNo X0.here hx rfl (hb hby d1_2) rfl (flt hc2_1).2.2.1 (XS.iloadN X0.here hx rfl (hb hby d1_5) rfl (XS.goto X0.here hx rfl (pc0 := 6) (pc' := 10) rfl (hb hby d1_6) (by decide) (by decide) k))) ?_
    exact own_out X0 (v := (some (.int p0))) hlk (own_nv Bd.returns) (by rw [e0]; exact ⟨by rw [show (F1 p0 p1) = p0 from (by simp only [F1, if_neg hc2_1])], N0, rfl⟩) (by decide) (by decide) (fun fs hr => retI X0 hx Bd.returns (hb hby d1_10) hr)
theorem d2_0 : decode jdk_29_method_65_code 0 = .ok (.iload_n 0, 1) := by decide +kernel
theorem d2_1 : decode jdk_29_method_65_code 1 = .ok (.iload_n 1, 1) := by decide +kernel
theorem d2_2 : decode jdk_29_method_65_code 2 = .ok (.if_icmp .lt 7, 3) := by decide +kernel
theorem d2_5 : decode jdk_29_method_65_code 5 = .ok (.iload_n 0, 1) := by decide +kernel
theorem d2_6 : decode jdk_29_method_65_code 6 = .ok (.goto 4, 3) := by decide +kernel
theorem d2_9 : decode jdk_29_method_65_code 9 = .ok (.iload_n 1, 1) := by decide +kernel
theorem d2_10 : decode jdk_29_method_65_code 10 = .ok (.ireturn, 1) := by decide +kernel
theorem ef_2 (m : MethodId) (p0 : Int32) (p1 : Int32) : entryFrame m #[(.int p0), (.int p1)] 2 = mkF m 0 #[iv p0, iv p1] [] := by first | (simp [entryFrame, mkF, argsToLocals, Value.category]; done) | rfl
def F2 (p0 : Int32) (p1 : Int32) : Int32 :=
  if p0 < p1 then
    p1
  else
    p0
def Q2 (Z : State) (p0 : Int32) (p1 : Int32) (h0 : Heap) (n0 : Nat) (v : Option Value) (h : Heap) (L : List Loc) : Prop := v = some (.int (F2 p0 p1)) ∧ Fr n0 L ∧ h = h0
set_option maxRecDepth 65536 in
set_option maxHeartbeats 40000000 in
theorem rm2 (l : Launch) (Z : State) (a0 : Array Value) (hw : ∀ d ∈ tables_1, d.before a0 Z = true) (ws : List Jvm.Cond) (p0 : Int32) (p1 : Int32) (h0 : Heap) (n0 : Nat) (Z0 : n0 ≤ h0.size) :
    MetFree l (⟨"java/lang/Math", "max", "(II)I"⟩ : MethodName) (head1 (Jvm.Cond.code (⟨"java/lang/Math", "max", "(II)I"⟩ : MethodName) jdk_29_method_65_code 2 (some .int) :: ws) ({ frames := 0, cells := 0, slots := 0, locals := 0 } : Room)) (fun a U => a = #[(.int p0), (.int p1)] ∧ Z.Warmed39 U.vm ∧ U.heap = h0) (fun _ _ _ _ _ => True) (fun _ U o U' => ∃ v L, o = .returned v ∧ Q2 Z p0 p1 h0 n0 v U'.heap L ∧ FrameEnd U o U' L ({ frames := 0, cells := 0, slots := 0, locals := 0 } : Room).cells ({ frames := 0, cells := 0, slots := 0, locals := 0 } : Room).slots) := by
  refine MetFree.of_bodySF (Jvm.Free.JP.mathPlain rfl (by decide +kernel)) hisR ?_
  intro p e s m args below meth c s₁ Bd hml0 hP hK
  obtain ⟨rfl, hZ, hh⟩ := hP
  have hx := Bd.exec
  have hby := Bd.bytes
  have hml : c.maxLocals = 2 := hml0
  have hown : s.vm.findClass "java/lang/Math" = some m.cls := findClass_of_methodNamed Bd.named
  have hnm := (name_of_methodNamed Bd.named Bd.method).1
  have hlk : meth.locks = false := Bd.notSynchronized
  have X0 : Stand p l e ({ frames := 0, cells := 0, slots := 0, locals := 0 } : Room) s m #[(.int p0), (.int p1)] below meth c s₁ [] 0 0 := Stand.of_body Bd
  have e0 : s₁.heap = h0 := by rw [← hh, Bd.state]; rfl
  have N0 := Fr.nil n0
  have KK0 := Keep.refl h0 []
  show own_Go p.tables e below s 0 0 (Q2 Z p0 p1 h0 n0) (s₁.setTop (entryFrame m #[(.int p0), (.int p1)] 2))
  rw [ef_2]
  refine own_step (U' := s₁.setTop (mkF m 2 #[iv p0, iv p1] [(.int p1), (.int p0)])) (fun t k => XS.iloadN X0.here hx rfl (hb hby d2_0) rfl (XS.iloadN X0.here hx rfl (hb hby d2_1) rfl k)) ?_
  by_cases hc2_1 : p0 < p1
  · refine own_step (U' := s₁.setTop (mkF m 10 #[iv p0, iv p1] [(.int p1)])) (fun t k => XS.icmpYes X0.here hx rfl (pc0 := 2) (pc' := 9) rfl (hb hby d2_2) rfl (tlt hc2_1).1 (by decide) (by decide) (XS.iloadN X0.here hx rfl (hb hby d2_9) rfl k)) ?_
    exact own_out X0 (v := (some (.int p1))) hlk (own_nv Bd.returns) (by rw [e0]; exact ⟨by rw [show (F2 p0 p1) = p1 from (by simp only [F2, if_pos hc2_1])], N0, rfl⟩) (by decide) (by decide) (fun fs hr => retI X0 hx Bd.returns (hb hby d2_10) hr)
  · refine own_step (U' := s₁.setTop (mkF m 10 #[iv p0, iv p1] [(.int p0)])) (fun t k => XS.icmpNo X0.here hx rfl (hb hby d2_2) rfl (flt hc2_1).1 (XS.iloadN X0.here hx rfl (hb hby d2_5) rfl (XS.goto X0.here hx rfl (pc0 := 6) (pc' := 10) rfl (hb hby d2_6) (by decide) (by decide) k))) ?_
    exact own_out X0 (v := (some (.int p0))) hlk (own_nv Bd.returns) (by rw [e0]; exact ⟨by rw [show (F2 p0 p1) = p0 from (by simp only [F2, if_neg hc2_1])], N0, rfl⟩) (by decide) (by decide) (fun fs hr => retI X0 hx Bd.returns (hb hby d2_10) hr)
theorem d5_0 : decode jdk_30_method_1_code 0 = .ok (.aload_n 0, 1) := by decide +kernel
theorem d5_1 : decode jdk_30_method_1_code 1 = .ok (.invokespecial 1, 3) := by decide +kernel
theorem d5_4 : decode jdk_30_method_1_code 4 = .ok (.return_, 1) := by decide +kernel
theorem pn_5 : plainName "java/lang/Record" = true := by first | (simp [plainName, overriddenIn]; done) | decide +kernel
theorem ef_5 (m : MethodId) (r0 : Addr) : entryFrame m #[(.ref r0)] 1 = mkF m 0 #[rv r0] [] := by first | (simp [entryFrame, mkF, argsToLocals, Value.category]; done) | rfl
def Q5 (Z : State) (r0 : Addr) (h0 : Heap) (n0 : Nat) (v : Option Value) (h : Heap) (L : List Loc) : Prop := v = none ∧ Fr n0 L ∧ h = h0
set_option maxRecDepth 65536 in
set_option maxHeartbeats 40000000 in
theorem rm5 (l : Launch) (Z : State) (a0 : Array Value) (hw : ∀ d ∈ tables_1, d.before a0 Z = true) (ws : List Jvm.Cond) (r0 : Addr) (h0 : Heap) (n0 : Nat) (Z0 : n0 ≤ h0.size) :
    MetFree l (⟨"java/lang/Record", "<init>", "()V"⟩ : MethodName) (head1 (Jvm.Cond.code (⟨"java/lang/Record", "<init>", "()V"⟩ : MethodName) jdk_30_method_1_code 1 none :: ws) ({ frames := 1, cells := 0, slots := 0, locals := 12 } : Room)) (fun a U => a = #[(.ref r0)] ∧ Z.Warmed39 U.vm ∧ U.heap = h0) (fun _ _ _ _ _ => True) (fun _ U o U' => ∃ v L, o = .returned v ∧ Q5 Z r0 h0 n0 v U'.heap L ∧ FrameEnd U o U' L ({ frames := 1, cells := 0, slots := 0, locals := 12 } : Room).cells ({ frames := 1, cells := 0, slots := 0, locals := 12 } : Room).slots) := by
  refine MetFree.of_bodySF (plainFor_of_name pn_5) hisR ?_
  intro p e s m args below meth c s₁ Bd hml0 hP hK
  obtain ⟨rfl, hZ, hh⟩ := hP
  have hx := Bd.exec
  have hby := Bd.bytes
  have hml : c.maxLocals = 1 := hml0
  have hown : s.vm.findClass "java/lang/Record" = some m.cls := findClass_of_methodNamed Bd.named
  have hnm := (name_of_methodNamed Bd.named Bd.method).1
  have hlk : meth.locks = false := Bd.notSynchronized
  have X0 : Stand p l e ({ frames := 1, cells := 0, slots := 0, locals := 12 } : Room) s m #[(.ref r0)] below meth c s₁ [] 0 0 := Stand.of_body Bd
  have e0 : s₁.heap = h0 := by rw [← hh, Bd.state]; rfl
  have N0 := Fr.nil n0
  have KK0 := Keep.refl h0 []
  show own_Go p.tables e below s 0 0 (Q5 Z r0 h0 n0) (s₁.setTop (entryFrame m #[(.ref r0)] 1))
  rw [ef_5]
  refine own_step (U' := s₁.setTop (mkF m 1 #[rv r0] [(.ref r0)])) (fun t k => XS.aloadN X0.here hx rfl (hb hby d5_0) rfl rfl k) ?_
  obtain ⟨T1, X1, e1, st1⟩ := initO X0 hx hZ hown (own_w hw 23 rfl) (own_w hw 24 rfl) (own_w hw 25 rfl) e0 (g := (mkF m 1 #[rv r0] [(.ref r0)])) rfl (by rw [hml]; rfl) rfl (hb hby d5_1) (by decide) (W := 0) (by show 2 * 0 + _ ≤ _; exact Nat.le_of_eq rfl) (by decide)
  refine own_step (U' := T1.setTop (mkF m 4 #[rv r0] [])) st1 ?_
  exact own_out X1 (v := none) hlk (fun _ => rfl) (by rw [e1]; exact ⟨rfl, N0, rfl⟩) (by decide) (by decide) (fun fs hr => X1.returnOut hx Bd.returns (hb hby d5_4) hr)
theorem d4_0 : decode prog_35_method_1_code 0 = .ok (.aload_n 0, 1) := by decide +kernel
theorem d4_1 : decode prog_35_method_1_code 1 = .ok (.invokespecial 1, 3) := by decide +kernel
theorem d4_4 : decode prog_35_method_1_code 4 = .ok (.aload_n 0, 1) := by decide +kernel
theorem d4_5 : decode prog_35_method_1_code 5 = .ok (.iload_n 1, 1) := by decide +kernel
theorem d4_6 : decode prog_35_method_1_code 6 = .ok (.putfield 7, 3) := by decide +kernel
theorem d4_9 : decode prog_35_method_1_code 9 = .ok (.aload_n 0, 1) := by decide +kernel
theorem d4_10 : decode prog_35_method_1_code 10 = .ok (.iload_n 2, 1) := by decide +kernel
theorem d4_11 : decode prog_35_method_1_code 11 = .ok (.putfield 13, 3) := by decide +kernel
theorem d4_14 : decode prog_35_method_1_code 14 = .ok (.return_, 1) := by decide +kernel
theorem pn_4 : plainName "com/example/termstone/termstone/MergePolicy$Run" = true := by first | (simp [plainName, overriddenIn]; done) | decide +kernel
theorem ef_4 (m : MethodId) (r0 : Addr) (p1 : Int32) (p2 : Int32) : entryFrame m #[(.ref r0), (.int p1), (.int p2)] 3 = mkF m 0 #[rv r0, iv p1, iv p2] [] := by first | (simp [entryFrame, mkF, argsToLocals, Value.category]; done) | rfl
def Q4 (Z : State) (r0 : Addr) (p1 : Int32) (p2 : Int32) (h0 : Heap) (n0 : Nat) (v : Option Value) (h : Heap) (L : List Loc) : Prop := v = none ∧ Fr n0 L ∧ Keep h0 h [r0] ∧ Exa Z h r0 "com/example/termstone/termstone/MergePolicy$Run" ∧ Fld Z h r0 "com/example/termstone/termstone/MergePolicy$Run" "from" "I" (.int p1) ∧ Fld Z h r0 "com/example/termstone/termstone/MergePolicy$Run" "to" "I" (.int p2)
set_option maxRecDepth 65536 in
set_option maxHeartbeats 40000000 in
theorem rm4 (l : Launch) (Z : State) (a0 : Array Value) (hw : ∀ d ∈ tables_1, d.before a0 Z = true) (ws : List Jvm.Cond) (r0 : Addr) (p1 : Int32) (p2 : Int32) (h0 : Heap) (n0 : Nat) (Z0 : n0 ≤ h0.size) (E_r0 : Exa Z h0 r0 "com/example/termstone/termstone/MergePolicy$Run") (F_from_r0 : Fld Z h0 r0 "com/example/termstone/termstone/MergePolicy$Run" "from" "I" (.int (0 : Int32))) (F_to_r0 : Fld Z h0 r0 "com/example/termstone/termstone/MergePolicy$Run" "to" "I" (.int (0 : Int32))) (g_r0 : n0 ≤ r0) :
    MetFree l (⟨"com/example/termstone/termstone/MergePolicy$Run", "<init>", "(II)V"⟩ : MethodName) (head1 (Jvm.Cond.code (⟨"com/example/termstone/termstone/MergePolicy$Run", "<init>", "(II)V"⟩ : MethodName) prog_35_method_1_code 3 none :: ws) ({ frames := 2, cells := 0, slots := 0, locals := 24 } : Room)) (fun a U => a = #[(.ref r0), (.int p1), (.int p2)] ∧ Z.Warmed39 U.vm ∧ U.heap = h0) (fun _ _ _ _ _ => True) (fun _ U o U' => ∃ v L, o = .returned v ∧ Q4 Z r0 p1 p2 h0 n0 v U'.heap L ∧ FrameEnd U o U' L ({ frames := 2, cells := 0, slots := 0, locals := 24 } : Room).cells ({ frames := 2, cells := 0, slots := 0, locals := 24 } : Room).slots) := by
  refine MetFree.of_bodySF (plainFor_of_name pn_4) hisR ?_
  intro p e s m args below meth c s₁ Bd hml0 hP hK
  obtain ⟨rfl, hZ, hh⟩ := hP
  have hx := Bd.exec
  have hby := Bd.bytes
  have hml : c.maxLocals = 3 := hml0
  have hown : s.vm.findClass "com/example/termstone/termstone/MergePolicy$Run" = some m.cls := findClass_of_methodNamed Bd.named
  have hnm := (name_of_methodNamed Bd.named Bd.method).1
  have hlk : meth.locks = false := Bd.notSynchronized
  have X0 : Stand p l e ({ frames := 2, cells := 0, slots := 0, locals := 24 } : Room) s m #[(.ref r0), (.int p1), (.int p2)] below meth c s₁ [] 0 0 := Stand.of_body Bd
  have e0 : s₁.heap = h0 := by rw [← hh, Bd.state]; rfl
  have N0 := Fr.nil n0
  have KK0 := Keep.refl h0 [r0]
  show own_Go p.tables e below s 0 0 (Q4 Z r0 p1 p2 h0 n0) (s₁.setTop (entryFrame m #[(.ref r0), (.int p1), (.int p2)] 3))
  rw [ef_4]
  refine own_step (U' := s₁.setTop (mkF m 1 #[rv r0, iv p1, iv p2] [(.ref r0)])) (fun t k => XS.aloadN X0.here hx rfl (hb hby d4_0) rfl rfl k) ?_
  obtain ⟨_, _, ⟨T1, L1, k1, n1⟩, -, X1, ⟨Lc1, hQ1, l1, y1, z1⟩, st1⟩ := X0.specialBack hx (y := (⟨"java/lang/Record", "<init>", "()V"⟩ : MethodName)) rfl hown (mvT hZ (own_w hw 18 rfl)) (mvT hZ (own_w hw 19 rfl)) (mvT hZ (own_w hw 22 rfl)) (by decide) (backOf (W := 0) (rm5 l Z a0 hw [] r0 h0 n0 Z0) hZ (own_w hw 22 rfl) (own_w hw 21 rfl) (by decide) (by decide)) (g := (mkF m 1 #[rv r0, iv p1, iv p2] [(.ref r0)])) rfl (by rw [hml]; rfl) (Steps.refl _) (a := r0) (argsL := []) (rest := []) (lenOf pd___V rfl) rfl (by show 2 * 0 + _ ≤ _; exact Nat.le_of_eq rfl) (hb hby d4_1) (fun _ _ => ⟨rfl, e0, (by decide : 0 + 0 ≤ _), (by decide : 0 + 0 ≤ _)⟩)
  dsimp only [Pt.U, Pt.locs, Pt.cells, Pt.slots] at X1 l1 y1 z1 st1 hQ1
  subst l1 y1 z1
  obtain ⟨rfl, N1q, eq1⟩ := hQ1
  have N1 := Fr.app N0 N1q
  refine own_steps (U' := T1.setTop (mkF m 4 #[rv r0, iv p1, iv p2] [])) st1 ?_
  refine own_step (U' := T1.setTop (mkF m 6 #[rv r0, iv p1, iv p2] [(.int p1), (.ref r0)])) (fun t k => XS.aloadN X1.here hx rfl (hb hby d4_4) rfl rfl (XS.iloadN X1.here hx rfl (hb hby d4_5) rfl k)) ?_
  obtain ⟨T2, h2, X2, e2, W2, st2⟩ := putF X1 hx hZ hown (host := "") (Or.inl (own_w hw 26 rfl)) Via.refl eq1 F_from_r0 E_r0 (Or.inr ⟨(own_w hw 27 rfl), rfl, hnm⟩) (own_w hw 13 rfl) (ty := .int) (by decide) rfl rfl (g := (mkF m 6 #[rv r0, iv p1, iv p2] [(.int p1), (.ref r0)])) rfl rfl (hb hby d4_6)
  have E_r0_2 := E_r0.wr W2
  have F_to_r0_2 := F_to_r0.other W2 (Or.inr (slot_ne (Or.inr (own_w hw 29 rfl)) (Or.inr (own_w hw 27 rfl)) (by decide) (t := .int) (t' := .int) (by decide) (by decide)))
  have F_from_r0_2 := F_from_r0.same W2
  have Z2 : n0 ≤ h2.size := Nat.le_trans Z0 (Keep.of_wr W2).1
  have KK2 := KK0.wr W2 (Or.inl (List.mem_of_getElem? (i := 0) rfl))
  have N2 := Fr.snoc X2 N1 g_r0
  refine own_step (U' := T2.setTop (mkF m 9 #[rv r0, iv p1, iv p2] [])) st2 ?_
  refine own_step (U' := T2.setTop (mkF m 11 #[rv r0, iv p1, iv p2] [(.int p2), (.ref r0)])) (fun t k => XS.aloadN X2.here hx rfl (hb hby d4_9) rfl rfl (XS.iloadN X2.here hx rfl (hb hby d4_10) rfl k)) ?_
  obtain ⟨T3, h3, X3, e3, W3, st3⟩ := putF X2 hx hZ hown (host := "") (Or.inl (own_w hw 28 rfl)) Via.refl e2 F_to_r0_2 E_r0_2 (Or.inr ⟨(own_w hw 29 rfl), rfl, hnm⟩) (own_w hw 13 rfl) (ty := .int) (by decide) rfl rfl (g := (mkF m 11 #[rv r0, iv p1, iv p2] [(.int p2), (.ref r0)])) rfl rfl (hb hby d4_11)
  have E_r0_3 := E_r0_2.wr W3
  have F_from_r0_3 := F_from_r0_2.other W3 (Or.inr (slot_ne (Or.inr (own_w hw 27 rfl)) (Or.inr (own_w hw 29 rfl)) (by decide) (t := .int) (t' := .int) (by decide) (by decide)))
  have F_to_r0_3 := F_to_r0_2.same W3
  have Z3 : n0 ≤ h3.size := Nat.le_trans Z2 (Keep.of_wr W3).1
  have KK3 := KK2.wr W3 (Or.inl (List.mem_of_getElem? (i := 0) rfl))
  have N3 := Fr.snoc X3 N2 g_r0
  refine own_step (U' := T3.setTop (mkF m 14 #[rv r0, iv p1, iv p2] [])) st3 ?_
  exact own_out X3 (v := none) hlk (fun _ => rfl) (by rw [e3]; exact ⟨rfl, N3, KK3, E_r0_3, F_from_r0_3, F_to_r0_3⟩) (by decide) (by decide) (fun fs hr => X3.returnOut hx Bd.returns (hb hby d4_14) hr)
theorem d8_0 : decode jdk_31_method_10_code 0 = .ok (.aload_n 0, 1) := by decide +kernel
theorem d8_1 : decode jdk_31_method_10_code 1 = .ok (.ifnonnull 11, 3) := by decide +kernel
theorem d8_12 : decode jdk_31_method_10_code 12 = .ok (.aload_n 0, 1) := by decide +kernel
theorem d8_13 : decode jdk_31_method_10_code 13 = .ok (.areturn, 1) := by decide +kernel
theorem pn_8 : plainName "java/util/Objects" = true := by first | (simp [plainName, overriddenIn]; done) | decide +kernel
theorem ef_8 (m : MethodId) (r0 : Addr) : entryFrame m #[(.ref r0)] 1 = mkF m 0 #[rv r0] [] := by first | (simp [entryFrame, mkF, argsToLocals, Value.category]; done) | rfl
def Q8 (Z : State) (r0 : Addr) (h0 : Heap) (n0 : Nat) (v : Option Value) (h : Heap) (L : List Loc) : Prop := v = some (.ref r0) ∧ Fr n0 L ∧ h = h0
set_option maxRecDepth 65536 in
set_option maxHeartbeats 40000000 in
theorem rm8 (l : Launch) (Z : State) (a0 : Array Value) (hw : ∀ d ∈ tables_1, d.before a0 Z = true) (ws : List Jvm.Cond) (r0 : Addr) (h0 : Heap) (n0 : Nat) (Z0 : n0 ≤ h0.size) :
    MetFree l (⟨"java/util/Objects", "requireNonNull", "(Ljava/lang/Object;)Ljava/lang/Object;"⟩ : MethodName) (head1 (Jvm.Cond.code (⟨"java/util/Objects", "requireNonNull", "(Ljava/lang/Object;)Ljava/lang/Object;"⟩ : MethodName) jdk_31_method_10_code 1 (some (.object "java/lang/Object")) :: ws) ({ frames := 0, cells := 0, slots := 0, locals := 0 } : Room)) (fun a U => a = #[(.ref r0)] ∧ Z.Warmed39 U.vm ∧ U.heap = h0) (fun _ _ _ _ _ => True) (fun _ U o U' => ∃ v L, o = .returned v ∧ Q8 Z r0 h0 n0 v U'.heap L ∧ FrameEnd U o U' L ({ frames := 0, cells := 0, slots := 0, locals := 0 } : Room).cells ({ frames := 0, cells := 0, slots := 0, locals := 0 } : Room).slots) := by
  refine MetFree.of_bodySF (plainFor_of_name pn_8) hisR ?_
  intro p e s m args below meth c s₁ Bd hml0 hP hK
  obtain ⟨rfl, hZ, hh⟩ := hP
  have hx := Bd.exec
  have hby := Bd.bytes
  have hml : c.maxLocals = 1 := hml0
  have hown : s.vm.findClass "java/util/Objects" = some m.cls := findClass_of_methodNamed Bd.named
  have hnm := (name_of_methodNamed Bd.named Bd.method).1
  have hlk : meth.locks = false := Bd.notSynchronized
  have X0 : Stand p l e ({ frames := 0, cells := 0, slots := 0, locals := 0 } : Room) s m #[(.ref r0)] below meth c s₁ [] 0 0 := Stand.of_body Bd
  have e0 : s₁.heap = h0 := by rw [← hh, Bd.state]; rfl
  have N0 := Fr.nil n0
  have KK0 := Keep.refl h0 []
  show own_Go p.tables e below s 0 0 (Q8 Z r0 h0 n0) (s₁.setTop (entryFrame m #[(.ref r0)] 1))
  rw [ef_8]
  refine own_step (U' := s₁.setTop (mkF m 13 #[rv r0] [(.ref r0)])) (fun t k => XS.aloadN X0.here hx rfl (hb hby d8_0) rfl rfl (XS.ifnonnullYes X0.here hx rfl (pc0 := 1) (pc' := 12) rfl (hb hby d8_1) rfl (by decide) (by decide) (XS.aloadN X0.here hx rfl (hb hby d8_12) rfl rfl k))) ?_
  exact own_out X0 (v := (some (.ref r0))) hlk (own_nv Bd.returns) (by rw [e0]; exact ⟨rfl, N0, rfl⟩) (by decide) (by decide) (fun fs hr => X0.areturnOut hx rfl Bd.returns rfl (hb hby d8_13) hr)
theorem d9_0 : decode jdk_32_method_2_code 0 = .ok (.aload_n 0, 1) := by decide +kernel
theorem d9_1 : decode jdk_32_method_2_code 1 = .ok (.invokespecial 7, 3) := by decide +kernel
theorem d9_4 : decode jdk_32_method_2_code 4 = .ok (.aload_n 0, 1) := by decide +kernel
theorem d9_5 : decode jdk_32_method_2_code 5 = .ok (.aload_n 1, 1) := by decide +kernel
theorem d9_6 : decode jdk_32_method_2_code 6 = .ok (.putfield 13, 3) := by decide +kernel
theorem d9_9 : decode jdk_32_method_2_code 9 = .ok (.return_, 1) := by decide +kernel
theorem pn_9 : plainName "java/util/Optional" = true := by first | (simp [plainName, overriddenIn]; done) | decide +kernel
theorem ef_9 (m : MethodId) (r0 : Addr) (r1 : Addr) : entryFrame m #[(.ref r0), (.ref r1)] 2 = mkF m 0 #[rv r0, rv r1] [] := by first | (simp [entryFrame, mkF, argsToLocals, Value.category]; done) | rfl
def Q9 (Z : State) (r0 : Addr) (r1 : Addr) (h0 : Heap) (n0 : Nat) (v : Option Value) (h : Heap) (L : List Loc) : Prop := v = none ∧ Fr n0 L ∧ Keep h0 h [r0] ∧ Exa Z h r0 "java/util/Optional" ∧ Fld Z h r0 "java/util/Optional" "value" "Ljava/lang/Object;" (.ref r1)
set_option maxRecDepth 65536 in
set_option maxHeartbeats 40000000 in
theorem rm9 (l : Launch) (Z : State) (a0 : Array Value) (hw : ∀ d ∈ tables_1, d.before a0 Z = true) (ws : List Jvm.Cond) (r0 : Addr) (r1 : Addr) (h0 : Heap) (n0 : Nat) (Z0 : n0 ≤ h0.size) (E_r0 : Exa Z h0 r0 "java/util/Optional") (F_value_r0 : Fld Z h0 r0 "java/util/Optional" "value" "Ljava/lang/Object;" .null) (g_r0 : n0 ≤ r0) :
    MetFree l (⟨"java/util/Optional", "<init>", "(Ljava/lang/Object;)V"⟩ : MethodName) (head1 (Jvm.Cond.code (⟨"java/util/Optional", "<init>", "(Ljava/lang/Object;)V"⟩ : MethodName) jdk_32_method_2_code 2 none :: ws) ({ frames := 1, cells := 0, slots := 0, locals := 12 } : Room)) (fun a U => a = #[(.ref r0), (.ref r1)] ∧ Z.Warmed39 U.vm ∧ U.heap = h0) (fun _ _ _ _ _ => True) (fun _ U o U' => ∃ v L, o = .returned v ∧ Q9 Z r0 r1 h0 n0 v U'.heap L ∧ FrameEnd U o U' L ({ frames := 1, cells := 0, slots := 0, locals := 12 } : Room).cells ({ frames := 1, cells := 0, slots := 0, locals := 12 } : Room).slots) := by
  refine MetFree.of_bodySF (plainFor_of_name pn_9) hisR ?_
  intro p e s m args below meth c s₁ Bd hml0 hP hK
  obtain ⟨rfl, hZ, hh⟩ := hP
  have hx := Bd.exec
  have hby := Bd.bytes
  have hml : c.maxLocals = 2 := hml0
  have hown : s.vm.findClass "java/util/Optional" = some m.cls := findClass_of_methodNamed Bd.named
  have hnm := (name_of_methodNamed Bd.named Bd.method).1
  have hlk : meth.locks = false := Bd.notSynchronized
  have X0 : Stand p l e ({ frames := 1, cells := 0, slots := 0, locals := 12 } : Room) s m #[(.ref r0), (.ref r1)] below meth c s₁ [] 0 0 := Stand.of_body Bd
  have e0 : s₁.heap = h0 := by rw [← hh, Bd.state]; rfl
  have N0 := Fr.nil n0
  have KK0 := Keep.refl h0 [r0]
  show own_Go p.tables e below s 0 0 (Q9 Z r0 r1 h0 n0) (s₁.setTop (entryFrame m #[(.ref r0), (.ref r1)] 2))
  rw [ef_9]
  refine own_step (U' := s₁.setTop (mkF m 1 #[rv r0, rv r1] [(.ref r0)])) (fun t k => XS.aloadN X0.here hx rfl (hb hby d9_0) rfl rfl k) ?_
  obtain ⟨T1, X1, e1, st1⟩ := initO X0 hx hZ hown (own_w hw 44 rfl) (own_w hw 24 rfl) (own_w hw 25 rfl) e0 (g := (mkF m 1 #[rv r0, rv r1] [(.ref r0)])) rfl (by rw [hml]; rfl) rfl (hb hby d9_1) (by decide) (W := 0) (by show 2 * 0 + _ ≤ _; exact Nat.le_of_eq rfl) (by decide)
  refine own_step (U' := T1.setTop (mkF m 4 #[rv r0, rv r1] [])) st1 ?_
  refine own_step (U' := T1.setTop (mkF m 6 #[rv r0, rv r1] [(.ref r1), (.ref r0)])) (fun t k => XS.aloadN X1.here hx rfl (hb hby d9_4) rfl rfl (XS.aloadN X1.here hx rfl (hb hby d9_5) rfl rfl k)) ?_
  obtain ⟨T2, h2, X2, e2, W2, st2⟩ := putF X1 hx hZ hown (host := "") (Or.inl (own_w hw 45 rfl)) Via.refl e1 F_value_r0 E_r0 (Or.inr ⟨(own_w hw 46 rfl), rfl, hnm⟩) (own_w hw 35 rfl) (ty := (.object "java/lang/Object")) (by decide) rfl rfl (g := (mkF m 6 #[rv r0, rv r1] [(.ref r1), (.ref r0)])) rfl rfl (hb hby d9_6)
  have E_r0_2 := E_r0.wr W2
  have F_value_r0_2 := F_value_r0.same W2
  have Z2 : n0 ≤ h2.size := Nat.le_trans Z0 (Keep.of_wr W2).1
  have KK2 := KK0.wr W2 (Or.inl (List.mem_of_getElem? (i := 0) rfl))
  have N2 := Fr.snoc X2 N0 g_r0
  refine own_step (U' := T2.setTop (mkF m 9 #[rv r0, rv r1] [])) st2 ?_
  exact own_out X2 (v := none) hlk (fun _ => rfl) (by rw [e2]; exact ⟨rfl, N2, KK2, E_r0_2, F_value_r0_2⟩) (by decide) (by decide) (fun fs hr => X2.returnOut hx Bd.returns (hb hby d9_9) hr)
theorem d7_0 : decode jdk_32_method_3_code 0 = .ok (.new 2, 3) := by decide +kernel
theorem d7_3 : decode jdk_32_method_3_code 3 = .ok (.dup, 1) := by decide +kernel
theorem d7_4 : decode jdk_32_method_3_code 4 = .ok (.aload_n 0, 1) := by decide +kernel
theorem d7_5 : decode jdk_32_method_3_code 5 = .ok (.invokestatic 17, 3) := by decide +kernel
theorem d7_8 : decode jdk_32_method_3_code 8 = .ok (.invokespecial 23, 3) := by decide +kernel
theorem d7_11 : decode jdk_32_method_3_code 11 = .ok (.areturn, 1) := by decide +kernel
theorem pn_7 : plainName "java/util/Optional" = true := by first | (simp [plainName, overriddenIn]; done) | decide +kernel
theorem ef_7 (m : MethodId) (r0 : Addr) : entryFrame m #[(.ref r0)] 1 = mkF m 0 #[rv r0] [] := by first | (simp [entryFrame, mkF, argsToLocals, Value.category]; done) | rfl
def Q7 (Z : State) (r0 : Addr) (h0 : Heap) (n0 : Nat) (v : Option Value) (h : Heap) (L : List Loc) : Prop := ∃ o0 : Addr, v = some (.ref o0) ∧ Fr n0 L ∧ Keep h0 h [] ∧ h0.size ≤ o0 ∧ Exa Z h o0 "java/util/Optional" ∧ Fld Z h o0 "java/util/Optional" "value" "Ljava/lang/Object;" (.ref r0)
set_option maxRecDepth 65536 in
set_option maxHeartbeats 40000000 in
theorem rm7 (l : Launch) (Z : State) (a0 : Array Value) (hw : ∀ d ∈ tables_1, d.before a0 Z = true) (ws : List Jvm.Cond) (r0 : Addr) (h0 : Heap) (n0 : Nat) (Z0 : n0 ≤ h0.size) :
    MetFree l (⟨"java/util/Optional", "of", "(Ljava/lang/Object;)Ljava/util/Optional;"⟩ : MethodName) (head1 (Jvm.Cond.code (⟨"java/util/Optional", "of", "(Ljava/lang/Object;)Ljava/util/Optional;"⟩ : MethodName) jdk_32_method_3_code 1 (some (.object "java/util/Optional")) :: ws) ({ frames := 2, cells := 1, slots := 1, locals := 26 } : Room)) (fun a U => a = #[(.ref r0)] ∧ Z.Warmed39 U.vm ∧ U.heap = h0) (fun _ _ _ _ _ => True) (fun _ U o U' => ∃ v L, o = .returned v ∧ Q7 Z r0 h0 n0 v U'.heap L ∧ FrameEnd U o U' L ({ frames := 2, cells := 1, slots := 1, locals := 26 } : Room).cells ({ frames := 2, cells := 1, slots := 1, locals := 26 } : Room).slots) := by
  refine MetFree.of_bodySF (plainFor_of_name pn_7) hisR ?_
  intro p e s m args below meth c s₁ Bd hml0 hP hK
  obtain ⟨rfl, hZ, hh⟩ := hP
  have hx := Bd.exec
  have hby := Bd.bytes
  have hml : c.maxLocals = 1 := hml0
  have hown : s.vm.findClass "java/util/Optional" = some m.cls := findClass_of_methodNamed Bd.named
  have hnm := (name_of_methodNamed Bd.named Bd.method).1
  have hlk : meth.locks = false := Bd.notSynchronized
  have X0 : Stand p l e ({ frames := 2, cells := 1, slots := 1, locals := 26 } : Room) s m #[(.ref r0)] below meth c s₁ [] 0 0 := Stand.of_body Bd
  have e0 : s₁.heap = h0 := by rw [← hh, Bd.state]; rfl
  have N0 := Fr.nil n0
  have KK0 := Keep.refl h0 []
  show own_Go p.tables e below s 1 1 (Q7 Z r0 h0 n0) (s₁.setTop (entryFrame m #[(.ref r0)] 1))
  rw [ef_7]
  obtain ⟨T1, h1, X1, e1, E1, A1, D1, -, st1⟩ := newO X0 hx hZ hown (own_w hw 34 rfl) (own_w hw 35 rfl) (own_w hw 32 rfl) e0 (g := (mkF m 0 #[rv r0] [])) rfl (hb hby d7_0) (by decide) (by decide)
  obtain ⟨b1, g1⟩ : ∃ z, z = h0.size := ⟨_, rfl⟩
  have ge_b1 : n0 ≤ b1 := Nat.le_trans Z0 (Nat.le_of_eq g1.symm)
  have sz_b1 : h0.size ≤ b1 := Nat.le_trans KK0.1 (Nat.le_of_eq g1.symm)
  rw [← g1] at A1 D1 st1
  have F_value_b1 : Fld Z h1 b1 "java/util/Optional" "value" "Ljava/lang/Object;" .null := D1 (Or.inr (own_w hw 46 rfl)) (ty := (.object "java/lang/Object")) (by decide)
  have Z1 : n0 ≤ h1.size := Nat.le_trans Z0 E1.1
  have KK1 := KK0.ext E1
  refine own_step (U' := T1.setTop (mkF m 3 #[rv r0] [(.ref b1)])) st1 ?_
  refine own_step (U' := T1.setTop (mkF m 5 #[rv r0] [(.ref r0), (.ref b1), (.ref b1)])) (fun t k => XS.dup X1.here hx rfl (hb hby d7_3) rfl rfl (XS.aloadN X1.here hx rfl (hb hby d7_4) rfl rfl k)) ?_
  obtain ⟨_, _, ⟨T2, L2, k2, n2⟩, -, X2, ⟨Lc2, hQ2, l2, y2, z2⟩, st2⟩ := Jvm.LawKit.callS X1 hx (y := (⟨"java/util/Objects", "requireNonNull", "(Ljava/lang/Object;)Ljava/lang/Object;"⟩ : MethodName)) hown (mvT hZ (own_w hw 36 rfl)) (mvT hZ (own_w hw 37 rfl)) (mvT hZ (own_w hw 38 rfl)) (mvT hZ (own_w hw 39 rfl)) (by decide) (backOf (W := 2) (rm8 l Z a0 hw [] r0 h1 n0 Z1) hZ (own_w hw 39 rfl) (own_w hw 38 rfl) (by decide) (by decide)) (g := (mkF m 5 #[rv r0] [(.ref r0), (.ref b1), (.ref b1)])) rfl (by rw [hml]; rfl) (argsL := [(.ref r0)]) (rest := [(.ref b1), (.ref b1)]) (lenOf pd__Ljava_lang_Object__Ljava_lang_Object_ rfl) rfl (by show 2 * 0 + _ ≤ _; exact Nat.le_of_eq rfl) (hb hby d7_5) (fun _ _ => ⟨rfl, e1, (by decide : 1 + 0 ≤ _), (by decide : 1 + 0 ≤ _)⟩)
  dsimp only [Pt.U, Pt.locs, Pt.cells, Pt.slots] at X2 l2 y2 z2 st2 hQ2
  subst l2 y2 z2
  obtain ⟨rfl, N2q, eq2⟩ := hQ2
  have N2 := Fr.app N0 N2q
  refine own_step (U' := T2.setTop (mkF m 8 #[rv r0] [(.ref r0), (.ref b1), (.ref b1)])) st2 ?_
  obtain ⟨_, _, ⟨T3, L3, k3, n3⟩, -, X3, ⟨Lc3, hQ3, l3, y3, z3⟩, st3⟩ := X2.specialBack hx (y := (⟨"java/util/Optional", "<init>", "(Ljava/lang/Object;)V"⟩ : MethodName)) rfl hown (mvT hZ (own_w hw 40 rfl)) (mvT hZ (own_w hw 41 rfl)) (mvT hZ (own_w hw 43 rfl)) (by decide) (backOf (W := 1) (rm9 l Z a0 hw [] b1 r0 h1 n0 Z1 A1 F_value_b1 ge_b1) hZ (own_w hw 43 rfl) (own_w hw 32 rfl) (by decide) (by decide)) (g := (mkF m 8 #[rv r0] [(.ref r0), (.ref b1), (.ref b1)])) rfl (by rw [hml]; rfl) (Steps.refl _) (a := b1) (argsL := [(.ref r0)]) (rest := [(.ref b1)]) (lenOf pd__Ljava_lang_Object__V rfl) rfl (by show 2 * 0 + _ ≤ _; exact Nat.le_of_eq rfl) (hb hby d7_8) (fun _ _ => ⟨rfl, eq2, (by decide : 1 + 0 ≤ _), (by decide : 1 + 0 ≤ _)⟩)
  dsimp only [Pt.U, Pt.locs, Pt.cells, Pt.slots] at X3 l3 y3 z3 st3 hQ3
  subst l3 y3 z3
  obtain ⟨rfl, N3q, K3q, Ea3_b1, Fa3_value_b1⟩ := hQ3
  have N3 := Fr.app N2 N3q
  have A1_3 := A1.keep K3q
  have Z3 : n0 ≤ T3.heap.size := Nat.le_trans Z1 K3q.1
  have KK3 := KK1.trans K3q (allS (Or.inr sz_b1) all0)
  refine own_steps (U' := T3.setTop (mkF m 11 #[rv r0] [(.ref b1)])) st3 ?_
  exact own_out X3 (v := (some (.ref b1))) hlk (own_nv Bd.returns) (by exact ⟨b1, rfl, N3, KK3, sz_b1, Ea3_b1, Fa3_value_b1⟩) (by decide) (by decide) (fun fs hr => X3.areturnOut hx rfl Bd.returns rfl (hb hby d7_11) hr)
theorem d14_0 : decode jdk_32_method_1_code 0 = .ok (.getstatic 1, 3) := by decide +kernel
theorem d14_3 : decode jdk_32_method_1_code 3 = .ok (.astore_n 0, 1) := by decide +kernel
theorem d14_4 : decode jdk_32_method_1_code 4 = .ok (.aload_n 0, 1) := by decide +kernel
theorem d14_5 : decode jdk_32_method_1_code 5 = .ok (.areturn, 1) := by decide +kernel
theorem pn_14 : plainName "java/util/Optional" = true := by first | (simp [plainName, overriddenIn]; done) | decide +kernel
theorem ef_14 (m : MethodId)  : entryFrame m #[] 1 = mkF m 0 #[.unset] [] := by first | (simp [entryFrame, mkF, argsToLocals, Value.category]; done) | rfl
def Q14 (Z : State) (wE : Addr) (h0 : Heap) (n0 : Nat) (v : Option Value) (h : Heap) (L : List Loc) : Prop := v = some (.ref wE) ∧ Fr n0 L ∧ h = h0
set_option maxRecDepth 65536 in
set_option maxHeartbeats 40000000 in
theorem rm14 (l : Launch) (Z : State) (a0 : Array Value) (hw : ∀ d ∈ tables_1, d.before a0 Z = true) (ws : List Jvm.Cond) (wE : Addr) (h0 : Heap) (n0 : Nat) (Z0 : n0 ≤ h0.size) (S_EMPTY : Sta Z h0 "java/util/Optional" "EMPTY" "Ljava/util/Optional;" (.ref wE)) :
    MetFree l (⟨"java/util/Optional", "empty", "()Ljava/util/Optional;"⟩ : MethodName) (head1 (Jvm.Cond.code (⟨"java/util/Optional", "empty", "()Ljava/util/Optional;"⟩ : MethodName) jdk_32_method_1_code 1 (some (.object "java/util/Optional")) :: ws) ({ frames := 0, cells := 0, slots := 0, locals := 0 } : Room)) (fun a U => a = #[] ∧ Z.Warmed39 U.vm ∧ U.heap = h0) (fun _ _ _ _ _ => True) (fun _ U o U' => ∃ v L, o = .returned v ∧ Q14 Z wE h0 n0 v U'.heap L ∧ FrameEnd U o U' L ({ frames := 0, cells := 0, slots := 0, locals := 0 } : Room).cells ({ frames := 0, cells := 0, slots := 0, locals := 0 } : Room).slots) := by
  refine MetFree.of_bodySF (plainFor_of_name pn_14) hisR ?_
  intro p e s m args below meth c s₁ Bd hml0 hP hK
  obtain ⟨rfl, hZ, hh⟩ := hP
  have hx := Bd.exec
  have hby := Bd.bytes
  have hml : c.maxLocals = 1 := hml0
  have hown : s.vm.findClass "java/util/Optional" = some m.cls := findClass_of_methodNamed Bd.named
  have hnm := (name_of_methodNamed Bd.named Bd.method).1
  have hlk : meth.locks = false := Bd.notSynchronized
  have X0 : Stand p l e ({ frames := 0, cells := 0, slots := 0, locals := 0 } : Room) s m #[] below meth c s₁ [] 0 0 := Stand.of_body Bd
  have e0 : s₁.heap = h0 := by rw [← hh, Bd.state]; rfl
  have N0 := Fr.nil n0
  have KK0 := Keep.refl h0 []
  show own_Go p.tables e below s 0 0 (Q14 Z wE h0 n0) (s₁.setTop (entryFrame m #[] 1))
  rw [ef_14]
  obtain ⟨T1, X1, e1, st1⟩ := getS2 X0 hx hZ hown (host := "") (Or.inl (own_w hw 72 rfl)) Via.refl e0 S_EMPTY (g := (mkF m 0 #[.unset] [])) rfl (hb hby d14_0)
  refine own_step (U' := T1.setTop (mkF m 3 #[.unset] [(.ref wE)])) st1 ?_
  refine own_step (U' := T1.setTop (mkF m 5 #[rv wE] [(.ref wE)])) (fun t k => XS.astoreN X1.here hx rfl (hb hby d14_3) rfl rfl (l' := #[rv wE]) rfl (XS.aloadN X1.here hx rfl (hb hby d14_4) rfl rfl k)) ?_
  exact own_out X1 (v := (some (.ref wE))) hlk (own_nv Bd.returns) (by rw [e1]; exact ⟨rfl, N0, rfl⟩) (by decide) (by decide) (fun fs hr => X1.areturnOut hx rfl Bd.returns rfl (hb hby d14_5) hr)
theorem d3_0 : decode prog_34_method_4_code 0 = .ok (.iload_n 1, 1) := by decide +kernel
theorem d3_1 : decode prog_34_method_4_code 1 = .ok (.iload_n 0, 1) := by decide +kernel
theorem d3_2 : decode prog_34_method_4_code 2 = .ok (.isub, 1) := by decide +kernel
theorem d3_3 : decode prog_34_method_4_code 3 = .ok (.bipush 32, 2) := by decide +kernel
theorem d3_5 : decode prog_34_method_4_code 5 = .ok (.if_icmp .le 22, 3) := by decide +kernel
theorem d3_8 : decode prog_34_method_4_code 8 = .ok (.new 62, 3) := by decide +kernel
theorem d3_11 : decode prog_34_method_4_code 11 = .ok (.dup, 1) := by decide +kernel
theorem d3_12 : decode prog_34_method_4_code 12 = .ok (.iload_n 1, 1) := by decide +kernel
theorem d3_13 : decode prog_34_method_4_code 13 = .ok (.bipush 32, 2) := by decide +kernel
theorem d3_15 : decode prog_34_method_4_code 15 = .ok (.isub, 1) := by decide +kernel
theorem d3_16 : decode prog_34_method_4_code 16 = .ok (.iload_n 1, 1) := by decide +kernel
theorem d3_17 : decode prog_34_method_4_code 17 = .ok (.invokespecial 64, 3) := by decide +kernel
theorem d3_20 : decode prog_34_method_4_code 20 = .ok (.invokestatic 67, 3) := by decide +kernel
theorem d3_23 : decode prog_34_method_4_code 23 = .ok (.astore_n 2, 1) := by decide +kernel
theorem d3_24 : decode prog_34_method_4_code 24 = .ok (.goto 30, 3) := by decide +kernel
theorem d3_54 : decode prog_34_method_4_code 54 = .ok (.aload_n 2, 1) := by decide +kernel
theorem d3_55 : decode prog_34_method_4_code 55 = .ok (.areturn, 1) := by decide +kernel
theorem pn_3 : plainName "com/example/termstone/termstone/MergePolicy" = true := by first | (simp [plainName, overriddenIn]; done) | decide +kernel
theorem d3_27 : decode prog_34_method_4_code 27 = .ok (.iload_n 1, 1) := by decide +kernel
theorem d3_28 : decode prog_34_method_4_code 28 = .ok (.iload_n 0, 1) := by decide +kernel
theorem d3_29 : decode prog_34_method_4_code 29 = .ok (.isub, 1) := by decide +kernel
theorem d3_30 : decode prog_34_method_4_code 30 = .ok (.iconst 1, 1) := by decide +kernel
theorem d3_31 : decode prog_34_method_4_code 31 = .ok (.if_icmp .le 19, 3) := by decide +kernel
theorem d3_34 : decode prog_34_method_4_code 34 = .ok (.new 62, 3) := by decide +kernel
theorem d3_37 : decode prog_34_method_4_code 37 = .ok (.dup, 1) := by decide +kernel
theorem d3_38 : decode prog_34_method_4_code 38 = .ok (.iload_n 0, 1) := by decide +kernel
theorem d3_39 : decode prog_34_method_4_code 39 = .ok (.iload_n 1, 1) := by decide +kernel
theorem d3_40 : decode prog_34_method_4_code 40 = .ok (.invokespecial 64, 3) := by decide +kernel
theorem d3_43 : decode prog_34_method_4_code 43 = .ok (.invokestatic 67, 3) := by decide +kernel
theorem d3_46 : decode prog_34_method_4_code 46 = .ok (.astore_n 2, 1) := by decide +kernel
theorem d3_47 : decode prog_34_method_4_code 47 = .ok (.goto 7, 3) := by decide +kernel
theorem d3_50 : decode prog_34_method_4_code 50 = .ok (.invokestatic 13, 3) := by decide +kernel
theorem d3_53 : decode prog_34_method_4_code 53 = .ok (.astore_n 2, 1) := by decide +kernel
theorem ef_3A (m : MethodId) (p0 : Int32) (p1 : Int32) : entryFrame m #[(.int p0), (.int p1)] 3 = mkF m 0 #[iv p0, iv p1, .unset] [] := by first | (simp [entryFrame, mkF, argsToLocals, Value.category]; done) | rfl
def Q3A (Z : State) (p0 : Int32) (p1 : Int32) (h0 : Heap) (n0 : Nat) (v : Option Value) (h : Heap) (L : List Loc) : Prop := ∃ o0 o1 : Addr, v = some (.ref o0) ∧ Fr n0 L ∧ Keep h0 h [] ∧ h0.size ≤ o0 ∧ Exa Z h o0 "java/util/Optional" ∧ Fld Z h o0 "java/util/Optional" "value" "Ljava/lang/Object;" (.ref o1) ∧ h0.size ≤ o1 ∧ Exa Z h o1 "com/example/termstone/termstone/MergePolicy$Run" ∧ Fld Z h o1 "com/example/termstone/termstone/MergePolicy$Run" "from" "I" (.int (p1 - (32 : Int32))) ∧ Fld Z h o1 "com/example/termstone/termstone/MergePolicy$Run" "to" "I" (.int p1)
set_option maxRecDepth 65536 in
set_option maxHeartbeats 40000000 in
theorem rm3A (l : Launch) (Z : State) (a0 : Array Value) (hw : ∀ d ∈ tables_1, d.before a0 Z = true) (ws : List Jvm.Cond) (p0 : Int32) (p1 : Int32) (h0 : Heap) (n0 : Nat) (Z0 : n0 ≤ h0.size) (hA : (32 : Int32) < (p1 - p0)) :
    MetFree l (⟨"com/example/termstone/termstone/MergePolicy", "nextMergeAtCommit", "(II)Ljava/util/Optional;"⟩ : MethodName) (head1 (Jvm.Cond.code (⟨"com/example/termstone/termstone/MergePolicy", "nextMergeAtCommit", "(II)Ljava/util/Optional;"⟩ : MethodName) prog_34_method_4_code 3 (some (.object "java/util/Optional")) :: ws) ({ frames := 3, cells := 2, slots := 3, locals := 39 } : Room)) (fun a U => a = #[(.int p0), (.int p1)] ∧ Z.Warmed39 U.vm ∧ U.heap = h0) (fun _ _ _ _ _ => True) (fun _ U o U' => ∃ v L, o = .returned v ∧ Q3A Z p0 p1 h0 n0 v U'.heap L ∧ FrameEnd U o U' L ({ frames := 3, cells := 2, slots := 3, locals := 39 } : Room).cells ({ frames := 3, cells := 2, slots := 3, locals := 39 } : Room).slots) := by
  refine MetFree.of_bodySF (plainFor_of_name pn_3) hisR ?_
  intro p e s m args below meth c s₁ Bd hml0 hP hK
  obtain ⟨rfl, hZ, hh⟩ := hP
  have hx := Bd.exec
  have hby := Bd.bytes
  have hml : c.maxLocals = 3 := hml0
  have hown : s.vm.findClass "com/example/termstone/termstone/MergePolicy" = some m.cls := findClass_of_methodNamed Bd.named
  have hnm := (name_of_methodNamed Bd.named Bd.method).1
  have hlk : meth.locks = false := Bd.notSynchronized
  have X0 : Stand p l e ({ frames := 3, cells := 2, slots := 3, locals := 39 } : Room) s m #[(.int p0), (.int p1)] below meth c s₁ [] 0 0 := Stand.of_body Bd
  have e0 : s₁.heap = h0 := by rw [← hh, Bd.state]; rfl
  have N0 := Fr.nil n0
  have KK0 := Keep.refl h0 []
  show own_Go p.tables e below s 2 3 (Q3A Z p0 p1 h0 n0) (s₁.setTop (entryFrame m #[(.int p0), (.int p1)] 3))
  rw [ef_3A]
  refine own_step (U' := s₁.setTop (mkF m 8 #[iv p0, iv p1, .unset] [])) (fun t k => XS.iloadN X0.here hx rfl (hb hby d3_0) rfl (XS.iloadN X0.here hx rfl (hb hby d3_1) rfl (XS.isub X0.here hx rfl (hb hby d3_2) rfl (XS.bipush X0.here hx rfl (hb hby d3_3) (XS.icmpNo X0.here hx rfl (hb hby d3_5) rfl (tlt hA).2.2.2 k))))) ?_
  obtain ⟨T1, h1, X1, e1, E1, A1, D1, -, st1⟩ := newO X0 hx hZ hown (own_w hw 12 rfl) (own_w hw 13 rfl) (own_w hw 14 rfl) e0 (g := (mkF m 8 #[iv p0, iv p1, .unset] [])) rfl (hb hby d3_8) (by decide) (by decide)
  obtain ⟨b1, g1⟩ : ∃ z, z = h0.size := ⟨_, rfl⟩
  have ge_b1 : n0 ≤ b1 := Nat.le_trans Z0 (Nat.le_of_eq g1.symm)
  have sz_b1 : h0.size ≤ b1 := Nat.le_trans KK0.1 (Nat.le_of_eq g1.symm)
  rw [← g1] at A1 D1 st1
  have F_from_b1 : Fld Z h1 b1 "com/example/termstone/termstone/MergePolicy$Run" "from" "I" (.int (0 : Int32)) := D1 (Or.inr (own_w hw 27 rfl)) (ty := .int) (by decide)
  have F_to_b1 : Fld Z h1 b1 "com/example/termstone/termstone/MergePolicy$Run" "to" "I" (.int (0 : Int32)) := D1 (Or.inr (own_w hw 29 rfl)) (ty := .int) (by decide)
  have Z1 : n0 ≤ h1.size := Nat.le_trans Z0 E1.1
  have KK1 := KK0.ext E1
  refine own_step (U' := T1.setTop (mkF m 11 #[iv p0, iv p1, .unset] [(.ref b1)])) st1 ?_
  refine own_step (U' := T1.setTop (mkF m 17 #[iv p0, iv p1, .unset] [(.int p1), (.int (p1 - (32 : Int32))), (.ref b1), (.ref b1)])) (fun t k => XS.dup X1.here hx rfl (hb hby d3_11) rfl rfl (XS.iloadN X1.here hx rfl (hb hby d3_12) rfl (XS.bipush X1.here hx rfl (hb hby d3_13) (XS.isub X1.here hx rfl (hb hby d3_15) rfl (XS.iloadN X1.here hx rfl (hb hby d3_16) rfl k))))) ?_
  obtain ⟨_, _, ⟨T2, L2, k2, n2⟩, -, X2, ⟨Lc2, hQ2, l2, y2, z2⟩, st2⟩ := X1.specialBack hx (y := (⟨"com/example/termstone/termstone/MergePolicy$Run", "<init>", "(II)V"⟩ : MethodName)) rfl hown (mvT hZ (own_w hw 15 rfl)) (mvT hZ (own_w hw 16 rfl)) (mvT hZ (own_w hw 17 rfl)) (by decide) (backOf (W := 1) (rm4 l Z a0 hw [] b1 (p1 - (32 : Int32)) p1 h1 n0 Z1 A1 F_from_b1 F_to_b1 ge_b1) hZ (own_w hw 17 rfl) (own_w hw 14 rfl) (by decide) (by decide)) (g := (mkF m 17 #[iv p0, iv p1, .unset] [(.int p1), (.int (p1 - (32 : Int32))), (.ref b1), (.ref b1)])) rfl (by rw [hml]; rfl) (Steps.refl _) (a := b1) (argsL := [(.int (p1 - (32 : Int32))), (.int p1)]) (rest := [(.ref b1)]) (lenOf pd__II_V rfl) rfl (by show 2 * 0 + _ ≤ _; exact Nat.le_of_eq rfl) (hb hby d3_17) (fun _ _ => ⟨rfl, e1, (by decide : 1 + 0 ≤ _), (by decide : 2 + 0 ≤ _)⟩)
  dsimp only [Pt.U, Pt.locs, Pt.cells, Pt.slots] at X2 l2 y2 z2 st2 hQ2
  subst l2 y2 z2
  obtain ⟨rfl, N2q, K2q, Ea2_b1, Fa2_from_b1, Fa2_to_b1⟩ := hQ2
  have N2 := Fr.app N0 N2q
  have A1_2 := A1.keep K2q
  have Z2 : n0 ≤ T2.heap.size := Nat.le_trans Z1 K2q.1
  have KK2 := KK1.trans K2q (allS (Or.inr sz_b1) all0)
  refine own_steps (U' := T2.setTop (mkF m 20 #[iv p0, iv p1, .unset] [(.ref b1)])) st2 ?_
  obtain ⟨_, _, ⟨T3, L3, k3, n3⟩, -, X3, ⟨Lc3, hQ3, l3, y3, z3⟩, st3⟩ := Jvm.LawKit.callS X2 hx (y := (⟨"java/util/Optional", "of", "(Ljava/lang/Object;)Ljava/util/Optional;"⟩ : MethodName)) hown (mvT hZ (own_w hw 30 rfl)) (mvT hZ (own_w hw 31 rfl)) (mvT hZ (own_w hw 32 rfl)) (mvT hZ (own_w hw 33 rfl)) (by decide) (backOf (W := 0) (rm7 l Z a0 hw [] b1 T2.heap n0 Z2) hZ (own_w hw 33 rfl) (own_w hw 32 rfl) (by decide) (by decide)) (g := (mkF m 20 #[iv p0, iv p1, .unset] [(.ref b1)])) rfl (by rw [hml]; rfl) (argsL := [(.ref b1)]) (rest := []) (lenOf pd__Ljava_lang_Object__Ljava_util_Optional_ rfl) rfl (by show 2 * 0 + _ ≤ _; exact Nat.le_of_eq rfl) (hb hby d3_20) (fun _ _ => ⟨rfl, rfl, (by decide : 1 + 1 ≤ _), (by decide : 2 + 1 ≤ _)⟩)
  dsimp only [Pt.U, Pt.locs, Pt.cells, Pt.slots] at X3 l3 y3 z3 st3 hQ3
  subst l3 y3 z3
  obtain ⟨m3_0, rfl, N3q, K3q, sq_m3_0, Ea_m3_0, Fa_value_m3_0⟩ := hQ3
  have N3 := Fr.app N2 N3q
  have ne_b1_m3_0 : b1 ≠ m3_0 := Nat.ne_of_lt (Nat.lt_of_lt_of_le Ea2_b1.lt sq_m3_0)
  have ge_m3_0 : n0 ≤ m3_0 := Nat.le_trans Z2 sq_m3_0
  have sz_m3_0 : h0.size ≤ m3_0 := Nat.le_trans KK2.1 sq_m3_0
  have Ea2_b1_3 := Ea2_b1.keep K3q
  have Fa2_from_b1_3 := Fa2_from_b1.keep K3q nin0
  have Fa2_to_b1_3 := Fa2_to_b1.keep K3q nin0
  have Z3 : n0 ≤ T3.heap.size := Nat.le_trans Z2 K3q.1
  have KK3 := KK2.trans K3q all0
  refine own_step (U' := T3.setTop (mkF m 23 #[iv p0, iv p1, .unset] [(.ref m3_0)])) st3 ?_
  refine own_step (U' := T3.setTop (mkF m 55 #[iv p0, iv p1, rv m3_0] [(.ref m3_0)])) (fun t k => XS.astoreN X3.here hx rfl (hb hby d3_23) rfl rfl (l' := #[iv p0, iv p1, rv m3_0]) rfl (XS.goto X3.here hx rfl (pc0 := 24) (pc' := 54) rfl (hb hby d3_24) (by decide) (by decide) (XS.aloadN X3.here hx rfl (hb hby d3_54) rfl rfl k))) ?_
  exact own_out X3 (v := (some (.ref m3_0))) hlk (own_nv Bd.returns) (by exact ⟨m3_0, b1, rfl, N3, KK3, sz_m3_0, Ea_m3_0, Fa_value_m3_0, sz_b1, Ea2_b1_3, Fa2_from_b1_3, Fa2_to_b1_3⟩) (by decide) (by decide) (fun fs hr => X3.areturnOut hx rfl Bd.returns rfl (hb hby d3_55) hr)
theorem ef_3B (m : MethodId) (p0 : Int32) (p1 : Int32) : entryFrame m #[(.int p0), (.int p1)] 3 = mkF m 0 #[iv p0, iv p1, .unset] [] := by first | (simp [entryFrame, mkF, argsToLocals, Value.category]; done) | rfl
def Q3B (Z : State) (p0 : Int32) (p1 : Int32) (h0 : Heap) (n0 : Nat) (v : Option Value) (h : Heap) (L : List Loc) : Prop := ∃ o0 o1 : Addr, v = some (.ref o0) ∧ Fr n0 L ∧ Keep h0 h [] ∧ h0.size ≤ o0 ∧ Exa Z h o0 "java/util/Optional" ∧ Fld Z h o0 "java/util/Optional" "value" "Ljava/lang/Object;" (.ref o1) ∧ h0.size ≤ o1 ∧ Exa Z h o1 "com/example/termstone/termstone/MergePolicy$Run" ∧ Fld Z h o1 "com/example/termstone/termstone/MergePolicy$Run" "from" "I" (.int p0) ∧ Fld Z h o1 "com/example/termstone/termstone/MergePolicy$Run" "to" "I" (.int p1)
set_option maxRecDepth 65536 in
set_option maxHeartbeats 40000000 in
theorem rm3B (l : Launch) (Z : State) (a0 : Array Value) (hw : ∀ d ∈ tables_1, d.before a0 Z = true) (ws : List Jvm.Cond) (p0 : Int32) (p1 : Int32) (h0 : Heap) (n0 : Nat) (Z0 : n0 ≤ h0.size) (hA : ¬ (32 : Int32) < (p1 - p0)) (hB : (1 : Int32) < (p1 - p0)) :
    MetFree l (⟨"com/example/termstone/termstone/MergePolicy", "nextMergeAtCommit", "(II)Ljava/util/Optional;"⟩ : MethodName) (head1 (Jvm.Cond.code (⟨"com/example/termstone/termstone/MergePolicy", "nextMergeAtCommit", "(II)Ljava/util/Optional;"⟩ : MethodName) prog_34_method_4_code 3 (some (.object "java/util/Optional")) :: ws) ({ frames := 3, cells := 2, slots := 3, locals := 39 } : Room)) (fun a U => a = #[(.int p0), (.int p1)] ∧ Z.Warmed39 U.vm ∧ U.heap = h0) (fun _ _ _ _ _ => True) (fun _ U o U' => ∃ v L, o = .returned v ∧ Q3B Z p0 p1 h0 n0 v U'.heap L ∧ FrameEnd U o U' L ({ frames := 3, cells := 2, slots := 3, locals := 39 } : Room).cells ({ frames := 3, cells := 2, slots := 3, locals := 39 } : Room).slots) := by
  refine MetFree.of_bodySF (plainFor_of_name pn_3) hisR ?_
  intro p e s m args below meth c s₁ Bd hml0 hP hK
  obtain ⟨rfl, hZ, hh⟩ := hP
  have hx := Bd.exec
  have hby := Bd.bytes
  have hml : c.maxLocals = 3 := hml0
  have hown : s.vm.findClass "com/example/termstone/termstone/MergePolicy" = some m.cls := findClass_of_methodNamed Bd.named
  have hnm := (name_of_methodNamed Bd.named Bd.method).1
  have hlk : meth.locks = false := Bd.notSynchronized
  have X0 : Stand p l e ({ frames := 3, cells := 2, slots := 3, locals := 39 } : Room) s m #[(.int p0), (.int p1)] below meth c s₁ [] 0 0 := Stand.of_body Bd
  have e0 : s₁.heap = h0 := by rw [← hh, Bd.state]; rfl
  have N0 := Fr.nil n0
  have KK0 := Keep.refl h0 []
  show own_Go p.tables e below s 2 3 (Q3B Z p0 p1 h0 n0) (s₁.setTop (entryFrame m #[(.int p0), (.int p1)] 3))
  rw [ef_3B]
  refine own_step (U' := s₁.setTop (mkF m 30 #[iv p0, iv p1, .unset] [(.int (p1 - p0))])) (fun t k => XS.iloadN X0.here hx rfl (hb hby d3_0) rfl (XS.iloadN X0.here hx rfl (hb hby d3_1) rfl (XS.isub X0.here hx rfl (hb hby d3_2) rfl (XS.bipush X0.here hx rfl (hb hby d3_3) (XS.icmpYes X0.here hx rfl (pc0 := 5) (pc' := 27) rfl (hb hby d3_5) rfl (flt hA).2.2.2 (by decide) (by decide) (XS.iloadN X0.here hx rfl (hb hby d3_27) rfl (XS.iloadN X0.here hx rfl (hb hby d3_28) rfl (XS.isub X0.here hx rfl (hb hby d3_29) rfl k)))))))) ?_
  refine own_step (U' := s₁.setTop (mkF m 34 #[iv p0, iv p1, .unset] [])) (fun t k => XS.iconst X0.here hx rfl (hb hby d3_30) (XS.icmpNo X0.here hx rfl (hb hby d3_31) rfl (tlt hB).2.2.2 k)) ?_
  obtain ⟨T1, h1, X1, e1, E1, A1, D1, -, st1⟩ := newO X0 hx hZ hown (own_w hw 12 rfl) (own_w hw 13 rfl) (own_w hw 14 rfl) e0 (g := (mkF m 34 #[iv p0, iv p1, .unset] [])) rfl (hb hby d3_34) (by decide) (by decide)
  obtain ⟨b1, g1⟩ : ∃ z, z = h0.size := ⟨_, rfl⟩
  have ge_b1 : n0 ≤ b1 := Nat.le_trans Z0 (Nat.le_of_eq g1.symm)
  have sz_b1 : h0.size ≤ b1 := Nat.le_trans KK0.1 (Nat.le_of_eq g1.symm)
  rw [← g1] at A1 D1 st1
  have F_from_b1 : Fld Z h1 b1 "com/example/termstone/termstone/MergePolicy$Run" "from" "I" (.int (0 : Int32)) := D1 (Or.inr (own_w hw 27 rfl)) (ty := .int) (by decide)
  have F_to_b1 : Fld Z h1 b1 "com/example/termstone/termstone/MergePolicy$Run" "to" "I" (.int (0 : Int32)) := D1 (Or.inr (own_w hw 29 rfl)) (ty := .int) (by decide)
  have Z1 : n0 ≤ h1.size := Nat.le_trans Z0 E1.1
  have KK1 := KK0.ext E1
  refine own_step (U' := T1.setTop (mkF m 37 #[iv p0, iv p1, .unset] [(.ref b1)])) st1 ?_
  refine own_step (U' := T1.setTop (mkF m 40 #[iv p0, iv p1, .unset] [(.int p1), (.int p0), (.ref b1), (.ref b1)])) (fun t k => XS.dup X1.here hx rfl (hb hby d3_37) rfl rfl (XS.iloadN X1.here hx rfl (hb hby d3_38) rfl (XS.iloadN X1.here hx rfl (hb hby d3_39) rfl k))) ?_
  obtain ⟨_, _, ⟨T2, L2, k2, n2⟩, -, X2, ⟨Lc2, hQ2, l2, y2, z2⟩, st2⟩ := X1.specialBack hx (y := (⟨"com/example/termstone/termstone/MergePolicy$Run", "<init>", "(II)V"⟩ : MethodName)) rfl hown (mvT hZ (own_w hw 15 rfl)) (mvT hZ (own_w hw 16 rfl)) (mvT hZ (own_w hw 17 rfl)) (by decide) (backOf (W := 1) (rm4 l Z a0 hw [] b1 p0 p1 h1 n0 Z1 A1 F_from_b1 F_to_b1 ge_b1) hZ (own_w hw 17 rfl) (own_w hw 14 rfl) (by decide) (by decide)) (g := (mkF m 40 #[iv p0, iv p1, .unset] [(.int p1), (.int p0), (.ref b1), (.ref b1)])) rfl (by rw [hml]; rfl) (Steps.refl _) (a := b1) (argsL := [(.int p0), (.int p1)]) (rest := [(.ref b1)]) (lenOf pd__II_V rfl) rfl (by show 2 * 0 + _ ≤ _; exact Nat.le_of_eq rfl) (hb hby d3_40) (fun _ _ => ⟨rfl, e1, (by decide : 1 + 0 ≤ _), (by decide : 2 + 0 ≤ _)⟩)
  dsimp only [Pt.U, Pt.locs, Pt.cells, Pt.slots] at X2 l2 y2 z2 st2 hQ2
  subst l2 y2 z2
  obtain ⟨rfl, N2q, K2q, Ea2_b1, Fa2_from_b1, Fa2_to_b1⟩ := hQ2
  have N2 := Fr.app N0 N2q
  have A1_2 := A1.keep K2q
  have Z2 : n0 ≤ T2.heap.size := Nat.le_trans Z1 K2q.1
  have KK2 := KK1.trans K2q (allS (Or.inr sz_b1) all0)
  refine own_steps (U' := T2.setTop (mkF m 43 #[iv p0, iv p1, .unset] [(.ref b1)])) st2 ?_
  obtain ⟨_, _, ⟨T3, L3, k3, n3⟩, -, X3, ⟨Lc3, hQ3, l3, y3, z3⟩, st3⟩ := Jvm.LawKit.callS X2 hx (y := (⟨"java/util/Optional", "of", "(Ljava/lang/Object;)Ljava/util/Optional;"⟩ : MethodName)) hown (mvT hZ (own_w hw 30 rfl)) (mvT hZ (own_w hw 31 rfl)) (mvT hZ (own_w hw 32 rfl)) (mvT hZ (own_w hw 33 rfl)) (by decide) (backOf (W := 0) (rm7 l Z a0 hw [] b1 T2.heap n0 Z2) hZ (own_w hw 33 rfl) (own_w hw 32 rfl) (by decide) (by decide)) (g := (mkF m 43 #[iv p0, iv p1, .unset] [(.ref b1)])) rfl (by rw [hml]; rfl) (argsL := [(.ref b1)]) (rest := []) (lenOf pd__Ljava_lang_Object__Ljava_util_Optional_ rfl) rfl (by show 2 * 0 + _ ≤ _; exact Nat.le_of_eq rfl) (hb hby d3_43) (fun _ _ => ⟨rfl, rfl, (by decide : 1 + 1 ≤ _), (by decide : 2 + 1 ≤ _)⟩)
  dsimp only [Pt.U, Pt.locs, Pt.cells, Pt.slots] at X3 l3 y3 z3 st3 hQ3
  subst l3 y3 z3
  obtain ⟨m3_0, rfl, N3q, K3q, sq_m3_0, Ea_m3_0, Fa_value_m3_0⟩ := hQ3
  have N3 := Fr.app N2 N3q
  have ne_b1_m3_0 : b1 ≠ m3_0 := Nat.ne_of_lt (Nat.lt_of_lt_of_le Ea2_b1.lt sq_m3_0)
  have ge_m3_0 : n0 ≤ m3_0 := Nat.le_trans Z2 sq_m3_0
  have sz_m3_0 : h0.size ≤ m3_0 := Nat.le_trans KK2.1 sq_m3_0
  have Ea2_b1_3 := Ea2_b1.keep K3q
  have Fa2_from_b1_3 := Fa2_from_b1.keep K3q nin0
  have Fa2_to_b1_3 := Fa2_to_b1.keep K3q nin0
  have Z3 : n0 ≤ T3.heap.size := Nat.le_trans Z2 K3q.1
  have KK3 := KK2.trans K3q all0
  refine own_step (U' := T3.setTop (mkF m 46 #[iv p0, iv p1, .unset] [(.ref m3_0)])) st3 ?_
  refine own_step (U' := T3.setTop (mkF m 55 #[iv p0, iv p1, rv m3_0] [(.ref m3_0)])) (fun t k => XS.astoreN X3.here hx rfl (hb hby d3_46) rfl rfl (l' := #[iv p0, iv p1, rv m3_0]) rfl (XS.goto X3.here hx rfl (pc0 := 47) (pc' := 54) rfl (hb hby d3_47) (by decide) (by decide) (XS.aloadN X3.here hx rfl (hb hby d3_54) rfl rfl k))) ?_
  exact own_out X3 (v := (some (.ref m3_0))) hlk (own_nv Bd.returns) (by exact ⟨m3_0, b1, rfl, N3, KK3, sz_m3_0, Ea_m3_0, Fa_value_m3_0, sz_b1, Ea2_b1_3, Fa2_from_b1_3, Fa2_to_b1_3⟩) (by decide) (by decide) (fun fs hr => X3.areturnOut hx rfl Bd.returns rfl (hb hby d3_55) hr)
theorem ef_3C (m : MethodId) (p0 : Int32) (p1 : Int32) : entryFrame m #[(.int p0), (.int p1)] 3 = mkF m 0 #[iv p0, iv p1, .unset] [] := by first | (simp [entryFrame, mkF, argsToLocals, Value.category]; done) | rfl
def Q3C (Z : State) (p0 : Int32) (p1 : Int32) (wE : Addr) (h0 : Heap) (n0 : Nat) (v : Option Value) (h : Heap) (L : List Loc) : Prop := v = some (.ref wE) ∧ Fr n0 L ∧ h = h0
set_option maxRecDepth 65536 in
set_option maxHeartbeats 40000000 in
theorem rm3C (l : Launch) (Z : State) (a0 : Array Value) (hw : ∀ d ∈ tables_1, d.before a0 Z = true) (ws : List Jvm.Cond) (p0 : Int32) (p1 : Int32) (wE : Addr) (h0 : Heap) (n0 : Nat) (Z0 : n0 ≤ h0.size) (S_EMPTY : Sta Z h0 "java/util/Optional" "EMPTY" "Ljava/util/Optional;" (.ref wE)) (hA : ¬ (32 : Int32) < (p1 - p0)) (hB : ¬ (1 : Int32) < (p1 - p0)) :
    MetFree l (⟨"com/example/termstone/termstone/MergePolicy", "nextMergeAtCommit", "(II)Ljava/util/Optional;"⟩ : MethodName) (head1 (Jvm.Cond.code (⟨"com/example/termstone/termstone/MergePolicy", "nextMergeAtCommit", "(II)Ljava/util/Optional;"⟩ : MethodName) prog_34_method_4_code 3 (some (.object "java/util/Optional")) :: ws) ({ frames := 1, cells := 0, slots := 0, locals := 12 } : Room)) (fun a U => a = #[(.int p0), (.int p1)] ∧ Z.Warmed39 U.vm ∧ U.heap = h0) (fun _ _ _ _ _ => True) (fun _ U o U' => ∃ v L, o = .returned v ∧ Q3C Z p0 p1 wE h0 n0 v U'.heap L ∧ FrameEnd U o U' L ({ frames := 1, cells := 0, slots := 0, locals := 12 } : Room).cells ({ frames := 1, cells := 0, slots := 0, locals := 12 } : Room).slots) := by
  refine MetFree.of_bodySF (plainFor_of_name pn_3) hisR ?_
  intro p e s m args below meth c s₁ Bd hml0 hP hK
  obtain ⟨rfl, hZ, hh⟩ := hP
  have hx := Bd.exec
  have hby := Bd.bytes
  have hml : c.maxLocals = 3 := hml0
  have hown : s.vm.findClass "com/example/termstone/termstone/MergePolicy" = some m.cls := findClass_of_methodNamed Bd.named
  have hnm := (name_of_methodNamed Bd.named Bd.method).1
  have hlk : meth.locks = false := Bd.notSynchronized
  have X0 : Stand p l e ({ frames := 1, cells := 0, slots := 0, locals := 12 } : Room) s m #[(.int p0), (.int p1)] below meth c s₁ [] 0 0 := Stand.of_body Bd
  have e0 : s₁.heap = h0 := by rw [← hh, Bd.state]; rfl
  have N0 := Fr.nil n0
  have KK0 := Keep.refl h0 []
  show own_Go p.tables e below s 0 0 (Q3C Z p0 p1 wE h0 n0) (s₁.setTop (entryFrame m #[(.int p0), (.int p1)] 3))
  rw [ef_3C]
  refine own_step (U' := s₁.setTop (mkF m 30 #[iv p0, iv p1, .unset] [(.int (p1 - p0))])) (fun t k => XS.iloadN X0.here hx rfl (hb hby d3_0) rfl (XS.iloadN X0.here hx rfl (hb hby d3_1) rfl (XS.isub X0.here hx rfl (hb hby d3_2) rfl (XS.bipush X0.here hx rfl (hb hby d3_3) (XS.icmpYes X0.here hx rfl (pc0 := 5) (pc' := 27) rfl (hb hby d3_5) rfl (flt hA).2.2.2 (by decide) (by decide) (XS.iloadN X0.here hx rfl (hb hby d3_27) rfl (XS.iloadN X0.here hx rfl (hb hby d3_28) rfl (XS.isub X0.here hx rfl (hb hby d3_29) rfl k)))))))) ?_
  refine own_step (U' := s₁.setTop (mkF m 50 #[iv p0, iv p1, .unset] [])) (fun t k => XS.iconst X0.here hx rfl (hb hby d3_30) (XS.icmpYes X0.here hx rfl (pc0 := 31) (pc' := 50) rfl (hb hby d3_31) rfl (flt hB).2.2.2 (by decide) (by decide) k)) ?_
  obtain ⟨_, _, ⟨T1, L1, k1, n1⟩, -, X1, ⟨Lc1, hQ1, l1, y1, z1⟩, st1⟩ := Jvm.LawKit.callS X0 hx (y := (⟨"java/util/Optional", "empty", "()Ljava/util/Optional;"⟩ : MethodName)) hown (mvT hZ (own_w hw 69 rfl)) (mvT hZ (own_w hw 70 rfl)) (mvT hZ (own_w hw 32 rfl)) (mvT hZ (own_w hw 71 rfl)) (by decide) (backOf (W := 0) (rm14 l Z a0 hw [] wE h0 n0 Z0 S_EMPTY) hZ (own_w hw 71 rfl) (own_w hw 32 rfl) (by decide) (by decide)) (g := (mkF m 50 #[iv p0, iv p1, .unset] [])) rfl (by rw [hml]; rfl) (argsL := []) (rest := []) (lenOf pd___Ljava_util_Optional_ rfl) rfl (by show 2 * 0 + _ ≤ _; exact Nat.le_of_eq rfl) (hb hby d3_50) (fun _ _ => ⟨rfl, e0, (by decide : 0 + 0 ≤ _), (by decide : 0 + 0 ≤ _)⟩)
  dsimp only [Pt.U, Pt.locs, Pt.cells, Pt.slots] at X1 l1 y1 z1 st1 hQ1
  subst l1 y1 z1
  obtain ⟨rfl, N1q, eq1⟩ := hQ1
  have N1 := Fr.app N0 N1q
  refine own_step (U' := T1.setTop (mkF m 53 #[iv p0, iv p1, .unset] [(.ref wE)])) st1 ?_
  refine own_step (U' := T1.setTop (mkF m 55 #[iv p0, iv p1, rv wE] [(.ref wE)])) (fun t k => XS.astoreN X1.here hx rfl (hb hby d3_53) rfl rfl (l' := #[iv p0, iv p1, rv wE]) rfl (XS.aloadN X1.here hx rfl (hb hby d3_54) rfl rfl k)) ?_
  exact own_out X1 (v := (some (.ref wE))) hlk (own_nv Bd.returns) (by rw [eq1]; exact ⟨rfl, N1, rfl⟩) (by decide) (by decide) (fun fs hr => X1.areturnOut hx rfl Bd.returns rfl (hb hby d3_55) hr)
theorem d10_0 : decode jdk_32_method_6_code 0 = .ok (.aload_n 0, 1) := by decide +kernel
theorem d10_1 : decode jdk_32_method_6_code 1 = .ok (.getfield 13, 3) := by decide +kernel
theorem d10_4 : decode jdk_32_method_6_code 4 = .ok (.ifnull 7, 3) := by decide +kernel
theorem d10_7 : decode jdk_32_method_6_code 7 = .ok (.iconst 1, 1) := by decide +kernel
theorem d10_8 : decode jdk_32_method_6_code 8 = .ok (.goto 4, 3) := by decide +kernel
theorem d10_12 : decode jdk_32_method_6_code 12 = .ok (.ireturn, 1) := by decide +kernel
theorem pn_10 : plainName "java/util/Optional" = true := by first | (simp [plainName, overriddenIn]; done) | decide +kernel
theorem d10_11 : decode jdk_32_method_6_code 11 = .ok (.iconst 0, 1) := by decide +kernel
theorem ef_10r (m : MethodId) (r0 : Addr) : entryFrame m #[(.ref r0)] 1 = mkF m 0 #[rv r0] [] := by first | (simp [entryFrame, mkF, argsToLocals, Value.category]; done) | rfl
def F10r  : Int32 :=
  (1 : Int32)
def Q10r (Z : State) (r0 : Addr) (g : Addr) (h0 : Heap) (n0 : Nat) (v : Option Value) (h : Heap) (L : List Loc) : Prop := v = some (.int F10r) ∧ Fr n0 L ∧ h = h0
set_option maxRecDepth 65536 in
set_option maxHeartbeats 40000000 in
theorem rm10r (l : Launch) (Z : State) (a0 : Array Value) (hw : ∀ d ∈ tables_1, d.before a0 Z = true) (ws : List Jvm.Cond) (r0 : Addr) (g : Addr) (h0 : Heap) (n0 : Nat) (Z0 : n0 ≤ h0.size) (E_r0 : Exa Z h0 r0 "java/util/Optional") (F_value_r0 : Fld Z h0 r0 "java/util/Optional" "value" "Ljava/lang/Object;" (.ref g)) :
    MetFree l (⟨"java/util/Optional", "isPresent", "()Z"⟩ : MethodName) (head1 (Jvm.Cond.code (⟨"java/util/Optional", "isPresent", "()Z"⟩ : MethodName) jdk_32_method_6_code 1 (some .boolean) :: ws) ({ frames := 0, cells := 0, slots := 0, locals := 0 } : Room)) (fun a U => a = #[(.ref r0)] ∧ Z.Warmed39 U.vm ∧ U.heap = h0) (fun _ _ _ _ _ => True) (fun _ U o U' => ∃ v L, o = .returned v ∧ Q10r Z r0 g h0 n0 v U'.heap L ∧ FrameEnd U o U' L ({ frames := 0, cells := 0, slots := 0, locals := 0 } : Room).cells ({ frames := 0, cells := 0, slots := 0, locals := 0 } : Room).slots) := by
  refine MetFree.of_bodySF (plainFor_of_name pn_10) hisR ?_
  intro p e s m args below meth c s₁ Bd hml0 hP hK
  obtain ⟨rfl, hZ, hh⟩ := hP
  have hx := Bd.exec
  have hby := Bd.bytes
  have hml : c.maxLocals = 1 := hml0
  have hown : s.vm.findClass "java/util/Optional" = some m.cls := findClass_of_methodNamed Bd.named
  have hnm := (name_of_methodNamed Bd.named Bd.method).1
  have hlk : meth.locks = false := Bd.notSynchronized
  have X0 : Stand p l e ({ frames := 0, cells := 0, slots := 0, locals := 0 } : Room) s m #[(.ref r0)] below meth c s₁ [] 0 0 := Stand.of_body Bd
  have e0 : s₁.heap = h0 := by rw [← hh, Bd.state]; rfl
  have N0 := Fr.nil n0
  have KK0 := Keep.refl h0 []
  show own_Go p.tables e below s 0 0 (Q10r Z r0 g h0 n0) (s₁.setTop (entryFrame m #[(.ref r0)] 1))
  rw [ef_10r]
  refine own_step (U' := s₁.setTop (mkF m 1 #[rv r0] [(.ref r0)])) (fun t k => XS.aloadN X0.here hx rfl (hb hby d10_0) rfl rfl k) ?_
  obtain ⟨T1, X1, e1, st1⟩ := getF X0 hx hZ hown (host := "") (Or.inl (own_w hw 45 rfl)) Via.refl e0 F_value_r0 (g := (mkF m 1 #[rv r0] [(.ref r0)])) rfl rfl (hb hby d10_1)
  refine own_step (U' := T1.setTop (mkF m 4 #[rv r0] [(.ref g)])) st1 ?_
  refine own_step (U' := T1.setTop (mkF m 12 #[rv r0] [(.int (1 : Int32))])) (fun t k => XS.ifnullNo X1.here hx rfl (hb hby d10_4) rfl (XS.iconst X1.here hx rfl (hb hby d10_7) (XS.goto X1.here hx rfl (pc0 := 8) (pc' := 12) rfl (hb hby d10_8) (by decide) (by decide) k))) ?_
  exact own_out X1 (v := (some (.int (1 : Int32)))) hlk (own_nv Bd.returns) (by rw [e1]; exact ⟨by rw [show F10r = (1 : Int32) from (by simp only [F10r])], N0, rfl⟩) (by decide) (by decide) (fun fs hr => retN X1 hx (t := .boolean) Bd.returns (by simp) (hb hby d10_12) hr)
theorem ef_10n (m : MethodId) (r0 : Addr) : entryFrame m #[(.ref r0)] 1 = mkF m 0 #[rv r0] [] := by first | (simp [entryFrame, mkF, argsToLocals, Value.category]; done) | rfl
def F10n  : Int32 :=
  (0 : Int32)
def Q10n (Z : State) (r0 : Addr) (h0 : Heap) (n0 : Nat) (v : Option Value) (h : Heap) (L : List Loc) : Prop := v = some (.int F10n) ∧ Fr n0 L ∧ h = h0
set_option maxRecDepth 65536 in
set_option maxHeartbeats 40000000 in
theorem rm10n (l : Launch) (Z : State) (a0 : Array Value) (hw : ∀ d ∈ tables_1, d.before a0 Z = true) (ws : List Jvm.Cond) (r0 : Addr) (h0 : Heap) (n0 : Nat) (Z0 : n0 ≤ h0.size) (E_r0 : Exa Z h0 r0 "java/util/Optional") (F_value_r0 : Fld Z h0 r0 "java/util/Optional" "value" "Ljava/lang/Object;" .null) :
    MetFree l (⟨"java/util/Optional", "isPresent", "()Z"⟩ : MethodName) (head1 (Jvm.Cond.code (⟨"java/util/Optional", "isPresent", "()Z"⟩ : MethodName) jdk_32_method_6_code 1 (some .boolean) :: ws) ({ frames := 0, cells := 0, slots := 0, locals := 0 } : Room)) (fun a U => a = #[(.ref r0)] ∧ Z.Warmed39 U.vm ∧ U.heap = h0) (fun _ _ _ _ _ => True) (fun _ U o U' => ∃ v L, o = .returned v ∧ Q10n Z r0 h0 n0 v U'.heap L ∧ FrameEnd U o U' L ({ frames := 0, cells := 0, slots := 0, locals := 0 } : Room).cells ({ frames := 0, cells := 0, slots := 0, locals := 0 } : Room).slots) := by
  refine MetFree.of_bodySF (plainFor_of_name pn_10) hisR ?_
  intro p e s m args below meth c s₁ Bd hml0 hP hK
  obtain ⟨rfl, hZ, hh⟩ := hP
  have hx := Bd.exec
  have hby := Bd.bytes
  have hml : c.maxLocals = 1 := hml0
  have hown : s.vm.findClass "java/util/Optional" = some m.cls := findClass_of_methodNamed Bd.named
  have hnm := (name_of_methodNamed Bd.named Bd.method).1
  have hlk : meth.locks = false := Bd.notSynchronized
  have X0 : Stand p l e ({ frames := 0, cells := 0, slots := 0, locals := 0 } : Room) s m #[(.ref r0)] below meth c s₁ [] 0 0 := Stand.of_body Bd
  have e0 : s₁.heap = h0 := by rw [← hh, Bd.state]; rfl
  have N0 := Fr.nil n0
  have KK0 := Keep.refl h0 []
  show own_Go p.tables e below s 0 0 (Q10n Z r0 h0 n0) (s₁.setTop (entryFrame m #[(.ref r0)] 1))
  rw [ef_10n]
  refine own_step (U' := s₁.setTop (mkF m 1 #[rv r0] [(.ref r0)])) (fun t k => XS.aloadN X0.here hx rfl (hb hby d10_0) rfl rfl k) ?_
  obtain ⟨T1, X1, e1, st1⟩ := getF X0 hx hZ hown (host := "") (Or.inl (own_w hw 45 rfl)) Via.refl e0 F_value_r0 (g := (mkF m 1 #[rv r0] [(.ref r0)])) rfl rfl (hb hby d10_1)
  refine own_step (U' := T1.setTop (mkF m 4 #[rv r0] [.null])) st1 ?_
  refine own_step (U' := T1.setTop (mkF m 12 #[rv r0] [(.int (0 : Int32))])) (fun t k => XS.ifnullYes X1.here hx rfl (pc0 := 4) (pc' := 11) rfl (hb hby d10_4) rfl (by decide) (by decide) (XS.iconst X1.here hx rfl (hb hby d10_11) k)) ?_
  exact own_out X1 (v := (some (.int (0 : Int32)))) hlk (own_nv Bd.returns) (by rw [e1]; exact ⟨by rw [show F10n = (0 : Int32) from (by simp only [F10n])], N0, rfl⟩) (by decide) (by decide) (fun fs hr => retN X1 hx (t := .boolean) Bd.returns (by simp) (hb hby d10_12) hr)
theorem d11_0 : decode jdk_32_method_5_code 0 = .ok (.aload_n 0, 1) := by decide +kernel
theorem d11_1 : decode jdk_32_method_5_code 1 = .ok (.getfield 13, 3) := by decide +kernel
theorem d11_4 : decode jdk_32_method_5_code 4 = .ok (.ifnonnull 13, 3) := by decide +kernel
theorem d11_17 : decode jdk_32_method_5_code 17 = .ok (.aload_n 0, 1) := by decide +kernel
theorem d11_18 : decode jdk_32_method_5_code 18 = .ok (.getfield 13, 3) := by decide +kernel
theorem d11_21 : decode jdk_32_method_5_code 21 = .ok (.areturn, 1) := by decide +kernel
theorem pn_11 : plainName "java/util/Optional" = true := by first | (simp [plainName, overriddenIn]; done) | decide +kernel
theorem ef_11 (m : MethodId) (r0 : Addr) : entryFrame m #[(.ref r0)] 1 = mkF m 0 #[rv r0] [] := by first | (simp [entryFrame, mkF, argsToLocals, Value.category]; done) | rfl
def Q11 (Z : State) (r0 : Addr) (g : Addr) (h0 : Heap) (n0 : Nat) (v : Option Value) (h : Heap) (L : List Loc) : Prop := v = some (.ref g) ∧ Fr n0 L ∧ h = h0
set_option maxRecDepth 65536 in
set_option maxHeartbeats 40000000 in
theorem rm11 (l : Launch) (Z : State) (a0 : Array Value) (hw : ∀ d ∈ tables_1, d.before a0 Z = true) (ws : List Jvm.Cond) (r0 : Addr) (g : Addr) (h0 : Heap) (n0 : Nat) (Z0 : n0 ≤ h0.size) (E_r0 : Exa Z h0 r0 "java/util/Optional") (F_value_r0 : Fld Z h0 r0 "java/util/Optional" "value" "Ljava/lang/Object;" (.ref g)) :
    MetFree l (⟨"java/util/Optional", "get", "()Ljava/lang/Object;"⟩ : MethodName) (head1 (Jvm.Cond.code (⟨"java/util/Optional", "get", "()Ljava/lang/Object;"⟩ : MethodName) jdk_32_method_5_code 1 (some (.object "java/lang/Object")) :: ws) ({ frames := 0, cells := 0, slots := 0, locals := 0 } : Room)) (fun a U => a = #[(.ref r0)] ∧ Z.Warmed39 U.vm ∧ U.heap = h0) (fun _ _ _ _ _ => True) (fun _ U o U' => ∃ v L, o = .returned v ∧ Q11 Z r0 g h0 n0 v U'.heap L ∧ FrameEnd U o U' L ({ frames := 0, cells := 0, slots := 0, locals := 0 } : Room).cells ({ frames := 0, cells := 0, slots := 0, locals := 0 } : Room).slots) := by
  refine MetFree.of_bodySF (plainFor_of_name pn_11) hisR ?_
  intro p e s m args below meth c s₁ Bd hml0 hP hK
  obtain ⟨rfl, hZ, hh⟩ := hP
  have hx := Bd.exec
  have hby := Bd.bytes
  have hml : c.maxLocals = 1 := hml0
  have hown : s.vm.findClass "java/util/Optional" = some m.cls := findClass_of_methodNamed Bd.named
  have hnm := (name_of_methodNamed Bd.named Bd.method).1
  have hlk : meth.locks = false := Bd.notSynchronized
  have X0 : Stand p l e ({ frames := 0, cells := 0, slots := 0, locals := 0 } : Room) s m #[(.ref r0)] below meth c s₁ [] 0 0 := Stand.of_body Bd
  have e0 : s₁.heap = h0 := by rw [← hh, Bd.state]; rfl
  have N0 := Fr.nil n0
  have KK0 := Keep.refl h0 []
  show own_Go p.tables e below s 0 0 (Q11 Z r0 g h0 n0) (s₁.setTop (entryFrame m #[(.ref r0)] 1))
  rw [ef_11]
  refine own_step (U' := s₁.setTop (mkF m 1 #[rv r0] [(.ref r0)])) (fun t k => XS.aloadN X0.here hx rfl (hb hby d11_0) rfl rfl k) ?_
  obtain ⟨T1, X1, e1, st1⟩ := getF X0 hx hZ hown (host := "") (Or.inl (own_w hw 45 rfl)) Via.refl e0 F_value_r0 (g := (mkF m 1 #[rv r0] [(.ref r0)])) rfl rfl (hb hby d11_1)
  refine own_step (U' := T1.setTop (mkF m 4 #[rv r0] [(.ref g)])) st1 ?_
  refine own_step (U' := T1.setTop (mkF m 18 #[rv r0] [(.ref r0)])) (fun t k => XS.ifnonnullYes X1.here hx rfl (pc0 := 4) (pc' := 17) rfl (hb hby d11_4) rfl (by decide) (by decide) (XS.aloadN X1.here hx rfl (hb hby d11_17) rfl rfl k)) ?_
  obtain ⟨T2, X2, e2, st2⟩ := getF X1 hx hZ hown (host := "") (Or.inl (own_w hw 45 rfl)) Via.refl e1 F_value_r0 (g := (mkF m 18 #[rv r0] [(.ref r0)])) rfl rfl (hb hby d11_18)
  refine own_step (U' := T2.setTop (mkF m 21 #[rv r0] [(.ref g)])) st2 ?_
  exact own_out X2 (v := (some (.ref g))) hlk (own_nv Bd.returns) (by rw [e2]; exact ⟨rfl, N0, rfl⟩) (by decide) (by decide) (fun fs hr => X2.areturnOut hx rfl Bd.returns rfl (hb hby d11_21) hr)
theorem d12_0 : decode prog_35_method_5_code 0 = .ok (.aload_n 0, 1) := by decide +kernel
theorem d12_1 : decode prog_35_method_5_code 1 = .ok (.getfield 7, 3) := by decide +kernel
theorem d12_4 : decode prog_35_method_5_code 4 = .ok (.ireturn, 1) := by decide +kernel
theorem pn_12 : plainName "com/example/termstone/termstone/MergePolicy$Run" = true := by first | (simp [plainName, overriddenIn]; done) | decide +kernel
theorem ef_12 (m : MethodId) (r0 : Addr) : entryFrame m #[(.ref r0)] 1 = mkF m 0 #[rv r0] [] := by first | (simp [entryFrame, mkF, argsToLocals, Value.category]; done) | rfl
def F12 (w : Int32) : Int32 :=
  w
def Q12 (Z : State) (r0 : Addr) (w : Int32) (h0 : Heap) (n0 : Nat) (v : Option Value) (h : Heap) (L : List Loc) : Prop := v = some (.int (F12 w)) ∧ Fr n0 L ∧ h = h0
set_option maxRecDepth 65536 in
set_option maxHeartbeats 40000000 in
theorem rm12 (l : Launch) (Z : State) (a0 : Array Value) (hw : ∀ d ∈ tables_1, d.before a0 Z = true) (ws : List Jvm.Cond) (r0 : Addr) (w : Int32) (h0 : Heap) (n0 : Nat) (Z0 : n0 ≤ h0.size) (E_r0 : Exa Z h0 r0 "com/example/termstone/termstone/MergePolicy$Run") (F_from_r0 : Fld Z h0 r0 "com/example/termstone/termstone/MergePolicy$Run" "from" "I" (.int w)) :
    MetFree l (⟨"com/example/termstone/termstone/MergePolicy$Run", "from", "()I"⟩ : MethodName) (head1 (Jvm.Cond.code (⟨"com/example/termstone/termstone/MergePolicy$Run", "from", "()I"⟩ : MethodName) prog_35_method_5_code 1 (some .int) :: ws) ({ frames := 0, cells := 0, slots := 0, locals := 0 } : Room)) (fun a U => a = #[(.ref r0)] ∧ Z.Warmed39 U.vm ∧ U.heap = h0) (fun _ _ _ _ _ => True) (fun _ U o U' => ∃ v L, o = .returned v ∧ Q12 Z r0 w h0 n0 v U'.heap L ∧ FrameEnd U o U' L ({ frames := 0, cells := 0, slots := 0, locals := 0 } : Room).cells ({ frames := 0, cells := 0, slots := 0, locals := 0 } : Room).slots) := by
  refine MetFree.of_bodySF (plainFor_of_name pn_12) hisR ?_
  intro p e s m args below meth c s₁ Bd hml0 hP hK
  obtain ⟨rfl, hZ, hh⟩ := hP
  have hx := Bd.exec
  have hby := Bd.bytes
  have hml : c.maxLocals = 1 := hml0
  have hown : s.vm.findClass "com/example/termstone/termstone/MergePolicy$Run" = some m.cls := findClass_of_methodNamed Bd.named
  have hnm := (name_of_methodNamed Bd.named Bd.method).1
  have hlk : meth.locks = false := Bd.notSynchronized
  have X0 : Stand p l e ({ frames := 0, cells := 0, slots := 0, locals := 0 } : Room) s m #[(.ref r0)] below meth c s₁ [] 0 0 := Stand.of_body Bd
  have e0 : s₁.heap = h0 := by rw [← hh, Bd.state]; rfl
  have N0 := Fr.nil n0
  have KK0 := Keep.refl h0 []
  show own_Go p.tables e below s 0 0 (Q12 Z r0 w h0 n0) (s₁.setTop (entryFrame m #[(.ref r0)] 1))
  rw [ef_12]
  refine own_step (U' := s₁.setTop (mkF m 1 #[rv r0] [(.ref r0)])) (fun t k => XS.aloadN X0.here hx rfl (hb hby d12_0) rfl rfl k) ?_
  obtain ⟨T1, X1, e1, st1⟩ := getF X0 hx hZ hown (host := "") (Or.inl (own_w hw 26 rfl)) Via.refl e0 F_from_r0 (g := (mkF m 1 #[rv r0] [(.ref r0)])) rfl rfl (hb hby d12_1)
  refine own_step (U' := T1.setTop (mkF m 4 #[rv r0] [(.int w)])) st1 ?_
  exact own_out X1 (v := (some (.int w))) hlk (own_nv Bd.returns) (by rw [e1]; exact ⟨by rw [show (F12 w) = w from (by simp only [F12])], N0, rfl⟩) (by decide) (by decide) (fun fs hr => retI X1 hx Bd.returns (hb hby d12_4) hr)
theorem d13_0 : decode prog_35_method_6_code 0 = .ok (.aload_n 0, 1) := by decide +kernel
theorem d13_1 : decode prog_35_method_6_code 1 = .ok (.getfield 13, 3) := by decide +kernel
theorem d13_4 : decode prog_35_method_6_code 4 = .ok (.ireturn, 1) := by decide +kernel
theorem pn_13 : plainName "com/example/termstone/termstone/MergePolicy$Run" = true := by first | (simp [plainName, overriddenIn]; done) | decide +kernel
theorem ef_13 (m : MethodId) (r0 : Addr) : entryFrame m #[(.ref r0)] 1 = mkF m 0 #[rv r0] [] := by first | (simp [entryFrame, mkF, argsToLocals, Value.category]; done) | rfl
def F13 (w : Int32) : Int32 :=
  w
def Q13 (Z : State) (r0 : Addr) (w : Int32) (h0 : Heap) (n0 : Nat) (v : Option Value) (h : Heap) (L : List Loc) : Prop := v = some (.int (F13 w)) ∧ Fr n0 L ∧ h = h0
set_option maxRecDepth 65536 in
set_option maxHeartbeats 40000000 in
theorem rm13 (l : Launch) (Z : State) (a0 : Array Value) (hw : ∀ d ∈ tables_1, d.before a0 Z = true) (ws : List Jvm.Cond) (r0 : Addr) (w : Int32) (h0 : Heap) (n0 : Nat) (Z0 : n0 ≤ h0.size) (E_r0 : Exa Z h0 r0 "com/example/termstone/termstone/MergePolicy$Run") (F_to_r0 : Fld Z h0 r0 "com/example/termstone/termstone/MergePolicy$Run" "to" "I" (.int w)) :
    MetFree l (⟨"com/example/termstone/termstone/MergePolicy$Run", "to", "()I"⟩ : MethodName) (head1 (Jvm.Cond.code (⟨"com/example/termstone/termstone/MergePolicy$Run", "to", "()I"⟩ : MethodName) prog_35_method_6_code 1 (some .int) :: ws) ({ frames := 0, cells := 0, slots := 0, locals := 0 } : Room)) (fun a U => a = #[(.ref r0)] ∧ Z.Warmed39 U.vm ∧ U.heap = h0) (fun _ _ _ _ _ => True) (fun _ U o U' => ∃ v L, o = .returned v ∧ Q13 Z r0 w h0 n0 v U'.heap L ∧ FrameEnd U o U' L ({ frames := 0, cells := 0, slots := 0, locals := 0 } : Room).cells ({ frames := 0, cells := 0, slots := 0, locals := 0 } : Room).slots) := by
  refine MetFree.of_bodySF (plainFor_of_name pn_13) hisR ?_
  intro p e s m args below meth c s₁ Bd hml0 hP hK
  obtain ⟨rfl, hZ, hh⟩ := hP
  have hx := Bd.exec
  have hby := Bd.bytes
  have hml : c.maxLocals = 1 := hml0
  have hown : s.vm.findClass "com/example/termstone/termstone/MergePolicy$Run" = some m.cls := findClass_of_methodNamed Bd.named
  have hnm := (name_of_methodNamed Bd.named Bd.method).1
  have hlk : meth.locks = false := Bd.notSynchronized
  have X0 : Stand p l e ({ frames := 0, cells := 0, slots := 0, locals := 0 } : Room) s m #[(.ref r0)] below meth c s₁ [] 0 0 := Stand.of_body Bd
  have e0 : s₁.heap = h0 := by rw [← hh, Bd.state]; rfl
  have N0 := Fr.nil n0
  have KK0 := Keep.refl h0 []
  show own_Go p.tables e below s 0 0 (Q13 Z r0 w h0 n0) (s₁.setTop (entryFrame m #[(.ref r0)] 1))
  rw [ef_13]
  refine own_step (U' := s₁.setTop (mkF m 1 #[rv r0] [(.ref r0)])) (fun t k => XS.aloadN X0.here hx rfl (hb hby d13_0) rfl rfl k) ?_
  obtain ⟨T1, X1, e1, st1⟩ := getF X0 hx hZ hown (host := "") (Or.inl (own_w hw 28 rfl)) Via.refl e0 F_to_r0 (g := (mkF m 1 #[rv r0] [(.ref r0)])) rfl rfl (hb hby d13_1)
  refine own_step (U' := T1.setTop (mkF m 4 #[rv r0] [(.int w)])) st1 ?_
  exact own_out X1 (v := (some (.int w))) hlk (own_nv Bd.returns) (by rw [e1]; exact ⟨by rw [show (F13 w) = w from (by simp only [F13])], N0, rfl⟩) (by decide) (by decide) (fun fs hr => retI X1 hx Bd.returns (hb hby d13_4) hr)

theorem own_pres : ¬ F10r = (0 : Int32) := by decide
theorem own_mm (x y : Int32) : (F1 x y).toInt = min x.toInt y.toInt ∧ (F2 x y).toInt = max x.toInt y.toInt := by
  simp only [F1, F2]
  constructor
  · split
    · rename_i h; rw [Int32.lt_iff_toInt_lt] at h; omega
    · rename_i h; rw [Int32.lt_iff_toInt_lt] at h; omega
  · split
    · rename_i h; rw [Int32.lt_iff_toInt_lt] at h; omega
    · rename_i h; rw [Int32.lt_iff_toInt_lt] at h; omega
theorem own_x (a : Int32) : 0 ≤ (a &&& (2147483647 : Int32)).toInt := by
  have m := c_mask a 2147483647 31 (by decide) (by decide)
  omega
theorem own_y {a b c y : Int32} (h : y = (if (c &&& (1 : Int32)) = (0 : Int32) then (if (a &&& (2147483647 : Int32)) < (63 : Int32) then ((a &&& (2147483647 : Int32)) + (b &&& (63 : Int32))) else ((a &&& (2147483647 : Int32)) - (b &&& (63 : Int32)))) else (b &&& (2147483647 : Int32)))) : 0 ≤ y.toInt := by
  subst h
  have e63 : (63 : Int32).toInt = 63 := by decide
  have hx := own_x a
  have hb := c_mask b 63 6 (by decide) (by decide)
  have rx := rng32 (a &&& (2147483647 : Int32))
  split
  · split
    · rename_i q
      rw [Int32.lt_iff_toInt_lt] at q
      have s := c_iadd (a &&& (2147483647 : Int32)) (b &&& (63 : Int32))
      have r := rng32 ((a &&& (2147483647 : Int32)) + (b &&& (63 : Int32)))
      omega
    · rename_i q
      rw [Int32.lt_iff_toInt_lt] at q
      have s := c_isub (a &&& (2147483647 : Int32)) (b &&& (63 : Int32))
      have r := rng32 ((a &&& (2147483647 : Int32)) - (b &&& (63 : Int32)))
      omega
  · exact own_x b
theorem own_cnt {x y : Int32} (hx : 0 ≤ x.toInt) (hy : 0 ≤ y.toInt) : (F2 x y - F1 x y).toInt = (F2 x y).toInt - (F1 x y).toInt ∧ 0 ≤ (F1 x y).toInt ∧ (F1 x y).toInt ≤ (F2 x y).toInt ∧ (F2 x y).toInt < 2147483648 := by
  obtain ⟨h1, h2⟩ := own_mm x y
  have s := c_isub (F2 x y) (F1 x y)
  have r := rng32 (F2 x y - F1 x y)
  have r1 := rng32 x; have r2 := rng32 y
  omega
theorem own_e32 {x y : Int32} (hx : 0 ≤ x.toInt) (hy : 0 ≤ y.toInt) : (F2 x y - 32).toInt = (F2 x y).toInt - 32 := by
  obtain ⟨h1, h2, h3, h4⟩ := own_cnt hx hy
  have e32 : (32 : Int32).toInt = 32 := by decide
  have s := c_isub (F2 x y) 32
  have r := rng32 (F2 x y - 32)
  omega
theorem own_A1 {x y : Int32} (hx : 0 ≤ x.toInt) (hy : 0 ≤ y.toInt) (h : (32 : Int32) < (F2 x y - F1 x y)) : F12 (F2 x y - (32 : Int32)) = F2 (F1 x y) (F2 x y - (32 : Int32)) := by
  obtain ⟨h1, h2, h3, h4⟩ := own_cnt hx hy
  have e32 : (32 : Int32).toInt = 32 := by decide
  have q := (own_mm (F1 x y) (F2 x y - 32)).2
  have q2 := own_e32 hx hy
  rw [Int32.lt_iff_toInt_lt] at h
  apply Int32.toInt_inj.mp
  show (F2 x y - (32 : Int32)).toInt = _
  omega
theorem own_A3 {x y : Int32} (hx : 0 ≤ x.toInt) (hy : 0 ≤ y.toInt) (h : (32 : Int32) < (F2 x y - F1 x y)) : (F13 (F2 x y)) - (F12 (F2 x y - (32 : Int32))) = F1 (F2 x y - F1 x y) (32 : Int32) := by
  obtain ⟨h1, h2, h3, h4⟩ := own_cnt hx hy
  have e32 : (32 : Int32).toInt = 32 := by decide
  have q := (own_mm (F2 x y - F1 x y) 32).1
  have q2 := own_e32 hx hy
  rw [Int32.lt_iff_toInt_lt] at h
  have s := c_isub (F2 x y) (F2 x y - 32)
  have r := rng32 (F2 x y - (F2 x y - 32))
  apply Int32.toInt_inj.mp
  show (F2 x y - (F2 x y - (32 : Int32))).toInt = _
  omega
theorem own_B1 {x y : Int32} (hx : 0 ≤ x.toInt) (hy : 0 ≤ y.toInt) (h : ¬ (32 : Int32) < (F2 x y - F1 x y)) : F12 (F1 x y) = F2 (F1 x y) (F2 x y - (32 : Int32)) := by
  obtain ⟨h1, h2, h3, h4⟩ := own_cnt hx hy
  have e32 : (32 : Int32).toInt = 32 := by decide
  have q := (own_mm (F1 x y) (F2 x y - 32)).2
  have q2 := own_e32 hx hy
  rw [Int32.lt_iff_toInt_lt] at h
  apply Int32.toInt_inj.mp
  show (F1 x y).toInt = _
  omega
theorem own_B3 {x y : Int32} (hx : 0 ≤ x.toInt) (hy : 0 ≤ y.toInt) (h : ¬ (32 : Int32) < (F2 x y - F1 x y)) : (F13 (F2 x y)) - (F12 (F1 x y)) = F1 (F2 x y - F1 x y) (32 : Int32) := by
  obtain ⟨h1, h2, h3, h4⟩ := own_cnt hx hy
  have e32 : (32 : Int32).toInt = 32 := by decide
  have q := (own_mm (F2 x y - F1 x y) 32).1
  rw [Int32.lt_iff_toInt_lt] at h
  apply Int32.toInt_inj.mp
  show (F2 x y - F1 x y).toInt = _
  omega

theorem pn_0 : plainName "com/example/termstone/termstone/MergePolicyNextMergeAtCommitPinLaw" = true := by first | (simp [plainName, overriddenIn]; done) | decide +kernel
theorem ef_0 (m : MethodId) (p0 : Int32) (p1 : Int32) (p2 : Int32) : entryFrame m #[(.int p0), (.int p1), (.int p2)] maxLocals = mkF m 0 #[iv p0, iv p1, iv p2, .unset, .unset, .unset, .unset, .unset, .unset, .unset, .unset, .unset] [] := by first | (simp [entryFrame, mkF, argsToLocals, Value.category, maxLocals]; done) | rfl
def Q0 (Z : State) (p0 : Int32) (p1 : Int32) (p2 : Int32) (wE : Addr) (h0 : Heap) (n0 : Nat) (v : Option Value) (h : Heap) (L : List Loc) : Prop := v = some (.int 1) ∧ Fr n0 L
set_option maxRecDepth 65536 in
set_option maxHeartbeats 40000000 in
theorem rm0 (l : Launch) (Z : State) (a0 : Array Value) (hw : ∀ d ∈ tables_1, d.before a0 Z = true) (ws : List Jvm.Cond) (p0 : Int32) (p1 : Int32) (p2 : Int32) (wE : Addr) (h0 : Heap) (n0 : Nat) (Z0 : n0 ≤ h0.size) (S_EMPTY : Sta Z h0 "java/util/Optional" "EMPTY" "Ljava/util/Optional;" (.ref wE)) (E_wE : Exa Z h0 wE "java/util/Optional") (F_value_wE : Fld Z h0 wE "java/util/Optional" "value" "Ljava/lang/Object;" .null) :
    MetFree l x (head1 (Jvm.Cond.code x code maxLocals ret :: ws) room_1) (fun a U => a = #[(.int p0), (.int p1), (.int p2)] ∧ Z.Warmed39 U.vm ∧ U.heap = h0) (fun _ _ _ _ _ => True) (fun _ U o U' => ∃ v L, o = .returned v ∧ Q0 Z p0 p1 p2 wE h0 n0 v U'.heap L ∧ FrameEnd U o U' L 16 128) := by
  refine MetFree.of_bodySF (plainFor_of_name pn_0) hisR ?_
  intro p e s m args below meth c s₁ Bd hml0 hP hK
  obtain ⟨rfl, hZ, hh⟩ := hP
  have hx := Bd.exec
  have hby := Bd.bytes
  have hml : c.maxLocals = 12 := hml0
  have hown : s.vm.findClass "com/example/termstone/termstone/MergePolicyNextMergeAtCommitPinLaw" = some m.cls := findClass_of_methodNamed Bd.named
  have hnm := (name_of_methodNamed Bd.named Bd.method).1
  have hlk : meth.locks = false := Bd.notSynchronized
  have X0 : Stand p l e room_1 s m #[(.int p0), (.int p1), (.int p2)] below meth c s₁ [] 0 0 := Stand.of_body Bd
  have e0 : s₁.heap = h0 := by rw [← hh, Bd.state]; rfl
  have N0 := Fr.nil n0
  have KK0 := Keep.refl h0 []
  show own_Go p.tables e below s 16 128 (Q0 Z p0 p1 p2 wE h0 n0) (s₁.setTop (entryFrame m #[(.int p0), (.int p1), (.int p2)] maxLocals))
  rw [ef_0]
  refine own_step (U' := s₁.setTop (mkF m 11 #[iv p0, iv p1, iv p2, iv (p0 &&& (2147483647 : Int32)), iv (p1 &&& (63 : Int32)), .unset, .unset, .unset, .unset, .unset, .unset, .unset] [])) (fun t k => XS.iloadN X0.here hx rfl (hb hby at_0) rfl (X0.ldcInt hx hown (mvT hZ (own_w hw 0 rfl)) (g := (mkF m 1 #[iv p0, iv p1, iv p2, .unset, .unset, .unset, .unset, .unset, .unset, .unset, .unset, .unset] [(.int p0)])) rfl (hb hby at_1) t (XS.iand X0.here hx rfl (hb hby at_3) rfl (XS.istoreN X0.here hx rfl (hb hby at_4) rfl (l' := #[iv p0, iv p1, iv p2, iv (p0 &&& (2147483647 : Int32)), .unset, .unset, .unset, .unset, .unset, .unset, .unset, .unset]) rfl (XS.iloadN X0.here hx rfl (hb hby at_5) rfl (XS.bipush X0.here hx rfl (hb hby at_6) (XS.iand X0.here hx rfl (hb hby at_8) rfl (XS.istore X0.here hx rfl (hb hby at_9) rfl (l' := #[iv p0, iv p1, iv p2, iv (p0 &&& (2147483647 : Int32)), iv (p1 &&& (63 : Int32)), .unset, .unset, .unset, .unset, .unset, .unset, .unset]) rfl k)))))))) ?_
  refine own_step (U' := s₁.setTop (mkF m 14 #[iv p0, iv p1, iv p2, iv (p0 &&& (2147483647 : Int32)), iv (p1 &&& (63 : Int32)), .unset, .unset, .unset, .unset, .unset, .unset, .unset] [(.int (p2 &&& (1 : Int32)))])) (fun t k => XS.iloadN X0.here hx rfl (hb hby at_11) rfl (XS.iconst X0.here hx rfl (hb hby at_12) (XS.iand X0.here hx rfl (hb hby at_13) rfl k))) ?_
  obtain ⟨v47_3, hv47_3⟩ : ∃ v : Int32, v = (if (p2 &&& (1 : Int32)) = (0 : Int32) then (if (p0 &&& (2147483647 : Int32)) < (63 : Int32) then ((p0 &&& (2147483647 : Int32)) + (p1 &&& (63 : Int32))) else ((p0 &&& (2147483647 : Int32)) - (p1 &&& (63 : Int32)))) else (p1 &&& (2147483647 : Int32))) := ⟨_, rfl⟩
  have K47_4 : ∀ (T' : State) (locs' : List Loc) (X' : Stand p l e room_1 s m #[(.int p0), (.int p1), (.int p2)] below meth c T' locs' 0 0) (N' : Fr n0 locs') (e' : T'.heap = h0), own_Go p.tables e below s 16 128 (Q0 Z p0 p1 p2 wE h0 n0) (T'.setTop (mkF m 47 #[iv p0, iv p1, iv p2, iv (p0 &&& (2147483647 : Int32)), iv (p1 &&& (63 : Int32)), iv v47_3, .unset, .unset, .unset, .unset, .unset, .unset] [])) := by
    intro T4 L4 X4 N4 e4
    refine own_step (U' := T4.setTop (mkF m 50 #[iv p0, iv p1, iv p2, iv (p0 &&& (2147483647 : Int32)), iv (p1 &&& (63 : Int32)), iv v47_3, .unset, .unset, .unset, .unset, .unset, .unset] [(.int v47_3), (.int (p0 &&& (2147483647 : Int32)))])) (fun t k => XS.iloadN X4.here hx rfl (hb hby at_47) rfl (XS.iload X4.here hx rfl (hb hby at_48) rfl k)) ?_
    obtain ⟨_, _, ⟨T5, L5, k5, n5⟩, -, X5, ⟨Lc5, hQ5, l5, y5, z5⟩, st5⟩ := Jvm.LawKit.callS X4 hx (y := (⟨"java/lang/Math", "min", "(II)I"⟩ : MethodName)) hown (mvT hZ (own_w hw 1 rfl)) (mvT hZ (own_w hw 2 rfl)) (mvT hZ (own_w hw 3 rfl)) (mvT hZ (own_w hw 4 rfl)) (by decide) (backOf (W := 0) (rm1 l Z a0 hw [] (p0 &&& (2147483647 : Int32)) v47_3 h0 n0 Z0) hZ (own_w hw 4 rfl) (own_w hw 3 rfl) (by decide) (by decide)) (g := (mkF m 50 #[iv p0, iv p1, iv p2, iv (p0 &&& (2147483647 : Int32)), iv (p1 &&& (63 : Int32)), iv v47_3, .unset, .unset, .unset, .unset, .unset, .unset] [(.int v47_3), (.int (p0 &&& (2147483647 : Int32)))])) rfl (by rw [hml]; rfl) (argsL := [(.int (p0 &&& (2147483647 : Int32))), (.int v47_3)]) (rest := []) (lenOf pd__II_I rfl) rfl (by show 2 * 0 + _ ≤ _; exact Nat.le_of_eq rfl) (hb hby at_50) (fun _ _ => ⟨rfl, e4, (by decide : 0 + 0 ≤ _), (by decide : 0 + 0 ≤ _)⟩)
    dsimp only [Pt.U, Pt.locs, Pt.cells, Pt.slots] at X5 l5 y5 z5 st5 hQ5
    subst l5 y5 z5
    obtain ⟨rfl, N5q, eq5⟩ := hQ5
    have N5 := Fr.app N4 N5q
    refine own_step (U' := T5.setTop (mkF m 53 #[iv p0, iv p1, iv p2, iv (p0 &&& (2147483647 : Int32)), iv (p1 &&& (63 : Int32)), iv v47_3, .unset, .unset, .unset, .unset, .unset, .unset] [(.int (F1 (p0 &&& (2147483647 : Int32)) v47_3))])) st5 ?_
    refine own_step (U' := T5.setTop (mkF m 58 #[iv p0, iv p1, iv p2, iv (p0 &&& (2147483647 : Int32)), iv (p1 &&& (63 : Int32)), iv v47_3, iv (F1 (p0 &&& (2147483647 : Int32)) v47_3), .unset, .unset, .unset, .unset, .unset] [(.int v47_3), (.int (p0 &&& (2147483647 : Int32)))])) (fun t k => XS.istore X5.here hx rfl (hb hby at_53) rfl (l' := #[iv p0, iv p1, iv p2, iv (p0 &&& (2147483647 : Int32)), iv (p1 &&& (63 : Int32)), iv v47_3, iv (F1 (p0 &&& (2147483647 : Int32)) v47_3), .unset, .unset, .unset, .unset, .unset]) rfl (XS.iloadN X5.here hx rfl (hb hby at_55) rfl (XS.iload X5.here hx rfl (hb hby at_56) rfl k))) ?_
    obtain ⟨_, _, ⟨T6, L6, k6, n6⟩, -, X6, ⟨Lc6, hQ6, l6, y6, z6⟩, st6⟩ := Jvm.LawKit.callS X5 hx (y := (⟨"java/lang/Math", "max", "(II)I"⟩ : MethodName)) hown (mvT hZ (own_w hw 5 rfl)) (mvT hZ (own_w hw 6 rfl)) (mvT hZ (own_w hw 3 rfl)) (mvT hZ (own_w hw 7 rfl)) (by decide) (backOf (W := 0) (rm2 l Z a0 hw [] (p0 &&& (2147483647 : Int32)) v47_3 h0 n0 Z0) hZ (own_w hw 7 rfl) (own_w hw 3 rfl) (by decide) (by decide)) (g := (mkF m 58 #[iv p0, iv p1, iv p2, iv (p0 &&& (2147483647 : Int32)), iv (p1 &&& (63 : Int32)), iv v47_3, iv (F1 (p0 &&& (2147483647 : Int32)) v47_3), .unset, .unset, .unset, .unset, .unset] [(.int v47_3), (.int (p0 &&& (2147483647 : Int32)))])) rfl (by rw [hml]; rfl) (argsL := [(.int (p0 &&& (2147483647 : Int32))), (.int v47_3)]) (rest := []) (lenOf pd__II_I rfl) rfl (by show 2 * 0 + _ ≤ _; exact Nat.le_of_eq rfl) (hb hby at_58) (fun _ _ => ⟨rfl, eq5, (by decide : 0 + 0 ≤ _), (by decide : 0 + 0 ≤ _)⟩)
    dsimp only [Pt.U, Pt.locs, Pt.cells, Pt.slots] at X6 l6 y6 z6 st6 hQ6
    subst l6 y6 z6
    obtain ⟨rfl, N6q, eq6⟩ := hQ6
    have N6 := Fr.app N5 N6q
    refine own_step (U' := T6.setTop (mkF m 61 #[iv p0, iv p1, iv p2, iv (p0 &&& (2147483647 : Int32)), iv (p1 &&& (63 : Int32)), iv v47_3, iv (F1 (p0 &&& (2147483647 : Int32)) v47_3), .unset, .unset, .unset, .unset, .unset] [(.int (F2 (p0 &&& (2147483647 : Int32)) v47_3))])) st6 ?_
    refine own_step (U' := T6.setTop (mkF m 74 #[iv p0, iv p1, iv p2, iv (p0 &&& (2147483647 : Int32)), iv (p1 &&& (63 : Int32)), iv v47_3, iv (F1 (p0 &&& (2147483647 : Int32)) v47_3), iv (F2 (p0 &&& (2147483647 : Int32)) v47_3), iv ((F2 (p0 &&& (2147483647 : Int32)) v47_3) - (F1 (p0 &&& (2147483647 : Int32)) v47_3)), .unset, .unset, .unset] [(.int (F2 (p0 &&& (2147483647 : Int32)) v47_3)), (.int (F1 (p0 &&& (2147483647 : Int32)) v47_3))])) (fun t k => XS.istore X6.here hx rfl (hb hby at_61) rfl (l' := #[iv p0, iv p1, iv p2, iv (p0 &&& (2147483647 : Int32)), iv (p1 &&& (63 : Int32)), iv v47_3, iv (F1 (p0 &&& (2147483647 : Int32)) v47_3), iv (F2 (p0 &&& (2147483647 : Int32)) v47_3), .unset, .unset, .unset, .unset]) rfl (XS.iload X6.here hx rfl (hb hby at_63) rfl (XS.iload X6.here hx rfl (hb hby at_65) rfl (XS.isub X6.here hx rfl (hb hby at_67) rfl (XS.istore X6.here hx rfl (hb hby at_68) rfl (l' := #[iv p0, iv p1, iv p2, iv (p0 &&& (2147483647 : Int32)), iv (p1 &&& (63 : Int32)), iv v47_3, iv (F1 (p0 &&& (2147483647 : Int32)) v47_3), iv (F2 (p0 &&& (2147483647 : Int32)) v47_3), iv ((F2 (p0 &&& (2147483647 : Int32)) v47_3) - (F1 (p0 &&& (2147483647 : Int32)) v47_3)), .unset, .unset, .unset]) rfl (XS.iload X6.here hx rfl (hb hby at_70) rfl (XS.iload X6.here hx rfl (hb hby at_72) rfl k))))))) ?_
    by_cases hy74_7 : (1 : Int32) < ((F2 (p0 &&& (2147483647 : Int32)) v47_3) - (F1 (p0 &&& (2147483647 : Int32)) v47_3))
    · by_cases hy74_8 : (32 : Int32) < ((F2 (p0 &&& (2147483647 : Int32)) v47_3) - (F1 (p0 &&& (2147483647 : Int32)) v47_3))
      · obtain ⟨_, _, ⟨T9, L9, k9, n9⟩, -, X9, ⟨Lc9, hQ9, l9, y9, z9⟩, st9⟩ := Jvm.LawKit.callS X6 hx (y := (⟨"com/example/termstone/termstone/MergePolicy", "nextMergeAtCommit", "(II)Ljava/util/Optional;"⟩ : MethodName)) hown (mvT hZ (own_w hw 8 rfl)) (mvT hZ (own_w hw 9 rfl)) (mvT hZ (own_w hw 10 rfl)) (mvT hZ (own_w hw 11 rfl)) (by decide) (backOf (W := 0) (rm3A l Z a0 hw [] (F1 (p0 &&& (2147483647 : Int32)) v47_3) (F2 (p0 &&& (2147483647 : Int32)) v47_3) h0 n0 Z0 hy74_8) hZ (own_w hw 11 rfl) (own_w hw 10 rfl) (by decide) (by decide)) (g := (mkF m 74 #[iv p0, iv p1, iv p2, iv (p0 &&& (2147483647 : Int32)), iv (p1 &&& (63 : Int32)), iv v47_3, iv (F1 (p0 &&& (2147483647 : Int32)) v47_3), iv (F2 (p0 &&& (2147483647 : Int32)) v47_3), iv ((F2 (p0 &&& (2147483647 : Int32)) v47_3) - (F1 (p0 &&& (2147483647 : Int32)) v47_3)), .unset, .unset, .unset] [(.int (F2 (p0 &&& (2147483647 : Int32)) v47_3)), (.int (F1 (p0 &&& (2147483647 : Int32)) v47_3))])) rfl (by rw [hml]; rfl) (argsL := [(.int (F1 (p0 &&& (2147483647 : Int32)) v47_3)), (.int (F2 (p0 &&& (2147483647 : Int32)) v47_3))]) (rest := []) (lenOf pd__II_Ljava_util_Optional_ rfl) rfl (by show 2 * 0 + _ ≤ _; exact Nat.le_of_eq rfl) (hb hby at_74) (fun _ _ => ⟨rfl, eq6, (by decide : 0 + 2 ≤ _), (by decide : 0 + 3 ≤ _)⟩)
        dsimp only [Pt.U, Pt.locs, Pt.cells, Pt.slots] at X9 l9 y9 z9 st9 hQ9
        subst l9 y9 z9
        obtain ⟨m9_0, m9_1, rfl, N9q, K9q, sq_m9_0, Ea_m9_0, Fa_value_m9_0, sq_m9_1, Ea_m9_1, Fa_from_m9_1, Fa_to_m9_1⟩ := hQ9
        have N9 := Fr.app N6 N9q
        have ne_wE_m9_0 : wE ≠ m9_0 := Nat.ne_of_lt (Nat.lt_of_lt_of_le E_wE.lt sq_m9_0)
        have ge_m9_0 : n0 ≤ m9_0 := Nat.le_trans Z0 sq_m9_0
        have sz_m9_0 : h0.size ≤ m9_0 := Nat.le_trans KK0.1 sq_m9_0
        have ne_wE_m9_1 : wE ≠ m9_1 := Nat.ne_of_lt (Nat.lt_of_lt_of_le E_wE.lt sq_m9_1)
        have ge_m9_1 : n0 ≤ m9_1 := Nat.le_trans Z0 sq_m9_1
        have sz_m9_1 : h0.size ≤ m9_1 := Nat.le_trans KK0.1 sq_m9_1
        have S_EMPTY_9 := own_staK S_EMPTY K9q all0
        have E_wE_9 := E_wE.keep K9q
        have F_value_wE_9 := F_value_wE.keep K9q nin0
        have Z9 : n0 ≤ T9.heap.size := Nat.le_trans Z0 K9q.1
        have KK9 := KK0.trans K9q all0
        refine own_step (U' := T9.setTop (mkF m 77 #[iv p0, iv p1, iv p2, iv (p0 &&& (2147483647 : Int32)), iv (p1 &&& (63 : Int32)), iv v47_3, iv (F1 (p0 &&& (2147483647 : Int32)) v47_3), iv (F2 (p0 &&& (2147483647 : Int32)) v47_3), iv ((F2 (p0 &&& (2147483647 : Int32)) v47_3) - (F1 (p0 &&& (2147483647 : Int32)) v47_3)), .unset, .unset, .unset] [(.ref m9_0)])) st9 ?_
        refine own_step (U' := T9.setTop (mkF m 101 #[iv p0, iv p1, iv p2, iv (p0 &&& (2147483647 : Int32)), iv (p1 &&& (63 : Int32)), iv v47_3, iv (F1 (p0 &&& (2147483647 : Int32)) v47_3), iv (F2 (p0 &&& (2147483647 : Int32)) v47_3), iv ((F2 (p0 &&& (2147483647 : Int32)) v47_3) - (F1 (p0 &&& (2147483647 : Int32)) v47_3)), rv m9_0, .unset, .unset] [(.ref m9_0)])) (fun t k => XS.astore X9.here hx rfl (hb hby at_77) rfl rfl (l' := #[iv p0, iv p1, iv p2, iv (p0 &&& (2147483647 : Int32)), iv (p1 &&& (63 : Int32)), iv v47_3, iv (F1 (p0 &&& (2147483647 : Int32)) v47_3), iv (F2 (p0 &&& (2147483647 : Int32)) v47_3), iv ((F2 (p0 &&& (2147483647 : Int32)) v47_3) - (F1 (p0 &&& (2147483647 : Int32)) v47_3)), rv m9_0, .unset, .unset]) rfl (XS.iload X9.here hx rfl (hb hby at_79) rfl (XS.iconst X9.here hx rfl (hb hby at_81) (XS.icmpYes X9.here hx rfl (pc0 := 82) (pc' := 99) rfl (hb hby at_82) rfl (tlt hy74_7).2.2.1 (by decide) (by decide) (XS.aload X9.here hx rfl (hb hby at_99) rfl rfl k))))) ?_
        obtain ⟨cq10, kq10, qa10, qb10, qc10⟩ := isOf hZ rfl Ea_m9_0
        obtain ⟨_, _, ⟨T10, L10, k10, n10⟩, -, X10, ⟨Lc10, hQ10, l10, y10, z10⟩, st10⟩ := X9.virtualBack hx (y := (⟨"java/util/Optional", "isPresent", "()Z"⟩ : MethodName)) (z := (⟨"java/util/Optional", "isPresent", "()Z"⟩ : MethodName)) hown (mvT hZ (own_w hw 47 rfl)) (mvT hZ (own_w hw 48 rfl)) (notFace_of_selects (args := #[]) (mvT hZ (own_w hw 50 rfl))) (mvT hZ (own_w hw 50 rfl)) (mvT hZ (own_w hw 49 rfl)) (by decide) (backOf (W := 0) (rm10r l Z a0 hw [] m9_0 m9_1 T9.heap n0 Z9 Ea_m9_0 Fa_value_m9_0) hZ (own_w hw 51 rfl) (own_w hw 32 rfl) (by decide) (by decide)) qa10 qc10 (g := (mkF m 101 #[iv p0, iv p1, iv p2, iv (p0 &&& (2147483647 : Int32)), iv (p1 &&& (63 : Int32)), iv v47_3, iv (F1 (p0 &&& (2147483647 : Int32)) v47_3), iv (F2 (p0 &&& (2147483647 : Int32)) v47_3), iv ((F2 (p0 &&& (2147483647 : Int32)) v47_3) - (F1 (p0 &&& (2147483647 : Int32)) v47_3)), rv m9_0, .unset, .unset] [(.ref m9_0)])) rfl (by rw [hml]; rfl) (Steps.refl _) (argsL := []) (rest := []) (lenOf pd___Z rfl) rfl (by show 2 * 0 + _ ≤ _; exact Nat.le_of_eq rfl) (hb hby at_101) (fun _ _ => ⟨rfl, rfl, (by decide : 2 + 0 ≤ _), (by decide : 3 + 0 ≤ _)⟩)
        dsimp only [Pt.U, Pt.locs, Pt.cells, Pt.slots] at X10 l10 y10 z10 st10 hQ10
        subst l10 y10 z10
        obtain ⟨rfl, N10q, eq10⟩ := hQ10
        have N10 := Fr.app N9 N10q
        refine own_steps (U' := T10.setTop (mkF m 104 #[iv p0, iv p1, iv p2, iv (p0 &&& (2147483647 : Int32)), iv (p1 &&& (63 : Int32)), iv v47_3, iv (F1 (p0 &&& (2147483647 : Int32)) v47_3), iv (F2 (p0 &&& (2147483647 : Int32)) v47_3), iv ((F2 (p0 &&& (2147483647 : Int32)) v47_3) - (F1 (p0 &&& (2147483647 : Int32)) v47_3)), rv m9_0, .unset, .unset] [(.int F10r)])) st10 ?_
        refine own_step (U' := T10.setTop (mkF m 111 #[iv p0, iv p1, iv p2, iv (p0 &&& (2147483647 : Int32)), iv (p1 &&& (63 : Int32)), iv v47_3, iv (F1 (p0 &&& (2147483647 : Int32)) v47_3), iv (F2 (p0 &&& (2147483647 : Int32)) v47_3), iv ((F2 (p0 &&& (2147483647 : Int32)) v47_3) - (F1 (p0 &&& (2147483647 : Int32)) v47_3)), rv m9_0, .unset, .unset] [(.ref m9_0)])) (fun t k => XS.ifYes X10.here hx rfl (pc0 := 104) (pc' := 109) rfl (hb hby at_104) rfl ((if0 _ _).trans (feq own_pres).2) (by decide) (by decide) (XS.aload X10.here hx rfl (hb hby at_109) rfl rfl k)) ?_
        obtain ⟨cq11, kq11, qa11, qb11, qc11⟩ := isOf hZ eq10 Ea_m9_0
        obtain ⟨_, _, ⟨T11, L11, k11, n11⟩, -, X11, ⟨Lc11, hQ11, l11, y11, z11⟩, st11⟩ := X10.virtualBack hx (y := (⟨"java/util/Optional", "get", "()Ljava/lang/Object;"⟩ : MethodName)) (z := (⟨"java/util/Optional", "get", "()Ljava/lang/Object;"⟩ : MethodName)) hown (mvT hZ (own_w hw 52 rfl)) (mvT hZ (own_w hw 53 rfl)) (notFace_of_selects (args := #[]) (mvT hZ (own_w hw 55 rfl))) (mvT hZ (own_w hw 55 rfl)) (mvT hZ (own_w hw 54 rfl)) (by decide) (backOf (W := 0) (rm11 l Z a0 hw [] m9_0 m9_1 T9.heap n0 Z9 Ea_m9_0 Fa_value_m9_0) hZ (own_w hw 56 rfl) (own_w hw 32 rfl) (by decide) (by decide)) qa11 qc11 (g := (mkF m 111 #[iv p0, iv p1, iv p2, iv (p0 &&& (2147483647 : Int32)), iv (p1 &&& (63 : Int32)), iv v47_3, iv (F1 (p0 &&& (2147483647 : Int32)) v47_3), iv (F2 (p0 &&& (2147483647 : Int32)) v47_3), iv ((F2 (p0 &&& (2147483647 : Int32)) v47_3) - (F1 (p0 &&& (2147483647 : Int32)) v47_3)), rv m9_0, .unset, .unset] [(.ref m9_0)])) rfl (by rw [hml]; rfl) (Steps.refl _) (argsL := []) (rest := []) (lenOf pd___Ljava_lang_Object_ rfl) rfl (by show 2 * 0 + _ ≤ _; exact Nat.le_of_eq rfl) (hb hby at_111) (fun _ _ => ⟨rfl, eq10, (by decide : 2 + 0 ≤ _), (by decide : 3 + 0 ≤ _)⟩)
        dsimp only [Pt.U, Pt.locs, Pt.cells, Pt.slots] at X11 l11 y11 z11 st11 hQ11
        subst l11 y11 z11
        obtain ⟨rfl, N11q, eq11⟩ := hQ11
        have N11 := Fr.app N10 N11q
        refine own_steps (U' := T11.setTop (mkF m 114 #[iv p0, iv p1, iv p2, iv (p0 &&& (2147483647 : Int32)), iv (p1 &&& (63 : Int32)), iv v47_3, iv (F1 (p0 &&& (2147483647 : Int32)) v47_3), iv (F2 (p0 &&& (2147483647 : Int32)) v47_3), iv ((F2 (p0 &&& (2147483647 : Int32)) v47_3) - (F1 (p0 &&& (2147483647 : Int32)) v47_3)), rv m9_0, .unset, .unset] [(.ref m9_1)])) st11 ?_
        obtain ⟨T12, X12, e12, st12⟩ := castY X11 hx hZ hown (own_w hw 57 rfl) eq11 (Ins.self Ea_m9_1) (g := (mkF m 114 #[iv p0, iv p1, iv p2, iv (p0 &&& (2147483647 : Int32)), iv (p1 &&& (63 : Int32)), iv v47_3, iv (F1 (p0 &&& (2147483647 : Int32)) v47_3), iv (F2 (p0 &&& (2147483647 : Int32)) v47_3), iv ((F2 (p0 &&& (2147483647 : Int32)) v47_3) - (F1 (p0 &&& (2147483647 : Int32)) v47_3)), rv m9_0, .unset, .unset] [(.ref m9_1)])) rfl rfl (hb hby at_114)
        refine own_step (U' := T12.setTop (mkF m 117 #[iv p0, iv p1, iv p2, iv (p0 &&& (2147483647 : Int32)), iv (p1 &&& (63 : Int32)), iv v47_3, iv (F1 (p0 &&& (2147483647 : Int32)) v47_3), iv (F2 (p0 &&& (2147483647 : Int32)) v47_3), iv ((F2 (p0 &&& (2147483647 : Int32)) v47_3) - (F1 (p0 &&& (2147483647 : Int32)) v47_3)), rv m9_0, .unset, .unset] [(.ref m9_1)])) st12 ?_
        refine own_step (U' := T12.setTop (mkF m 126 #[iv p0, iv p1, iv p2, iv (p0 &&& (2147483647 : Int32)), iv (p1 &&& (63 : Int32)), iv v47_3, iv (F1 (p0 &&& (2147483647 : Int32)) v47_3), iv (F2 (p0 &&& (2147483647 : Int32)) v47_3), iv ((F2 (p0 &&& (2147483647 : Int32)) v47_3) - (F1 (p0 &&& (2147483647 : Int32)) v47_3)), rv m9_0, rv m9_1, .unset] [(.int ((F2 (p0 &&& (2147483647 : Int32)) v47_3) - (32 : Int32))), (.int (F1 (p0 &&& (2147483647 : Int32)) v47_3))])) (fun t k => XS.astore X12.here hx rfl (hb hby at_117) rfl rfl (l' := #[iv p0, iv p1, iv p2, iv (p0 &&& (2147483647 : Int32)), iv (p1 &&& (63 : Int32)), iv v47_3, iv (F1 (p0 &&& (2147483647 : Int32)) v47_3), iv (F2 (p0 &&& (2147483647 : Int32)) v47_3), iv ((F2 (p0 &&& (2147483647 : Int32)) v47_3) - (F1 (p0 &&& (2147483647 : Int32)) v47_3)), rv m9_0, rv m9_1, .unset]) rfl (XS.iload X12.here hx rfl (hb hby at_119) rfl (XS.iload X12.here hx rfl (hb hby at_121) rfl (XS.bipush X12.here hx rfl (hb hby at_123) (XS.isub X12.here hx rfl (hb hby at_125) rfl k))))) ?_
        obtain ⟨_, _, ⟨T13, L13, k13, n13⟩, -, X13, ⟨Lc13, hQ13, l13, y13, z13⟩, st13⟩ := Jvm.LawKit.callS X12 hx (y := (⟨"java/lang/Math", "max", "(II)I"⟩ : MethodName)) hown (mvT hZ (own_w hw 5 rfl)) (mvT hZ (own_w hw 6 rfl)) (mvT hZ (own_w hw 3 rfl)) (mvT hZ (own_w hw 7 rfl)) (by decide) (backOf (W := 0) (rm2 l Z a0 hw [] (F1 (p0 &&& (2147483647 : Int32)) v47_3) ((F2 (p0 &&& (2147483647 : Int32)) v47_3) - (32 : Int32)) T9.heap n0 Z9) hZ (own_w hw 7 rfl) (own_w hw 3 rfl) (by decide) (by decide)) (g := (mkF m 126 #[iv p0, iv p1, iv p2, iv (p0 &&& (2147483647 : Int32)), iv (p1 &&& (63 : Int32)), iv v47_3, iv (F1 (p0 &&& (2147483647 : Int32)) v47_3), iv (F2 (p0 &&& (2147483647 : Int32)) v47_3), iv ((F2 (p0 &&& (2147483647 : Int32)) v47_3) - (F1 (p0 &&& (2147483647 : Int32)) v47_3)), rv m9_0, rv m9_1, .unset] [(.int ((F2 (p0 &&& (2147483647 : Int32)) v47_3) - (32 : Int32))), (.int (F1 (p0 &&& (2147483647 : Int32)) v47_3))])) rfl (by rw [hml]; rfl) (argsL := [(.int (F1 (p0 &&& (2147483647 : Int32)) v47_3)), (.int ((F2 (p0 &&& (2147483647 : Int32)) v47_3) - (32 : Int32)))]) (rest := []) (lenOf pd__II_I rfl) rfl (by show 2 * 0 + _ ≤ _; exact Nat.le_of_eq rfl) (hb hby at_126) (fun _ _ => ⟨rfl, e12, (by decide : 2 + 0 ≤ _), (by decide : 3 + 0 ≤ _)⟩)
        dsimp only [Pt.U, Pt.locs, Pt.cells, Pt.slots] at X13 l13 y13 z13 st13 hQ13
        subst l13 y13 z13
        obtain ⟨rfl, N13q, eq13⟩ := hQ13
        have N13 := Fr.app N11 N13q
        refine own_step (U' := T13.setTop (mkF m 129 #[iv p0, iv p1, iv p2, iv (p0 &&& (2147483647 : Int32)), iv (p1 &&& (63 : Int32)), iv v47_3, iv (F1 (p0 &&& (2147483647 : Int32)) v47_3), iv (F2 (p0 &&& (2147483647 : Int32)) v47_3), iv ((F2 (p0 &&& (2147483647 : Int32)) v47_3) - (F1 (p0 &&& (2147483647 : Int32)) v47_3)), rv m9_0, rv m9_1, .unset] [(.int (F2 (F1 (p0 &&& (2147483647 : Int32)) v47_3) ((F2 (p0 &&& (2147483647 : Int32)) v47_3) - (32 : Int32))))])) st13 ?_
        refine own_step (U' := T13.setTop (mkF m 133 #[iv p0, iv p1, iv p2, iv (p0 &&& (2147483647 : Int32)), iv (p1 &&& (63 : Int32)), iv v47_3, iv (F1 (p0 &&& (2147483647 : Int32)) v47_3), iv (F2 (p0 &&& (2147483647 : Int32)) v47_3), iv ((F2 (p0 &&& (2147483647 : Int32)) v47_3) - (F1 (p0 &&& (2147483647 : Int32)) v47_3)), rv m9_0, rv m9_1, iv (F2 (F1 (p0 &&& (2147483647 : Int32)) v47_3) ((F2 (p0 &&& (2147483647 : Int32)) v47_3) - (32 : Int32)))] [(.ref m9_1)])) (fun t k => XS.istore X13.here hx rfl (hb hby at_129) rfl (l' := #[iv p0, iv p1, iv p2, iv (p0 &&& (2147483647 : Int32)), iv (p1 &&& (63 : Int32)), iv v47_3, iv (F1 (p0 &&& (2147483647 : Int32)) v47_3), iv (F2 (p0 &&& (2147483647 : Int32)) v47_3), iv ((F2 (p0 &&& (2147483647 : Int32)) v47_3) - (F1 (p0 &&& (2147483647 : Int32)) v47_3)), rv m9_0, rv m9_1, iv (F2 (F1 (p0 &&& (2147483647 : Int32)) v47_3) ((F2 (p0 &&& (2147483647 : Int32)) v47_3) - (32 : Int32)))]) rfl (XS.aload X13.here hx rfl (hb hby at_131) rfl rfl k)) ?_
        obtain ⟨cq14, kq14, qa14, qb14, qc14⟩ := isOf hZ eq13 Ea_m9_1
        obtain ⟨_, _, ⟨T14, L14, k14, n14⟩, -, X14, ⟨Lc14, hQ14, l14, y14, z14⟩, st14⟩ := X13.virtualBack hx (y := (⟨"com/example/termstone/termstone/MergePolicy$Run", "from", "()I"⟩ : MethodName)) (z := (⟨"com/example/termstone/termstone/MergePolicy$Run", "from", "()I"⟩ : MethodName)) hown (mvT hZ (own_w hw 59 rfl)) (mvT hZ (own_w hw 60 rfl)) (notFace_of_selects (args := #[]) (mvT hZ (own_w hw 62 rfl))) (mvT hZ (own_w hw 62 rfl)) (mvT hZ (own_w hw 61 rfl)) (by decide) (backOf (W := 0) (rm12 l Z a0 hw [] m9_1 ((F2 (p0 &&& (2147483647 : Int32)) v47_3) - (32 : Int32)) T9.heap n0 Z9 Ea_m9_1 Fa_from_m9_1) hZ (own_w hw 63 rfl) (own_w hw 14 rfl) (by decide) (by decide)) qa14 qc14 (g := (mkF m 133 #[iv p0, iv p1, iv p2, iv (p0 &&& (2147483647 : Int32)), iv (p1 &&& (63 : Int32)), iv v47_3, iv (F1 (p0 &&& (2147483647 : Int32)) v47_3), iv (F2 (p0 &&& (2147483647 : Int32)) v47_3), iv ((F2 (p0 &&& (2147483647 : Int32)) v47_3) - (F1 (p0 &&& (2147483647 : Int32)) v47_3)), rv m9_0, rv m9_1, iv (F2 (F1 (p0 &&& (2147483647 : Int32)) v47_3) ((F2 (p0 &&& (2147483647 : Int32)) v47_3) - (32 : Int32)))] [(.ref m9_1)])) rfl (by rw [hml]; rfl) (Steps.refl _) (argsL := []) (rest := []) (lenOf pd___I rfl) rfl (by show 2 * 0 + _ ≤ _; exact Nat.le_of_eq rfl) (hb hby at_133) (fun _ _ => ⟨rfl, eq13, (by decide : 2 + 0 ≤ _), (by decide : 3 + 0 ≤ _)⟩)
        dsimp only [Pt.U, Pt.locs, Pt.cells, Pt.slots] at X14 l14 y14 z14 st14 hQ14
        subst l14 y14 z14
        obtain ⟨rfl, N14q, eq14⟩ := hQ14
        have N14 := Fr.app N13 N14q
        refine own_steps (U' := T14.setTop (mkF m 136 #[iv p0, iv p1, iv p2, iv (p0 &&& (2147483647 : Int32)), iv (p1 &&& (63 : Int32)), iv v47_3, iv (F1 (p0 &&& (2147483647 : Int32)) v47_3), iv (F2 (p0 &&& (2147483647 : Int32)) v47_3), iv ((F2 (p0 &&& (2147483647 : Int32)) v47_3) - (F1 (p0 &&& (2147483647 : Int32)) v47_3)), rv m9_0, rv m9_1, iv (F2 (F1 (p0 &&& (2147483647 : Int32)) v47_3) ((F2 (p0 &&& (2147483647 : Int32)) v47_3) - (32 : Int32)))] [(.int (F12 ((F2 (p0 &&& (2147483647 : Int32)) v47_3) - (32 : Int32))))])) st14 ?_
        refine own_step (U' := T14.setTop (mkF m 143 #[iv p0, iv p1, iv p2, iv (p0 &&& (2147483647 : Int32)), iv (p1 &&& (63 : Int32)), iv v47_3, iv (F1 (p0 &&& (2147483647 : Int32)) v47_3), iv (F2 (p0 &&& (2147483647 : Int32)) v47_3), iv ((F2 (p0 &&& (2147483647 : Int32)) v47_3) - (F1 (p0 &&& (2147483647 : Int32)) v47_3)), rv m9_0, rv m9_1, iv (F2 (F1 (p0 &&& (2147483647 : Int32)) v47_3) ((F2 (p0 &&& (2147483647 : Int32)) v47_3) - (32 : Int32)))] [(.ref m9_1)])) (fun t k => XS.iload X14.here hx rfl (hb hby at_136) rfl (XS.icmpNo X14.here hx rfl (hb hby at_138) rfl (teq (own_A1 (own_x p0) (own_y hv47_3) hy74_8)).2 (XS.aload X14.here hx rfl (hb hby at_141) rfl rfl k))) ?_
        obtain ⟨cq15, kq15, qa15, qb15, qc15⟩ := isOf hZ eq14 Ea_m9_1
        obtain ⟨_, _, ⟨T15, L15, k15, n15⟩, -, X15, ⟨Lc15, hQ15, l15, y15, z15⟩, st15⟩ := X14.virtualBack hx (y := (⟨"com/example/termstone/termstone/MergePolicy$Run", "to", "()I"⟩ : MethodName)) (z := (⟨"com/example/termstone/termstone/MergePolicy$Run", "to", "()I"⟩ : MethodName)) hown (mvT hZ (own_w hw 64 rfl)) (mvT hZ (own_w hw 65 rfl)) (notFace_of_selects (args := #[]) (mvT hZ (own_w hw 67 rfl))) (mvT hZ (own_w hw 67 rfl)) (mvT hZ (own_w hw 66 rfl)) (by decide) (backOf (W := 0) (rm13 l Z a0 hw [] m9_1 (F2 (p0 &&& (2147483647 : Int32)) v47_3) T9.heap n0 Z9 Ea_m9_1 Fa_to_m9_1) hZ (own_w hw 68 rfl) (own_w hw 14 rfl) (by decide) (by decide)) qa15 qc15 (g := (mkF m 143 #[iv p0, iv p1, iv p2, iv (p0 &&& (2147483647 : Int32)), iv (p1 &&& (63 : Int32)), iv v47_3, iv (F1 (p0 &&& (2147483647 : Int32)) v47_3), iv (F2 (p0 &&& (2147483647 : Int32)) v47_3), iv ((F2 (p0 &&& (2147483647 : Int32)) v47_3) - (F1 (p0 &&& (2147483647 : Int32)) v47_3)), rv m9_0, rv m9_1, iv (F2 (F1 (p0 &&& (2147483647 : Int32)) v47_3) ((F2 (p0 &&& (2147483647 : Int32)) v47_3) - (32 : Int32)))] [(.ref m9_1)])) rfl (by rw [hml]; rfl) (Steps.refl _) (argsL := []) (rest := []) (lenOf pd___I rfl) rfl (by show 2 * 0 + _ ≤ _; exact Nat.le_of_eq rfl) (hb hby at_143) (fun _ _ => ⟨rfl, eq14, (by decide : 2 + 0 ≤ _), (by decide : 3 + 0 ≤ _)⟩)
        dsimp only [Pt.U, Pt.locs, Pt.cells, Pt.slots] at X15 l15 y15 z15 st15 hQ15
        subst l15 y15 z15
        obtain ⟨rfl, N15q, eq15⟩ := hQ15
        have N15 := Fr.app N14 N15q
        refine own_steps (U' := T15.setTop (mkF m 146 #[iv p0, iv p1, iv p2, iv (p0 &&& (2147483647 : Int32)), iv (p1 &&& (63 : Int32)), iv v47_3, iv (F1 (p0 &&& (2147483647 : Int32)) v47_3), iv (F2 (p0 &&& (2147483647 : Int32)) v47_3), iv ((F2 (p0 &&& (2147483647 : Int32)) v47_3) - (F1 (p0 &&& (2147483647 : Int32)) v47_3)), rv m9_0, rv m9_1, iv (F2 (F1 (p0 &&& (2147483647 : Int32)) v47_3) ((F2 (p0 &&& (2147483647 : Int32)) v47_3) - (32 : Int32)))] [(.int (F13 (F2 (p0 &&& (2147483647 : Int32)) v47_3)))])) st15 ?_
        refine own_step (U' := T15.setTop (mkF m 153 #[iv p0, iv p1, iv p2, iv (p0 &&& (2147483647 : Int32)), iv (p1 &&& (63 : Int32)), iv v47_3, iv (F1 (p0 &&& (2147483647 : Int32)) v47_3), iv (F2 (p0 &&& (2147483647 : Int32)) v47_3), iv ((F2 (p0 &&& (2147483647 : Int32)) v47_3) - (F1 (p0 &&& (2147483647 : Int32)) v47_3)), rv m9_0, rv m9_1, iv (F2 (F1 (p0 &&& (2147483647 : Int32)) v47_3) ((F2 (p0 &&& (2147483647 : Int32)) v47_3) - (32 : Int32)))] [(.ref m9_1)])) (fun t k => XS.iload X15.here hx rfl (hb hby at_146) rfl (XS.icmpNo X15.here hx rfl (hb hby at_148) rfl (teq rfl).2 (XS.aload X15.here hx rfl (hb hby at_151) rfl rfl k))) ?_
        obtain ⟨cq16, kq16, qa16, qb16, qc16⟩ := isOf hZ eq15 Ea_m9_1
        obtain ⟨_, _, ⟨T16, L16, k16, n16⟩, -, X16, ⟨Lc16, hQ16, l16, y16, z16⟩, st16⟩ := X15.virtualBack hx (y := (⟨"com/example/termstone/termstone/MergePolicy$Run", "to", "()I"⟩ : MethodName)) (z := (⟨"com/example/termstone/termstone/MergePolicy$Run", "to", "()I"⟩ : MethodName)) hown (mvT hZ (own_w hw 64 rfl)) (mvT hZ (own_w hw 65 rfl)) (notFace_of_selects (args := #[]) (mvT hZ (own_w hw 67 rfl))) (mvT hZ (own_w hw 67 rfl)) (mvT hZ (own_w hw 66 rfl)) (by decide) (backOf (W := 0) (rm13 l Z a0 hw [] m9_1 (F2 (p0 &&& (2147483647 : Int32)) v47_3) T9.heap n0 Z9 Ea_m9_1 Fa_to_m9_1) hZ (own_w hw 68 rfl) (own_w hw 14 rfl) (by decide) (by decide)) qa16 qc16 (g := (mkF m 153 #[iv p0, iv p1, iv p2, iv (p0 &&& (2147483647 : Int32)), iv (p1 &&& (63 : Int32)), iv v47_3, iv (F1 (p0 &&& (2147483647 : Int32)) v47_3), iv (F2 (p0 &&& (2147483647 : Int32)) v47_3), iv ((F2 (p0 &&& (2147483647 : Int32)) v47_3) - (F1 (p0 &&& (2147483647 : Int32)) v47_3)), rv m9_0, rv m9_1, iv (F2 (F1 (p0 &&& (2147483647 : Int32)) v47_3) ((F2 (p0 &&& (2147483647 : Int32)) v47_3) - (32 : Int32)))] [(.ref m9_1)])) rfl (by rw [hml]; rfl) (Steps.refl _) (argsL := []) (rest := []) (lenOf pd___I rfl) rfl (by show 2 * 0 + _ ≤ _; exact Nat.le_of_eq rfl) (hb hby at_153) (fun _ _ => ⟨rfl, eq15, (by decide : 2 + 0 ≤ _), (by decide : 3 + 0 ≤ _)⟩)
        dsimp only [Pt.U, Pt.locs, Pt.cells, Pt.slots] at X16 l16 y16 z16 st16 hQ16
        subst l16 y16 z16
        obtain ⟨rfl, N16q, eq16⟩ := hQ16
        have N16 := Fr.app N15 N16q
        refine own_steps (U' := T16.setTop (mkF m 156 #[iv p0, iv p1, iv p2, iv (p0 &&& (2147483647 : Int32)), iv (p1 &&& (63 : Int32)), iv v47_3, iv (F1 (p0 &&& (2147483647 : Int32)) v47_3), iv (F2 (p0 &&& (2147483647 : Int32)) v47_3), iv ((F2 (p0 &&& (2147483647 : Int32)) v47_3) - (F1 (p0 &&& (2147483647 : Int32)) v47_3)), rv m9_0, rv m9_1, iv (F2 (F1 (p0 &&& (2147483647 : Int32)) v47_3) ((F2 (p0 &&& (2147483647 : Int32)) v47_3) - (32 : Int32)))] [(.int (F13 (F2 (p0 &&& (2147483647 : Int32)) v47_3)))])) st16 ?_
        refine own_step (U' := T16.setTop (mkF m 158 #[iv p0, iv p1, iv p2, iv (p0 &&& (2147483647 : Int32)), iv (p1 &&& (63 : Int32)), iv v47_3, iv (F1 (p0 &&& (2147483647 : Int32)) v47_3), iv (F2 (p0 &&& (2147483647 : Int32)) v47_3), iv ((F2 (p0 &&& (2147483647 : Int32)) v47_3) - (F1 (p0 &&& (2147483647 : Int32)) v47_3)), rv m9_0, rv m9_1, iv (F2 (F1 (p0 &&& (2147483647 : Int32)) v47_3) ((F2 (p0 &&& (2147483647 : Int32)) v47_3) - (32 : Int32)))] [(.ref m9_1), (.int (F13 (F2 (p0 &&& (2147483647 : Int32)) v47_3)))])) (fun t k => XS.aload X16.here hx rfl (hb hby at_156) rfl rfl k) ?_
        obtain ⟨cq17, kq17, qa17, qb17, qc17⟩ := isOf hZ eq16 Ea_m9_1
        obtain ⟨_, _, ⟨T17, L17, k17, n17⟩, -, X17, ⟨Lc17, hQ17, l17, y17, z17⟩, st17⟩ := X16.virtualBack hx (y := (⟨"com/example/termstone/termstone/MergePolicy$Run", "from", "()I"⟩ : MethodName)) (z := (⟨"com/example/termstone/termstone/MergePolicy$Run", "from", "()I"⟩ : MethodName)) hown (mvT hZ (own_w hw 59 rfl)) (mvT hZ (own_w hw 60 rfl)) (notFace_of_selects (args := #[]) (mvT hZ (own_w hw 62 rfl))) (mvT hZ (own_w hw 62 rfl)) (mvT hZ (own_w hw 61 rfl)) (by decide) (backOf (W := 1) (rm12 l Z a0 hw [] m9_1 ((F2 (p0 &&& (2147483647 : Int32)) v47_3) - (32 : Int32)) T9.heap n0 Z9 Ea_m9_1 Fa_from_m9_1) hZ (own_w hw 63 rfl) (own_w hw 14 rfl) (by decide) (by decide)) qa17 qc17 (g := (mkF m 158 #[iv p0, iv p1, iv p2, iv (p0 &&& (2147483647 : Int32)), iv (p1 &&& (63 : Int32)), iv v47_3, iv (F1 (p0 &&& (2147483647 : Int32)) v47_3), iv (F2 (p0 &&& (2147483647 : Int32)) v47_3), iv ((F2 (p0 &&& (2147483647 : Int32)) v47_3) - (F1 (p0 &&& (2147483647 : Int32)) v47_3)), rv m9_0, rv m9_1, iv (F2 (F1 (p0 &&& (2147483647 : Int32)) v47_3) ((F2 (p0 &&& (2147483647 : Int32)) v47_3) - (32 : Int32)))] [(.ref m9_1), (.int (F13 (F2 (p0 &&& (2147483647 : Int32)) v47_3)))])) rfl (by rw [hml]; rfl) (Steps.refl _) (argsL := []) (rest := [(.int (F13 (F2 (p0 &&& (2147483647 : Int32)) v47_3)))]) (lenOf pd___I rfl) rfl (by show 2 * 0 + _ ≤ _; exact Nat.le_of_eq rfl) (hb hby at_158) (fun _ _ => ⟨rfl, eq16, (by decide : 2 + 0 ≤ _), (by decide : 3 + 0 ≤ _)⟩)
        dsimp only [Pt.U, Pt.locs, Pt.cells, Pt.slots] at X17 l17 y17 z17 st17 hQ17
        subst l17 y17 z17
        obtain ⟨rfl, N17q, eq17⟩ := hQ17
        have N17 := Fr.app N16 N17q
        refine own_steps (U' := T17.setTop (mkF m 161 #[iv p0, iv p1, iv p2, iv (p0 &&& (2147483647 : Int32)), iv (p1 &&& (63 : Int32)), iv v47_3, iv (F1 (p0 &&& (2147483647 : Int32)) v47_3), iv (F2 (p0 &&& (2147483647 : Int32)) v47_3), iv ((F2 (p0 &&& (2147483647 : Int32)) v47_3) - (F1 (p0 &&& (2147483647 : Int32)) v47_3)), rv m9_0, rv m9_1, iv (F2 (F1 (p0 &&& (2147483647 : Int32)) v47_3) ((F2 (p0 &&& (2147483647 : Int32)) v47_3) - (32 : Int32)))] [(.int (F12 ((F2 (p0 &&& (2147483647 : Int32)) v47_3) - (32 : Int32)))), (.int (F13 (F2 (p0 &&& (2147483647 : Int32)) v47_3)))])) st17 ?_
        refine own_step (U' := T17.setTop (mkF m 166 #[iv p0, iv p1, iv p2, iv (p0 &&& (2147483647 : Int32)), iv (p1 &&& (63 : Int32)), iv v47_3, iv (F1 (p0 &&& (2147483647 : Int32)) v47_3), iv (F2 (p0 &&& (2147483647 : Int32)) v47_3), iv ((F2 (p0 &&& (2147483647 : Int32)) v47_3) - (F1 (p0 &&& (2147483647 : Int32)) v47_3)), rv m9_0, rv m9_1, iv (F2 (F1 (p0 &&& (2147483647 : Int32)) v47_3) ((F2 (p0 &&& (2147483647 : Int32)) v47_3) - (32 : Int32)))] [(.int (32 : Int32)), (.int ((F2 (p0 &&& (2147483647 : Int32)) v47_3) - (F1 (p0 &&& (2147483647 : Int32)) v47_3))), (.int ((F13 (F2 (p0 &&& (2147483647 : Int32)) v47_3)) - (F12 ((F2 (p0 &&& (2147483647 : Int32)) v47_3) - (32 : Int32)))))])) (fun t k => XS.isub X17.here hx rfl (hb hby at_161) rfl (XS.iload X17.here hx rfl (hb hby at_162) rfl (XS.bipush X17.here hx rfl (hb hby at_164) k))) ?_
        obtain ⟨_, _, ⟨T18, L18, k18, n18⟩, -, X18, ⟨Lc18, hQ18, l18, y18, z18⟩, st18⟩ := Jvm.LawKit.callS X17 hx (y := (⟨"java/lang/Math", "min", "(II)I"⟩ : MethodName)) hown (mvT hZ (own_w hw 1 rfl)) (mvT hZ (own_w hw 2 rfl)) (mvT hZ (own_w hw 3 rfl)) (mvT hZ (own_w hw 4 rfl)) (by decide) (backOf (W := 1) (rm1 l Z a0 hw [] ((F2 (p0 &&& (2147483647 : Int32)) v47_3) - (F1 (p0 &&& (2147483647 : Int32)) v47_3)) (32 : Int32) T9.heap n0 Z9) hZ (own_w hw 4 rfl) (own_w hw 3 rfl) (by decide) (by decide)) (g := (mkF m 166 #[iv p0, iv p1, iv p2, iv (p0 &&& (2147483647 : Int32)), iv (p1 &&& (63 : Int32)), iv v47_3, iv (F1 (p0 &&& (2147483647 : Int32)) v47_3), iv (F2 (p0 &&& (2147483647 : Int32)) v47_3), iv ((F2 (p0 &&& (2147483647 : Int32)) v47_3) - (F1 (p0 &&& (2147483647 : Int32)) v47_3)), rv m9_0, rv m9_1, iv (F2 (F1 (p0 &&& (2147483647 : Int32)) v47_3) ((F2 (p0 &&& (2147483647 : Int32)) v47_3) - (32 : Int32)))] [(.int (32 : Int32)), (.int ((F2 (p0 &&& (2147483647 : Int32)) v47_3) - (F1 (p0 &&& (2147483647 : Int32)) v47_3))), (.int ((F13 (F2 (p0 &&& (2147483647 : Int32)) v47_3)) - (F12 ((F2 (p0 &&& (2147483647 : Int32)) v47_3) - (32 : Int32)))))])) rfl (by rw [hml]; rfl) (argsL := [(.int ((F2 (p0 &&& (2147483647 : Int32)) v47_3) - (F1 (p0 &&& (2147483647 : Int32)) v47_3))), (.int (32 : Int32))]) (rest := [(.int ((F13 (F2 (p0 &&& (2147483647 : Int32)) v47_3)) - (F12 ((F2 (p0 &&& (2147483647 : Int32)) v47_3) - (32 : Int32)))))]) (lenOf pd__II_I rfl) rfl (by show 2 * 0 + _ ≤ _; exact Nat.le_of_eq rfl) (hb hby at_166) (fun _ _ => ⟨rfl, eq17, (by decide : 2 + 0 ≤ _), (by decide : 3 + 0 ≤ _)⟩)
        dsimp only [Pt.U, Pt.locs, Pt.cells, Pt.slots] at X18 l18 y18 z18 st18 hQ18
        subst l18 y18 z18
        obtain ⟨rfl, N18q, eq18⟩ := hQ18
        have N18 := Fr.app N17 N18q
        refine own_step (U' := T18.setTop (mkF m 169 #[iv p0, iv p1, iv p2, iv (p0 &&& (2147483647 : Int32)), iv (p1 &&& (63 : Int32)), iv v47_3, iv (F1 (p0 &&& (2147483647 : Int32)) v47_3), iv (F2 (p0 &&& (2147483647 : Int32)) v47_3), iv ((F2 (p0 &&& (2147483647 : Int32)) v47_3) - (F1 (p0 &&& (2147483647 : Int32)) v47_3)), rv m9_0, rv m9_1, iv (F2 (F1 (p0 &&& (2147483647 : Int32)) v47_3) ((F2 (p0 &&& (2147483647 : Int32)) v47_3) - (32 : Int32)))] [(.int (F1 ((F2 (p0 &&& (2147483647 : Int32)) v47_3) - (F1 (p0 &&& (2147483647 : Int32)) v47_3)) (32 : Int32))), (.int ((F13 (F2 (p0 &&& (2147483647 : Int32)) v47_3)) - (F12 ((F2 (p0 &&& (2147483647 : Int32)) v47_3) - (32 : Int32)))))])) st18 ?_
        refine own_step (U' := T18.setTop (mkF m 177 #[iv p0, iv p1, iv p2, iv (p0 &&& (2147483647 : Int32)), iv (p1 &&& (63 : Int32)), iv v47_3, iv (F1 (p0 &&& (2147483647 : Int32)) v47_3), iv (F2 (p0 &&& (2147483647 : Int32)) v47_3), iv ((F2 (p0 &&& (2147483647 : Int32)) v47_3) - (F1 (p0 &&& (2147483647 : Int32)) v47_3)), rv m9_0, rv m9_1, iv (F2 (F1 (p0 &&& (2147483647 : Int32)) v47_3) ((F2 (p0 &&& (2147483647 : Int32)) v47_3) - (32 : Int32)))] [(.int (1 : Int32))])) (fun t k => XS.icmpNo X18.here hx rfl (hb hby at_169) rfl (teq (own_A3 (own_x p0) (own_y hv47_3) hy74_8)).2 (XS.iconst X18.here hx rfl (hb hby at_172) (XS.goto X18.here hx rfl (pc0 := 173) (pc' := 177) rfl (hb hby at_173) (by decide) (by decide) k))) ?_
        exact own_out X18 (v := (some (.int (1 : Int32)))) hlk (own_nv Bd.returns) (by rw [eq18]; exact ⟨rfl, N18⟩) (by decide) (by decide) (fun fs hr => retN X18 hx (t := .boolean) Bd.returns (by simp) (hb hby at_177) hr)
      · obtain ⟨_, _, ⟨T19, L19, k19, n19⟩, -, X19, ⟨Lc19, hQ19, l19, y19, z19⟩, st19⟩ := Jvm.LawKit.callS X6 hx (y := (⟨"com/example/termstone/termstone/MergePolicy", "nextMergeAtCommit", "(II)Ljava/util/Optional;"⟩ : MethodName)) hown (mvT hZ (own_w hw 8 rfl)) (mvT hZ (own_w hw 9 rfl)) (mvT hZ (own_w hw 10 rfl)) (mvT hZ (own_w hw 11 rfl)) (by decide) (backOf (W := 0) (rm3B l Z a0 hw [] (F1 (p0 &&& (2147483647 : Int32)) v47_3) (F2 (p0 &&& (2147483647 : Int32)) v47_3) h0 n0 Z0 hy74_8 hy74_7) hZ (own_w hw 11 rfl) (own_w hw 10 rfl) (by decide) (by decide)) (g := (mkF m 74 #[iv p0, iv p1, iv p2, iv (p0 &&& (2147483647 : Int32)), iv (p1 &&& (63 : Int32)), iv v47_3, iv (F1 (p0 &&& (2147483647 : Int32)) v47_3), iv (F2 (p0 &&& (2147483647 : Int32)) v47_3), iv ((F2 (p0 &&& (2147483647 : Int32)) v47_3) - (F1 (p0 &&& (2147483647 : Int32)) v47_3)), .unset, .unset, .unset] [(.int (F2 (p0 &&& (2147483647 : Int32)) v47_3)), (.int (F1 (p0 &&& (2147483647 : Int32)) v47_3))])) rfl (by rw [hml]; rfl) (argsL := [(.int (F1 (p0 &&& (2147483647 : Int32)) v47_3)), (.int (F2 (p0 &&& (2147483647 : Int32)) v47_3))]) (rest := []) (lenOf pd__II_Ljava_util_Optional_ rfl) rfl (by show 2 * 0 + _ ≤ _; exact Nat.le_of_eq rfl) (hb hby at_74) (fun _ _ => ⟨rfl, eq6, (by decide : 0 + 2 ≤ _), (by decide : 0 + 3 ≤ _)⟩)
        dsimp only [Pt.U, Pt.locs, Pt.cells, Pt.slots] at X19 l19 y19 z19 st19 hQ19
        subst l19 y19 z19
        obtain ⟨m19_0, m19_1, rfl, N19q, K19q, sq_m19_0, Ea_m19_0, Fa_value_m19_0, sq_m19_1, Ea_m19_1, Fa_from_m19_1, Fa_to_m19_1⟩ := hQ19
        have N19 := Fr.app N6 N19q
        have ne_wE_m19_0 : wE ≠ m19_0 := Nat.ne_of_lt (Nat.lt_of_lt_of_le E_wE.lt sq_m19_0)
        have ge_m19_0 : n0 ≤ m19_0 := Nat.le_trans Z0 sq_m19_0
        have sz_m19_0 : h0.size ≤ m19_0 := Nat.le_trans KK0.1 sq_m19_0
        have ne_wE_m19_1 : wE ≠ m19_1 := Nat.ne_of_lt (Nat.lt_of_lt_of_le E_wE.lt sq_m19_1)
        have ge_m19_1 : n0 ≤ m19_1 := Nat.le_trans Z0 sq_m19_1
        have sz_m19_1 : h0.size ≤ m19_1 := Nat.le_trans KK0.1 sq_m19_1
        have S_EMPTY_19 := own_staK S_EMPTY K19q all0
        have E_wE_19 := E_wE.keep K19q
        have F_value_wE_19 := F_value_wE.keep K19q nin0
        have Z19 : n0 ≤ T19.heap.size := Nat.le_trans Z0 K19q.1
        have KK19 := KK0.trans K19q all0
        refine own_step (U' := T19.setTop (mkF m 77 #[iv p0, iv p1, iv p2, iv (p0 &&& (2147483647 : Int32)), iv (p1 &&& (63 : Int32)), iv v47_3, iv (F1 (p0 &&& (2147483647 : Int32)) v47_3), iv (F2 (p0 &&& (2147483647 : Int32)) v47_3), iv ((F2 (p0 &&& (2147483647 : Int32)) v47_3) - (F1 (p0 &&& (2147483647 : Int32)) v47_3)), .unset, .unset, .unset] [(.ref m19_0)])) st19 ?_
        refine own_step (U' := T19.setTop (mkF m 101 #[iv p0, iv p1, iv p2, iv (p0 &&& (2147483647 : Int32)), iv (p1 &&& (63 : Int32)), iv v47_3, iv (F1 (p0 &&& (2147483647 : Int32)) v47_3), iv (F2 (p0 &&& (2147483647 : Int32)) v47_3), iv ((F2 (p0 &&& (2147483647 : Int32)) v47_3) - (F1 (p0 &&& (2147483647 : Int32)) v47_3)), rv m19_0, .unset, .unset] [(.ref m19_0)])) (fun t k => XS.astore X19.here hx rfl (hb hby at_77) rfl rfl (l' := #[iv p0, iv p1, iv p2, iv (p0 &&& (2147483647 : Int32)), iv (p1 &&& (63 : Int32)), iv v47_3, iv (F1 (p0 &&& (2147483647 : Int32)) v47_3), iv (F2 (p0 &&& (2147483647 : Int32)) v47_3), iv ((F2 (p0 &&& (2147483647 : Int32)) v47_3) - (F1 (p0 &&& (2147483647 : Int32)) v47_3)), rv m19_0, .unset, .unset]) rfl (XS.iload X19.here hx rfl (hb hby at_79) rfl (XS.iconst X19.here hx rfl (hb hby at_81) (XS.icmpYes X19.here hx rfl (pc0 := 82) (pc' := 99) rfl (hb hby at_82) rfl (tlt hy74_7).2.2.1 (by decide) (by decide) (XS.aload X19.here hx rfl (hb hby at_99) rfl rfl k))))) ?_
        obtain ⟨cq20, kq20, qa20, qb20, qc20⟩ := isOf hZ rfl Ea_m19_0
        obtain ⟨_, _, ⟨T20, L20, k20, n20⟩, -, X20, ⟨Lc20, hQ20, l20, y20, z20⟩, st20⟩ := X19.virtualBack hx (y := (⟨"java/util/Optional", "isPresent", "()Z"⟩ : MethodName)) (z := (⟨"java/util/Optional", "isPresent", "()Z"⟩ : MethodName)) hown (mvT hZ (own_w hw 47 rfl)) (mvT hZ (own_w hw 48 rfl)) (notFace_of_selects (args := #[]) (mvT hZ (own_w hw 50 rfl))) (mvT hZ (own_w hw 50 rfl)) (mvT hZ (own_w hw 49 rfl)) (by decide) (backOf (W := 0) (rm10r l Z a0 hw [] m19_0 m19_1 T19.heap n0 Z19 Ea_m19_0 Fa_value_m19_0) hZ (own_w hw 51 rfl) (own_w hw 32 rfl) (by decide) (by decide)) qa20 qc20 (g := (mkF m 101 #[iv p0, iv p1, iv p2, iv (p0 &&& (2147483647 : Int32)), iv (p1 &&& (63 : Int32)), iv v47_3, iv (F1 (p0 &&& (2147483647 : Int32)) v47_3), iv (F2 (p0 &&& (2147483647 : Int32)) v47_3), iv ((F2 (p0 &&& (2147483647 : Int32)) v47_3) - (F1 (p0 &&& (2147483647 : Int32)) v47_3)), rv m19_0, .unset, .unset] [(.ref m19_0)])) rfl (by rw [hml]; rfl) (Steps.refl _) (argsL := []) (rest := []) (lenOf pd___Z rfl) rfl (by show 2 * 0 + _ ≤ _; exact Nat.le_of_eq rfl) (hb hby at_101) (fun _ _ => ⟨rfl, rfl, (by decide : 2 + 0 ≤ _), (by decide : 3 + 0 ≤ _)⟩)
        dsimp only [Pt.U, Pt.locs, Pt.cells, Pt.slots] at X20 l20 y20 z20 st20 hQ20
        subst l20 y20 z20
        obtain ⟨rfl, N20q, eq20⟩ := hQ20
        have N20 := Fr.app N19 N20q
        refine own_steps (U' := T20.setTop (mkF m 104 #[iv p0, iv p1, iv p2, iv (p0 &&& (2147483647 : Int32)), iv (p1 &&& (63 : Int32)), iv v47_3, iv (F1 (p0 &&& (2147483647 : Int32)) v47_3), iv (F2 (p0 &&& (2147483647 : Int32)) v47_3), iv ((F2 (p0 &&& (2147483647 : Int32)) v47_3) - (F1 (p0 &&& (2147483647 : Int32)) v47_3)), rv m19_0, .unset, .unset] [(.int F10r)])) st20 ?_
        refine own_step (U' := T20.setTop (mkF m 111 #[iv p0, iv p1, iv p2, iv (p0 &&& (2147483647 : Int32)), iv (p1 &&& (63 : Int32)), iv v47_3, iv (F1 (p0 &&& (2147483647 : Int32)) v47_3), iv (F2 (p0 &&& (2147483647 : Int32)) v47_3), iv ((F2 (p0 &&& (2147483647 : Int32)) v47_3) - (F1 (p0 &&& (2147483647 : Int32)) v47_3)), rv m19_0, .unset, .unset] [(.ref m19_0)])) (fun t k => XS.ifYes X20.here hx rfl (pc0 := 104) (pc' := 109) rfl (hb hby at_104) rfl ((if0 _ _).trans (feq own_pres).2) (by decide) (by decide) (XS.aload X20.here hx rfl (hb hby at_109) rfl rfl k)) ?_
        obtain ⟨cq21, kq21, qa21, qb21, qc21⟩ := isOf hZ eq20 Ea_m19_0
        obtain ⟨_, _, ⟨T21, L21, k21, n21⟩, -, X21, ⟨Lc21, hQ21, l21, y21, z21⟩, st21⟩ := X20.virtualBack hx (y := (⟨"java/util/Optional", "get", "()Ljava/lang/Object;"⟩ : MethodName)) (z := (⟨"java/util/Optional", "get", "()Ljava/lang/Object;"⟩ : MethodName)) hown (mvT hZ (own_w hw 52 rfl)) (mvT hZ (own_w hw 53 rfl)) (notFace_of_selects (args := #[]) (mvT hZ (own_w hw 55 rfl))) (mvT hZ (own_w hw 55 rfl)) (mvT hZ (own_w hw 54 rfl)) (by decide) (backOf (W := 0) (rm11 l Z a0 hw [] m19_0 m19_1 T19.heap n0 Z19 Ea_m19_0 Fa_value_m19_0) hZ (own_w hw 56 rfl) (own_w hw 32 rfl) (by decide) (by decide)) qa21 qc21 (g := (mkF m 111 #[iv p0, iv p1, iv p2, iv (p0 &&& (2147483647 : Int32)), iv (p1 &&& (63 : Int32)), iv v47_3, iv (F1 (p0 &&& (2147483647 : Int32)) v47_3), iv (F2 (p0 &&& (2147483647 : Int32)) v47_3), iv ((F2 (p0 &&& (2147483647 : Int32)) v47_3) - (F1 (p0 &&& (2147483647 : Int32)) v47_3)), rv m19_0, .unset, .unset] [(.ref m19_0)])) rfl (by rw [hml]; rfl) (Steps.refl _) (argsL := []) (rest := []) (lenOf pd___Ljava_lang_Object_ rfl) rfl (by show 2 * 0 + _ ≤ _; exact Nat.le_of_eq rfl) (hb hby at_111) (fun _ _ => ⟨rfl, eq20, (by decide : 2 + 0 ≤ _), (by decide : 3 + 0 ≤ _)⟩)
        dsimp only [Pt.U, Pt.locs, Pt.cells, Pt.slots] at X21 l21 y21 z21 st21 hQ21
        subst l21 y21 z21
        obtain ⟨rfl, N21q, eq21⟩ := hQ21
        have N21 := Fr.app N20 N21q
        refine own_steps (U' := T21.setTop (mkF m 114 #[iv p0, iv p1, iv p2, iv (p0 &&& (2147483647 : Int32)), iv (p1 &&& (63 : Int32)), iv v47_3, iv (F1 (p0 &&& (2147483647 : Int32)) v47_3), iv (F2 (p0 &&& (2147483647 : Int32)) v47_3), iv ((F2 (p0 &&& (2147483647 : Int32)) v47_3) - (F1 (p0 &&& (2147483647 : Int32)) v47_3)), rv m19_0, .unset, .unset] [(.ref m19_1)])) st21 ?_
        obtain ⟨T22, X22, e22, st22⟩ := castY X21 hx hZ hown (own_w hw 57 rfl) eq21 (Ins.self Ea_m19_1) (g := (mkF m 114 #[iv p0, iv p1, iv p2, iv (p0 &&& (2147483647 : Int32)), iv (p1 &&& (63 : Int32)), iv v47_3, iv (F1 (p0 &&& (2147483647 : Int32)) v47_3), iv (F2 (p0 &&& (2147483647 : Int32)) v47_3), iv ((F2 (p0 &&& (2147483647 : Int32)) v47_3) - (F1 (p0 &&& (2147483647 : Int32)) v47_3)), rv m19_0, .unset, .unset] [(.ref m19_1)])) rfl rfl (hb hby at_114)
        refine own_step (U' := T22.setTop (mkF m 117 #[iv p0, iv p1, iv p2, iv (p0 &&& (2147483647 : Int32)), iv (p1 &&& (63 : Int32)), iv v47_3, iv (F1 (p0 &&& (2147483647 : Int32)) v47_3), iv (F2 (p0 &&& (2147483647 : Int32)) v47_3), iv ((F2 (p0 &&& (2147483647 : Int32)) v47_3) - (F1 (p0 &&& (2147483647 : Int32)) v47_3)), rv m19_0, .unset, .unset] [(.ref m19_1)])) st22 ?_
        refine own_step (U' := T22.setTop (mkF m 126 #[iv p0, iv p1, iv p2, iv (p0 &&& (2147483647 : Int32)), iv (p1 &&& (63 : Int32)), iv v47_3, iv (F1 (p0 &&& (2147483647 : Int32)) v47_3), iv (F2 (p0 &&& (2147483647 : Int32)) v47_3), iv ((F2 (p0 &&& (2147483647 : Int32)) v47_3) - (F1 (p0 &&& (2147483647 : Int32)) v47_3)), rv m19_0, rv m19_1, .unset] [(.int ((F2 (p0 &&& (2147483647 : Int32)) v47_3) - (32 : Int32))), (.int (F1 (p0 &&& (2147483647 : Int32)) v47_3))])) (fun t k => XS.astore X22.here hx rfl (hb hby at_117) rfl rfl (l' := #[iv p0, iv p1, iv p2, iv (p0 &&& (2147483647 : Int32)), iv (p1 &&& (63 : Int32)), iv v47_3, iv (F1 (p0 &&& (2147483647 : Int32)) v47_3), iv (F2 (p0 &&& (2147483647 : Int32)) v47_3), iv ((F2 (p0 &&& (2147483647 : Int32)) v47_3) - (F1 (p0 &&& (2147483647 : Int32)) v47_3)), rv m19_0, rv m19_1, .unset]) rfl (XS.iload X22.here hx rfl (hb hby at_119) rfl (XS.iload X22.here hx rfl (hb hby at_121) rfl (XS.bipush X22.here hx rfl (hb hby at_123) (XS.isub X22.here hx rfl (hb hby at_125) rfl k))))) ?_
        obtain ⟨_, _, ⟨T23, L23, k23, n23⟩, -, X23, ⟨Lc23, hQ23, l23, y23, z23⟩, st23⟩ := Jvm.LawKit.callS X22 hx (y := (⟨"java/lang/Math", "max", "(II)I"⟩ : MethodName)) hown (mvT hZ (own_w hw 5 rfl)) (mvT hZ (own_w hw 6 rfl)) (mvT hZ (own_w hw 3 rfl)) (mvT hZ (own_w hw 7 rfl)) (by decide) (backOf (W := 0) (rm2 l Z a0 hw [] (F1 (p0 &&& (2147483647 : Int32)) v47_3) ((F2 (p0 &&& (2147483647 : Int32)) v47_3) - (32 : Int32)) T19.heap n0 Z19) hZ (own_w hw 7 rfl) (own_w hw 3 rfl) (by decide) (by decide)) (g := (mkF m 126 #[iv p0, iv p1, iv p2, iv (p0 &&& (2147483647 : Int32)), iv (p1 &&& (63 : Int32)), iv v47_3, iv (F1 (p0 &&& (2147483647 : Int32)) v47_3), iv (F2 (p0 &&& (2147483647 : Int32)) v47_3), iv ((F2 (p0 &&& (2147483647 : Int32)) v47_3) - (F1 (p0 &&& (2147483647 : Int32)) v47_3)), rv m19_0, rv m19_1, .unset] [(.int ((F2 (p0 &&& (2147483647 : Int32)) v47_3) - (32 : Int32))), (.int (F1 (p0 &&& (2147483647 : Int32)) v47_3))])) rfl (by rw [hml]; rfl) (argsL := [(.int (F1 (p0 &&& (2147483647 : Int32)) v47_3)), (.int ((F2 (p0 &&& (2147483647 : Int32)) v47_3) - (32 : Int32)))]) (rest := []) (lenOf pd__II_I rfl) rfl (by show 2 * 0 + _ ≤ _; exact Nat.le_of_eq rfl) (hb hby at_126) (fun _ _ => ⟨rfl, e22, (by decide : 2 + 0 ≤ _), (by decide : 3 + 0 ≤ _)⟩)
        dsimp only [Pt.U, Pt.locs, Pt.cells, Pt.slots] at X23 l23 y23 z23 st23 hQ23
        subst l23 y23 z23
        obtain ⟨rfl, N23q, eq23⟩ := hQ23
        have N23 := Fr.app N21 N23q
        refine own_step (U' := T23.setTop (mkF m 129 #[iv p0, iv p1, iv p2, iv (p0 &&& (2147483647 : Int32)), iv (p1 &&& (63 : Int32)), iv v47_3, iv (F1 (p0 &&& (2147483647 : Int32)) v47_3), iv (F2 (p0 &&& (2147483647 : Int32)) v47_3), iv ((F2 (p0 &&& (2147483647 : Int32)) v47_3) - (F1 (p0 &&& (2147483647 : Int32)) v47_3)), rv m19_0, rv m19_1, .unset] [(.int (F2 (F1 (p0 &&& (2147483647 : Int32)) v47_3) ((F2 (p0 &&& (2147483647 : Int32)) v47_3) - (32 : Int32))))])) st23 ?_
        refine own_step (U' := T23.setTop (mkF m 133 #[iv p0, iv p1, iv p2, iv (p0 &&& (2147483647 : Int32)), iv (p1 &&& (63 : Int32)), iv v47_3, iv (F1 (p0 &&& (2147483647 : Int32)) v47_3), iv (F2 (p0 &&& (2147483647 : Int32)) v47_3), iv ((F2 (p0 &&& (2147483647 : Int32)) v47_3) - (F1 (p0 &&& (2147483647 : Int32)) v47_3)), rv m19_0, rv m19_1, iv (F2 (F1 (p0 &&& (2147483647 : Int32)) v47_3) ((F2 (p0 &&& (2147483647 : Int32)) v47_3) - (32 : Int32)))] [(.ref m19_1)])) (fun t k => XS.istore X23.here hx rfl (hb hby at_129) rfl (l' := #[iv p0, iv p1, iv p2, iv (p0 &&& (2147483647 : Int32)), iv (p1 &&& (63 : Int32)), iv v47_3, iv (F1 (p0 &&& (2147483647 : Int32)) v47_3), iv (F2 (p0 &&& (2147483647 : Int32)) v47_3), iv ((F2 (p0 &&& (2147483647 : Int32)) v47_3) - (F1 (p0 &&& (2147483647 : Int32)) v47_3)), rv m19_0, rv m19_1, iv (F2 (F1 (p0 &&& (2147483647 : Int32)) v47_3) ((F2 (p0 &&& (2147483647 : Int32)) v47_3) - (32 : Int32)))]) rfl (XS.aload X23.here hx rfl (hb hby at_131) rfl rfl k)) ?_
        obtain ⟨cq24, kq24, qa24, qb24, qc24⟩ := isOf hZ eq23 Ea_m19_1
        obtain ⟨_, _, ⟨T24, L24, k24, n24⟩, -, X24, ⟨Lc24, hQ24, l24, y24, z24⟩, st24⟩ := X23.virtualBack hx (y := (⟨"com/example/termstone/termstone/MergePolicy$Run", "from", "()I"⟩ : MethodName)) (z := (⟨"com/example/termstone/termstone/MergePolicy$Run", "from", "()I"⟩ : MethodName)) hown (mvT hZ (own_w hw 59 rfl)) (mvT hZ (own_w hw 60 rfl)) (notFace_of_selects (args := #[]) (mvT hZ (own_w hw 62 rfl))) (mvT hZ (own_w hw 62 rfl)) (mvT hZ (own_w hw 61 rfl)) (by decide) (backOf (W := 0) (rm12 l Z a0 hw [] m19_1 (F1 (p0 &&& (2147483647 : Int32)) v47_3) T19.heap n0 Z19 Ea_m19_1 Fa_from_m19_1) hZ (own_w hw 63 rfl) (own_w hw 14 rfl) (by decide) (by decide)) qa24 qc24 (g := (mkF m 133 #[iv p0, iv p1, iv p2, iv (p0 &&& (2147483647 : Int32)), iv (p1 &&& (63 : Int32)), iv v47_3, iv (F1 (p0 &&& (2147483647 : Int32)) v47_3), iv (F2 (p0 &&& (2147483647 : Int32)) v47_3), iv ((F2 (p0 &&& (2147483647 : Int32)) v47_3) - (F1 (p0 &&& (2147483647 : Int32)) v47_3)), rv m19_0, rv m19_1, iv (F2 (F1 (p0 &&& (2147483647 : Int32)) v47_3) ((F2 (p0 &&& (2147483647 : Int32)) v47_3) - (32 : Int32)))] [(.ref m19_1)])) rfl (by rw [hml]; rfl) (Steps.refl _) (argsL := []) (rest := []) (lenOf pd___I rfl) rfl (by show 2 * 0 + _ ≤ _; exact Nat.le_of_eq rfl) (hb hby at_133) (fun _ _ => ⟨rfl, eq23, (by decide : 2 + 0 ≤ _), (by decide : 3 + 0 ≤ _)⟩)
        dsimp only [Pt.U, Pt.locs, Pt.cells, Pt.slots] at X24 l24 y24 z24 st24 hQ24
        subst l24 y24 z24
        obtain ⟨rfl, N24q, eq24⟩ := hQ24
        have N24 := Fr.app N23 N24q
        refine own_steps (U' := T24.setTop (mkF m 136 #[iv p0, iv p1, iv p2, iv (p0 &&& (2147483647 : Int32)), iv (p1 &&& (63 : Int32)), iv v47_3, iv (F1 (p0 &&& (2147483647 : Int32)) v47_3), iv (F2 (p0 &&& (2147483647 : Int32)) v47_3), iv ((F2 (p0 &&& (2147483647 : Int32)) v47_3) - (F1 (p0 &&& (2147483647 : Int32)) v47_3)), rv m19_0, rv m19_1, iv (F2 (F1 (p0 &&& (2147483647 : Int32)) v47_3) ((F2 (p0 &&& (2147483647 : Int32)) v47_3) - (32 : Int32)))] [(.int (F12 (F1 (p0 &&& (2147483647 : Int32)) v47_3)))])) st24 ?_
        refine own_step (U' := T24.setTop (mkF m 143 #[iv p0, iv p1, iv p2, iv (p0 &&& (2147483647 : Int32)), iv (p1 &&& (63 : Int32)), iv v47_3, iv (F1 (p0 &&& (2147483647 : Int32)) v47_3), iv (F2 (p0 &&& (2147483647 : Int32)) v47_3), iv ((F2 (p0 &&& (2147483647 : Int32)) v47_3) - (F1 (p0 &&& (2147483647 : Int32)) v47_3)), rv m19_0, rv m19_1, iv (F2 (F1 (p0 &&& (2147483647 : Int32)) v47_3) ((F2 (p0 &&& (2147483647 : Int32)) v47_3) - (32 : Int32)))] [(.ref m19_1)])) (fun t k => XS.iload X24.here hx rfl (hb hby at_136) rfl (XS.icmpNo X24.here hx rfl (hb hby at_138) rfl (teq (own_B1 (own_x p0) (own_y hv47_3) hy74_8)).2 (XS.aload X24.here hx rfl (hb hby at_141) rfl rfl k))) ?_
        obtain ⟨cq25, kq25, qa25, qb25, qc25⟩ := isOf hZ eq24 Ea_m19_1
        obtain ⟨_, _, ⟨T25, L25, k25, n25⟩, -, X25, ⟨Lc25, hQ25, l25, y25, z25⟩, st25⟩ := X24.virtualBack hx (y := (⟨"com/example/termstone/termstone/MergePolicy$Run", "to", "()I"⟩ : MethodName)) (z := (⟨"com/example/termstone/termstone/MergePolicy$Run", "to", "()I"⟩ : MethodName)) hown (mvT hZ (own_w hw 64 rfl)) (mvT hZ (own_w hw 65 rfl)) (notFace_of_selects (args := #[]) (mvT hZ (own_w hw 67 rfl))) (mvT hZ (own_w hw 67 rfl)) (mvT hZ (own_w hw 66 rfl)) (by decide) (backOf (W := 0) (rm13 l Z a0 hw [] m19_1 (F2 (p0 &&& (2147483647 : Int32)) v47_3) T19.heap n0 Z19 Ea_m19_1 Fa_to_m19_1) hZ (own_w hw 68 rfl) (own_w hw 14 rfl) (by decide) (by decide)) qa25 qc25 (g := (mkF m 143 #[iv p0, iv p1, iv p2, iv (p0 &&& (2147483647 : Int32)), iv (p1 &&& (63 : Int32)), iv v47_3, iv (F1 (p0 &&& (2147483647 : Int32)) v47_3), iv (F2 (p0 &&& (2147483647 : Int32)) v47_3), iv ((F2 (p0 &&& (2147483647 : Int32)) v47_3) - (F1 (p0 &&& (2147483647 : Int32)) v47_3)), rv m19_0, rv m19_1, iv (F2 (F1 (p0 &&& (2147483647 : Int32)) v47_3) ((F2 (p0 &&& (2147483647 : Int32)) v47_3) - (32 : Int32)))] [(.ref m19_1)])) rfl (by rw [hml]; rfl) (Steps.refl _) (argsL := []) (rest := []) (lenOf pd___I rfl) rfl (by show 2 * 0 + _ ≤ _; exact Nat.le_of_eq rfl) (hb hby at_143) (fun _ _ => ⟨rfl, eq24, (by decide : 2 + 0 ≤ _), (by decide : 3 + 0 ≤ _)⟩)
        dsimp only [Pt.U, Pt.locs, Pt.cells, Pt.slots] at X25 l25 y25 z25 st25 hQ25
        subst l25 y25 z25
        obtain ⟨rfl, N25q, eq25⟩ := hQ25
        have N25 := Fr.app N24 N25q
        refine own_steps (U' := T25.setTop (mkF m 146 #[iv p0, iv p1, iv p2, iv (p0 &&& (2147483647 : Int32)), iv (p1 &&& (63 : Int32)), iv v47_3, iv (F1 (p0 &&& (2147483647 : Int32)) v47_3), iv (F2 (p0 &&& (2147483647 : Int32)) v47_3), iv ((F2 (p0 &&& (2147483647 : Int32)) v47_3) - (F1 (p0 &&& (2147483647 : Int32)) v47_3)), rv m19_0, rv m19_1, iv (F2 (F1 (p0 &&& (2147483647 : Int32)) v47_3) ((F2 (p0 &&& (2147483647 : Int32)) v47_3) - (32 : Int32)))] [(.int (F13 (F2 (p0 &&& (2147483647 : Int32)) v47_3)))])) st25 ?_
        refine own_step (U' := T25.setTop (mkF m 153 #[iv p0, iv p1, iv p2, iv (p0 &&& (2147483647 : Int32)), iv (p1 &&& (63 : Int32)), iv v47_3, iv (F1 (p0 &&& (2147483647 : Int32)) v47_3), iv (F2 (p0 &&& (2147483647 : Int32)) v47_3), iv ((F2 (p0 &&& (2147483647 : Int32)) v47_3) - (F1 (p0 &&& (2147483647 : Int32)) v47_3)), rv m19_0, rv m19_1, iv (F2 (F1 (p0 &&& (2147483647 : Int32)) v47_3) ((F2 (p0 &&& (2147483647 : Int32)) v47_3) - (32 : Int32)))] [(.ref m19_1)])) (fun t k => XS.iload X25.here hx rfl (hb hby at_146) rfl (XS.icmpNo X25.here hx rfl (hb hby at_148) rfl (teq rfl).2 (XS.aload X25.here hx rfl (hb hby at_151) rfl rfl k))) ?_
        obtain ⟨cq26, kq26, qa26, qb26, qc26⟩ := isOf hZ eq25 Ea_m19_1
        obtain ⟨_, _, ⟨T26, L26, k26, n26⟩, -, X26, ⟨Lc26, hQ26, l26, y26, z26⟩, st26⟩ := X25.virtualBack hx (y := (⟨"com/example/termstone/termstone/MergePolicy$Run", "to", "()I"⟩ : MethodName)) (z := (⟨"com/example/termstone/termstone/MergePolicy$Run", "to", "()I"⟩ : MethodName)) hown (mvT hZ (own_w hw 64 rfl)) (mvT hZ (own_w hw 65 rfl)) (notFace_of_selects (args := #[]) (mvT hZ (own_w hw 67 rfl))) (mvT hZ (own_w hw 67 rfl)) (mvT hZ (own_w hw 66 rfl)) (by decide) (backOf (W := 0) (rm13 l Z a0 hw [] m19_1 (F2 (p0 &&& (2147483647 : Int32)) v47_3) T19.heap n0 Z19 Ea_m19_1 Fa_to_m19_1) hZ (own_w hw 68 rfl) (own_w hw 14 rfl) (by decide) (by decide)) qa26 qc26 (g := (mkF m 153 #[iv p0, iv p1, iv p2, iv (p0 &&& (2147483647 : Int32)), iv (p1 &&& (63 : Int32)), iv v47_3, iv (F1 (p0 &&& (2147483647 : Int32)) v47_3), iv (F2 (p0 &&& (2147483647 : Int32)) v47_3), iv ((F2 (p0 &&& (2147483647 : Int32)) v47_3) - (F1 (p0 &&& (2147483647 : Int32)) v47_3)), rv m19_0, rv m19_1, iv (F2 (F1 (p0 &&& (2147483647 : Int32)) v47_3) ((F2 (p0 &&& (2147483647 : Int32)) v47_3) - (32 : Int32)))] [(.ref m19_1)])) rfl (by rw [hml]; rfl) (Steps.refl _) (argsL := []) (rest := []) (lenOf pd___I rfl) rfl (by show 2 * 0 + _ ≤ _; exact Nat.le_of_eq rfl) (hb hby at_153) (fun _ _ => ⟨rfl, eq25, (by decide : 2 + 0 ≤ _), (by decide : 3 + 0 ≤ _)⟩)
        dsimp only [Pt.U, Pt.locs, Pt.cells, Pt.slots] at X26 l26 y26 z26 st26 hQ26
        subst l26 y26 z26
        obtain ⟨rfl, N26q, eq26⟩ := hQ26
        have N26 := Fr.app N25 N26q
        refine own_steps (U' := T26.setTop (mkF m 156 #[iv p0, iv p1, iv p2, iv (p0 &&& (2147483647 : Int32)), iv (p1 &&& (63 : Int32)), iv v47_3, iv (F1 (p0 &&& (2147483647 : Int32)) v47_3), iv (F2 (p0 &&& (2147483647 : Int32)) v47_3), iv ((F2 (p0 &&& (2147483647 : Int32)) v47_3) - (F1 (p0 &&& (2147483647 : Int32)) v47_3)), rv m19_0, rv m19_1, iv (F2 (F1 (p0 &&& (2147483647 : Int32)) v47_3) ((F2 (p0 &&& (2147483647 : Int32)) v47_3) - (32 : Int32)))] [(.int (F13 (F2 (p0 &&& (2147483647 : Int32)) v47_3)))])) st26 ?_
        refine own_step (U' := T26.setTop (mkF m 158 #[iv p0, iv p1, iv p2, iv (p0 &&& (2147483647 : Int32)), iv (p1 &&& (63 : Int32)), iv v47_3, iv (F1 (p0 &&& (2147483647 : Int32)) v47_3), iv (F2 (p0 &&& (2147483647 : Int32)) v47_3), iv ((F2 (p0 &&& (2147483647 : Int32)) v47_3) - (F1 (p0 &&& (2147483647 : Int32)) v47_3)), rv m19_0, rv m19_1, iv (F2 (F1 (p0 &&& (2147483647 : Int32)) v47_3) ((F2 (p0 &&& (2147483647 : Int32)) v47_3) - (32 : Int32)))] [(.ref m19_1), (.int (F13 (F2 (p0 &&& (2147483647 : Int32)) v47_3)))])) (fun t k => XS.aload X26.here hx rfl (hb hby at_156) rfl rfl k) ?_
        obtain ⟨cq27, kq27, qa27, qb27, qc27⟩ := isOf hZ eq26 Ea_m19_1
        obtain ⟨_, _, ⟨T27, L27, k27, n27⟩, -, X27, ⟨Lc27, hQ27, l27, y27, z27⟩, st27⟩ := X26.virtualBack hx (y := (⟨"com/example/termstone/termstone/MergePolicy$Run", "from", "()I"⟩ : MethodName)) (z := (⟨"com/example/termstone/termstone/MergePolicy$Run", "from", "()I"⟩ : MethodName)) hown (mvT hZ (own_w hw 59 rfl)) (mvT hZ (own_w hw 60 rfl)) (notFace_of_selects (args := #[]) (mvT hZ (own_w hw 62 rfl))) (mvT hZ (own_w hw 62 rfl)) (mvT hZ (own_w hw 61 rfl)) (by decide) (backOf (W := 1) (rm12 l Z a0 hw [] m19_1 (F1 (p0 &&& (2147483647 : Int32)) v47_3) T19.heap n0 Z19 Ea_m19_1 Fa_from_m19_1) hZ (own_w hw 63 rfl) (own_w hw 14 rfl) (by decide) (by decide)) qa27 qc27 (g := (mkF m 158 #[iv p0, iv p1, iv p2, iv (p0 &&& (2147483647 : Int32)), iv (p1 &&& (63 : Int32)), iv v47_3, iv (F1 (p0 &&& (2147483647 : Int32)) v47_3), iv (F2 (p0 &&& (2147483647 : Int32)) v47_3), iv ((F2 (p0 &&& (2147483647 : Int32)) v47_3) - (F1 (p0 &&& (2147483647 : Int32)) v47_3)), rv m19_0, rv m19_1, iv (F2 (F1 (p0 &&& (2147483647 : Int32)) v47_3) ((F2 (p0 &&& (2147483647 : Int32)) v47_3) - (32 : Int32)))] [(.ref m19_1), (.int (F13 (F2 (p0 &&& (2147483647 : Int32)) v47_3)))])) rfl (by rw [hml]; rfl) (Steps.refl _) (argsL := []) (rest := [(.int (F13 (F2 (p0 &&& (2147483647 : Int32)) v47_3)))]) (lenOf pd___I rfl) rfl (by show 2 * 0 + _ ≤ _; exact Nat.le_of_eq rfl) (hb hby at_158) (fun _ _ => ⟨rfl, eq26, (by decide : 2 + 0 ≤ _), (by decide : 3 + 0 ≤ _)⟩)
        dsimp only [Pt.U, Pt.locs, Pt.cells, Pt.slots] at X27 l27 y27 z27 st27 hQ27
        subst l27 y27 z27
        obtain ⟨rfl, N27q, eq27⟩ := hQ27
        have N27 := Fr.app N26 N27q
        refine own_steps (U' := T27.setTop (mkF m 161 #[iv p0, iv p1, iv p2, iv (p0 &&& (2147483647 : Int32)), iv (p1 &&& (63 : Int32)), iv v47_3, iv (F1 (p0 &&& (2147483647 : Int32)) v47_3), iv (F2 (p0 &&& (2147483647 : Int32)) v47_3), iv ((F2 (p0 &&& (2147483647 : Int32)) v47_3) - (F1 (p0 &&& (2147483647 : Int32)) v47_3)), rv m19_0, rv m19_1, iv (F2 (F1 (p0 &&& (2147483647 : Int32)) v47_3) ((F2 (p0 &&& (2147483647 : Int32)) v47_3) - (32 : Int32)))] [(.int (F12 (F1 (p0 &&& (2147483647 : Int32)) v47_3))), (.int (F13 (F2 (p0 &&& (2147483647 : Int32)) v47_3)))])) st27 ?_
        refine own_step (U' := T27.setTop (mkF m 166 #[iv p0, iv p1, iv p2, iv (p0 &&& (2147483647 : Int32)), iv (p1 &&& (63 : Int32)), iv v47_3, iv (F1 (p0 &&& (2147483647 : Int32)) v47_3), iv (F2 (p0 &&& (2147483647 : Int32)) v47_3), iv ((F2 (p0 &&& (2147483647 : Int32)) v47_3) - (F1 (p0 &&& (2147483647 : Int32)) v47_3)), rv m19_0, rv m19_1, iv (F2 (F1 (p0 &&& (2147483647 : Int32)) v47_3) ((F2 (p0 &&& (2147483647 : Int32)) v47_3) - (32 : Int32)))] [(.int (32 : Int32)), (.int ((F2 (p0 &&& (2147483647 : Int32)) v47_3) - (F1 (p0 &&& (2147483647 : Int32)) v47_3))), (.int ((F13 (F2 (p0 &&& (2147483647 : Int32)) v47_3)) - (F12 (F1 (p0 &&& (2147483647 : Int32)) v47_3))))])) (fun t k => XS.isub X27.here hx rfl (hb hby at_161) rfl (XS.iload X27.here hx rfl (hb hby at_162) rfl (XS.bipush X27.here hx rfl (hb hby at_164) k))) ?_
        obtain ⟨_, _, ⟨T28, L28, k28, n28⟩, -, X28, ⟨Lc28, hQ28, l28, y28, z28⟩, st28⟩ := Jvm.LawKit.callS X27 hx (y := (⟨"java/lang/Math", "min", "(II)I"⟩ : MethodName)) hown (mvT hZ (own_w hw 1 rfl)) (mvT hZ (own_w hw 2 rfl)) (mvT hZ (own_w hw 3 rfl)) (mvT hZ (own_w hw 4 rfl)) (by decide) (backOf (W := 1) (rm1 l Z a0 hw [] ((F2 (p0 &&& (2147483647 : Int32)) v47_3) - (F1 (p0 &&& (2147483647 : Int32)) v47_3)) (32 : Int32) T19.heap n0 Z19) hZ (own_w hw 4 rfl) (own_w hw 3 rfl) (by decide) (by decide)) (g := (mkF m 166 #[iv p0, iv p1, iv p2, iv (p0 &&& (2147483647 : Int32)), iv (p1 &&& (63 : Int32)), iv v47_3, iv (F1 (p0 &&& (2147483647 : Int32)) v47_3), iv (F2 (p0 &&& (2147483647 : Int32)) v47_3), iv ((F2 (p0 &&& (2147483647 : Int32)) v47_3) - (F1 (p0 &&& (2147483647 : Int32)) v47_3)), rv m19_0, rv m19_1, iv (F2 (F1 (p0 &&& (2147483647 : Int32)) v47_3) ((F2 (p0 &&& (2147483647 : Int32)) v47_3) - (32 : Int32)))] [(.int (32 : Int32)), (.int ((F2 (p0 &&& (2147483647 : Int32)) v47_3) - (F1 (p0 &&& (2147483647 : Int32)) v47_3))), (.int ((F13 (F2 (p0 &&& (2147483647 : Int32)) v47_3)) - (F12 (F1 (p0 &&& (2147483647 : Int32)) v47_3))))])) rfl (by rw [hml]; rfl) (argsL := [(.int ((F2 (p0 &&& (2147483647 : Int32)) v47_3) - (F1 (p0 &&& (2147483647 : Int32)) v47_3))), (.int (32 : Int32))]) (rest := [(.int ((F13 (F2 (p0 &&& (2147483647 : Int32)) v47_3)) - (F12 (F1 (p0 &&& (2147483647 : Int32)) v47_3))))]) (lenOf pd__II_I rfl) rfl (by show 2 * 0 + _ ≤ _; exact Nat.le_of_eq rfl) (hb hby at_166) (fun _ _ => ⟨rfl, eq27, (by decide : 2 + 0 ≤ _), (by decide : 3 + 0 ≤ _)⟩)
        dsimp only [Pt.U, Pt.locs, Pt.cells, Pt.slots] at X28 l28 y28 z28 st28 hQ28
        subst l28 y28 z28
        obtain ⟨rfl, N28q, eq28⟩ := hQ28
        have N28 := Fr.app N27 N28q
        refine own_step (U' := T28.setTop (mkF m 169 #[iv p0, iv p1, iv p2, iv (p0 &&& (2147483647 : Int32)), iv (p1 &&& (63 : Int32)), iv v47_3, iv (F1 (p0 &&& (2147483647 : Int32)) v47_3), iv (F2 (p0 &&& (2147483647 : Int32)) v47_3), iv ((F2 (p0 &&& (2147483647 : Int32)) v47_3) - (F1 (p0 &&& (2147483647 : Int32)) v47_3)), rv m19_0, rv m19_1, iv (F2 (F1 (p0 &&& (2147483647 : Int32)) v47_3) ((F2 (p0 &&& (2147483647 : Int32)) v47_3) - (32 : Int32)))] [(.int (F1 ((F2 (p0 &&& (2147483647 : Int32)) v47_3) - (F1 (p0 &&& (2147483647 : Int32)) v47_3)) (32 : Int32))), (.int ((F13 (F2 (p0 &&& (2147483647 : Int32)) v47_3)) - (F12 (F1 (p0 &&& (2147483647 : Int32)) v47_3))))])) st28 ?_
        refine own_step (U' := T28.setTop (mkF m 177 #[iv p0, iv p1, iv p2, iv (p0 &&& (2147483647 : Int32)), iv (p1 &&& (63 : Int32)), iv v47_3, iv (F1 (p0 &&& (2147483647 : Int32)) v47_3), iv (F2 (p0 &&& (2147483647 : Int32)) v47_3), iv ((F2 (p0 &&& (2147483647 : Int32)) v47_3) - (F1 (p0 &&& (2147483647 : Int32)) v47_3)), rv m19_0, rv m19_1, iv (F2 (F1 (p0 &&& (2147483647 : Int32)) v47_3) ((F2 (p0 &&& (2147483647 : Int32)) v47_3) - (32 : Int32)))] [(.int (1 : Int32))])) (fun t k => XS.icmpNo X28.here hx rfl (hb hby at_169) rfl (teq (own_B3 (own_x p0) (own_y hv47_3) hy74_8)).2 (XS.iconst X28.here hx rfl (hb hby at_172) (XS.goto X28.here hx rfl (pc0 := 173) (pc' := 177) rfl (hb hby at_173) (by decide) (by decide) k))) ?_
        exact own_out X28 (v := (some (.int (1 : Int32)))) hlk (own_nv Bd.returns) (by rw [eq28]; exact ⟨rfl, N28⟩) (by decide) (by decide) (fun fs hr => retN X28 hx (t := .boolean) Bd.returns (by simp) (hb hby at_177) hr)
    · obtain ⟨_, _, ⟨T29, L29, k29, n29⟩, -, X29, ⟨Lc29, hQ29, l29, y29, z29⟩, st29⟩ := Jvm.LawKit.callS X6 hx (y := (⟨"com/example/termstone/termstone/MergePolicy", "nextMergeAtCommit", "(II)Ljava/util/Optional;"⟩ : MethodName)) hown (mvT hZ (own_w hw 8 rfl)) (mvT hZ (own_w hw 9 rfl)) (mvT hZ (own_w hw 10 rfl)) (mvT hZ (own_w hw 11 rfl)) (by decide) (backOf (W := 0) (rm3C l Z a0 hw [] (F1 (p0 &&& (2147483647 : Int32)) v47_3) (F2 (p0 &&& (2147483647 : Int32)) v47_3) wE h0 n0 Z0 S_EMPTY (own_no32 hy74_7) hy74_7) hZ (own_w hw 11 rfl) (own_w hw 10 rfl) (by decide) (by decide)) (g := (mkF m 74 #[iv p0, iv p1, iv p2, iv (p0 &&& (2147483647 : Int32)), iv (p1 &&& (63 : Int32)), iv v47_3, iv (F1 (p0 &&& (2147483647 : Int32)) v47_3), iv (F2 (p0 &&& (2147483647 : Int32)) v47_3), iv ((F2 (p0 &&& (2147483647 : Int32)) v47_3) - (F1 (p0 &&& (2147483647 : Int32)) v47_3)), .unset, .unset, .unset] [(.int (F2 (p0 &&& (2147483647 : Int32)) v47_3)), (.int (F1 (p0 &&& (2147483647 : Int32)) v47_3))])) rfl (by rw [hml]; rfl) (argsL := [(.int (F1 (p0 &&& (2147483647 : Int32)) v47_3)), (.int (F2 (p0 &&& (2147483647 : Int32)) v47_3))]) (rest := []) (lenOf pd__II_Ljava_util_Optional_ rfl) rfl (by show 2 * 0 + _ ≤ _; exact Nat.le_of_eq rfl) (hb hby at_74) (fun _ _ => ⟨rfl, eq6, (by decide : 0 + 0 ≤ _), (by decide : 0 + 0 ≤ _)⟩)
      dsimp only [Pt.U, Pt.locs, Pt.cells, Pt.slots] at X29 l29 y29 z29 st29 hQ29
      subst l29 y29 z29
      obtain ⟨rfl, N29q, eq29⟩ := hQ29
      have N29 := Fr.app N6 N29q
      refine own_step (U' := T29.setTop (mkF m 77 #[iv p0, iv p1, iv p2, iv (p0 &&& (2147483647 : Int32)), iv (p1 &&& (63 : Int32)), iv v47_3, iv (F1 (p0 &&& (2147483647 : Int32)) v47_3), iv (F2 (p0 &&& (2147483647 : Int32)) v47_3), iv ((F2 (p0 &&& (2147483647 : Int32)) v47_3) - (F1 (p0 &&& (2147483647 : Int32)) v47_3)), .unset, .unset, .unset] [(.ref wE)])) st29 ?_
      refine own_step (U' := T29.setTop (mkF m 87 #[iv p0, iv p1, iv p2, iv (p0 &&& (2147483647 : Int32)), iv (p1 &&& (63 : Int32)), iv v47_3, iv (F1 (p0 &&& (2147483647 : Int32)) v47_3), iv (F2 (p0 &&& (2147483647 : Int32)) v47_3), iv ((F2 (p0 &&& (2147483647 : Int32)) v47_3) - (F1 (p0 &&& (2147483647 : Int32)) v47_3)), rv wE, .unset, .unset] [(.ref wE)])) (fun t k => XS.astore X29.here hx rfl (hb hby at_77) rfl rfl (l' := #[iv p0, iv p1, iv p2, iv (p0 &&& (2147483647 : Int32)), iv (p1 &&& (63 : Int32)), iv v47_3, iv (F1 (p0 &&& (2147483647 : Int32)) v47_3), iv (F2 (p0 &&& (2147483647 : Int32)) v47_3), iv ((F2 (p0 &&& (2147483647 : Int32)) v47_3) - (F1 (p0 &&& (2147483647 : Int32)) v47_3)), rv wE, .unset, .unset]) rfl (XS.iload X29.here hx rfl (hb hby at_79) rfl (XS.iconst X29.here hx rfl (hb hby at_81) (XS.icmpNo X29.here hx rfl (hb hby at_82) rfl (flt hy74_7).2.2.1 (XS.aload X29.here hx rfl (hb hby at_85) rfl rfl k))))) ?_
      obtain ⟨cq30, kq30, qa30, qb30, qc30⟩ := isOf hZ eq29 E_wE
      obtain ⟨_, _, ⟨T30, L30, k30, n30⟩, -, X30, ⟨Lc30, hQ30, l30, y30, z30⟩, st30⟩ := X29.virtualBack hx (y := (⟨"java/util/Optional", "isPresent", "()Z"⟩ : MethodName)) (z := (⟨"java/util/Optional", "isPresent", "()Z"⟩ : MethodName)) hown (mvT hZ (own_w hw 47 rfl)) (mvT hZ (own_w hw 48 rfl)) (notFace_of_selects (args := #[]) (mvT hZ (own_w hw 50 rfl))) (mvT hZ (own_w hw 50 rfl)) (mvT hZ (own_w hw 49 rfl)) (by decide) (backOf (W := 0) (rm10n l Z a0 hw [] wE h0 n0 Z0 E_wE F_value_wE) hZ (own_w hw 51 rfl) (own_w hw 32 rfl) (by decide) (by decide)) qa30 qc30 (g := (mkF m 87 #[iv p0, iv p1, iv p2, iv (p0 &&& (2147483647 : Int32)), iv (p1 &&& (63 : Int32)), iv v47_3, iv (F1 (p0 &&& (2147483647 : Int32)) v47_3), iv (F2 (p0 &&& (2147483647 : Int32)) v47_3), iv ((F2 (p0 &&& (2147483647 : Int32)) v47_3) - (F1 (p0 &&& (2147483647 : Int32)) v47_3)), rv wE, .unset, .unset] [(.ref wE)])) rfl (by rw [hml]; rfl) (Steps.refl _) (argsL := []) (rest := []) (lenOf pd___Z rfl) rfl (by show 2 * 0 + _ ≤ _; exact Nat.le_of_eq rfl) (hb hby at_87) (fun _ _ => ⟨rfl, eq29, (by decide : 0 + 0 ≤ _), (by decide : 0 + 0 ≤ _)⟩)
      dsimp only [Pt.U, Pt.locs, Pt.cells, Pt.slots] at X30 l30 y30 z30 st30 hQ30
      subst l30 y30 z30
      obtain ⟨rfl, N30q, eq30⟩ := hQ30
      have N30 := Fr.app N29 N30q
      refine own_steps (U' := T30.setTop (mkF m 90 #[iv p0, iv p1, iv p2, iv (p0 &&& (2147483647 : Int32)), iv (p1 &&& (63 : Int32)), iv v47_3, iv (F1 (p0 &&& (2147483647 : Int32)) v47_3), iv (F2 (p0 &&& (2147483647 : Int32)) v47_3), iv ((F2 (p0 &&& (2147483647 : Int32)) v47_3) - (F1 (p0 &&& (2147483647 : Int32)) v47_3)), rv wE, .unset, .unset] [(.int F10n)])) st30 ?_
      refine own_step (U' := T30.setTop (mkF m 98 #[iv p0, iv p1, iv p2, iv (p0 &&& (2147483647 : Int32)), iv (p1 &&& (63 : Int32)), iv v47_3, iv (F1 (p0 &&& (2147483647 : Int32)) v47_3), iv (F2 (p0 &&& (2147483647 : Int32)) v47_3), iv ((F2 (p0 &&& (2147483647 : Int32)) v47_3) - (F1 (p0 &&& (2147483647 : Int32)) v47_3)), rv wE, .unset, .unset] [(.int (1 : Int32))])) (fun t k => XS.ifNo X30.here hx rfl (hb hby at_90) rfl ((if0 _ _).trans (teq rfl).2) (XS.iconst X30.here hx rfl (hb hby at_93) (XS.goto X30.here hx rfl (pc0 := 94) (pc' := 98) rfl (hb hby at_94) (by decide) (by decide) k))) ?_
      exact own_out X30 (v := (some (.int (1 : Int32)))) hlk (own_nv Bd.returns) (by rw [eq30]; exact ⟨rfl, N30⟩) (by decide) (by decide) (fun fs hr => retN X30 hx (t := .boolean) Bd.returns (by simp) (hb hby at_98) hr)
  by_cases hc14_31 : (p2 &&& (1 : Int32)) = (0 : Int32)
  · refine own_step (U' := s₁.setTop (mkF m 29 #[iv p0, iv p1, iv p2, iv (p0 &&& (2147483647 : Int32)), iv (p1 &&& (63 : Int32)), .unset, .unset, .unset, .unset, .unset, .unset, .unset] [(.int (63 : Int32)), (.int (p0 &&& (2147483647 : Int32)))])) (fun t k => XS.ifYes X0.here hx rfl (pc0 := 14) (pc' := 26) rfl (hb hby at_14) rfl ((if0 _ _).trans (teq hc14_31).1) (by decide) (by decide) (XS.iloadN X0.here hx rfl (hb hby at_26) rfl (XS.bipush X0.here hx rfl (hb hby at_27) k))) ?_
    by_cases hc29_32 : (p0 &&& (2147483647 : Int32)) < (63 : Int32)
    · refine own_step (U' := s₁.setTop (mkF m 47 #[iv p0, iv p1, iv p2, iv (p0 &&& (2147483647 : Int32)), iv (p1 &&& (63 : Int32)), iv ((p0 &&& (2147483647 : Int32)) + (p1 &&& (63 : Int32))), .unset, .unset, .unset, .unset, .unset, .unset] [])) (fun t k => XS.icmpYes X0.here hx rfl (pc0 := 29) (pc' := 41) rfl (hb hby at_29) rfl (tlt hc29_32).1 (by decide) (by decide) (XS.iloadN X0.here hx rfl (hb hby at_41) rfl (XS.iload X0.here hx rfl (hb hby at_42) rfl (XS.iadd X0.here hx rfl (hb hby at_44) rfl (XS.istore X0.here hx rfl (hb hby at_45) rfl (l' := #[iv p0, iv p1, iv p2, iv (p0 &&& (2147483647 : Int32)), iv (p1 &&& (63 : Int32)), iv ((p0 &&& (2147483647 : Int32)) + (p1 &&& (63 : Int32))), .unset, .unset, .unset, .unset, .unset, .unset]) rfl k))))) ?_
      have q_v47_3 : v47_3 = ((p0 &&& (2147483647 : Int32)) + (p1 &&& (63 : Int32))) := by rw [hv47_3, if_pos hc14_31, if_pos hc29_32]
      rw [q_v47_3] at K47_4
      exact K47_4 _ _ X0 N0 e0
    · refine own_step (U' := s₁.setTop (mkF m 47 #[iv p0, iv p1, iv p2, iv (p0 &&& (2147483647 : Int32)), iv (p1 &&& (63 : Int32)), iv ((p0 &&& (2147483647 : Int32)) - (p1 &&& (63 : Int32))), .unset, .unset, .unset, .unset, .unset, .unset] [])) (fun t k => XS.icmpNo X0.here hx rfl (hb hby at_29) rfl (flt hc29_32).1 (XS.iloadN X0.here hx rfl (hb hby at_32) rfl (XS.iload X0.here hx rfl (hb hby at_33) rfl (XS.isub X0.here hx rfl (hb hby at_35) rfl (XS.istore X0.here hx rfl (hb hby at_36) rfl (l' := #[iv p0, iv p1, iv p2, iv (p0 &&& (2147483647 : Int32)), iv (p1 &&& (63 : Int32)), iv ((p0 &&& (2147483647 : Int32)) - (p1 &&& (63 : Int32))), .unset, .unset, .unset, .unset, .unset, .unset]) rfl (XS.goto X0.here hx rfl (pc0 := 38) (pc' := 47) rfl (hb hby at_38) (by decide) (by decide) k)))))) ?_
      have q_v47_3 : v47_3 = ((p0 &&& (2147483647 : Int32)) - (p1 &&& (63 : Int32))) := by rw [hv47_3, if_pos hc14_31, if_neg hc29_32]
      rw [q_v47_3] at K47_4
      exact K47_4 _ _ X0 N0 e0
  · refine own_step (U' := s₁.setTop (mkF m 47 #[iv p0, iv p1, iv p2, iv (p0 &&& (2147483647 : Int32)), iv (p1 &&& (63 : Int32)), iv (p1 &&& (2147483647 : Int32)), .unset, .unset, .unset, .unset, .unset, .unset] [])) (fun t k => XS.ifNo X0.here hx rfl (hb hby at_14) rfl ((if0 _ _).trans (feq hc14_31).1) (XS.iloadN X0.here hx rfl (hb hby at_17) rfl (X0.ldcInt hx hown (mvT hZ (own_w hw 0 rfl)) (g := (mkF m 18 #[iv p0, iv p1, iv p2, iv (p0 &&& (2147483647 : Int32)), iv (p1 &&& (63 : Int32)), .unset, .unset, .unset, .unset, .unset, .unset, .unset] [(.int p1)])) rfl (hb hby at_18) t (XS.iand X0.here hx rfl (hb hby at_20) rfl (XS.istore X0.here hx rfl (hb hby at_21) rfl (l' := #[iv p0, iv p1, iv p2, iv (p0 &&& (2147483647 : Int32)), iv (p1 &&& (63 : Int32)), iv (p1 &&& (2147483647 : Int32)), .unset, .unset, .unset, .unset, .unset, .unset]) rfl (XS.goto X0.here hx rfl (pc0 := 23) (pc' := 47) rfl (hb hby at_23) (by decide) (by decide) k)))))) ?_
    have q_v47_3 : v47_3 = (p1 &&& (2147483647 : Int32)) := by rw [hv47_3, if_neg hc14_31]
    rw [q_v47_3] at K47_4
    exact K47_4 _ _ X0 N0 e0
set_option maxRecDepth 65536 in
set_option maxHeartbeats 40000000 in
theorem comes_1 {Post : Tables → Env → Array Value → State → Outcome → State → Prop} (hpost : ∀ tb e args s v u, (limb_1_1.after args s (.returned v) u = true ∧ limb_1_2.after args s (.returned v) u = true ∧ True) → FrameEnd s (.returned v) u (Jvm.fieldLocs frame_1_writes args s ++ Jvm.arrayLocs frame_1_arrays args s ++ Jvm.staticLocs frame_1_statics s) 16 128 → Post tb e args s (.returned v) u) :
    ArmFor flags0 classFile x code maxLocals ret World_1 tables_1 room_1 Calls_1 rest_1 Pre_1 Post := by
  intro l hfl _ _ p e ha hc hk s m args below hf hA hF happ hP
  obtain ⟨hcalls, hrest, hpre⟩ := hP
  obtain ⟨-, -, -, hnamed, -, -, -, hat⟩ := (Spec.applies_iff hf).mp happ
  obtain ⟨hg, hn⟩ := and_e (Cond.before_iff.mp (show (Jvm.Cond.and given_1 narrow_1).before args s = true from hpre))
  obtain ⟨gc, gr0⟩ := and_e hg
  obtain ⟨ga0, gr1⟩ := and_e gr0
  obtain ⟨ga1, gr2⟩ := and_e gr1
  obtain ⟨w0, w1, w2, rfl⟩ : ∃ w0 w1 w2 : Value, args = #[w0, w1, w2] := by
    have hs : args.size = 3 := by simpa [Cond.value, given_1] using gc
    obtain ⟨L⟩ := args
    match L, hs with
    | [w0, w1, w2], _ => exact ⟨w0, w1, w2, rfl⟩
  have hw := fun d (hd : d ∈ tables_1) => atoms_spec (ws := Jvm.Cond.code x code maxLocals ret :: tables_1) hat d (List.mem_cons_of_mem _ hd)
  have hfit : Fit s := fun {y c} hc i hi => by
    obtain ⟨ha, rfl⟩ := Array.getElem?_eq_some_iff.mp hc
    have q := List.all_eq_true.mp ((Array.all_eq_true_iff_forall_mem.mp hF) _ (Array.getElem_mem ha)) i (List.mem_range.mpr hi)
    simpa [Array.getElem?_eq_getElem hi] using q
  obtain ⟨hsets, hown0⟩ := atoms_of _ (rest_1_c_eq ▸ (show rest_1_c.before _ s = true from hrest))
  have hr0 := Cond.before_iff.mp hown0
  obtain ⟨i0, ei0⟩ := is_v ga0
  obtain rfl : w0 = (.int i0) := Option.some.inj ei0
  obtain ⟨i1, ei1⟩ := is_v ga1
  obtain rfl : w1 = (.int i1) := Option.some.inj ei1
  obtain ⟨i2, ei2⟩ := is_v gr2
  obtain rfl : w2 = (.int i2) := Option.some.inj ei2
  obtain ⟨wE, evE⟩ := exa_v (Cond.before_iff.mp (hsets _ (List.mem_of_getElem? (i := 2) rfl)))
  have S1 := Sta.start evE (Or.inl (hsets _ (List.mem_of_getElem? (i := 1) rfl)))
  have E1 := Exa.start evE (Cond.before_iff.mp (hsets _ (List.mem_of_getElem? (i := 2) rfl)))
  have F1 := Fld.start ((fld_at evE).symm.trans (null_v (Cond.before_iff.mp (hsets _ (List.mem_of_getElem? (i := 3) rfl)))))
  obtain ⟨n, o, h1, h2, h3, _, L, rfl, ⟨rfl, N⟩, hq⟩ := rm0 l s _ hw tables_1 i0 i1 i2 wE s.heap s.heap.size (Nat.le_refl _) S1 E1 F1 p e ha hc hk s m _ below hf ((Spec.applies_iff_loose hf).mp happ).1 ⟨rfl, State.Warmed39.refl s, rfl⟩ trivial
  refine ⟨n, _, h1, h2, h3, hpost _ _ _ _ _ _ ⟨Cond.after_iff.mpr rfl, Cond.after_iff.mpr (eq_i res_at (Term.int_eval (1)) rfl), trivial⟩ ⟨hq.1, hq.2.1, (hq.2.2.sift fun y hy => Or.inr (N y hy)).mono (by decide) (by decide)⟩⟩
theorem main_1_1 : Claimed_1_1 := comes_1 fun _ _ _ _ _ _ h hF => ⟨h.1, hF⟩
theorem main_1_2 : Claimed_1_2 := comes_1 fun _ _ _ _ _ _ h hF => ⟨h.2.1, hF⟩
end Jvm.Pilot.@@N@@
namespace Jvm.Pilot.@@N@@
open Jvm Jvm.ClassFile Sem Op Lib Jvm.Free Jvm.Stand Jvm.Pilot.@@N@@.Jvm.D
/-! MADE BY PROGRAM (witnessworld.py) out of the Statement's table words and the real class files: 14 classes; the members and pool entries that the words name. The judged class is class 1, her method 1. -/
namespace start1
open Jvm.ClassFile
def u (s : String) : CpInfo := .utf8 (stringToUtf16 s)
/-- a pool by its gaps: so many unusable entries, then the entry; so many at the end -/
def gap : Nat → List CpInfo → List CpInfo
  | 0, r => r
  | n + 1, r => .unusable :: gap n r
def poolList (es : List (Nat × CpInfo)) (last : Nat) : List CpInfo := es.foldr (fun e r => gap e.1 (e.2 :: r)) (gap last [])
def pool (es : List (Nat × CpInfo)) (last : Nat) : Array CpInfo := ⟨poolList es last⟩
def fileOf (pool : Array CpInfo) (this : Nat) (attrs : Array Attribute := #[]) (ms : Array MethodInfo := #[]) (fl : Nat := 33) (sup : Nat := 0) (ifs : Array Nat := #[]) (fds : Array FieldInfo := #[]) : ClassFile where
  minorVersion := 0
  majorVersion := 65
  constantPool := pool
  accessFlags := fl
  thisClass := this
  superClass := sup
  interfaces := ifs
  fields := fds
  methods := ms
  attributes := attrs
def plain (name : String) (sup : Option ClassId) : Class where
  name := name
  kind := .ordinary
  loader := none
  accessFlags := 33
  super := sup
  interfaces := #[]
  cf := none
  fields := #[]
  methods := #[]
  instanceTypes := #[]
  staticTypes := #[]
  resolved := #[]
  callSites := []
  init := .initialized
  statics := none
  mirror := none

def pool0 : Array CpInfo := pool [(5, u "<init>"), (0, u "()V"), (1, .class_ 10), (1, u "java/lang/Object")] 113

def k0c0 : Code := { maxStack := 0, maxLocals := 1, code := object_method_1_code, exceptionTable := #[], attributes := #[] }
def k0m0 : Method := { name := "<init>", desc := "()V", sig := { parameters := [], returnType := none }, accessFlags := 1, code := some k0c0 }
/-- java/lang/Object -/
def k0 : Class := { plain "java/lang/Object" none with
  accessFlags := 33
  interfaces := #[]
  cf := some (fileOf pool0 8 #[] #[{ accessFlags := 1, nameIndex := 5, descriptorIndex := 6, attributes := #[] }] 33 0 #[] #[])
  fields := #[]
  methods := #[k0m0]
  instanceTypes := #[]
  staticTypes := #[]
  resolved := Array.replicate 124 none
  statics := none }

def pool1 : Array CpInfo := pool [(2, .class_ 4), (1, u "java/lang/Object"), (0, u "<init>"), (0, u "()V"), (0, .integer 2147483647), (0, .methodref 9 10), (0, .class_ 11), (0, .nameAndType 12 13), (0, u "java/lang/Math"), (0, u "min"), (0, u "(II)I"), (0, .methodref 9 15), (0, .nameAndType 16 13), (0, u "max"), (0, .methodref 18 19), (0, .class_ 20), (0, .nameAndType 21 22), (0, u "com/example/termstone/termstone/MergePolicy"), (0, u "nextMergeAtCommit"), (0, u "(II)Ljava/util/Optional;"), (0, .methodref 24 25), (0, .class_ 26), (0, .nameAndType 27 28), (0, u "java/util/Optional"), (0, u "isPresent"), (0, u "()Z"), (0, .methodref 24 30), (0, .nameAndType 31 32), (0, u "get"), (0, u "()Ljava/lang/Object;"), (0, .class_ 34), (0, u "com/example/termstone/termstone/MergePolicy$Run"), (0, .methodref 33 36), (0, .nameAndType 37 38), (0, u "from"), (0, u "()I"), (0, .methodref 33 40), (0, .nameAndType 41 38), (0, u "to"), (0, .class_ 43), (0, u "com/example/termstone/termstone/MergePolicyNextMergeAtCommitPinLaw"), (2, u "law"), (0, u "(III)Z")] 5

def k1m0 : Method := { name := "<init>", desc := "()V", sig := { parameters := [], returnType := none }, accessFlags := 1, code := none }
def k1c1 : Code := { maxStack := 3, maxLocals := 12, code := code, exceptionTable := #[], attributes := #[] }
def k1m1 : Method := { name := "law", desc := "(III)Z", sig := { parameters := [.int, .int, .int], returnType := some .boolean }, accessFlags := 9, code := some k1c1 }
/-- com/example/termstone/termstone/MergePolicyNextMergeAtCommitPinLaw -/
def k1 : Class := { plain "com/example/termstone/termstone/MergePolicyNextMergeAtCommitPinLaw" (some 0) with
  accessFlags := 49
  interfaces := #[]
  cf := some (fileOf pool1 42 #[] #[{ accessFlags := 1, nameIndex := 5, descriptorIndex := 6, attributes := #[] }, { accessFlags := 9, nameIndex := 46, descriptorIndex := 47, attributes := #[] }] 49 2 #[] #[])
  fields := #[]
  methods := #[k1m0, k1m1]
  instanceTypes := #[]
  staticTypes := #[]
  resolved := Array.replicate 53 none
  statics := none }

def pool2 : Array CpInfo := pool [(1, .class_ 2), (0, u "java/lang/Math"), (1, .class_ 6), (1, u "java/lang/Object"), (0, u "<init>"), (0, u "()V"), (89, .class_ 100), (1, u "java/lang/Math$RandomNumberGeneratorHolder"), (71, u "negativeZeroFloatBits"), (0, u "J"), (2, u "negativeZeroDoubleBits"), (21, u "max"), (2, u "min"), (43, u "$assertionsDisabled"), (0, u "Z"), (88, u "(II)I"), (2, u "twoToTheDoubleScaleDown"), (0, u "D"), (4, u "twoToTheDoubleScaleUp"), (9, u "E"), (3, u "PI"), (2, u "TAU"), (2, u "DEGREES_TO_RADIANS"), (0, u "RADIANS_TO_DEGREES")] 94

def k2m0 : Method := { name := "<init>", desc := "()V", sig := { parameters := [], returnType := none }, accessFlags := 2, code := none }
def k2c1 : Code := { maxStack := 2, maxLocals := 2, code := jdk_29_method_65_code, exceptionTable := #[], attributes := #[] }
def k2m1 : Method := { name := "max", desc := "(II)I", sig := { parameters := [.int, .int], returnType := some .int }, accessFlags := 9, code := some k2c1 }
def k2c2 : Code := { maxStack := 2, maxLocals := 2, code := jdk_29_method_69_code, exceptionTable := #[], attributes := #[] }
def k2m2 : Method := { name := "min", desc := "(II)I", sig := { parameters := [.int, .int], returnType := some .int }, accessFlags := 9, code := some k2c2 }
/-- java/lang/Math -/
def k2 : Class := { plain "java/lang/Math" (some 0) with
  accessFlags := 49
  interfaces := #[]
  cf := some (fileOf pool2 1 #[.nestMembers #[98]] #[{ accessFlags := 2, nameIndex := 7, descriptorIndex := 8, attributes := #[] }, { accessFlags := 9, nameIndex := 198, descriptorIndex := 335, attributes := #[] }, { accessFlags := 9, nameIndex := 201, descriptorIndex := 335, attributes := #[] }] 49 4 #[] #[{ accessFlags := 25, nameIndex := 354, descriptorIndex := 339, attributes := #[] }, { accessFlags := 25, nameIndex := 358, descriptorIndex := 339, attributes := #[] }, { accessFlags := 25, nameIndex := 361, descriptorIndex := 339, attributes := #[] }, { accessFlags := 26, nameIndex := 364, descriptorIndex := 339, attributes := #[] }, { accessFlags := 26, nameIndex := 365, descriptorIndex := 339, attributes := #[] }, { accessFlags := 26, nameIndex := 172, descriptorIndex := 173, attributes := #[] }, { accessFlags := 26, nameIndex := 176, descriptorIndex := 173, attributes := #[] }, { accessFlags := 8, nameIndex := 344, descriptorIndex := 339, attributes := #[] }, { accessFlags := 8, nameIndex := 338, descriptorIndex := 339, attributes := #[] }, { accessFlags := 4120, nameIndex := 245, descriptorIndex := 246, attributes := #[] }])
  fields := #[{ name := "E", type := .double, accessFlags := 25, slot := 0, constantValue := 0 }, { name := "PI", type := .double, accessFlags := 25, slot := 1, constantValue := 0 }, { name := "TAU", type := .double, accessFlags := 25, slot := 2, constantValue := 0 }, { name := "DEGREES_TO_RADIANS", type := .double, accessFlags := 26, slot := 3, constantValue := 0 }, { name := "RADIANS_TO_DEGREES", type := .double, accessFlags := 26, slot := 4, constantValue := 0 }, { name := "negativeZeroFloatBits", type := .long, accessFlags := 26, slot := 5, constantValue := 0 }, { name := "negativeZeroDoubleBits", type := .long, accessFlags := 26, slot := 6, constantValue := 0 }, { name := "twoToTheDoubleScaleUp", type := .double, accessFlags := 8, slot := 7, constantValue := 0 }, { name := "twoToTheDoubleScaleDown", type := .double, accessFlags := 8, slot := 8, constantValue := 0 }, { name := "$assertionsDisabled", type := .boolean, accessFlags := 4120, slot := 9, constantValue := 0 }]
  methods := #[k2m0, k2m1, k2m2]
  instanceTypes := #[]
  staticTypes := #[.double, .double, .double, .double, .double, .long, .long, .double, .double, .boolean]
  resolved := Array.replicate 460 none
  statics := none }

def pool3 : Array CpInfo := pool [(2, .class_ 4), (1, u "java/lang/Object"), (0, u "<init>"), (0, u "()V"), (6, .methodref 14 15), (0, .class_ 16), (0, .nameAndType 17 18), (0, u "java/util/Optional"), (0, u "empty"), (0, u "()Ljava/util/Optional;"), (20, .class_ 40), (0, u "com/example/termstone/termstone/MergePolicy"), (21, .class_ 63), (0, u "com/example/termstone/termstone/MergePolicy$Run"), (0, .methodref 62 65), (0, .nameAndType 5 66), (0, u "(II)V"), (0, .methodref 14 68), (0, .nameAndType 69 70), (0, u "of"), (0, u "(Ljava/lang/Object;)Ljava/util/Optional;"), (4, u "MAX_SEGMENTS"), (0, u "I"), (2, u "FLUSH_MERGE_FACTOR"), (10, u "nextMergeAtCommit"), (0, u "(II)Ljava/util/Optional;")] 28

def k3m0 : Method := { name := "<init>", desc := "()V", sig := { parameters := [], returnType := none }, accessFlags := 2, code := none }
def k3c1 : Code := { maxStack := 4, maxLocals := 3, code := prog_34_method_4_code, exceptionTable := #[], attributes := #[] }
def k3m1 : Method := { name := "nextMergeAtCommit", desc := "(II)Ljava/util/Optional;", sig := { parameters := [.int, .int], returnType := some (.object "java/util/Optional") }, accessFlags := 8, code := some k3c1 }
/-- com/example/termstone/termstone/MergePolicy -/
def k3 : Class := { plain "com/example/termstone/termstone/MergePolicy" (some 0) with
  accessFlags := 48
  interfaces := #[]
  cf := some (fileOf pool3 39 #[.nestMembers #[62]] #[{ accessFlags := 2, nameIndex := 5, descriptorIndex := 6, attributes := #[] }, { accessFlags := 8, nameIndex := 90, descriptorIndex := 91, attributes := #[] }] 48 2 #[] #[{ accessFlags := 24, nameIndex := 75, descriptorIndex := 76, attributes := #[] }, { accessFlags := 24, nameIndex := 79, descriptorIndex := 76, attributes := #[] }])
  fields := #[{ name := "MAX_SEGMENTS", type := .int, accessFlags := 24, slot := 0, constantValue := 0 }, { name := "FLUSH_MERGE_FACTOR", type := .int, accessFlags := 24, slot := 1, constantValue := 0 }]
  methods := #[k3m0, k3m1]
  instanceTypes := #[]
  staticTypes := #[.int, .int]
  resolved := Array.replicate 120 none
  statics := none }

def pool4 : Array CpInfo := pool [(1, .methodref 2 3), (0, .class_ 4), (0, .nameAndType 5 6), (0, u "java/lang/Object"), (0, u "<init>"), (0, u "()V"), (0, .class_ 8), (0, u "java/lang/Record")] 13

def k4c0 : Code := { maxStack := 1, maxLocals := 1, code := jdk_30_method_1_code, exceptionTable := #[], attributes := #[] }
def k4m0 : Method := { name := "<init>", desc := "()V", sig := { parameters := [], returnType := none }, accessFlags := 4, code := some k4c0 }
/-- java/lang/Record -/
def k4 : Class := { plain "java/lang/Record" (some 0) with
  accessFlags := 1057
  interfaces := #[]
  cf := some (fileOf pool4 7 #[] #[{ accessFlags := 4, nameIndex := 5, descriptorIndex := 6, attributes := #[] }] 1057 2 #[] #[])
  fields := #[]
  methods := #[k4m0]
  instanceTypes := #[]
  staticTypes := #[]
  resolved := Array.replicate 22 none
  statics := none }

def pool5 : Array CpInfo := pool [(1, .methodref 2 3), (0, .class_ 4), (0, .nameAndType 5 6), (0, u "java/lang/Record"), (0, u "<init>"), (0, u "()V"), (0, .fieldref 8 9), (0, .class_ 10), (0, .nameAndType 11 12), (0, u "com/example/termstone/termstone/MergePolicy$Run"), (0, u "from"), (0, u "I"), (0, .fieldref 8 14), (0, .nameAndType 15 12), (0, u "to"), (12, u "(II)V"), (4, u "()I"), (4, .class_ 39), (0, u "com/example/termstone/termstone/MergePolicy")] 20

def k5c0 : Code := { maxStack := 2, maxLocals := 3, code := prog_35_method_1_code, exceptionTable := #[], attributes := #[] }
def k5m0 : Method := { name := "<init>", desc := "(II)V", sig := { parameters := [.int, .int], returnType := none }, accessFlags := 0, code := some k5c0 }
def k5c1 : Code := { maxStack := 1, maxLocals := 1, code := prog_35_method_5_code, exceptionTable := #[], attributes := #[] }
def k5m1 : Method := { name := "from", desc := "()I", sig := { parameters := [], returnType := some .int }, accessFlags := 1, code := some k5c1 }
def k5c2 : Code := { maxStack := 1, maxLocals := 1, code := prog_35_method_6_code, exceptionTable := #[], attributes := #[] }
def k5m2 : Method := { name := "to", desc := "()I", sig := { parameters := [], returnType := some .int }, accessFlags := 1, code := some k5c2 }
/-- com/example/termstone/termstone/MergePolicy$Run -/
def k5 : Class := { plain "com/example/termstone/termstone/MergePolicy$Run" (some 4) with
  accessFlags := 48
  interfaces := #[]
  cf := some (fileOf pool5 8 #[.nestHost 38] #[{ accessFlags := 0, nameIndex := 5, descriptorIndex := 28, attributes := #[] }, { accessFlags := 1, nameIndex := 11, descriptorIndex := 33, attributes := #[] }, { accessFlags := 1, nameIndex := 15, descriptorIndex := 33, attributes := #[] }] 48 2 #[] #[{ accessFlags := 18, nameIndex := 11, descriptorIndex := 12, attributes := #[] }, { accessFlags := 18, nameIndex := 15, descriptorIndex := 12, attributes := #[] }])
  fields := #[{ name := "from", type := .int, accessFlags := 18, slot := 0, constantValue := 0 }, { name := "to", type := .int, accessFlags := 18, slot := 1, constantValue := 0 }]
  methods := #[k5m0, k5m1, k5m2]
  instanceTypes := #[.int, .int]
  staticTypes := #[]
  resolved := Array.replicate 60 none
  statics := none }

def pool6 : Array CpInfo := pool [(1, .fieldref 2 3), (0, .class_ 4), (0, .nameAndType 5 6), (0, u "java/util/Optional"), (0, u "EMPTY"), (0, u "Ljava/util/Optional;"), (0, .methodref 8 9), (0, .class_ 10), (0, .nameAndType 11 12), (0, u "java/lang/Object"), (0, u "<init>"), (0, u "()V"), (0, .fieldref 2 14), (0, .nameAndType 15 16), (0, u "value"), (0, u "Ljava/lang/Object;"), (0, .methodref 18 19), (0, .class_ 20), (0, .nameAndType 21 22), (0, u "java/util/Objects"), (0, u "requireNonNull"), (0, u "(Ljava/lang/Object;)Ljava/lang/Object;"), (0, .methodref 2 24), (0, .nameAndType 11 25), (0, u "(Ljava/lang/Object;)V"), (20, u "()Z"), (8, u "empty"), (0, u "()Ljava/util/Optional;"), (8, u "(Ljava/lang/Object;)Ljava/util/Optional;"), (2, u "isPresent"), (4, u "get"), (0, u "()Ljava/lang/Object;"), (7, u "of")] 104

def k6c0 : Code := { maxStack := 1, maxLocals := 1, code := jdk_32_method_1_code, exceptionTable := #[], attributes := #[] }
def k6m0 : Method := { name := "empty", desc := "()Ljava/util/Optional;", sig := { parameters := [], returnType := some (.object "java/util/Optional") }, accessFlags := 9, code := some k6c0 }
def k6c1 : Code := { maxStack := 2, maxLocals := 2, code := jdk_32_method_2_code, exceptionTable := #[], attributes := #[] }
def k6m1 : Method := { name := "<init>", desc := "(Ljava/lang/Object;)V", sig := { parameters := [(.object "java/lang/Object")], returnType := none }, accessFlags := 2, code := some k6c1 }
def k6c2 : Code := { maxStack := 3, maxLocals := 1, code := jdk_32_method_3_code, exceptionTable := #[], attributes := #[] }
def k6m2 : Method := { name := "of", desc := "(Ljava/lang/Object;)Ljava/util/Optional;", sig := { parameters := [(.object "java/lang/Object")], returnType := some (.object "java/util/Optional") }, accessFlags := 9, code := some k6c2 }
def k6c3 : Code := { maxStack := 3, maxLocals := 1, code := jdk_32_method_5_code, exceptionTable := #[], attributes := #[] }
def k6m3 : Method := { name := "get", desc := "()Ljava/lang/Object;", sig := { parameters := [], returnType := some (.object "java/lang/Object") }, accessFlags := 1, code := some k6c3 }
def k6c4 : Code := { maxStack := 1, maxLocals := 1, code := jdk_32_method_6_code, exceptionTable := #[], attributes := #[] }
def k6m4 : Method := { name := "isPresent", desc := "()Z", sig := { parameters := [], returnType := some .boolean }, accessFlags := 1, code := some k6c4 }
/-- java/util/Optional -/
def k6 : Class := { plain "java/util/Optional" (some 0) with
  accessFlags := 49
  interfaces := #[]
  cf := some (fileOf pool6 2 #[] #[{ accessFlags := 9, nameIndex := 55, descriptorIndex := 56, attributes := #[] }, { accessFlags := 2, nameIndex := 11, descriptorIndex := 25, attributes := #[] }, { accessFlags := 9, nameIndex := 82, descriptorIndex := 65, attributes := #[] }, { accessFlags := 1, nameIndex := 73, descriptorIndex := 74, attributes := #[] }, { accessFlags := 1, nameIndex := 68, descriptorIndex := 46, attributes := #[] }] 49 8 #[] #[{ accessFlags := 26, nameIndex := 5, descriptorIndex := 6, attributes := #[] }, { accessFlags := 18, nameIndex := 15, descriptorIndex := 16, attributes := #[] }])
  fields := #[{ name := "EMPTY", type := (.object "java/util/Optional"), accessFlags := 26, slot := 0, constantValue := 0 }, { name := "value", type := (.object "java/lang/Object"), accessFlags := 18, slot := 0, constantValue := 0 }]
  methods := #[k6m0, k6m1, k6m2, k6m3, k6m4]
  instanceTypes := #[(.object "java/lang/Object")]
  staticTypes := #[(.object "java/util/Optional")]
  resolved := Array.replicate 187 none
  statics := some 0 }

def pool7 : Array CpInfo := pool [(2, .class_ 4), (1, u "java/lang/Object"), (0, u "<init>"), (0, u "()V"), (35, .class_ 44), (1, u "java/util/Objects"), (0, u "requireNonNull"), (0, u "(Ljava/lang/Object;)Ljava/lang/Object;")] 137

def k7m0 : Method := { name := "<init>", desc := "()V", sig := { parameters := [], returnType := none }, accessFlags := 2, code := none }
def k7c1 : Code := { maxStack := 2, maxLocals := 1, code := jdk_31_method_10_code, exceptionTable := #[], attributes := #[] }
def k7m1 : Method := { name := "requireNonNull", desc := "(Ljava/lang/Object;)Ljava/lang/Object;", sig := { parameters := [(.object "java/lang/Object")], returnType := some (.object "java/lang/Object") }, accessFlags := 9, code := some k7c1 }
/-- java/util/Objects -/
def k7 : Class := { plain "java/util/Objects" (some 0) with
  accessFlags := 49
  interfaces := #[]
  cf := some (fileOf pool7 42 #[] #[{ accessFlags := 2, nameIndex := 5, descriptorIndex := 6, attributes := #[] }, { accessFlags := 9, nameIndex := 45, descriptorIndex := 46, attributes := #[] }] 49 2 #[] #[])
  fields := #[]
  methods := #[k7m0, k7m1]
  instanceTypes := #[]
  staticTypes := #[]
  resolved := Array.replicate 184 none
  statics := none }

def pool8 : Array CpInfo := pool [(1, u "java/lang/Cloneable"), (0, .class_ 1), (0, u "java/lang/Object"), (0, .class_ 3)] 3

/-- java/lang/Cloneable -/
def k8 : Class := { plain "java/lang/Cloneable" (some 0) with
  accessFlags := 1537
  interfaces := #[]
  cf := some (fileOf pool8 2 #[] #[] 1537 4 #[] #[])
  fields := #[]
  methods := #[]
  instanceTypes := #[]
  staticTypes := #[]
  resolved := Array.replicate 8 none
  statics := none }

def pool9 : Array CpInfo := pool [(1, u "java/io/Serializable"), (0, .class_ 1), (0, u "java/lang/Object"), (0, .class_ 3)] 3

/-- java/io/Serializable -/
def k9 : Class := { plain "java/io/Serializable" (some 0) with
  accessFlags := 1537
  interfaces := #[]
  cf := some (fileOf pool9 2 #[] #[] 1537 4 #[] #[])
  fields := #[]
  methods := #[]
  instanceTypes := #[]
  staticTypes := #[]
  resolved := Array.replicate 8 none
  statics := none }

/-- the primitive byte -/
def k10 : Class := { plain "byte" none with kind := .primitive 'B', accessFlags := 0x411 }
/-- [B -/
def k11 : Class := { plain "[B" (some 0) with kind := .array 10 .byte, interfaces := #[8, 9], accessFlags := 1041 }

/-- the primitive int -/
def k12 : Class := { plain "int" none with kind := .primitive 'I', accessFlags := 0x411 }
/-- [I -/
def k13 : Class := { plain "[I" (some 0) with kind := .array 12 .int, interfaces := #[8, 9], accessFlags := 1041 }

def heap : Heap := #[{ cls := 6, slots := #[.ref 1], vm := .statics 6 },
  { cls := 6, slots := #[.null], vm := .none }]
def classes : Array Class := #[k0, k1, k2, k3, k4, k5, k6, k7, k8, k9, k10, k11, k12, k13]
def interned : List (Array UInt16 × Addr) := []
def slotsUsed : Nat := 2
def theMethod : MethodId := ⟨1, 1⟩
def args0 : Array Value := #[.int 5, .int 6, .int 7]
def aboutOver (below : List Frame) : State where
  vm := { classes := classes, interned := interned.toArray }
  heap := heap
  slotsUsed := slotsUsed
  threads := #[{ frames := .invoking theMethod args0 :: below }]
def below0 : List Frame := [.native { method := ⟨0, 0⟩, args := #[] }]
def about1 : State := aboutOver below0
def p0 : Program := .bare "" "" ""
def e0 : Env := launch0.env 0 0 0
theorem w_frames : about1.frames = Frame.invoking theMethod args0 :: below0 := rfl
set_option maxRecDepth 65536 in
theorem w_args : argsFit about1.vm theMethod args0 = true := by decide +kernel
set_option maxRecDepth 65536 in
theorem w_heap : heapFits about1 = true := by decide +kernel
set_option maxRecDepth 65536 in
theorem w_runnable : about1.curStatus? = some .runnable := by decide +kernel
set_option maxRecDepth 65536 in
theorem w_alone : about1.alone = true := by decide +kernel
set_option maxRecDepth 65536 in
theorem w_named : about1.methodNamed? x = some theMethod := by decide +kernel
set_option maxRecDepth 65536 in
theorem w_hears : about1.hears theMethod below0 = true := by decide +kernel
set_option maxRecDepth 65536 in
theorem w_ripe : about1.ripe theMethod args0 below0 = true := by decide +kernel
theorem w_running : about1.status = .running := rfl
set_option maxRecDepth 65536 in
theorem w_room : about1.hasRoom e0.platform room_1 = true :=
  launch0.hasRoom_least _ room_1 (by decide +kernel) (by decide +kernel) (by decide +kernel) (by decide +kernel) (by decide +kernel) (by decide +kernel)
theorem allAtoms_all (ts : List Jvm.Cond) (a : Array Jvm.Value) (st : Jvm.State) : (allAtoms ts).before a st = ts.all (fun c => c.before a st) := by
  induction ts with
  | nil => rfl
  | cons c t ih =>
    show (Jvm.Cond.and c (allAtoms t)).before a st = _
    rw [Jvm.Cond.before_and, ih, List.all_cons]
def words1 : List Jvm.Cond := Jvm.Cond.code x code maxLocals ret :: tables_1
/-- a 'code' word, met by the world's own term for the bytes: nothing is compared byte by byte -/
theorem code_word {y : MethodName} {bytes : ByteArray} {mx : Nat} {rt : Option FieldType} {a : Array Value} {s : State} {m : MethodId} {meth : Method} {c : Code} (h1 : s.methodNamed? y = some m) (h2 : s.vm.method? m = some meth) (h3 : meth.code = some c) (h4 : c.code = bytes)
    (h5 : (c.maxLocals == mx && c.exceptionTable.isEmpty && decide (c.maxStack ≤ mostOperands) && decide (meth.sig.returnType = rt) && !meth.locks && decide (parseMethodDescriptor y.desc = some meth.sig)) = true) : (Jvm.Cond.code y bytes mx rt).before a s = true := by
  simp only [Bool.and_eq_true, beq_iff_eq, Bool.not_eq_true', decide_eq_true_eq] at h5
  obtain ⟨⟨⟨⟨⟨g1, g2⟩, g3⟩, g4⟩, g5⟩, g6⟩ := h5
  simp [Cond.before, Cond.holds, Cond.value, h1, h2, h3, h4, g1, g2, g3, g4, g5, g6]
def isCode : Jvm.Cond → Bool
  | .code _ _ _ _ => true
  | _ => false
theorem all_split {L : List Jvm.Cond} {P : Jvm.Cond → Bool} (h1 : L.all (fun c => isCode c || P c) = true) (h2 : ∀ c ∈ L.filter isCode, P c = true) : L.all P = true := by
  refine List.all_eq_true.mpr fun c hc => ?_
  have h := List.all_eq_true.mp h1 c hc
  rcases Bool.eq_false_or_eq_true (isCode c) with hi | hi
  · exact h2 c (List.mem_filter.mpr ⟨hc, hi⟩)
  · simpa [hi] using h
set_option maxRecDepth 65536 in
theorem w_c0 : (Jvm.Cond.code x code maxLocals ret).before args0 about1 = true := code_word (m := ⟨1, 1⟩) (meth := k1m1) (c := k1c1) (by decide +kernel) rfl rfl rfl (by decide +kernel)
set_option maxRecDepth 65536 in
theorem w_c1 : (Jvm.Cond.code ({ cls := "java/lang/Math", name := "min", desc := "(II)I" } : Jvm.MethodName) jdk_29_method_69_code (2 : Nat) (Option.some Jvm.ClassFile.FieldType.int)).before args0 about1 = true := code_word (m := ⟨2, 2⟩) (meth := k2m2) (c := k2c2) (by decide +kernel) rfl rfl rfl (by decide +kernel)
set_option maxRecDepth 65536 in
theorem w_c2 : (Jvm.Cond.code ({ cls := "java/lang/Math", name := "max", desc := "(II)I" } : Jvm.MethodName) jdk_29_method_65_code (2 : Nat) (Option.some Jvm.ClassFile.FieldType.int)).before args0 about1 = true := code_word (m := ⟨2, 1⟩) (meth := k2m1) (c := k2c1) (by decide +kernel) rfl rfl rfl (by decide +kernel)
set_option maxRecDepth 65536 in
theorem w_c3 : (Jvm.Cond.code ({ cls := "com/example/termstone/termstone/MergePolicy", name := "nextMergeAtCommit", desc := "(II)Ljava/util/Optional;" } : Jvm.MethodName) prog_34_method_4_code (3 : Nat) (Option.some (Jvm.ClassFile.FieldType.object "java/util/Optional"))).before args0 about1 = true := code_word (m := ⟨3, 1⟩) (meth := k3m1) (c := k3c1) (by decide +kernel) rfl rfl rfl (by decide +kernel)
set_option maxRecDepth 65536 in
theorem w_c4 : (Jvm.Cond.code ({ cls := "com/example/termstone/termstone/MergePolicy$Run", name := "<init>", desc := "(II)V" } : Jvm.MethodName) prog_35_method_1_code (3 : Nat) (Option.none : Option Jvm.ClassFile.FieldType)).before args0 about1 = true := code_word (m := ⟨5, 0⟩) (meth := k5m0) (c := k5c0) (by decide +kernel) rfl rfl rfl (by decide +kernel)
set_option maxRecDepth 65536 in
theorem w_c5 : (Jvm.Cond.code ({ cls := "java/lang/Record", name := "<init>", desc := "()V" } : Jvm.MethodName) jdk_30_method_1_code (1 : Nat) (Option.none : Option Jvm.ClassFile.FieldType)).before args0 about1 = true := code_word (m := ⟨4, 0⟩) (meth := k4m0) (c := k4c0) (by decide +kernel) rfl rfl rfl (by decide +kernel)
set_option maxRecDepth 65536 in
theorem w_c6 : (Jvm.Cond.code ({ cls := "java/lang/Object", name := "<init>", desc := "()V" } : Jvm.MethodName) object_method_1_code (1 : Nat) (Option.none : Option Jvm.ClassFile.FieldType)).before args0 about1 = true := code_word (m := ⟨0, 0⟩) (meth := k0m0) (c := k0c0) (by decide +kernel) rfl rfl rfl (by decide +kernel)
set_option maxRecDepth 65536 in
theorem w_c7 : (Jvm.Cond.code ({ cls := "java/util/Optional", name := "of", desc := "(Ljava/lang/Object;)Ljava/util/Optional;" } : Jvm.MethodName) jdk_32_method_3_code (1 : Nat) (Option.some (Jvm.ClassFile.FieldType.object "java/util/Optional"))).before args0 about1 = true := code_word (m := ⟨6, 2⟩) (meth := k6m2) (c := k6c2) (by decide +kernel) rfl rfl rfl (by decide +kernel)
set_option maxRecDepth 65536 in
theorem w_c8 : (Jvm.Cond.code ({ cls := "java/util/Objects", name := "requireNonNull", desc := "(Ljava/lang/Object;)Ljava/lang/Object;" } : Jvm.MethodName) jdk_31_method_10_code (1 : Nat) (Option.some (Jvm.ClassFile.FieldType.object "java/lang/Object"))).before args0 about1 = true := code_word (m := ⟨7, 1⟩) (meth := k7m1) (c := k7c1) (by decide +kernel) rfl rfl rfl (by decide +kernel)
set_option maxRecDepth 65536 in
theorem w_c9 : (Jvm.Cond.code ({ cls := "java/util/Optional", name := "<init>", desc := "(Ljava/lang/Object;)V" } : Jvm.MethodName) jdk_32_method_2_code (2 : Nat) (Option.none : Option Jvm.ClassFile.FieldType)).before args0 about1 = true := code_word (m := ⟨6, 1⟩) (meth := k6m1) (c := k6c1) (by decide +kernel) rfl rfl rfl (by decide +kernel)
set_option maxRecDepth 65536 in
theorem w_c10 : (Jvm.Cond.code ({ cls := "java/util/Optional", name := "isPresent", desc := "()Z" } : Jvm.MethodName) jdk_32_method_6_code (1 : Nat) (Option.some Jvm.ClassFile.FieldType.boolean)).before args0 about1 = true := code_word (m := ⟨6, 4⟩) (meth := k6m4) (c := k6c4) (by decide +kernel) rfl rfl rfl (by decide +kernel)
set_option maxRecDepth 65536 in
theorem w_c11 : (Jvm.Cond.code ({ cls := "java/util/Optional", name := "get", desc := "()Ljava/lang/Object;" } : Jvm.MethodName) jdk_32_method_5_code (1 : Nat) (Option.some (Jvm.ClassFile.FieldType.object "java/lang/Object"))).before args0 about1 = true := code_word (m := ⟨6, 3⟩) (meth := k6m3) (c := k6c3) (by decide +kernel) rfl rfl rfl (by decide +kernel)
set_option maxRecDepth 65536 in
theorem w_c12 : (Jvm.Cond.code ({ cls := "com/example/termstone/termstone/MergePolicy$Run", name := "from", desc := "()I" } : Jvm.MethodName) prog_35_method_5_code (1 : Nat) (Option.some Jvm.ClassFile.FieldType.int)).before args0 about1 = true := code_word (m := ⟨5, 1⟩) (meth := k5m1) (c := k5c1) (by decide +kernel) rfl rfl rfl (by decide +kernel)
set_option maxRecDepth 65536 in
theorem w_c13 : (Jvm.Cond.code ({ cls := "com/example/termstone/termstone/MergePolicy$Run", name := "to", desc := "()I" } : Jvm.MethodName) prog_35_method_6_code (1 : Nat) (Option.some Jvm.ClassFile.FieldType.int)).before args0 about1 = true := code_word (m := ⟨5, 2⟩) (meth := k5m2) (c := k5c2) (by decide +kernel) rfl rfl rfl (by decide +kernel)
set_option maxRecDepth 65536 in
theorem w_c14 : (Jvm.Cond.code ({ cls := "java/util/Optional", name := "empty", desc := "()Ljava/util/Optional;" } : Jvm.MethodName) jdk_32_method_1_code (1 : Nat) (Option.some (Jvm.ClassFile.FieldType.object "java/util/Optional"))).before args0 about1 = true := code_word (m := ⟨6, 0⟩) (meth := k6m0) (c := k6c0) (by decide +kernel) rfl rfl rfl (by decide +kernel)
def codes1 : List Jvm.Cond := [Jvm.Cond.code x code maxLocals ret, Jvm.Cond.code ({ cls := "java/lang/Math", name := "min", desc := "(II)I" } : Jvm.MethodName) jdk_29_method_69_code (2 : Nat) (Option.some Jvm.ClassFile.FieldType.int), Jvm.Cond.code ({ cls := "java/lang/Math", name := "max", desc := "(II)I" } : Jvm.MethodName) jdk_29_method_65_code (2 : Nat) (Option.some Jvm.ClassFile.FieldType.int), Jvm.Cond.code ({ cls := "com/example/termstone/termstone/MergePolicy", name := "nextMergeAtCommit", desc := "(II)Ljava/util/Optional;" } : Jvm.MethodName) prog_34_method_4_code (3 : Nat) (Option.some (Jvm.ClassFile.FieldType.object "java/util/Optional")), Jvm.Cond.code ({ cls := "com/example/termstone/termstone/MergePolicy$Run", name := "<init>", desc := "(II)V" } : Jvm.MethodName) prog_35_method_1_code (3 : Nat) (Option.none : Option Jvm.ClassFile.FieldType), Jvm.Cond.code ({ cls := "java/lang/Record", name := "<init>", desc := "()V" } : Jvm.MethodName) jdk_30_method_1_code (1 : Nat) (Option.none : Option Jvm.ClassFile.FieldType), Jvm.Cond.code ({ cls := "java/lang/Object", name := "<init>", desc := "()V" } : Jvm.MethodName) object_method_1_code (1 : Nat) (Option.none : Option Jvm.ClassFile.FieldType), Jvm.Cond.code ({ cls := "java/util/Optional", name := "of", desc := "(Ljava/lang/Object;)Ljava/util/Optional;" } : Jvm.MethodName) jdk_32_method_3_code (1 : Nat) (Option.some (Jvm.ClassFile.FieldType.object "java/util/Optional")), Jvm.Cond.code ({ cls := "java/util/Objects", name := "requireNonNull", desc := "(Ljava/lang/Object;)Ljava/lang/Object;" } : Jvm.MethodName) jdk_31_method_10_code (1 : Nat) (Option.some (Jvm.ClassFile.FieldType.object "java/lang/Object")), Jvm.Cond.code ({ cls := "java/util/Optional", name := "<init>", desc := "(Ljava/lang/Object;)V" } : Jvm.MethodName) jdk_32_method_2_code (2 : Nat) (Option.none : Option Jvm.ClassFile.FieldType), Jvm.Cond.code ({ cls := "java/util/Optional", name := "isPresent", desc := "()Z" } : Jvm.MethodName) jdk_32_method_6_code (1 : Nat) (Option.some Jvm.ClassFile.FieldType.boolean), Jvm.Cond.code ({ cls := "java/util/Optional", name := "get", desc := "()Ljava/lang/Object;" } : Jvm.MethodName) jdk_32_method_5_code (1 : Nat) (Option.some (Jvm.ClassFile.FieldType.object "java/lang/Object")), Jvm.Cond.code ({ cls := "com/example/termstone/termstone/MergePolicy$Run", name := "from", desc := "()I" } : Jvm.MethodName) prog_35_method_5_code (1 : Nat) (Option.some Jvm.ClassFile.FieldType.int), Jvm.Cond.code ({ cls := "com/example/termstone/termstone/MergePolicy$Run", name := "to", desc := "()I" } : Jvm.MethodName) prog_35_method_6_code (1 : Nat) (Option.some Jvm.ClassFile.FieldType.int), Jvm.Cond.code ({ cls := "java/util/Optional", name := "empty", desc := "()Ljava/util/Optional;" } : Jvm.MethodName) jdk_32_method_1_code (1 : Nat) (Option.some (Jvm.ClassFile.FieldType.object "java/util/Optional"))]
set_option maxRecDepth 65536 in
theorem codes_eq : words1.filter isCode = codes1 := rfl
theorem w_codes : ∀ c ∈ words1.filter isCode, c.before args0 about1 = true := by
  rw [codes_eq]
  intro c hc
  simp only [codes1, List.mem_cons, List.not_mem_nil, or_false] at hc
  rcases hc with rfl | rfl | rfl | rfl | rfl | rfl | rfl | rfl | rfl | rfl | rfl | rfl | rfl | rfl | rfl
  · exact w_c0
  · exact w_c1
  · exact w_c2
  · exact w_c3
  · exact w_c4
  · exact w_c5
  · exact w_c6
  · exact w_c7
  · exact w_c8
  · exact w_c9
  · exact w_c10
  · exact w_c11
  · exact w_c12
  · exact w_c13
  · exact w_c14
set_option maxRecDepth 65536 in
theorem w_t1 : (words1.take 24).all (fun c => isCode c || c.before args0 about1) = true := by decide +kernel
set_option maxRecDepth 65536 in
theorem w_t2 : ((words1.drop 24).take 24).all (fun c => isCode c || c.before args0 about1) = true := by decide +kernel
set_option maxRecDepth 65536 in
theorem w_t3 : (((words1.drop 24).drop 24).take 24).all (fun c => isCode c || c.before args0 about1) = true := by decide +kernel
set_option maxRecDepth 65536 in
theorem w_t4 : (((words1.drop 24).drop 24).drop 24).all (fun c => isCode c || c.before args0 about1) = true := by decide +kernel
theorem w_tables : (allAtoms (Jvm.Cond.code x code maxLocals ret :: tables_1)).before args0 about1 = true := by
  rw [allAtoms_all]
  show words1.all (fun c => c.before args0 about1) = true
  refine all_split ?_ w_codes
  rw [← List.take_append_drop 24 words1, List.all_append, w_t1, ← List.take_append_drop 24 (words1.drop 24), List.all_append, w_t2, ← List.take_append_drop 24 ((words1.drop 24).drop 24), List.all_append, w_t3, w_t4]
  rfl
set_option maxRecDepth 65536 in
theorem w_rest : rest_1_c.before args0 about1 = true := by decide +kernel
set_option maxRecDepth 65536 in
theorem w_case : (Jvm.Cond.and given_1 narrow_1).before args0 about1 = true := by decide +kernel
theorem w_applies : (headSpec (Jvm.Cond.code x code maxLocals ret :: tables_1) room_1).applies x e0.platform about1 = true :=
  (Spec.applies_iff w_frames).mpr ⟨w_running, w_runnable, w_alone, w_named, w_hears, w_ripe, w_room, w_tables⟩
theorem atStart : AtStart classFile x code maxLocals ret World_1 tables_1 room_1 Calls_1 rest_1 Pre_1 launch0 p0 e0 about1 theMethod args0 below0 :=
  ⟨lists_1, trivial, launch0.admits_env _ _ _, launch0.least_env, fairChoices_fair.cas, fairChoices_fair.clock, w_frames, w_args, w_heap, w_applies, trivial, w_rest, w_case⟩
end start1
theorem witness_1 : WitnessClaimed_1 := ⟨start1.p0, start1.e0, start1.about1, start1.theMethod, start1.args0, start1.below0, start1.atStart⟩
end Jvm.Pilot.@@N@@
