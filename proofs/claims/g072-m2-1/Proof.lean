import JvmDerived
import JvmDerived.Pilot.@@N@@Statement
import JvmDerived.Pilot.@@N@@Code
set_option linter.unusedVariables false
set_option linter.unusedSimpArgs false
namespace Jvm.RoadKit
open Sem ClassFile Op Lib Jvm.Stand Jvm.Free Jvm.LawKit
section New
variable {p : Program} {l : Launch} {e : Env} {R : Room} {s : State} {m : MethodId} {args : Array Value} {below : List Frame} {meth : Method} {c : Code} {T : State} {locs : List Loc} {cells slots : Nat}
theorem retI (X : Stand p l e R s m args below meth c T locs cells slots) (hx : p.tables.exec = Jvm.exec) {pc : Nat} {Ls : Array Slot} {z : Int32} {rest : List Value} (hret : meth.sig.returnType = some .int) (hd : decode c.code pc = .ok (.ireturn, 1)) {fs : List Frame}
    (hl : ∀ (f : JFrame) (acts : List Action), f.method = m → f.locked = none → f.entered = [] → (doReturn e (T.setTop f) acts (some (.int z))).1 = T.setFrames fs) : Steps p.tables e below (T.setTop (mkF m pc Ls (.int z :: rest))) (T.setFrames fs) := by
  have hm' : T.vm.method? m = some meth := X.method'
  have hn : narrow .int (.int z) = .int z := rfl
  show Steps p.tables e below (T.setTop { method := m, pc := pc, locals := Ls, stack := _ :: rest, locked := none }) _
  jvm_step X.here [X.here.top, hx, hd, hm', hret, hn]
  first | (intro acts; rw [hl _ acts rfl rfl rfl]) | rw [hl _ _ rfl rfl rfl]
  exact Steps.refl _
end New
end Jvm.RoadKit
namespace Jvm.Pilot.@@N@@
open Jvm Jvm.ClassFile Sem Op Lib Jvm.Free Jvm.Stand Jvm.LawKit Jvm.RoadKit Bundle Jvm.Pilot.@@N@@.Jvm.D
theorem own_w {a0 : Array Value} {Z : State} (hw : ∀ d ∈ tables_1, d.before a0 Z = true) (i : Nat) {d : Jvm.Cond} (h : tables_1[i]? = some d) : d.before a0 Z = true := hw d (List.mem_of_getElem? h)
/-- from U the run comes to the method's end, and Q holds there -/
def own_Go (tb : Tables) (e : Env) (below : List Frame) (s : State) (C N : Nat) (Q : Option Value → Heap → List Loc → Prop) (U : State) : Prop :=
  ∃ t o, Steps tb e below U t ∧ t.status = .running ∧ Ended t below o ∧ ∃ v L, o = .returned v ∧ Q v t.heap L ∧ FrameEnd s o t L C N
theorem own_step {tb : Tables} {e : Env} {below : List Frame} {s : State} {C N : Nat} {Q : Option Value → Heap → List Loc → Prop} {U U' : State} (h : ∀ t, Steps tb e below U' t → Steps tb e below U t) (k : own_Go tb e below s C N Q U') : own_Go tb e below s C N Q U := by
  obtain ⟨t, o, h1, h2⟩ := k
  exact ⟨t, o, h t h1, h2⟩
theorem own_steps {tb : Tables} {e : Env} {below : List Frame} {s : State} {C N : Nat} {Q : Option Value → Heap → List Loc → Prop} {U U' : State} (h : Steps tb e below U U') (k : own_Go tb e below s C N Q U') : own_Go tb e below s C N Q U := own_step (fun _ q => h.trans q) k
theorem own_out {p : Program} {l : Launch} {e : Env} {R : Room} {s : State} {m : MethodId} {args : Array Value} {below : List Frame} {meth : Method} {c : Code} {T : State} {locs : List Loc} {cells slots : Nat} (X : Stand p l e R s m args below meth c T locs cells slots) {v : Option Value}
    (hlk : meth.locks = false) (hv : meth.sig.returnType = none → v = none) {C N : Nat} {Q : Option Value → Heap → List Loc → Prop} (hQ : Q v T.heap locs) (hC : cells ≤ C) (hN : slots ≤ N) {U : State}
    (k : ∀ fs, (∀ (f : JFrame) (acts : List Action), f.method = m → f.locked = none → f.entered = [] → (doReturn e (T.setTop f) acts v).1 = T.setFrames fs) → Steps p.tables e below U (T.setFrames fs)) : own_Go p.tables e below s C N Q U := by
  obtain ⟨fs, hr, hrun, hended, hW, hsame⟩ := X.leave hv hlk
  exact ⟨_, _, k fs hr, hrun, hended, _, _, rfl, hQ, ⟨_, rfl⟩, hW, hsame.mono hC hN⟩
theorem own_exaP {Z : State} {h : Heap} {a : Addr} {C : String} (E : Exa Z h a C) : ∀ c : Cell, h[a]? = some c → c.vm.isStatics = false := fun c hc => by
  obtain ⟨cell, k, h1, -, -, h4, -⟩ := E
  cases h1.symm.trans hc; exact h4
theorem own_staK {Z : State} {h h' : Heap} {C n d : String} {v : Value} {ws : List Addr} (S : Sta Z h C n d v) (K : Keep h h' ws) (q : ∀ w ∈ ws, ∀ c : Cell, h[w]? = some c → c.vm.isStatics = false) : Sta Z h' C n d v := by
  obtain ⟨cf, i, k, f, st, cell, h1, h2, h3, h4, h5, h6, h7⟩ := S
  exact ⟨cf, i, k, f, st, cell, h1, h2, h3, h4, K.2.1 st cell h5 (fun z => by have := q st z cell h5; rw [h6] at this; cases this), h6, h7⟩
theorem own_anyF {Z : State} {a0 : Array Value} {h : Heap} {a : Addr} {C O n d O' n' d' : String} {v' : Value} {k : Nat} (E : Exa Z h a C) (F : Fld Z h a O' n' d' v') (wi : (Cond.instantiable C k).before a0 Z = true) (L : Laid Z a0 C O n d) : ∃ v, Fld Z h a O n d v :=
  fld_laid E (by obtain ⟨cell, _, _, _, _, h1, _, _, h4, _⟩ := F; exact ⟨cell, h1, h4⟩) wi L
theorem own_nv {meth : Method} {t : FieldType} (h : meth.sig.returnType = some t) {v : Option Value} : meth.sig.returnType = none → v = none := fun q => by rw [h] at q; cases q
theorem pd__IJ_I : parseMethodDescriptor "(IJ)I" = some ⟨[.int, .long], some .int⟩ := by decide +kernel
theorem pd__JJ_J : parseMethodDescriptor "(JJ)J" = some ⟨[.long, .long], some .long⟩ := by decide +kernel
theorem d2_0 : decode jdk_29_method_66_code 0 = .ok (.lload_n 0, 1) := by decide +kernel
theorem d2_1 : decode jdk_29_method_66_code 1 = .ok (.lload_n 2, 1) := by decide +kernel
theorem d2_2 : decode jdk_29_method_66_code 2 = .ok (.lcmp, 1) := by decide +kernel
theorem d2_3 : decode jdk_29_method_66_code 3 = .ok (.ifCond .lt 7, 3) := by decide +kernel
theorem d2_6 : decode jdk_29_method_66_code 6 = .ok (.lload_n 0, 1) := by decide +kernel
theorem d2_7 : decode jdk_29_method_66_code 7 = .ok (.goto 4, 3) := by decide +kernel
theorem d2_10 : decode jdk_29_method_66_code 10 = .ok (.lload_n 2, 1) := by decide +kernel
theorem d2_11 : decode jdk_29_method_66_code 11 = .ok (.lreturn, 1) := by decide +kernel
theorem ef_2 (m : MethodId) (q0 : Int64) (q1 : Int64) : entryFrame m #[(.long q0), (.long q1)] 4 = mkF m 0 #[.val (.long q0), .second, .val (.long q1), .second] [] := by first | (simp [entryFrame, mkF, argsToLocals, Value.category]; done) | rfl
def F2 (q0 : Int64) (q1 : Int64) : Int64 :=
  if q0 < q1 then
    q1
  else
    q0
def Q2 (Z : State) (q0 : Int64) (q1 : Int64) (h0 : Heap) (n0 : Nat) (v : Option Value) (h : Heap) (L : List Loc) : Prop := v = some (.long (F2 q0 q1)) ∧ Fr n0 L ∧ h = h0
set_option maxRecDepth 65536 in
set_option maxHeartbeats 40000000 in
theorem rm2 (l : Launch) (Z : State) (a0 : Array Value) (hw : ∀ d ∈ tables_1, d.before a0 Z = true) (ws : List Jvm.Cond) (q0 : Int64) (q1 : Int64) (h0 : Heap) (n0 : Nat) (Z0 : n0 ≤ h0.size) :
    MetFree l (⟨"java/lang/Math", "max", "(JJ)J"⟩ : MethodName) (head1 (Jvm.Cond.code (⟨"java/lang/Math", "max", "(JJ)J"⟩ : MethodName) jdk_29_method_66_code 4 (some .long) :: ws) ({ frames := 0, cells := 0, slots := 0, locals := 0 } : Room)) (fun a U => a = #[(.long q0), (.long q1)] ∧ Z.Warmed39 U.vm ∧ U.heap = h0) (fun _ _ _ _ _ => True) (fun _ U o U' => ∃ v L, o = .returned v ∧ Q2 Z q0 q1 h0 n0 v U'.heap L ∧ FrameEnd U o U' L ({ frames := 0, cells := 0, slots := 0, locals := 0 } : Room).cells ({ frames := 0, cells := 0, slots := 0, locals := 0 } : Room).slots) := by
  refine MetFree.of_bodySF (Jvm.Free.JP.mathPlain rfl (by decide +kernel)) hisR ?_
  intro p e s m args below meth c s₁ Bd hml0 hP hK
  obtain ⟨rfl, hZ, hh⟩ := hP
  have hx := Bd.exec
  have hby := Bd.bytes
  have hml : c.maxLocals = 4 := hml0
  have hown : s.vm.findClass "java/lang/Math" = some m.cls := findClass_of_methodNamed Bd.named
  have hnm := (name_of_methodNamed Bd.named Bd.method).1
  have hlk : meth.locks = false := Bd.notSynchronized
  have X0 : Stand p l e ({ frames := 0, cells := 0, slots := 0, locals := 0 } : Room) s m #[(.long q0), (.long q1)] below meth c s₁ [] 0 0 := Stand.of_body Bd
  have e0 : s₁.heap = h0 := by rw [← hh, Bd.state]; rfl
  have N0 := Fr.nil n0
  have KK0 := Keep.refl h0 []
  show own_Go p.tables e below s 0 0 (Q2 Z q0 q1 h0 n0) (s₁.setTop (entryFrame m #[(.long q0), (.long q1)] 4))
  rw [ef_2]
  refine own_step (U' := s₁.setTop (mkF m 3 #[.val (.long q0), .second, .val (.long q1), .second] [(.int (lcmpW q0 q1))])) (fun t k => XS.lloadN X0.here hx rfl (hb hby d2_0) rfl (XS.lloadN X0.here hx rfl (hb hby d2_1) rfl (XS.lcmp X0.here hx rfl (hb hby d2_2) rfl k))) ?_
  by_cases hc3_1 : q0 < q1
  · refine own_step (U' := s₁.setTop (mkF m 11 #[.val (.long q0), .second, .val (.long q1), .second] [(.long q1)])) (fun t k => XS.ifYes X0.here hx rfl (pc0 := 3) (pc' := 10) rfl (hb hby d2_3) rfl ((if0 _ _).trans (tlt ((lw_lt q0 q1).mpr hc3_1)).1) (by decide) (by decide) (XS.lloadN X0.here hx rfl (hb hby d2_10) rfl k)) ?_
    exact own_out X0 (v := (some (.long q1))) hlk (own_nv Bd.returns) (by rw [e0]; exact ⟨by rw [show (F2 q0 q1) = q1 from (by simp only [F2, if_pos hc3_1])], N0, rfl⟩) (by decide) (by decide) (fun fs hr => X0.lreturnOut hx Bd.returns (hb hby d2_11) hr)
  · refine own_step (U' := s₁.setTop (mkF m 11 #[.val (.long q0), .second, .val (.long q1), .second] [(.long q0)])) (fun t k => XS.ifNo X0.here hx rfl (hb hby d2_3) rfl ((if0 _ _).trans (flt (mt (lw_lt q0 q1).mp hc3_1)).1) (XS.lloadN X0.here hx rfl (hb hby d2_6) rfl (XS.goto X0.here hx rfl (pc0 := 7) (pc' := 11) rfl (hb hby d2_7) (by decide) (by decide) k))) ?_
    exact own_out X0 (v := (some (.long q0))) hlk (own_nv Bd.returns) (by rw [e0]; exact ⟨by rw [show (F2 q0 q1) = q0 from (by simp only [F2, if_neg hc3_1])], N0, rfl⟩) (by decide) (by decide) (fun fs hr => X0.lreturnOut hx Bd.returns (hb hby d2_11) hr)
theorem d3_0 : decode jdk_29_method_70_code 0 = .ok (.lload_n 0, 1) := by decide +kernel
theorem d3_1 : decode jdk_29_method_70_code 1 = .ok (.lload_n 2, 1) := by decide +kernel
theorem d3_2 : decode jdk_29_method_70_code 2 = .ok (.lcmp, 1) := by decide +kernel
theorem d3_3 : decode jdk_29_method_70_code 3 = .ok (.ifCond .gt 7, 3) := by decide +kernel
theorem d3_6 : decode jdk_29_method_70_code 6 = .ok (.lload_n 0, 1) := by decide +kernel
theorem d3_7 : decode jdk_29_method_70_code 7 = .ok (.goto 4, 3) := by decide +kernel
theorem d3_10 : decode jdk_29_method_70_code 10 = .ok (.lload_n 2, 1) := by decide +kernel
theorem d3_11 : decode jdk_29_method_70_code 11 = .ok (.lreturn, 1) := by decide +kernel
theorem ef_3 (m : MethodId) (q0 : Int64) (q1 : Int64) : entryFrame m #[(.long q0), (.long q1)] 4 = mkF m 0 #[.val (.long q0), .second, .val (.long q1), .second] [] := by first | (simp [entryFrame, mkF, argsToLocals, Value.category]; done) | rfl
def F3 (q0 : Int64) (q1 : Int64) : Int64 :=
  if q1 < q0 then
    q1
  else
    q0
def Q3 (Z : State) (q0 : Int64) (q1 : Int64) (h0 : Heap) (n0 : Nat) (v : Option Value) (h : Heap) (L : List Loc) : Prop := v = some (.long (F3 q0 q1)) ∧ Fr n0 L ∧ h = h0
set_option maxRecDepth 65536 in
set_option maxHeartbeats 40000000 in
theorem rm3 (l : Launch) (Z : State) (a0 : Array Value) (hw : ∀ d ∈ tables_1, d.before a0 Z = true) (ws : List Jvm.Cond) (q0 : Int64) (q1 : Int64) (h0 : Heap) (n0 : Nat) (Z0 : n0 ≤ h0.size) :
    MetFree l (⟨"java/lang/Math", "min", "(JJ)J"⟩ : MethodName) (head1 (Jvm.Cond.code (⟨"java/lang/Math", "min", "(JJ)J"⟩ : MethodName) jdk_29_method_70_code 4 (some .long) :: ws) ({ frames := 0, cells := 0, slots := 0, locals := 0 } : Room)) (fun a U => a = #[(.long q0), (.long q1)] ∧ Z.Warmed39 U.vm ∧ U.heap = h0) (fun _ _ _ _ _ => True) (fun _ U o U' => ∃ v L, o = .returned v ∧ Q3 Z q0 q1 h0 n0 v U'.heap L ∧ FrameEnd U o U' L ({ frames := 0, cells := 0, slots := 0, locals := 0 } : Room).cells ({ frames := 0, cells := 0, slots := 0, locals := 0 } : Room).slots) := by
  refine MetFree.of_bodySF (Jvm.Free.JP.mathPlain rfl (by decide +kernel)) hisR ?_
  intro p e s m args below meth c s₁ Bd hml0 hP hK
  obtain ⟨rfl, hZ, hh⟩ := hP
  have hx := Bd.exec
  have hby := Bd.bytes
  have hml : c.maxLocals = 4 := hml0
  have hown : s.vm.findClass "java/lang/Math" = some m.cls := findClass_of_methodNamed Bd.named
  have hnm := (name_of_methodNamed Bd.named Bd.method).1
  have hlk : meth.locks = false := Bd.notSynchronized
  have X0 : Stand p l e ({ frames := 0, cells := 0, slots := 0, locals := 0 } : Room) s m #[(.long q0), (.long q1)] below meth c s₁ [] 0 0 := Stand.of_body Bd
  have e0 : s₁.heap = h0 := by rw [← hh, Bd.state]; rfl
  have N0 := Fr.nil n0
  have KK0 := Keep.refl h0 []
  show own_Go p.tables e below s 0 0 (Q3 Z q0 q1 h0 n0) (s₁.setTop (entryFrame m #[(.long q0), (.long q1)] 4))
  rw [ef_3]
  refine own_step (U' := s₁.setTop (mkF m 3 #[.val (.long q0), .second, .val (.long q1), .second] [(.int (lcmpW q0 q1))])) (fun t k => XS.lloadN X0.here hx rfl (hb hby d3_0) rfl (XS.lloadN X0.here hx rfl (hb hby d3_1) rfl (XS.lcmp X0.here hx rfl (hb hby d3_2) rfl k))) ?_
  by_cases hc3_1 : q1 < q0
  · refine own_step (U' := s₁.setTop (mkF m 11 #[.val (.long q0), .second, .val (.long q1), .second] [(.long q1)])) (fun t k => XS.ifYes X0.here hx rfl (pc0 := 3) (pc' := 10) rfl (hb hby d3_3) rfl ((if0 _ _).trans (tlt ((lw_gt q0 q1).mpr hc3_1)).2.2.1) (by decide) (by decide) (XS.lloadN X0.here hx rfl (hb hby d3_10) rfl k)) ?_
    exact own_out X0 (v := (some (.long q1))) hlk (own_nv Bd.returns) (by rw [e0]; exact ⟨by rw [show (F3 q0 q1) = q1 from (by simp only [F3, if_pos hc3_1])], N0, rfl⟩) (by decide) (by decide) (fun fs hr => X0.lreturnOut hx Bd.returns (hb hby d3_11) hr)
  · refine own_step (U' := s₁.setTop (mkF m 11 #[.val (.long q0), .second, .val (.long q1), .second] [(.long q0)])) (fun t k => XS.ifNo X0.here hx rfl (hb hby d3_3) rfl ((if0 _ _).trans (flt (mt (lw_gt q0 q1).mp hc3_1)).2.2.1) (XS.lloadN X0.here hx rfl (hb hby d3_6) rfl (XS.goto X0.here hx rfl (pc0 := 7) (pc' := 11) rfl (hb hby d3_7) (by decide) (by decide) k))) ?_
    exact own_out X0 (v := (some (.long q0))) hlk (own_nv Bd.returns) (by rw [e0]; exact ⟨by rw [show (F3 q0 q1) = q0 from (by simp only [F3, if_neg hc3_1])], N0, rfl⟩) (by decide) (by decide) (fun fs hr => X0.lreturnOut hx Bd.returns (hb hby d3_11) hr)
theorem d1_0 : decode prog_47_method_9_code 0 = .ok (.lload_n 1, 1) := by decide +kernel
theorem d1_1 : decode prog_47_method_9_code 1 = .ok (.ldc2_w 159, 3) := by decide +kernel
theorem d1_4 : decode prog_47_method_9_code 4 = .ok (.lcmp, 1) := by decide +kernel
theorem d1_5 : decode prog_47_method_9_code 5 = .ok (.ifCond .le 17, 3) := by decide +kernel
theorem d1_22 : decode prog_47_method_9_code 22 = .ok (.ldc2_w 159, 3) := by decide +kernel
theorem d1_25 : decode prog_47_method_9_code 25 = .ok (.ldc2_w 84, 3) := by decide +kernel
theorem d1_28 : decode prog_47_method_9_code 28 = .ok (.iload_n 0, 1) := by decide +kernel
theorem d1_29 : decode prog_47_method_9_code 29 = .ok (.i2l, 1) := by decide +kernel
theorem d1_30 : decode prog_47_method_9_code 30 = .ok (.lmul, 1) := by decide +kernel
theorem d1_31 : decode prog_47_method_9_code 31 = .ok (.lload_n 1, 1) := by decide +kernel
theorem d1_32 : decode prog_47_method_9_code 32 = .ok (.invokestatic 170, 3) := by decide +kernel
theorem d1_35 : decode prog_47_method_9_code 35 = .ok (.invokestatic 176, 3) := by decide +kernel
theorem d1_38 : decode prog_47_method_9_code 38 = .ok (.l2i, 1) := by decide +kernel
theorem d1_39 : decode prog_47_method_9_code 39 = .ok (.ireturn, 1) := by decide +kernel
theorem pn_1 : plainName "com/example/termstone/termstone/SegmentInverter" = true := by first | (simp [plainName, overriddenIn]; done) | decide +kernel
theorem ef_1 (m : MethodId) (p0 : Int32) (q1 : Int64) : entryFrame m #[(.int p0), (.long q1)] 3 = mkF m 0 #[iv p0, .val (.long q1), .second] [] := by first | (simp [entryFrame, mkF, argsToLocals, Value.category]; done) | rfl
def F1 (p0 : Int32) (q1 : Int64) : Int32 :=
  ((F3 (2147483639 : Int64) (F2 ((2 : Int64) * (p0.toInt64)) q1)).toInt32)
def Q1 (Z : State) (p0 : Int32) (q1 : Int64) (h0 : Heap) (n0 : Nat) (v : Option Value) (h : Heap) (L : List Loc) : Prop := v = some (.int (F1 p0 q1)) ∧ Fr n0 L ∧ h = h0
set_option maxRecDepth 65536 in
set_option maxHeartbeats 40000000 in
theorem rm1 (l : Launch) (Z : State) (a0 : Array Value) (hw : ∀ d ∈ tables_1, d.before a0 Z = true) (ws : List Jvm.Cond) (p0 : Int32) (q1 : Int64) (h0 : Heap) (n0 : Nat) (Z0 : n0 ≤ h0.size) (hle : ¬ (2147483639 : Int64) < q1) :
    MetFree l (⟨"com/example/termstone/termstone/SegmentInverter", "grownLength", "(IJ)I"⟩ : MethodName) (head1 (Jvm.Cond.code (⟨"com/example/termstone/termstone/SegmentInverter", "grownLength", "(IJ)I"⟩ : MethodName) prog_47_method_9_code 3 (some .int) :: ws) ({ frames := 1, cells := 0, slots := 0, locals := 17 } : Room)) (fun a U => a = #[(.int p0), (.long q1)] ∧ Z.Warmed39 U.vm ∧ U.heap = h0) (fun _ _ _ _ _ => True) (fun _ U o U' => ∃ v L, o = .returned v ∧ Q1 Z p0 q1 h0 n0 v U'.heap L ∧ FrameEnd U o U' L ({ frames := 1, cells := 0, slots := 0, locals := 17 } : Room).cells ({ frames := 1, cells := 0, slots := 0, locals := 17 } : Room).slots) := by
  refine MetFree.of_bodySF (plainFor_of_name pn_1) hisR ?_
  intro p e s m args below meth c s₁ Bd hml0 hP hK
  obtain ⟨rfl, hZ, hh⟩ := hP
  have hx := Bd.exec
  have hby := Bd.bytes
  have hml : c.maxLocals = 3 := hml0
  have hown : s.vm.findClass "com/example/termstone/termstone/SegmentInverter" = some m.cls := findClass_of_methodNamed Bd.named
  have hnm := (name_of_methodNamed Bd.named Bd.method).1
  have hlk : meth.locks = false := Bd.notSynchronized
  have X0 : Stand p l e ({ frames := 1, cells := 0, slots := 0, locals := 17 } : Room) s m #[(.int p0), (.long q1)] below meth c s₁ [] 0 0 := Stand.of_body Bd
  have e0 : s₁.heap = h0 := by rw [← hh, Bd.state]; rfl
  have N0 := Fr.nil n0
  have KK0 := Keep.refl h0 []
  show own_Go p.tables e below s 0 0 (Q1 Z p0 q1 h0 n0) (s₁.setTop (entryFrame m #[(.int p0), (.long q1)] 3))
  rw [ef_1]
  refine own_step (U' := s₁.setTop (mkF m 30 #[iv p0, .val (.long q1), .second] [(.long (p0.toInt64)), (.long (2 : Int64)), (.long (2147483639 : Int64))])) (fun t k => XS.lloadN X0.here hx rfl (hb hby d1_0) rfl (X0.ldc2Long hx hown (mvT hZ (own_w hw 7 rfl)) (g := (mkF m 1 #[iv p0, .val (.long q1), .second] [(.long q1)])) rfl (hb hby d1_1) t (XS.lcmp X0.here hx rfl (hb hby d1_4) rfl (XS.ifYes X0.here hx rfl (pc0 := 5) (pc' := 22) rfl (hb hby d1_5) rfl ((if0 _ _).trans (flt (mt (lw_gt q1 (2147483639 : Int64)).mp hle)).2.2.2) (by decide) (by decide) (X0.ldc2Long hx hown (mvT hZ (own_w hw 7 rfl)) (g := (mkF m 22 #[iv p0, .val (.long q1), .second] [])) rfl (hb hby d1_22) t (X0.ldc2Long hx hown (mvT hZ (own_w hw 8 rfl)) (g := (mkF m 25 #[iv p0, .val (.long q1), .second] [(.long (2147483639 : Int64))])) rfl (hb hby d1_25) t (XS.iloadN X0.here hx rfl (hb hby d1_28) rfl (XS.i2l X0.here hx rfl (hb hby d1_29) rfl k)))))))) ?_
  refine own_step (U' := s₁.setTop (mkF m 32 #[iv p0, .val (.long q1), .second] [(.long q1), (.long ((2 : Int64) * (p0.toInt64))), (.long (2147483639 : Int64))])) (fun t k => XS.lmul X0.here hx rfl (hb hby d1_30) rfl (XS.lloadN X0.here hx rfl (hb hby d1_31) rfl k)) ?_
  obtain ⟨_, _, ⟨T1, L1, k1, n1⟩, -, X1, ⟨Lc1, hQ1, l1, y1, z1⟩, st1⟩ := Jvm.LawKit.callS X0 hx (y := (⟨"java/lang/Math", "max", "(JJ)J"⟩ : MethodName)) hown (mvT hZ (own_w hw 9 rfl)) (mvT hZ (own_w hw 10 rfl)) (mvT hZ (own_w hw 11 rfl)) (mvT hZ (own_w hw 12 rfl)) (by decide) (backOf (W := 2) (rm2 l Z a0 hw [] ((2 : Int64) * (p0.toInt64)) q1 h0 n0 Z0) hZ (own_w hw 12 rfl) (own_w hw 11 rfl) (by decide) (by decide)) (g := (mkF m 32 #[iv p0, .val (.long q1), .second] [(.long q1), (.long ((2 : Int64) * (p0.toInt64))), (.long (2147483639 : Int64))])) rfl (by rw [hml]; rfl) (argsL := [(.long ((2 : Int64) * (p0.toInt64))), (.long q1)]) (rest := [(.long (2147483639 : Int64))]) (lenOf pd__JJ_J rfl) rfl (by show 2 * 0 + _ ≤ _; exact Nat.le_of_eq rfl) (hb hby d1_32) (fun _ _ => ⟨rfl, e0, (by decide : 0 + 0 ≤ _), (by decide : 0 + 0 ≤ _)⟩)
  dsimp only [Pt.U, Pt.locs, Pt.cells, Pt.slots] at X1 l1 y1 z1 st1 hQ1
  subst l1 y1 z1
  obtain ⟨rfl, N1q, eq1⟩ := hQ1
  have N1 := Fr.app N0 N1q
  refine own_step (U' := T1.setTop (mkF m 35 #[iv p0, .val (.long q1), .second] [(.long (F2 ((2 : Int64) * (p0.toInt64)) q1)), (.long (2147483639 : Int64))])) st1 ?_
  obtain ⟨_, _, ⟨T2, L2, k2, n2⟩, -, X2, ⟨Lc2, hQ2, l2, y2, z2⟩, st2⟩ := Jvm.LawKit.callS X1 hx (y := (⟨"java/lang/Math", "min", "(JJ)J"⟩ : MethodName)) hown (mvT hZ (own_w hw 13 rfl)) (mvT hZ (own_w hw 14 rfl)) (mvT hZ (own_w hw 11 rfl)) (mvT hZ (own_w hw 15 rfl)) (by decide) (backOf (W := 0) (rm3 l Z a0 hw [] (2147483639 : Int64) (F2 ((2 : Int64) * (p0.toInt64)) q1) h0 n0 Z0) hZ (own_w hw 15 rfl) (own_w hw 11 rfl) (by decide) (by decide)) (g := (mkF m 35 #[iv p0, .val (.long q1), .second] [(.long (F2 ((2 : Int64) * (p0.toInt64)) q1)), (.long (2147483639 : Int64))])) rfl (by rw [hml]; rfl) (argsL := [(.long (2147483639 : Int64)), (.long (F2 ((2 : Int64) * (p0.toInt64)) q1))]) (rest := []) (lenOf pd__JJ_J rfl) rfl (by show 2 * 0 + _ ≤ _; exact Nat.le_of_eq rfl) (hb hby d1_35) (fun _ _ => ⟨rfl, eq1, (by decide : 0 + 0 ≤ _), (by decide : 0 + 0 ≤ _)⟩)
  dsimp only [Pt.U, Pt.locs, Pt.cells, Pt.slots] at X2 l2 y2 z2 st2 hQ2
  subst l2 y2 z2
  obtain ⟨rfl, N2q, eq2⟩ := hQ2
  have N2 := Fr.app N1 N2q
  refine own_step (U' := T2.setTop (mkF m 38 #[iv p0, .val (.long q1), .second] [(.long (F3 (2147483639 : Int64) (F2 ((2 : Int64) * (p0.toInt64)) q1)))])) st2 ?_
  refine own_step (U' := T2.setTop (mkF m 39 #[iv p0, .val (.long q1), .second] [(.int ((F3 (2147483639 : Int64) (F2 ((2 : Int64) * (p0.toInt64)) q1)).toInt32))])) (fun t k => XS.l2i X2.here hx rfl (hb hby d1_38) rfl k) ?_
  exact own_out X2 (v := (some (.int ((F3 (2147483639 : Int64) (F2 ((2 : Int64) * (p0.toInt64)) q1)).toInt32)))) hlk (own_nv Bd.returns) (by rw [eq2]; exact ⟨by rw [show (F1 p0 q1) = ((F3 (2147483639 : Int64) (F2 ((2 : Int64) * (p0.toInt64)) q1)).toInt32) from (by simp only [F1])], N2, rfl⟩) (by decide) (by decide) (fun fs hr => retI X2 hx Bd.returns (hb hby d1_39) hr)

theorem own_le {a v : Int64} (h : v = (if (2147483639 : Int64) < a then (a - (a / (2147483640 : Int64)) * (2147483640 : Int64)) else a)) : ¬ (2147483639 : Int64) < v := by
  have k : (2147483639 : Int64).toInt = 2147483639 := by decide
  subst h
  split
  · rename_i q
    have c := c_lrem a 2147483640 2147483640 (by decide)
    rw [Int64.lt_iff_toInt_lt] at q ⊢
    omega
  · assumption
theorem own_rt (x : Int64) (h : -2147483648 ≤ x.toInt) (h' : x.toInt < 2147483648) : x.toInt32.toInt64 = x := by
  apply Int64.toInt_inj.mp
  rw [c_i2l]
  have := c_l2i x; have := rng32 x.toInt32
  omega
theorem own_law (p : Int32) (v w : Int64) (hv : ¬ (2147483639 : Int64) < v)
    (hw : w = (if ((2 : Int64) * ((p &&& (2147483647 : Int32)).toInt64)) < v then v else (if (2147483639 : Int64) < ((2 : Int64) * ((p &&& (2147483647 : Int32)).toInt64)) then (2147483639 : Int64) else ((2 : Int64) * ((p &&& (2147483647 : Int32)).toInt64))))) :
    ((F1 (p &&& (2147483647 : Int32)) v).toInt64) = w := by
  have m := c_mask p 2147483647 31 (by decide) (by decide)
  have r := rng32 (p &&& 2147483647)
  have k : (2147483639 : Int64).toInt = 2147483639 := by decide
  have k2 : (2 : Int64).toInt = 2 := by decide
  simp only [F1]
  have t := c_lmul 2 ((p &&& (2147483647 : Int32)).toInt64)
  have rt := rng64 ((2 : Int64) * ((p &&& (2147483647 : Int32)).toInt64))
  rw [c_i2l, k2] at t
  generalize p &&& 2147483647 = n at *
  generalize (2 : Int64) * n.toInt64 = T at *
  have hT : T.toInt = 2 * n.toInt := by omega
  rw [Int64.lt_iff_toInt_lt, k] at hv
  subst hw
  by_cases c1 : T < v
  · rw [if_pos c1]
    have e1 : F2 T v = v := by simp only [F2, if_pos c1]
    rw [e1]
    rw [Int64.lt_iff_toInt_lt] at c1
    have e2 : F3 (2147483639 : Int64) v = v := by
      simp only [F3]
      split
      · rfl
      · rename_i q
        apply Int64.toInt_inj.mp
        rw [Int64.lt_iff_toInt_lt] at q
        omega
    rw [e2]
    exact own_rt v (by omega) (by omega)
  · rw [if_neg c1]
    have e1 : F2 T v = T := by simp only [F2, if_neg c1]
    rw [e1]
    by_cases c2 : (2147483639 : Int64) < T
    · rw [if_pos c2]
      have e2 : F3 (2147483639 : Int64) T = 2147483639 := by
        simp only [F3]
        split
        · rename_i q
          rw [Int64.lt_iff_toInt_lt] at q c2
          omega
        · rfl
      rw [e2]
      exact own_rt _ (by omega) (by omega)
    · rw [if_neg c2]
      have e2 : F3 (2147483639 : Int64) T = T := by
        simp only [F3]
        split
        · rfl
        · rename_i q
          apply Int64.toInt_inj.mp
          rw [Int64.lt_iff_toInt_lt] at q c2
          omega
      rw [e2]
      rw [Int64.lt_iff_toInt_lt] at c2
      exact own_rt _ (by omega) (by omega)

theorem pn_0 : plainName "com/example/termstone/termstone/SegmentInverterGrownLengthPinLaw" = true := by first | (simp [plainName, overriddenIn]; done) | decide +kernel
theorem ef_0 (m : MethodId) (p0 : Int32) (q1 : Int64) (p2 : Int32) : entryFrame m #[(.int p0), (.long q1), (.int p2)] maxLocals = mkF m 0 #[iv p0, .val (.long q1), .second, iv p2, .unset, .unset, .unset, .unset, .unset, .unset, .unset, .unset] [] := by first | (simp [entryFrame, mkF, argsToLocals, Value.category, maxLocals]; done) | rfl
def Q0 (Z : State) (p0 : Int32) (q1 : Int64) (p2 : Int32) (h0 : Heap) (n0 : Nat) (v : Option Value) (h : Heap) (L : List Loc) : Prop := v = some (.int 1) ∧ Fr n0 L
set_option maxRecDepth 65536 in
set_option maxHeartbeats 40000000 in
theorem rm0 (l : Launch) (Z : State) (a0 : Array Value) (hw : ∀ d ∈ tables_1, d.before a0 Z = true) (ws : List Jvm.Cond) (p0 : Int32) (q1 : Int64) (p2 : Int32) (h0 : Heap) (n0 : Nat) (Z0 : n0 ≤ h0.size) :
    MetFree l x (head1 (Jvm.Cond.code x code maxLocals ret :: ws) room_1) (fun a U => a = #[(.int p0), (.long q1), (.int p2)] ∧ Z.Warmed39 U.vm ∧ U.heap = h0) (fun _ _ _ _ _ => True) (fun _ U o U' => ∃ v L, o = .returned v ∧ Q0 Z p0 q1 p2 h0 n0 v U'.heap L ∧ FrameEnd U o U' L 0 0) := by
  refine MetFree.of_bodySF (plainFor_of_name pn_0) hisR ?_
  intro p e s m args below meth c s₁ Bd hml0 hP hK
  obtain ⟨rfl, hZ, hh⟩ := hP
  have hx := Bd.exec
  have hby := Bd.bytes
  have hml : c.maxLocals = 12 := hml0
  have hown : s.vm.findClass "com/example/termstone/termstone/SegmentInverterGrownLengthPinLaw" = some m.cls := findClass_of_methodNamed Bd.named
  have hnm := (name_of_methodNamed Bd.named Bd.method).1
  have hlk : meth.locks = false := Bd.notSynchronized
  have X0 : Stand p l e room_1 s m #[(.int p0), (.long q1), (.int p2)] below meth c s₁ [] 0 0 := Stand.of_body Bd
  have e0 : s₁.heap = h0 := by rw [← hh, Bd.state]; rfl
  have N0 := Fr.nil n0
  have KK0 := Keep.refl h0 []
  show own_Go p.tables e below s 0 0 (Q0 Z p0 q1 p2 h0 n0) (s₁.setTop (entryFrame m #[(.int p0), (.long q1), (.int p2)] maxLocals))
  rw [ef_0]
  refine own_step (U' := s₁.setTop (mkF m 11 #[iv p0, .val (.long q1), .second, iv p2, iv (p0 &&& (2147483647 : Int32)), .val (.long q1), .second, .unset, .unset, .unset, .unset, .unset] [(.int (1 : Int32)), (.int p2)])) (fun t k => XS.iloadN X0.here hx rfl (hb hby at_0) rfl (X0.ldcInt hx hown (mvT hZ (own_w hw 0 rfl)) (g := (mkF m 1 #[iv p0, .val (.long q1), .second, iv p2, .unset, .unset, .unset, .unset, .unset, .unset, .unset, .unset] [(.int p0)])) rfl (hb hby at_1) t (XS.iand X0.here hx rfl (hb hby at_3) rfl (XS.istore X0.here hx rfl (hb hby at_4) rfl (l' := #[iv p0, .val (.long q1), .second, iv p2, iv (p0 &&& (2147483647 : Int32)), .unset, .unset, .unset, .unset, .unset, .unset, .unset]) rfl (XS.lloadN X0.here hx rfl (hb hby at_6) rfl (XS.lstore X0.here hx rfl (hb hby at_7) rfl (l' := #[iv p0, .val (.long q1), .second, iv p2, iv (p0 &&& (2147483647 : Int32)), .val (.long q1), .second, .unset, .unset, .unset, .unset, .unset]) rfl (XS.iloadN X0.here hx rfl (hb hby at_9) rfl (XS.iconst X0.here hx rfl (hb hby at_10) k)))))))) ?_
  refine own_step (U' := s₁.setTop (mkF m 12 #[iv p0, .val (.long q1), .second, iv p2, iv (p0 &&& (2147483647 : Int32)), .val (.long q1), .second, .unset, .unset, .unset, .unset, .unset] [(.int (p2 &&& (1 : Int32)))])) (fun t k => XS.iand X0.here hx rfl (hb hby at_11) rfl k) ?_
  obtain ⟨v35_2, hv35_2⟩ : ∃ v : Int64, v = (if (p2 &&& (1 : Int32)) = (0 : Int32) then q1 else ((((2 : Int64) * ((p0 &&& (2147483647 : Int32)).toInt64)) + (((p2 >>> ((1 : Int32) &&& 31)) &&& (3 : Int32)).toInt64)) - (2 : Int64))) := ⟨_, rfl⟩
  have K35_3 : ∀ (T' : State) (locs' : List Loc) (X' : Stand p l e room_1 s m #[(.int p0), (.long q1), (.int p2)] below meth c T' locs' 0 0) (N' : Fr n0 locs') (e' : T'.heap = h0), own_Go p.tables e below s 0 0 (Q0 Z p0 q1 p2 h0 n0) (T'.setTop (mkF m 35 #[iv p0, .val (.long q1), .second, iv p2, iv (p0 &&& (2147483647 : Int32)), .val (.long v35_2), .second, .unset, .unset, .unset, .unset, .unset] [])) := by
    intro T3 L3 X3 N3 e3
    refine own_step (U' := T3.setTop (mkF m 41 #[iv p0, .val (.long q1), .second, iv p2, iv (p0 &&& (2147483647 : Int32)), .val (.long v35_2), .second, .unset, .unset, .unset, .unset, .unset] [(.int (lcmpW v35_2 (2147483639 : Int64)))])) (fun t k => XS.lload X3.here hx rfl (hb hby at_35) rfl (X3.ldc2Long hx hown (mvT hZ (own_w hw 2 rfl)) (g := (mkF m 37 #[iv p0, .val (.long q1), .second, iv p2, iv (p0 &&& (2147483647 : Int32)), .val (.long v35_2), .second, .unset, .unset, .unset, .unset, .unset] [(.long v35_2)])) rfl (hb hby at_37) t (XS.lcmp X3.here hx rfl (hb hby at_40) rfl k))) ?_
    obtain ⟨v52_5, hv52_5⟩ : ∃ v : Int64, v = (if (2147483639 : Int64) < v35_2 then (v35_2 - (v35_2 / (2147483640 : Int64)) * (2147483640 : Int64)) else v35_2) := ⟨_, rfl⟩
    have K52_6 : ∀ (T' : State) (locs' : List Loc) (X' : Stand p l e room_1 s m #[(.int p0), (.long q1), (.int p2)] below meth c T' locs' 0 0) (N' : Fr n0 locs') (e' : T'.heap = h0), own_Go p.tables e below s 0 0 (Q0 Z p0 q1 p2 h0 n0) (T'.setTop (mkF m 52 #[iv p0, .val (.long q1), .second, iv p2, iv (p0 &&& (2147483647 : Int32)), .val (.long v52_5), .second, .unset, .unset, .unset, .unset, .unset] [])) := by
      intro T6 L6 X6 N6 e6
      refine own_step (U' := T6.setTop (mkF m 56 #[iv p0, .val (.long q1), .second, iv p2, iv (p0 &&& (2147483647 : Int32)), .val (.long v52_5), .second, .unset, .unset, .unset, .unset, .unset] [(.long v52_5), (.int (p0 &&& (2147483647 : Int32)))])) (fun t k => XS.iload X6.here hx rfl (hb hby at_52) rfl (XS.lload X6.here hx rfl (hb hby at_54) rfl k)) ?_
      obtain ⟨_, _, ⟨T7, L7, k7, n7⟩, -, X7, ⟨Lc7, hQ7, l7, y7, z7⟩, st7⟩ := Jvm.LawKit.callS X6 hx (y := (⟨"com/example/termstone/termstone/SegmentInverter", "grownLength", "(IJ)I"⟩ : MethodName)) hown (mvT hZ (own_w hw 3 rfl)) (mvT hZ (own_w hw 4 rfl)) (mvT hZ (own_w hw 5 rfl)) (mvT hZ (own_w hw 6 rfl)) (by decide) (backOf (W := 0) (rm1 l Z a0 hw [] (p0 &&& (2147483647 : Int32)) v52_5 h0 n0 Z0 (own_le hv52_5)) hZ (own_w hw 6 rfl) (own_w hw 5 rfl) (by decide) (by decide)) (g := (mkF m 56 #[iv p0, .val (.long q1), .second, iv p2, iv (p0 &&& (2147483647 : Int32)), .val (.long v52_5), .second, .unset, .unset, .unset, .unset, .unset] [(.long v52_5), (.int (p0 &&& (2147483647 : Int32)))])) rfl (by rw [hml]; rfl) (argsL := [(.int (p0 &&& (2147483647 : Int32))), (.long v52_5)]) (rest := []) (lenOf pd__IJ_I rfl) rfl (by show 2 * 0 + _ ≤ _; exact Nat.le_of_eq rfl) (hb hby at_56) (fun _ _ => ⟨rfl, e6, (by decide : 0 + 0 ≤ _), (by decide : 0 + 0 ≤ _)⟩)
      dsimp only [Pt.U, Pt.locs, Pt.cells, Pt.slots] at X7 l7 y7 z7 st7 hQ7
      subst l7 y7 z7
      obtain ⟨rfl, N7q, eq7⟩ := hQ7
      have N7 := Fr.app N6 N7q
      refine own_step (U' := T7.setTop (mkF m 59 #[iv p0, .val (.long q1), .second, iv p2, iv (p0 &&& (2147483647 : Int32)), .val (.long v52_5), .second, .unset, .unset, .unset, .unset, .unset] [(.int (F1 (p0 &&& (2147483647 : Int32)) v52_5))])) st7 ?_
      refine own_step (U' := T7.setTop (mkF m 74 #[iv p0, .val (.long q1), .second, iv p2, iv (p0 &&& (2147483647 : Int32)), .val (.long v52_5), .second, iv (F1 (p0 &&& (2147483647 : Int32)) v52_5), .val (.long ((2 : Int64) * ((p0 &&& (2147483647 : Int32)).toInt64))), .second, .unset, .unset] [(.long ((2 : Int64) * ((p0 &&& (2147483647 : Int32)).toInt64))), (.long v52_5)])) (fun t k => XS.istore X7.here hx rfl (hb hby at_59) rfl (l' := #[iv p0, .val (.long q1), .second, iv p2, iv (p0 &&& (2147483647 : Int32)), .val (.long v52_5), .second, iv (F1 (p0 &&& (2147483647 : Int32)) v52_5), .unset, .unset, .unset, .unset]) rfl (X7.ldc2Long hx hown (mvT hZ (own_w hw 1 rfl)) (g := (mkF m 61 #[iv p0, .val (.long q1), .second, iv p2, iv (p0 &&& (2147483647 : Int32)), .val (.long v52_5), .second, iv (F1 (p0 &&& (2147483647 : Int32)) v52_5), .unset, .unset, .unset, .unset] [])) rfl (hb hby at_61) t (XS.iload X7.here hx rfl (hb hby at_64) rfl (XS.i2l X7.here hx rfl (hb hby at_66) rfl (XS.lmul X7.here hx rfl (hb hby at_67) rfl (XS.lstore X7.here hx rfl (hb hby at_68) rfl (l' := #[iv p0, .val (.long q1), .second, iv p2, iv (p0 &&& (2147483647 : Int32)), .val (.long v52_5), .second, iv (F1 (p0 &&& (2147483647 : Int32)) v52_5), .val (.long ((2 : Int64) * ((p0 &&& (2147483647 : Int32)).toInt64))), .second, .unset, .unset]) rfl (XS.lload X7.here hx rfl (hb hby at_70) rfl (XS.lload X7.here hx rfl (hb hby at_72) rfl k)))))))) ?_
      refine own_step (U' := T7.setTop (mkF m 75 #[iv p0, .val (.long q1), .second, iv p2, iv (p0 &&& (2147483647 : Int32)), .val (.long v52_5), .second, iv (F1 (p0 &&& (2147483647 : Int32)) v52_5), .val (.long ((2 : Int64) * ((p0 &&& (2147483647 : Int32)).toInt64))), .second, .unset, .unset] [(.int (lcmpW v52_5 ((2 : Int64) * ((p0 &&& (2147483647 : Int32)).toInt64))))])) (fun t k => XS.lcmp X7.here hx rfl (hb hby at_74) rfl k) ?_
      obtain ⟨v106_10, hv106_10⟩ : ∃ v : Int64, v = (if ((2 : Int64) * ((p0 &&& (2147483647 : Int32)).toInt64)) < v52_5 then v52_5 else (if (2147483639 : Int64) < ((2 : Int64) * ((p0 &&& (2147483647 : Int32)).toInt64)) then (2147483639 : Int64) else ((2 : Int64) * ((p0 &&& (2147483647 : Int32)).toInt64)))) := ⟨_, rfl⟩
      have K106_11 : ∀ (T' : State) (locs' : List Loc) (X' : Stand p l e room_1 s m #[(.int p0), (.long q1), (.int p2)] below meth c T' locs' 0 0) (N' : Fr n0 locs') (e' : T'.heap = h0), own_Go p.tables e below s 0 0 (Q0 Z p0 q1 p2 h0 n0) (T'.setTop (mkF m 106 #[iv p0, .val (.long q1), .second, iv p2, iv (p0 &&& (2147483647 : Int32)), .val (.long v52_5), .second, iv (F1 (p0 &&& (2147483647 : Int32)) v52_5), .val (.long ((2 : Int64) * ((p0 &&& (2147483647 : Int32)).toInt64))), .second, .val (.long v106_10), .second] [])) := by
        intro T11 L11 X11 N11 e11
        refine own_step (U' := T11.setTop (mkF m 120 #[iv p0, .val (.long q1), .second, iv p2, iv (p0 &&& (2147483647 : Int32)), .val (.long v52_5), .second, iv (F1 (p0 &&& (2147483647 : Int32)) v52_5), .val (.long ((2 : Int64) * ((p0 &&& (2147483647 : Int32)).toInt64))), .second, .val (.long v106_10), .second] [(.int (1 : Int32))])) (fun t k => XS.iload X11.here hx rfl (hb hby at_106) rfl (XS.i2l X11.here hx rfl (hb hby at_108) rfl (XS.lload X11.here hx rfl (hb hby at_109) rfl (XS.lcmp X11.here hx rfl (hb hby at_111) rfl (XS.ifNo X11.here hx rfl (hb hby at_112) rfl ((if0 _ _).trans (teq ((lw_eq ((F1 (p0 &&& (2147483647 : Int32)) v52_5).toInt64) v106_10).mpr (own_law p0 v52_5 v106_10 (own_le hv52_5) hv106_10))).2) (XS.iconst X11.here hx rfl (hb hby at_115) (XS.goto X11.here hx rfl (pc0 := 116) (pc' := 120) rfl (hb hby at_116) (by decide) (by decide) k))))))) ?_
        exact own_out X11 (v := (some (.int (1 : Int32)))) hlk (own_nv Bd.returns) (by rw [e11]; exact ⟨rfl, N11⟩) (by decide) (by decide) (fun fs hr => retN X11 hx (t := .boolean) Bd.returns (by simp) (hb hby at_120) hr)
      by_cases hc75_12 : ((2 : Int64) * ((p0 &&& (2147483647 : Int32)).toInt64)) < v52_5
      · refine own_step (U' := T7.setTop (mkF m 106 #[iv p0, .val (.long q1), .second, iv p2, iv (p0 &&& (2147483647 : Int32)), .val (.long v52_5), .second, iv (F1 (p0 &&& (2147483647 : Int32)) v52_5), .val (.long ((2 : Int64) * ((p0 &&& (2147483647 : Int32)).toInt64))), .second, .val (.long v52_5), .second] [])) (fun t k => XS.ifNo X7.here hx rfl (hb hby at_75) rfl ((if0 _ _).trans (tlt ((lw_gt v52_5 ((2 : Int64) * ((p0 &&& (2147483647 : Int32)).toInt64))).mpr hc75_12)).2.2.2) (XS.lload X7.here hx rfl (hb hby at_78) rfl (XS.lstore X7.here hx rfl (hb hby at_80) rfl (l' := #[iv p0, .val (.long q1), .second, iv p2, iv (p0 &&& (2147483647 : Int32)), .val (.long v52_5), .second, iv (F1 (p0 &&& (2147483647 : Int32)) v52_5), .val (.long ((2 : Int64) * ((p0 &&& (2147483647 : Int32)).toInt64))), .second, .val (.long v52_5), .second]) rfl (XS.goto X7.here hx rfl (pc0 := 82) (pc' := 106) rfl (hb hby at_82) (by decide) (by decide) k)))) ?_
        have q_v106_10 : v106_10 = v52_5 := by rw [hv106_10, if_pos hc75_12]
        rw [q_v106_10] at K106_11
        exact K106_11 _ _ X7 N7 eq7
      · refine own_step (U' := T7.setTop (mkF m 91 #[iv p0, .val (.long q1), .second, iv p2, iv (p0 &&& (2147483647 : Int32)), .val (.long v52_5), .second, iv (F1 (p0 &&& (2147483647 : Int32)) v52_5), .val (.long ((2 : Int64) * ((p0 &&& (2147483647 : Int32)).toInt64))), .second, .unset, .unset] [(.int (lcmpW ((2 : Int64) * ((p0 &&& (2147483647 : Int32)).toInt64)) (2147483639 : Int64)))])) (fun t k => XS.ifYes X7.here hx rfl (pc0 := 75) (pc' := 85) rfl (hb hby at_75) rfl ((if0 _ _).trans (flt (mt (lw_gt v52_5 ((2 : Int64) * ((p0 &&& (2147483647 : Int32)).toInt64))).mp hc75_12)).2.2.2) (by decide) (by decide) (XS.lload X7.here hx rfl (hb hby at_85) rfl (X7.ldc2Long hx hown (mvT hZ (own_w hw 2 rfl)) (g := (mkF m 87 #[iv p0, .val (.long q1), .second, iv p2, iv (p0 &&& (2147483647 : Int32)), .val (.long v52_5), .second, iv (F1 (p0 &&& (2147483647 : Int32)) v52_5), .val (.long ((2 : Int64) * ((p0 &&& (2147483647 : Int32)).toInt64))), .second, .unset, .unset] [(.long ((2 : Int64) * ((p0 &&& (2147483647 : Int32)).toInt64)))])) rfl (hb hby at_87) t (XS.lcmp X7.here hx rfl (hb hby at_90) rfl k)))) ?_
        by_cases hc91_13 : (2147483639 : Int64) < ((2 : Int64) * ((p0 &&& (2147483647 : Int32)).toInt64))
        · refine own_step (U' := T7.setTop (mkF m 106 #[iv p0, .val (.long q1), .second, iv p2, iv (p0 &&& (2147483647 : Int32)), .val (.long v52_5), .second, iv (F1 (p0 &&& (2147483647 : Int32)) v52_5), .val (.long ((2 : Int64) * ((p0 &&& (2147483647 : Int32)).toInt64))), .second, .val (.long (2147483639 : Int64)), .second] [])) (fun t k => XS.ifNo X7.here hx rfl (hb hby at_91) rfl ((if0 _ _).trans (tlt ((lw_gt ((2 : Int64) * ((p0 &&& (2147483647 : Int32)).toInt64)) (2147483639 : Int64)).mpr hc91_13)).2.2.2) (X7.ldc2Long hx hown (mvT hZ (own_w hw 2 rfl)) (g := (mkF m 94 #[iv p0, .val (.long q1), .second, iv p2, iv (p0 &&& (2147483647 : Int32)), .val (.long v52_5), .second, iv (F1 (p0 &&& (2147483647 : Int32)) v52_5), .val (.long ((2 : Int64) * ((p0 &&& (2147483647 : Int32)).toInt64))), .second, .unset, .unset] [])) rfl (hb hby at_94) t (XS.lstore X7.here hx rfl (hb hby at_97) rfl (l' := #[iv p0, .val (.long q1), .second, iv p2, iv (p0 &&& (2147483647 : Int32)), .val (.long v52_5), .second, iv (F1 (p0 &&& (2147483647 : Int32)) v52_5), .val (.long ((2 : Int64) * ((p0 &&& (2147483647 : Int32)).toInt64))), .second, .val (.long (2147483639 : Int64)), .second]) rfl (XS.goto X7.here hx rfl (pc0 := 99) (pc' := 106) rfl (hb hby at_99) (by decide) (by decide) k)))) ?_
          have q_v106_10 : v106_10 = (2147483639 : Int64) := by rw [hv106_10, if_neg hc75_12, if_pos hc91_13]
          rw [q_v106_10] at K106_11
          exact K106_11 _ _ X7 N7 eq7
        · refine own_step (U' := T7.setTop (mkF m 106 #[iv p0, .val (.long q1), .second, iv p2, iv (p0 &&& (2147483647 : Int32)), .val (.long v52_5), .second, iv (F1 (p0 &&& (2147483647 : Int32)) v52_5), .val (.long ((2 : Int64) * ((p0 &&& (2147483647 : Int32)).toInt64))), .second, .val (.long ((2 : Int64) * ((p0 &&& (2147483647 : Int32)).toInt64))), .second] [])) (fun t k => XS.ifYes X7.here hx rfl (pc0 := 91) (pc' := 102) rfl (hb hby at_91) rfl ((if0 _ _).trans (flt (mt (lw_gt ((2 : Int64) * ((p0 &&& (2147483647 : Int32)).toInt64)) (2147483639 : Int64)).mp hc91_13)).2.2.2) (by decide) (by decide) (XS.lload X7.here hx rfl (hb hby at_102) rfl (XS.lstore X7.here hx rfl (hb hby at_104) rfl (l' := #[iv p0, .val (.long q1), .second, iv p2, iv (p0 &&& (2147483647 : Int32)), .val (.long v52_5), .second, iv (F1 (p0 &&& (2147483647 : Int32)) v52_5), .val (.long ((2 : Int64) * ((p0 &&& (2147483647 : Int32)).toInt64))), .second, .val (.long ((2 : Int64) * ((p0 &&& (2147483647 : Int32)).toInt64))), .second]) rfl k))) ?_
          have q_v106_10 : v106_10 = ((2 : Int64) * ((p0 &&& (2147483647 : Int32)).toInt64)) := by rw [hv106_10, if_neg hc75_12, if_neg hc91_13]
          rw [q_v106_10] at K106_11
          exact K106_11 _ _ X7 N7 eq7
    by_cases hc41_14 : (2147483639 : Int64) < v35_2
    · refine own_step (U' := T3.setTop (mkF m 52 #[iv p0, .val (.long q1), .second, iv p2, iv (p0 &&& (2147483647 : Int32)), .val (.long (v35_2 - (v35_2 / (2147483640 : Int64)) * (2147483640 : Int64))), .second, .unset, .unset, .unset, .unset, .unset] [])) (fun t k => XS.ifNo X3.here hx rfl (hb hby at_41) rfl ((if0 _ _).trans (tlt ((lw_gt v35_2 (2147483639 : Int64)).mpr hc41_14)).2.2.2) (XS.lload X3.here hx rfl (hb hby at_44) rfl (X3.ldc2Long hx hown (mvT hZ (own_w hw 16 rfl)) (g := (mkF m 46 #[iv p0, .val (.long q1), .second, iv p2, iv (p0 &&& (2147483647 : Int32)), .val (.long v35_2), .second, .unset, .unset, .unset, .unset, .unset] [(.long v35_2)])) rfl (hb hby at_46) t (XS.lrem X3.here hx rfl (hb hby at_49) rfl (by decide) (XS.lstore X3.here hx rfl (hb hby at_50) rfl (l' := #[iv p0, .val (.long q1), .second, iv p2, iv (p0 &&& (2147483647 : Int32)), .val (.long (v35_2 - (v35_2 / (2147483640 : Int64)) * (2147483640 : Int64))), .second, .unset, .unset, .unset, .unset, .unset]) rfl k))))) ?_
      have q_v52_5 : v52_5 = (v35_2 - (v35_2 / (2147483640 : Int64)) * (2147483640 : Int64)) := by rw [hv52_5, if_pos hc41_14]
      rw [q_v52_5] at K52_6
      exact K52_6 _ _ X3 N3 e3
    · refine own_step (U' := T3.setTop (mkF m 52 #[iv p0, .val (.long q1), .second, iv p2, iv (p0 &&& (2147483647 : Int32)), .val (.long v35_2), .second, .unset, .unset, .unset, .unset, .unset] [])) (fun t k => XS.ifYes X3.here hx rfl (pc0 := 41) (pc' := 52) rfl (hb hby at_41) rfl ((if0 _ _).trans (flt (mt (lw_gt v35_2 (2147483639 : Int64)).mp hc41_14)).2.2.2) (by decide) (by decide) k) ?_
      have q_v52_5 : v52_5 = v35_2 := by rw [hv52_5, if_neg hc41_14]
      rw [q_v52_5] at K52_6
      exact K52_6 _ _ X3 N3 e3
  by_cases hc12_15 : (p2 &&& (1 : Int32)) = (0 : Int32)
  · refine own_step (U' := s₁.setTop (mkF m 35 #[iv p0, .val (.long q1), .second, iv p2, iv (p0 &&& (2147483647 : Int32)), .val (.long q1), .second, .unset, .unset, .unset, .unset, .unset] [])) (fun t k => XS.ifYes X0.here hx rfl (pc0 := 12) (pc' := 35) rfl (hb hby at_12) rfl ((if0 _ _).trans (teq hc12_15).1) (by decide) (by decide) k) ?_
    have q_v35_2 : v35_2 = q1 := by rw [hv35_2, if_pos hc12_15]
    rw [q_v35_2] at K35_3
    exact K35_3 _ _ X0 N0 e0
  · refine own_step (U' := s₁.setTop (mkF m 25 #[iv p0, .val (.long q1), .second, iv p2, iv (p0 &&& (2147483647 : Int32)), .val (.long q1), .second, .unset, .unset, .unset, .unset, .unset] [(.int (p2 >>> ((1 : Int32) &&& 31))), (.long ((2 : Int64) * ((p0 &&& (2147483647 : Int32)).toInt64)))])) (fun t k => XS.ifNo X0.here hx rfl (hb hby at_12) rfl ((if0 _ _).trans (feq hc12_15).1) (X0.ldc2Long hx hown (mvT hZ (own_w hw 1 rfl)) (g := (mkF m 15 #[iv p0, .val (.long q1), .second, iv p2, iv (p0 &&& (2147483647 : Int32)), .val (.long q1), .second, .unset, .unset, .unset, .unset, .unset] [])) rfl (hb hby at_15) t (XS.iload X0.here hx rfl (hb hby at_18) rfl (XS.i2l X0.here hx rfl (hb hby at_20) rfl (XS.lmul X0.here hx rfl (hb hby at_21) rfl (XS.iloadN X0.here hx rfl (hb hby at_22) rfl (XS.iconst X0.here hx rfl (hb hby at_23) (XS.ishr X0.here hx rfl (hb hby at_24) rfl k)))))))) ?_
    refine own_step (U' := s₁.setTop (mkF m 35 #[iv p0, .val (.long q1), .second, iv p2, iv (p0 &&& (2147483647 : Int32)), .val (.long ((((2 : Int64) * ((p0 &&& (2147483647 : Int32)).toInt64)) + (((p2 >>> ((1 : Int32) &&& 31)) &&& (3 : Int32)).toInt64)) - (2 : Int64))), .second, .unset, .unset, .unset, .unset, .unset] [])) (fun t k => XS.iconst X0.here hx rfl (hb hby at_25) (XS.iand X0.here hx rfl (hb hby at_26) rfl (XS.i2l X0.here hx rfl (hb hby at_27) rfl (XS.ladd X0.here hx rfl (hb hby at_28) rfl (X0.ldc2Long hx hown (mvT hZ (own_w hw 1 rfl)) (g := (mkF m 29 #[iv p0, .val (.long q1), .second, iv p2, iv (p0 &&& (2147483647 : Int32)), .val (.long q1), .second, .unset, .unset, .unset, .unset, .unset] [(.long (((2 : Int64) * ((p0 &&& (2147483647 : Int32)).toInt64)) + (((p2 >>> ((1 : Int32) &&& 31)) &&& (3 : Int32)).toInt64)))])) rfl (hb hby at_29) t (XS.lsub X0.here hx rfl (hb hby at_32) rfl (XS.lstore X0.here hx rfl (hb hby at_33) rfl (l' := #[iv p0, .val (.long q1), .second, iv p2, iv (p0 &&& (2147483647 : Int32)), .val (.long ((((2 : Int64) * ((p0 &&& (2147483647 : Int32)).toInt64)) + (((p2 >>> ((1 : Int32) &&& 31)) &&& (3 : Int32)).toInt64)) - (2 : Int64))), .second, .unset, .unset, .unset, .unset, .unset]) rfl k))))))) ?_
    have q_v35_2 : v35_2 = ((((2 : Int64) * ((p0 &&& (2147483647 : Int32)).toInt64)) + (((p2 >>> ((1 : Int32) &&& 31)) &&& (3 : Int32)).toInt64)) - (2 : Int64)) := by rw [hv35_2, if_neg hc12_15]
    rw [q_v35_2] at K35_3
    exact K35_3 _ _ X0 N0 e0
set_option maxRecDepth 65536 in
set_option maxHeartbeats 40000000 in
theorem comes_1 {Post : Tables → Env → Array Value → State → Outcome → State → Prop} (hpost : ∀ tb e args s v u, (limb_1_1.after args s (.returned v) u = true ∧ limb_1_2.after args s (.returned v) u = true ∧ True) → FrameEnd s (.returned v) u (Jvm.fieldLocs frame_1_writes args s ++ Jvm.arrayLocs frame_1_arrays args s ++ Jvm.staticLocs frame_1_statics s) 0 0 → Post tb e args s (.returned v) u) :
    ArmFor flags0 classFile x code maxLocals ret World_1 tables_1 room_1 Calls_1 rest_1 Pre_1 Post := by
  intro l hfl _ _ p e ha hc hk s m args below hf hA hF happ hP
  obtain ⟨hcalls, hrest, hpre⟩ := hP
  obtain ⟨-, -, -, hnamed, -, -, -, hat⟩ := (Spec.applies_iff hf).mp happ
  obtain ⟨hg, hn⟩ := and_e (Cond.before_iff.mp (show (Jvm.Cond.and given_1 narrow_1).before args s = true from hpre))
  obtain ⟨gc, gr0⟩ := and_e hg
  obtain ⟨ga0, gr1⟩ := and_e gr0
  obtain ⟨ga1, gr2⟩ := and_e gr1
  obtain ⟨w0, w1, w2, rfl⟩ : ∃ w0 w1 w2 : Value, args = #[w0, w1, w2] := by
    have hs : args.size = 3 := by simpa [Cond.value, given_1] using gc
    obtain ⟨L⟩ := args
    match L, hs with
    | [w0, w1, w2], _ => exact ⟨w0, w1, w2, rfl⟩
  have hw := fun d (hd : d ∈ tables_1) => atoms_spec (ws := Jvm.Cond.code x code maxLocals ret :: tables_1) hat d (List.mem_cons_of_mem _ hd)
  have hfit : Fit s := fun {y c} hc i hi => by
    obtain ⟨ha, rfl⟩ := Array.getElem?_eq_some_iff.mp hc
    have q := List.all_eq_true.mp ((Array.all_eq_true_iff_forall_mem.mp hF) _ (Array.getElem_mem ha)) i (List.mem_range.mpr hi)
    simpa [Array.getElem?_eq_getElem hi] using q
  obtain ⟨i0, ei0⟩ := is_v ga0
  obtain rfl : w0 = (.int i0) := Option.some.inj ei0
  obtain ⟨i1, ei1⟩ := isL_v ga1
  obtain rfl : w1 = (.long i1) := Option.some.inj ei1
  obtain ⟨i2, ei2⟩ := is_v gr2
  obtain rfl : w2 = (.int i2) := Option.some.inj ei2
  obtain ⟨n, o, h1, h2, h3, _, L, rfl, ⟨rfl, N⟩, hq⟩ := rm0 l s _ hw tables_1 i0 i1 i2  s.heap s.heap.size (Nat.le_refl _)  p e ha hc hk s m _ below hf ((Spec.applies_iff_loose hf).mp happ).1 ⟨rfl, State.Warmed39.refl s, rfl⟩ trivial
  refine ⟨n, _, h1, h2, h3, hpost _ _ _ _ _ _ ⟨Cond.after_iff.mpr rfl, Cond.after_iff.mpr (eq_i res_at (Term.int_eval (1)) rfl), trivial⟩ ⟨hq.1, hq.2.1, (hq.2.2.sift fun y hy => Or.inr (N y hy)).mono (by decide) (by decide)⟩⟩
theorem main_1_1 : Claimed_1_1 := comes_1 fun _ _ _ _ _ _ h hF => ⟨h.1, hF⟩
theorem main_1_2 : Claimed_1_2 := comes_1 fun _ _ _ _ _ _ h hF => ⟨h.2.1, hF⟩
end Jvm.Pilot.@@N@@
namespace Jvm.Pilot.@@N@@
open Jvm Jvm.ClassFile Sem Op Lib Jvm.Free Jvm.Stand Jvm.Pilot.@@N@@.Jvm.D
/-! MADE BY PROGRAM (witnessworld.py) out of the Statement's table words and the real class files: 10 classes; the members and pool entries that the words name. The judged class is class 1, her method 1. -/
namespace start1
open Jvm.ClassFile
def u (s : String) : CpInfo := .utf8 (stringToUtf16 s)
/-- a pool by its gaps: so many unusable entries, then the entry; so many at the end -/
def gap : Nat → List CpInfo → List CpInfo
  | 0, r => r
  | n + 1, r => .unusable :: gap n r
def poolList (es : List (Nat × CpInfo)) (last : Nat) : List CpInfo := es.foldr (fun e r => gap e.1 (e.2 :: r)) (gap last [])
def pool (es : List (Nat × CpInfo)) (last : Nat) : Array CpInfo := ⟨poolList es last⟩
def fileOf (pool : Array CpInfo) (this : Nat) (attrs : Array Attribute := #[]) (ms : Array MethodInfo := #[]) (fl : Nat := 33) (sup : Nat := 0) (ifs : Array Nat := #[]) (fds : Array FieldInfo := #[]) : ClassFile where
  minorVersion := 0
  majorVersion := 65
  constantPool := pool
  accessFlags := fl
  thisClass := this
  superClass := sup
  interfaces := ifs
  fields := fds
  methods := ms
  attributes := attrs
def plain (name : String) (sup : Option ClassId) : Class where
  name := name
  kind := .ordinary
  loader := none
  accessFlags := 33
  super := sup
  interfaces := #[]
  cf := none
  fields := #[]
  methods := #[]
  instanceTypes := #[]
  staticTypes := #[]
  resolved := #[]
  callSites := []
  init := .initialized
  statics := none
  mirror := none

def pool0 : Array CpInfo := pool [(5, u "<init>"), (0, u "()V"), (1, .class_ 10), (1, u "java/lang/Object")] 113

def k0m0 : Method := { name := "<init>", desc := "()V", sig := { parameters := [], returnType := none }, accessFlags := 1, code := none }
/-- java/lang/Object -/
def k0 : Class := { plain "java/lang/Object" none with
  accessFlags := 33
  interfaces := #[]
  cf := some (fileOf pool0 8 #[] #[{ accessFlags := 1, nameIndex := 5, descriptorIndex := 6, attributes := #[] }] 33 0 #[] #[])
  fields := #[]
  methods := #[k0m0]
  instanceTypes := #[]
  staticTypes := #[]
  resolved := Array.replicate 124 none
  statics := none }

def pool1 : Array CpInfo := pool [(2, .class_ 4), (1, u "java/lang/Object"), (0, u "<init>"), (0, u "()V"), (0, .integer 2147483647), (0, .long 2), (1, .long 2147483639), (1, .long 2147483640), (1, .methodref 15 16), (0, .class_ 17), (0, .nameAndType 18 19), (0, u "com/example/termstone/termstone/SegmentInverter"), (0, u "grownLength"), (0, u "(IJ)I"), (0, .class_ 21), (0, u "com/example/termstone/termstone/SegmentInverterGrownLengthPinLaw"), (2, u "law"), (0, u "(IJI)Z")] 3

def k1m0 : Method := { name := "<init>", desc := "()V", sig := { parameters := [], returnType := none }, accessFlags := 2, code := none }
def k1c1 : Code := { maxStack := 4, maxLocals := 12, code := code, exceptionTable := #[], attributes := #[] }
def k1m1 : Method := { name := "law", desc := "(IJI)Z", sig := { parameters := [.int, .long, .int], returnType := some .boolean }, accessFlags := 9, code := some k1c1 }
/-- com/example/termstone/termstone/SegmentInverterGrownLengthPinLaw -/
def k1 : Class := { plain "com/example/termstone/termstone/SegmentInverterGrownLengthPinLaw" (some 0) with
  accessFlags := 49
  interfaces := #[]
  cf := some (fileOf pool1 20 #[] #[{ accessFlags := 2, nameIndex := 5, descriptorIndex := 6, attributes := #[] }, { accessFlags := 9, nameIndex := 24, descriptorIndex := 25, attributes := #[] }] 49 2 #[] #[])
  fields := #[]
  methods := #[k1m0, k1m1]
  instanceTypes := #[]
  staticTypes := #[]
  resolved := Array.replicate 29 none
  statics := none }

def pool2 : Array CpInfo := pool [(1, .class_ 2), (0, u "com/example/termstone/termstone/SegmentInverter"), (3, .class_ 8), (1, u "java/lang/Object"), (0, u "<init>"), (0, u "()V"), (5, u "fields"), (0, u "Ljava/util/Map;"), (10, .class_ 29), (0, u "com/example/termstone/termstone/SegmentInverter$FieldPostings"), (54, .long 2), (74, .long 2147483639), (10, .methodref 171 172), (0, .class_ 173), (0, .nameAndType 174 175), (0, u "java/lang/Math"), (0, u "max"), (0, u "(JJ)J"), (0, .methodref 171 177), (0, .nameAndType 178 175), (0, u "min"), (3, u "I"), (10, u "ARRAY_BYTES"), (2, u "MAX_FIELD_TERMS"), (1, u "FULL_FIELD_TERMS"), (0, u "MAX_ARRAY_LENGTH"), (1, u "FULL_ARRAY_LENGTH"), (0, u "FIELD_BYTES"), (16, u "grownLength"), (0, u "(IJ)I")] 45

def k2m0 : Method := { name := "<init>", desc := "()V", sig := { parameters := [], returnType := none }, accessFlags := 0, code := none }
def k2c1 : Code := { maxStack := 6, maxLocals := 3, code := prog_47_method_9_code, exceptionTable := #[], attributes := #[] }
def k2m1 : Method := { name := "grownLength", desc := "(IJ)I", sig := { parameters := [.int, .long], returnType := some .int }, accessFlags := 8, code := some k2c1 }
/-- com/example/termstone/termstone/SegmentInverter -/
def k2 : Class := { plain "com/example/termstone/termstone/SegmentInverter" (some 0) with
  accessFlags := 48
  interfaces := #[]
  cf := some (fileOf pool2 1 #[.nestMembers #[28]] #[{ accessFlags := 0, nameIndex := 9, descriptorIndex := 10, attributes := #[] }, { accessFlags := 8, nameIndex := 219, descriptorIndex := 220, attributes := #[] }] 48 6 #[] #[{ accessFlags := 26, nameIndex := 193, descriptorIndex := 182, attributes := #[] }, { accessFlags := 26, nameIndex := 196, descriptorIndex := 182, attributes := #[] }, { accessFlags := 26, nameIndex := 198, descriptorIndex := 182, attributes := #[] }, { accessFlags := 26, nameIndex := 199, descriptorIndex := 182, attributes := #[] }, { accessFlags := 26, nameIndex := 201, descriptorIndex := 182, attributes := #[] }, { accessFlags := 26, nameIndex := 202, descriptorIndex := 182, attributes := #[] }, { accessFlags := 18, nameIndex := 16, descriptorIndex := 17, attributes := #[] }])
  fields := #[{ name := "ARRAY_BYTES", type := .int, accessFlags := 26, slot := 0, constantValue := 0 }, { name := "MAX_FIELD_TERMS", type := .int, accessFlags := 26, slot := 1, constantValue := 0 }, { name := "FULL_FIELD_TERMS", type := .int, accessFlags := 26, slot := 2, constantValue := 0 }, { name := "MAX_ARRAY_LENGTH", type := .int, accessFlags := 26, slot := 3, constantValue := 0 }, { name := "FULL_ARRAY_LENGTH", type := .int, accessFlags := 26, slot := 4, constantValue := 0 }, { name := "FIELD_BYTES", type := .int, accessFlags := 26, slot := 5, constantValue := 0 }, { name := "fields", type := (.object "java/util/Map"), accessFlags := 18, slot := 0, constantValue := 0 }]
  methods := #[k2m0, k2m1]
  instanceTypes := #[(.object "java/util/Map")]
  staticTypes := #[.int, .int, .int, .int, .int, .int]
  resolved := Array.replicate 266 none
  statics := none }

def pool3 : Array CpInfo := pool [(1, .class_ 2), (0, u "java/lang/Math"), (1, .class_ 6), (1, u "java/lang/Object"), (0, u "<init>"), (0, u "()V"), (89, .class_ 100), (1, u "java/lang/Math$RandomNumberGeneratorHolder"), (20, u "(JJ)J"), (50, u "negativeZeroFloatBits"), (0, u "J"), (2, u "negativeZeroDoubleBits"), (21, u "max"), (2, u "min"), (43, u "$assertionsDisabled"), (0, u "Z"), (91, u "twoToTheDoubleScaleDown"), (0, u "D"), (4, u "twoToTheDoubleScaleUp"), (9, u "E"), (3, u "PI"), (2, u "TAU"), (2, u "DEGREES_TO_RADIANS"), (0, u "RADIANS_TO_DEGREES")] 94

def k3m0 : Method := { name := "<init>", desc := "()V", sig := { parameters := [], returnType := none }, accessFlags := 2, code := none }
def k3c1 : Code := { maxStack := 4, maxLocals := 4, code := jdk_29_method_66_code, exceptionTable := #[], attributes := #[] }
def k3m1 : Method := { name := "max", desc := "(JJ)J", sig := { parameters := [.long, .long], returnType := some .long }, accessFlags := 9, code := some k3c1 }
def k3c2 : Code := { maxStack := 4, maxLocals := 4, code := jdk_29_method_70_code, exceptionTable := #[], attributes := #[] }
def k3m2 : Method := { name := "min", desc := "(JJ)J", sig := { parameters := [.long, .long], returnType := some .long }, accessFlags := 9, code := some k3c2 }
/-- java/lang/Math -/
def k3 : Class := { plain "java/lang/Math" (some 0) with
  accessFlags := 49
  interfaces := #[]
  cf := some (fileOf pool3 1 #[.nestMembers #[98]] #[{ accessFlags := 2, nameIndex := 7, descriptorIndex := 8, attributes := #[] }, { accessFlags := 9, nameIndex := 198, descriptorIndex := 121, attributes := #[] }, { accessFlags := 9, nameIndex := 201, descriptorIndex := 121, attributes := #[] }] 49 4 #[] #[{ accessFlags := 25, nameIndex := 354, descriptorIndex := 339, attributes := #[] }, { accessFlags := 25, nameIndex := 358, descriptorIndex := 339, attributes := #[] }, { accessFlags := 25, nameIndex := 361, descriptorIndex := 339, attributes := #[] }, { accessFlags := 26, nameIndex := 364, descriptorIndex := 339, attributes := #[] }, { accessFlags := 26, nameIndex := 365, descriptorIndex := 339, attributes := #[] }, { accessFlags := 26, nameIndex := 172, descriptorIndex := 173, attributes := #[] }, { accessFlags := 26, nameIndex := 176, descriptorIndex := 173, attributes := #[] }, { accessFlags := 8, nameIndex := 344, descriptorIndex := 339, attributes := #[] }, { accessFlags := 8, nameIndex := 338, descriptorIndex := 339, attributes := #[] }, { accessFlags := 4120, nameIndex := 245, descriptorIndex := 246, attributes := #[] }])
  fields := #[{ name := "E", type := .double, accessFlags := 25, slot := 0, constantValue := 0 }, { name := "PI", type := .double, accessFlags := 25, slot := 1, constantValue := 0 }, { name := "TAU", type := .double, accessFlags := 25, slot := 2, constantValue := 0 }, { name := "DEGREES_TO_RADIANS", type := .double, accessFlags := 26, slot := 3, constantValue := 0 }, { name := "RADIANS_TO_DEGREES", type := .double, accessFlags := 26, slot := 4, constantValue := 0 }, { name := "negativeZeroFloatBits", type := .long, accessFlags := 26, slot := 5, constantValue := 0 }, { name := "negativeZeroDoubleBits", type := .long, accessFlags := 26, slot := 6, constantValue := 0 }, { name := "twoToTheDoubleScaleUp", type := .double, accessFlags := 8, slot := 7, constantValue := 0 }, { name := "twoToTheDoubleScaleDown", type := .double, accessFlags := 8, slot := 8, constantValue := 0 }, { name := "$assertionsDisabled", type := .boolean, accessFlags := 4120, slot := 9, constantValue := 0 }]
  methods := #[k3m0, k3m1, k3m2]
  instanceTypes := #[]
  staticTypes := #[.double, .double, .double, .double, .double, .long, .long, .double, .double, .boolean]
  resolved := Array.replicate 460 none
  statics := none }

def pool4 : Array CpInfo := pool [(1, u "java/lang/Cloneable"), (0, .class_ 1), (0, u "java/lang/Object"), (0, .class_ 3)] 3

/-- java/lang/Cloneable -/
def k4 : Class := { plain "java/lang/Cloneable" (some 0) with
  accessFlags := 1537
  interfaces := #[]
  cf := some (fileOf pool4 2 #[] #[] 1537 4 #[] #[])
  fields := #[]
  methods := #[]
  instanceTypes := #[]
  staticTypes := #[]
  resolved := Array.replicate 8 none
  statics := none }

def pool5 : Array CpInfo := pool [(1, u "java/io/Serializable"), (0, .class_ 1), (0, u "java/lang/Object"), (0, .class_ 3)] 3

/-- java/io/Serializable -/
def k5 : Class := { plain "java/io/Serializable" (some 0) with
  accessFlags := 1537
  interfaces := #[]
  cf := some (fileOf pool5 2 #[] #[] 1537 4 #[] #[])
  fields := #[]
  methods := #[]
  instanceTypes := #[]
  staticTypes := #[]
  resolved := Array.replicate 8 none
  statics := none }

/-- the primitive byte -/
def k6 : Class := { plain "byte" none with kind := .primitive 'B', accessFlags := 0x411 }
/-- [B -/
def k7 : Class := { plain "[B" (some 0) with kind := .array 6 .byte, interfaces := #[4, 5], accessFlags := 1041 }

/-- the primitive int -/
def k8 : Class := { plain "int" none with kind := .primitive 'I', accessFlags := 0x411 }
/-- [I -/
def k9 : Class := { plain "[I" (some 0) with kind := .array 8 .int, interfaces := #[4, 5], accessFlags := 1041 }

def heap : Heap := #[]
def classes : Array Class := #[k0, k1, k2, k3, k4, k5, k6, k7, k8, k9]
def interned : List (Array UInt16 × Addr) := []
def slotsUsed : Nat := 0
def theMethod : MethodId := ⟨1, 1⟩
def args0 : Array Value := #[.int 5, .long 6, .int 7]
def aboutOver (below : List Frame) : State where
  vm := { classes := classes, interned := interned.toArray }
  heap := heap
  slotsUsed := slotsUsed
  threads := #[{ frames := .invoking theMethod args0 :: below }]
def below0 : List Frame := [.native { method := ⟨0, 0⟩, args := #[] }]
def about1 : State := aboutOver below0
def p0 : Program := .bare "" "" ""
def e0 : Env := launch0.env 0 0 0
theorem w_frames : about1.frames = Frame.invoking theMethod args0 :: below0 := rfl
set_option maxRecDepth 65536 in
theorem w_args : argsFit about1.vm theMethod args0 = true := by decide +kernel
set_option maxRecDepth 65536 in
theorem w_heap : heapFits about1 = true := by decide +kernel
set_option maxRecDepth 65536 in
theorem w_runnable : about1.curStatus? = some .runnable := by decide +kernel
set_option maxRecDepth 65536 in
theorem w_alone : about1.alone = true := by decide +kernel
set_option maxRecDepth 65536 in
theorem w_named : about1.methodNamed? x = some theMethod := by decide +kernel
set_option maxRecDepth 65536 in
theorem w_hears : about1.hears theMethod below0 = true := by decide +kernel
set_option maxRecDepth 65536 in
theorem w_ripe : about1.ripe theMethod args0 below0 = true := by decide +kernel
theorem w_running : about1.status = .running := rfl
set_option maxRecDepth 65536 in
theorem w_room : about1.hasRoom e0.platform room_1 = true :=
  launch0.hasRoom_least _ room_1 (by decide +kernel) (by decide +kernel) (by decide +kernel) (by decide +kernel) (by decide +kernel) (by decide +kernel)
theorem allAtoms_all (ts : List Jvm.Cond) (a : Array Jvm.Value) (st : Jvm.State) : (allAtoms ts).before a st = ts.all (fun c => c.before a st) := by
  induction ts with
  | nil => rfl
  | cons c t ih =>
    show (Jvm.Cond.and c (allAtoms t)).before a st = _
    rw [Jvm.Cond.before_and, ih, List.all_cons]
def words1 : List Jvm.Cond := Jvm.Cond.code x code maxLocals ret :: tables_1
/-- a 'code' word, met by the world's own term for the bytes: nothing is compared byte by byte -/
theorem code_word {y : MethodName} {bytes : ByteArray} {mx : Nat} {rt : Option FieldType} {a : Array Value} {s : State} {m : MethodId} {meth : Method} {c : Code} (h1 : s.methodNamed? y = some m) (h2 : s.vm.method? m = some meth) (h3 : meth.code = some c) (h4 : c.code = bytes)
    (h5 : (c.maxLocals == mx && c.exceptionTable.isEmpty && decide (c.maxStack ≤ mostOperands) && decide (meth.sig.returnType = rt) && !meth.locks && decide (parseMethodDescriptor y.desc = some meth.sig)) = true) : (Jvm.Cond.code y bytes mx rt).before a s = true := by
  simp only [Bool.and_eq_true, beq_iff_eq, Bool.not_eq_true', decide_eq_true_eq] at h5
  obtain ⟨⟨⟨⟨⟨g1, g2⟩, g3⟩, g4⟩, g5⟩, g6⟩ := h5
  simp [Cond.before, Cond.holds, Cond.value, h1, h2, h3, h4, g1, g2, g3, g4, g5, g6]
def isCode : Jvm.Cond → Bool
  | .code _ _ _ _ => true
  | _ => false
theorem all_split {L : List Jvm.Cond} {P : Jvm.Cond → Bool} (h1 : L.all (fun c => isCode c || P c) = true) (h2 : ∀ c ∈ L.filter isCode, P c = true) : L.all P = true := by
  refine List.all_eq_true.mpr fun c hc => ?_
  have h := List.all_eq_true.mp h1 c hc
  rcases Bool.eq_false_or_eq_true (isCode c) with hi | hi
  · exact h2 c (List.mem_filter.mpr ⟨hc, hi⟩)
  · simpa [hi] using h
set_option maxRecDepth 65536 in
theorem w_c0 : (Jvm.Cond.code x code maxLocals ret).before args0 about1 = true := code_word (m := ⟨1, 1⟩) (meth := k1m1) (c := k1c1) (by decide +kernel) rfl rfl rfl (by decide +kernel)
set_option maxRecDepth 65536 in
theorem w_c1 : (Jvm.Cond.code ({ cls := "com/example/termstone/termstone/SegmentInverter", name := "grownLength", desc := "(IJ)I" } : Jvm.MethodName) prog_47_method_9_code (3 : Nat) (Option.some Jvm.ClassFile.FieldType.int)).before args0 about1 = true := code_word (m := ⟨2, 1⟩) (meth := k2m1) (c := k2c1) (by decide +kernel) rfl rfl rfl (by decide +kernel)
set_option maxRecDepth 65536 in
theorem w_c2 : (Jvm.Cond.code ({ cls := "java/lang/Math", name := "max", desc := "(JJ)J" } : Jvm.MethodName) jdk_29_method_66_code (4 : Nat) (Option.some Jvm.ClassFile.FieldType.long)).before args0 about1 = true := code_word (m := ⟨3, 1⟩) (meth := k3m1) (c := k3c1) (by decide +kernel) rfl rfl rfl (by decide +kernel)
set_option maxRecDepth 65536 in
theorem w_c3 : (Jvm.Cond.code ({ cls := "java/lang/Math", name := "min", desc := "(JJ)J" } : Jvm.MethodName) jdk_29_method_70_code (4 : Nat) (Option.some Jvm.ClassFile.FieldType.long)).before args0 about1 = true := code_word (m := ⟨3, 2⟩) (meth := k3m2) (c := k3c2) (by decide +kernel) rfl rfl rfl (by decide +kernel)
def codes1 : List Jvm.Cond := [Jvm.Cond.code x code maxLocals ret, Jvm.Cond.code ({ cls := "com/example/termstone/termstone/SegmentInverter", name := "grownLength", desc := "(IJ)I" } : Jvm.MethodName) prog_47_method_9_code (3 : Nat) (Option.some Jvm.ClassFile.FieldType.int), Jvm.Cond.code ({ cls := "java/lang/Math", name := "max", desc := "(JJ)J" } : Jvm.MethodName) jdk_29_method_66_code (4 : Nat) (Option.some Jvm.ClassFile.FieldType.long), Jvm.Cond.code ({ cls := "java/lang/Math", name := "min", desc := "(JJ)J" } : Jvm.MethodName) jdk_29_method_70_code (4 : Nat) (Option.some Jvm.ClassFile.FieldType.long)]
set_option maxRecDepth 65536 in
theorem codes_eq : words1.filter isCode = codes1 := rfl
theorem w_codes : ∀ c ∈ words1.filter isCode, c.before args0 about1 = true := by
  rw [codes_eq]
  intro c hc
  simp only [codes1, List.mem_cons, List.not_mem_nil, or_false] at hc
  rcases hc with rfl | rfl | rfl | rfl
  · exact w_c0
  · exact w_c1
  · exact w_c2
  · exact w_c3
set_option maxRecDepth 65536 in
theorem w_t1 : words1.all (fun c => isCode c || c.before args0 about1) = true := by decide +kernel
theorem w_tables : (allAtoms (Jvm.Cond.code x code maxLocals ret :: tables_1)).before args0 about1 = true := by
  rw [allAtoms_all]
  show words1.all (fun c => c.before args0 about1) = true
  refine all_split ?_ w_codes
  rw [w_t1]
set_option maxRecDepth 65536 in
theorem w_case : (Jvm.Cond.and given_1 narrow_1).before args0 about1 = true := by decide +kernel
theorem w_applies : (headSpec (Jvm.Cond.code x code maxLocals ret :: tables_1) room_1).applies x e0.platform about1 = true :=
  (Spec.applies_iff w_frames).mpr ⟨w_running, w_runnable, w_alone, w_named, w_hears, w_ripe, w_room, w_tables⟩
theorem atStart : AtStart classFile x code maxLocals ret World_1 tables_1 room_1 Calls_1 rest_1 Pre_1 launch0 p0 e0 about1 theMethod args0 below0 :=
  ⟨lists_1, trivial, launch0.admits_env _ _ _, launch0.least_env, fairChoices_fair.cas, fairChoices_fair.clock, w_frames, w_args, w_heap, w_applies, trivial, trivial, w_case⟩
end start1
theorem witness_1 : WitnessClaimed_1 := ⟨start1.p0, start1.e0, start1.about1, start1.theMethod, start1.args0, start1.below0, start1.atStart⟩
end Jvm.Pilot.@@N@@
