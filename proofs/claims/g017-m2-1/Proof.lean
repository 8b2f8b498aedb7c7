import JvmDerived
import JvmDerived.Pilot.@@N@@Statement
import JvmDerived.Pilot.@@N@@Code
set_option linter.unusedVariables false
set_option linter.unusedSimpArgs false
namespace Jvm.RoadKit
open Sem ClassFile Op Lib Jvm.Stand Jvm.Free Jvm.LawKit
section New
variable {p : Program} {l : Launch} {e : Env} {R : Room} {s : State} {m : MethodId} {args : Array Value} {below : List Frame} {meth : Method} {c : Code} {T : State} {locs : List Loc} {cells slots : Nat}
theorem retI (X : Stand p l e R s m args below meth c T locs cells slots) (hx : p.tables.exec = Jvm.exec) {pc : Nat} {Ls : Array Slot} {z : Int32} {rest : List Value} (hret : meth.sig.returnType = some .int) (hd : decode c.code pc = .ok (.ireturn, 1)) {fs : List Frame}
    (hl : ∀ (f : JFrame) (acts : List Action), f.method = m → f.locked = none → f.entered = [] → (doReturn e (T.setTop f) acts (some (.int z))).1 = T.setFrames fs) : Steps p.tables e below (T.setTop (mkF m pc Ls (.int z :: rest))) (T.setFrames fs) := by
  have hm' : T.vm.method? m = some meth := X.method'
  have hn : narrow .int (.int z) = .int z := rfl
  show Steps p.tables e below (T.setTop { method := m, pc := pc, locals := Ls, stack := _ :: rest, locked := none }) _
  jvm_step X.here [X.here.top, hx, hd, hm', hret, hn]
  first | (intro acts; rw [hl _ acts rfl rfl rfl]) | rw [hl _ _ rfl rfl rfl]
  exact Steps.refl _
end New
end Jvm.RoadKit
namespace Jvm.Pilot.@@N@@
open Jvm Jvm.ClassFile Sem Op Lib Jvm.Free Jvm.Stand Jvm.LawKit Jvm.RoadKit Bundle Jvm.Pilot.@@N@@.Jvm.D
theorem own_w {a0 : Array Value} {Z : State} (hw : ∀ d ∈ tables_1, d.before a0 Z = true) (i : Nat) {d : Jvm.Cond} (h : tables_1[i]? = some d) : d.before a0 Z = true := hw d (List.mem_of_getElem? h)
/-- from U the run comes to the method's end, and Q holds there -/
def own_Go (tb : Tables) (e : Env) (below : List Frame) (s : State) (C N : Nat) (Q : Option Value → Heap → List Loc → Prop) (U : State) : Prop :=
  ∃ t o, Steps tb e below U t ∧ t.status = .running ∧ Ended t below o ∧ ∃ v L, o = .returned v ∧ Q v t.heap L ∧ FrameEnd s o t L C N
theorem own_step {tb : Tables} {e : Env} {below : List Frame} {s : State} {C N : Nat} {Q : Option Value → Heap → List Loc → Prop} {U U' : State} (h : ∀ t, Steps tb e below U' t → Steps tb e below U t) (k : own_Go tb e below s C N Q U') : own_Go tb e below s C N Q U := by
  obtain ⟨t, o, h1, h2⟩ := k
  exact ⟨t, o, h t h1, h2⟩
theorem own_steps {tb : Tables} {e : Env} {below : List Frame} {s : State} {C N : Nat} {Q : Option Value → Heap → List Loc → Prop} {U U' : State} (h : Steps tb e below U U') (k : own_Go tb e below s C N Q U') : own_Go tb e below s C N Q U := own_step (fun _ q => h.trans q) k
theorem own_out {p : Program} {l : Launch} {e : Env} {R : Room} {s : State} {m : MethodId} {args : Array Value} {below : List Frame} {meth : Method} {c : Code} {T : State} {locs : List Loc} {cells slots : Nat} (X : Stand p l e R s m args below meth c T locs cells slots) {v : Option Value}
    (hlk : meth.locks = false) (hv : meth.sig.returnType = none → v = none) {C N : Nat} {Q : Option Value → Heap → List Loc → Prop} (hQ : Q v T.heap locs) (hC : cells ≤ C) (hN : slots ≤ N) {U : State}
    (k : ∀ fs, (∀ (f : JFrame) (acts : List Action), f.method = m → f.locked = none → f.entered = [] → (doReturn e (T.setTop f) acts v).1 = T.setFrames fs) → Steps p.tables e below U (T.setFrames fs)) : own_Go p.tables e below s C N Q U := by
  obtain ⟨fs, hr, hrun, hended, hW, hsame⟩ := X.leave hv hlk
  exact ⟨_, _, k fs hr, hrun, hended, _, _, rfl, hQ, ⟨_, rfl⟩, hW, hsame.mono hC hN⟩
theorem own_exaP {Z : State} {h : Heap} {a : Addr} {C : String} (E : Exa Z h a C) : ∀ c : Cell, h[a]? = some c → c.vm.isStatics = false := fun c hc => by
  obtain ⟨cell, k, h1, -, -, h4, -⟩ := E
  cases h1.symm.trans hc; exact h4
theorem own_staK {Z : State} {h h' : Heap} {C n d : String} {v : Value} {ws : List Addr} (S : Sta Z h C n d v) (K : Keep h h' ws) (q : ∀ w ∈ ws, ∀ c : Cell, h[w]? = some c → c.vm.isStatics = false) : Sta Z h' C n d v := by
  obtain ⟨cf, i, k, f, st, cell, h1, h2, h3, h4, h5, h6, h7⟩ := S
  exact ⟨cf, i, k, f, st, cell, h1, h2, h3, h4, K.2.1 st cell h5 (fun z => by have := q st z cell h5; rw [h6] at this; cases this), h6, h7⟩
theorem own_anyF {Z : State} {a0 : Array Value} {h : Heap} {a : Addr} {C O n d O' n' d' : String} {v' : Value} {k : Nat} (E : Exa Z h a C) (F : Fld Z h a O' n' d' v') (wi : (Cond.instantiable C k).before a0 Z = true) (L : Laid Z a0 C O n d) : ∃ v, Fld Z h a O n d v :=
  fld_laid E (by obtain ⟨cell, _, _, _, _, h1, _, _, h4, _⟩ := F; exact ⟨cell, h1, h4⟩) wi L
theorem own_nv {meth : Method} {t : FieldType} (h : meth.sig.returnType = some t) {v : Option Value} : meth.sig.returnType = none → v = none := fun q => by rw [h] at q; cases q
theorem pd__I_Z : parseMethodDescriptor "(I)Z" = some ⟨[.int], some .boolean⟩ := by decide +kernel
theorem pd__I_I : parseMethodDescriptor "(I)I" = some ⟨[.int], some .int⟩ := by decide +kernel
theorem d1_0 : decode prog_42_method_4_code 0 = .ok (.iload_n 0, 1) := by decide +kernel
theorem d1_1 : decode prog_42_method_4_code 1 = .ok (.ifCond .lt 13, 3) := by decide +kernel
theorem d1_4 : decode prog_42_method_4_code 4 = .ok (.iload_n 0, 1) := by decide +kernel
theorem d1_5 : decode prog_42_method_4_code 5 = .ok (.ldc 46, 2) := by decide +kernel
theorem d1_7 : decode prog_42_method_4_code 7 = .ok (.if_icmp .gt 7, 3) := by decide +kernel
theorem d1_10 : decode prog_42_method_4_code 10 = .ok (.iconst 1, 1) := by decide +kernel
theorem d1_11 : decode prog_42_method_4_code 11 = .ok (.goto 4, 3) := by decide +kernel
theorem d1_14 : decode prog_42_method_4_code 14 = .ok (.iconst 0, 1) := by decide +kernel
theorem d1_15 : decode prog_42_method_4_code 15 = .ok (.ireturn, 1) := by decide +kernel
theorem pn_1 : plainName "com/example/catchwire/catchwire/disk/LogRecord" = true := by first | (simp [plainName, overriddenIn]; done) | decide +kernel
theorem ef_1 (m : MethodId) (p0 : Int32) : entryFrame m #[(.int p0)] 1 = mkF m 0 #[iv p0] [] := by first | (simp [entryFrame, mkF, argsToLocals, Value.category]; done) | rfl
def F1 (p0 : Int32) : Int32 :=
  if p0 < (0 : Int32) then
    (0 : Int32)
  else
    if (4194304 : Int32) < p0 then
      (0 : Int32)
    else
      (1 : Int32)
def Q1 (Z : State) (p0 : Int32) (h0 : Heap) (n0 : Nat) (v : Option Value) (h : Heap) (L : List Loc) : Prop := v = some (.int (F1 p0)) ∧ Fr n0 L ∧ h = h0
set_option maxRecDepth 65536 in
set_option maxHeartbeats 40000000 in
theorem rm1 (l : Launch) (Z : State) (a0 : Array Value) (hw : ∀ d ∈ tables_1, d.before a0 Z = true) (ws : List Jvm.Cond) (p0 : Int32) (h0 : Heap) (n0 : Nat) (Z0 : n0 ≤ h0.size) :
    MetFree l (⟨"com/example/catchwire/catchwire/disk/LogRecord", "isPossibleLength", "(I)Z"⟩ : MethodName) (head1 (Jvm.Cond.code (⟨"com/example/catchwire/catchwire/disk/LogRecord", "isPossibleLength", "(I)Z"⟩ : MethodName) prog_42_method_4_code 1 (some .boolean) :: ws) ({ frames := 0, cells := 0, slots := 0, locals := 0 } : Room)) (fun a U => a = #[(.int p0)] ∧ Z.Warmed39 U.vm ∧ U.heap = h0) (fun _ _ _ _ _ => True) (fun _ U o U' => ∃ v L, o = .returned v ∧ Q1 Z p0 h0 n0 v U'.heap L ∧ FrameEnd U o U' L ({ frames := 0, cells := 0, slots := 0, locals := 0 } : Room).cells ({ frames := 0, cells := 0, slots := 0, locals := 0 } : Room).slots) := by
  refine MetFree.of_bodySF (plainFor_of_name pn_1) hisR ?_
  intro p e s m args below meth c s₁ Bd hml0 hP hK
  obtain ⟨rfl, hZ, hh⟩ := hP
  have hx := Bd.exec
  have hby := Bd.bytes
  have hml : c.maxLocals = 1 := hml0
  have hown : s.vm.findClass "com/example/catchwire/catchwire/disk/LogRecord" = some m.cls := findClass_of_methodNamed Bd.named
  have hnm := (name_of_methodNamed Bd.named Bd.method).1
  have hlk : meth.locks = false := Bd.notSynchronized
  have X0 : Stand p l e ({ frames := 0, cells := 0, slots := 0, locals := 0 } : Room) s m #[(.int p0)] below meth c s₁ [] 0 0 := Stand.of_body Bd
  have e0 : s₁.heap = h0 := by rw [← hh, Bd.state]; rfl
  have N0 := Fr.nil n0
  have KK0 := Keep.refl h0 []
  show own_Go p.tables e below s 0 0 (Q1 Z p0 h0 n0) (s₁.setTop (entryFrame m #[(.int p0)] 1))
  rw [ef_1]
  refine own_step (U' := s₁.setTop (mkF m 1 #[iv p0] [(.int p0)])) (fun t k => XS.iloadN X0.here hx rfl (hb hby d1_0) rfl k) ?_
  by_cases hc1_1 : p0 < (0 : Int32)
  · refine own_step (U' := s₁.setTop (mkF m 15 #[iv p0] [(.int (0 : Int32))])) (fun t k => XS.ifYes X0.here hx rfl (pc0 := 1) (pc' := 14) rfl (hb hby d1_1) rfl ((if0 _ _).trans (tlt hc1_1).1) (by decide) (by decide) (XS.iconst X0.here hx rfl (hb hby d1_14) k)) ?_
    exact own_out X0 (v := (some (.int (0 : Int32)))) hlk (own_nv Bd.returns) (by rw [e0]; exact ⟨by rw [show (F1 p0) = (0 : Int32) from (by simp only [F1, if_pos hc1_1])], N0, rfl⟩) (by decide) (by decide) (fun fs hr => retN X0 hx (t := .boolean) Bd.returns (by simp) (hb hby d1_15) hr)
  · refine own_step (U' := s₁.setTop (mkF m 7 #[iv p0] [(.int (4194304 : Int32)), (.int p0)])) (fun t k => XS.ifNo X0.here hx rfl (hb hby d1_1) rfl ((if0 _ _).trans (flt hc1_1).1) (XS.iloadN X0.here hx rfl (hb hby d1_4) rfl (X0.ldcInt hx hown (mvT hZ (own_w hw 5 rfl)) (g := (mkF m 5 #[iv p0] [(.int p0)])) rfl (hb hby d1_5) t k))) ?_
    by_cases hc7_2 : (4194304 : Int32) < p0
    · refine own_step (U' := s₁.setTop (mkF m 15 #[iv p0] [(.int (0 : Int32))])) (fun t k => XS.icmpYes X0.here hx rfl (pc0 := 7) (pc' := 14) rfl (hb hby d1_7) rfl (tlt hc7_2).2.2.1 (by decide) (by decide) (XS.iconst X0.here hx rfl (hb hby d1_14) k)) ?_
      exact own_out X0 (v := (some (.int (0 : Int32)))) hlk (own_nv Bd.returns) (by rw [e0]; exact ⟨by rw [show (F1 p0) = (0 : Int32) from (by simp only [F1, if_neg hc1_1, if_pos hc7_2])], N0, rfl⟩) (by decide) (by decide) (fun fs hr => retN X0 hx (t := .boolean) Bd.returns (by simp) (hb hby d1_15) hr)
    · refine own_step (U' := s₁.setTop (mkF m 15 #[iv p0] [(.int (1 : Int32))])) (fun t k => XS.icmpNo X0.here hx rfl (hb hby d1_7) rfl (flt hc7_2).2.2.1 (XS.iconst X0.here hx rfl (hb hby d1_10) (XS.goto X0.here hx rfl (pc0 := 11) (pc' := 15) rfl (hb hby d1_11) (by decide) (by decide) k))) ?_
      exact own_out X0 (v := (some (.int (1 : Int32)))) hlk (own_nv Bd.returns) (by rw [e0]; exact ⟨by rw [show (F1 p0) = (1 : Int32) from (by simp only [F1, if_neg hc1_1, if_neg hc7_2])], N0, rfl⟩) (by decide) (by decide) (fun fs hr => retN X0 hx (t := .boolean) Bd.returns (by simp) (hb hby d1_15) hr)
theorem d2_0 : decode method_2_code 0 = .ok (.iload_n 0, 1) := by decide +kernel
theorem d2_1 : decode method_2_code 1 = .ok (.ifCond .lt 13, 3) := by decide +kernel
theorem d2_4 : decode method_2_code 4 = .ok (.iload_n 0, 1) := by decide +kernel
theorem d2_5 : decode method_2_code 5 = .ok (.ldc 7, 2) := by decide +kernel
theorem d2_7 : decode method_2_code 7 = .ok (.if_icmp .gt 7, 3) := by decide +kernel
theorem d2_10 : decode method_2_code 10 = .ok (.iconst 1, 1) := by decide +kernel
theorem d2_11 : decode method_2_code 11 = .ok (.goto 4, 3) := by decide +kernel
theorem d2_14 : decode method_2_code 14 = .ok (.iconst 0, 1) := by decide +kernel
theorem d2_15 : decode method_2_code 15 = .ok (.ireturn, 1) := by decide +kernel
theorem pn_2 : plainName "com/example/catchwire/catchwire/disk/LogRecordIsPossibleLengthPinLaw" = true := by first | (simp [plainName, overriddenIn]; done) | decide +kernel
theorem ef_2 (m : MethodId) (p0 : Int32) : entryFrame m #[(.int p0)] 1 = mkF m 0 #[iv p0] [] := by first | (simp [entryFrame, mkF, argsToLocals, Value.category]; done) | rfl
def F2 (p0 : Int32) : Int32 :=
  if p0 < (0 : Int32) then
    (0 : Int32)
  else
    if (4194304 : Int32) < p0 then
      (0 : Int32)
    else
      (1 : Int32)
def Q2 (Z : State) (p0 : Int32) (h0 : Heap) (n0 : Nat) (v : Option Value) (h : Heap) (L : List Loc) : Prop := v = some (.int (F2 p0)) ∧ Fr n0 L ∧ h = h0
set_option maxRecDepth 65536 in
set_option maxHeartbeats 40000000 in
theorem rm2 (l : Launch) (Z : State) (a0 : Array Value) (hw : ∀ d ∈ tables_1, d.before a0 Z = true) (ws : List Jvm.Cond) (p0 : Int32) (h0 : Heap) (n0 : Nat) (Z0 : n0 ≤ h0.size) :
    MetFree l (⟨"com/example/catchwire/catchwire/disk/LogRecordIsPossibleLengthPinLaw", "reference", "(I)Z"⟩ : MethodName) (head1 (Jvm.Cond.code (⟨"com/example/catchwire/catchwire/disk/LogRecordIsPossibleLengthPinLaw", "reference", "(I)Z"⟩ : MethodName) method_2_code 1 (some .boolean) :: ws) ({ frames := 0, cells := 0, slots := 0, locals := 0 } : Room)) (fun a U => a = #[(.int p0)] ∧ Z.Warmed39 U.vm ∧ U.heap = h0) (fun _ _ _ _ _ => True) (fun _ U o U' => ∃ v L, o = .returned v ∧ Q2 Z p0 h0 n0 v U'.heap L ∧ FrameEnd U o U' L ({ frames := 0, cells := 0, slots := 0, locals := 0 } : Room).cells ({ frames := 0, cells := 0, slots := 0, locals := 0 } : Room).slots) := by
  refine MetFree.of_bodySF (plainFor_of_name pn_2) hisR ?_
  intro p e s m args below meth c s₁ Bd hml0 hP hK
  obtain ⟨rfl, hZ, hh⟩ := hP
  have hx := Bd.exec
  have hby := Bd.bytes
  have hml : c.maxLocals = 1 := hml0
  have hown : s.vm.findClass "com/example/catchwire/catchwire/disk/LogRecordIsPossibleLengthPinLaw" = some m.cls := findClass_of_methodNamed Bd.named
  have hnm := (name_of_methodNamed Bd.named Bd.method).1
  have hlk : meth.locks = false := Bd.notSynchronized
  have X0 : Stand p l e ({ frames := 0, cells := 0, slots := 0, locals := 0 } : Room) s m #[(.int p0)] below meth c s₁ [] 0 0 := Stand.of_body Bd
  have e0 : s₁.heap = h0 := by rw [← hh, Bd.state]; rfl
  have N0 := Fr.nil n0
  have KK0 := Keep.refl h0 []
  show own_Go p.tables e below s 0 0 (Q2 Z p0 h0 n0) (s₁.setTop (entryFrame m #[(.int p0)] 1))
  rw [ef_2]
  refine own_step (U' := s₁.setTop (mkF m 1 #[iv p0] [(.int p0)])) (fun t k => XS.iloadN X0.here hx rfl (hb hby d2_0) rfl k) ?_
  by_cases hc1_1 : p0 < (0 : Int32)
  · refine own_step (U' := s₁.setTop (mkF m 15 #[iv p0] [(.int (0 : Int32))])) (fun t k => XS.ifYes X0.here hx rfl (pc0 := 1) (pc' := 14) rfl (hb hby d2_1) rfl ((if0 _ _).trans (tlt hc1_1).1) (by decide) (by decide) (XS.iconst X0.here hx rfl (hb hby d2_14) k)) ?_
    exact own_out X0 (v := (some (.int (0 : Int32)))) hlk (own_nv Bd.returns) (by rw [e0]; exact ⟨by rw [show (F2 p0) = (0 : Int32) from (by simp only [F2, if_pos hc1_1])], N0, rfl⟩) (by decide) (by decide) (fun fs hr => retN X0 hx (t := .boolean) Bd.returns (by simp) (hb hby d2_15) hr)
  · refine own_step (U' := s₁.setTop (mkF m 7 #[iv p0] [(.int (4194304 : Int32)), (.int p0)])) (fun t k => XS.ifNo X0.here hx rfl (hb hby d2_1) rfl ((if0 _ _).trans (flt hc1_1).1) (XS.iloadN X0.here hx rfl (hb hby d2_4) rfl (X0.ldcInt hx hown (mvT hZ (own_w hw 0 rfl)) (g := (mkF m 5 #[iv p0] [(.int p0)])) rfl (hb hby d2_5) t k))) ?_
    by_cases hc7_2 : (4194304 : Int32) < p0
    · refine own_step (U' := s₁.setTop (mkF m 15 #[iv p0] [(.int (0 : Int32))])) (fun t k => XS.icmpYes X0.here hx rfl (pc0 := 7) (pc' := 14) rfl (hb hby d2_7) rfl (tlt hc7_2).2.2.1 (by decide) (by decide) (XS.iconst X0.here hx rfl (hb hby d2_14) k)) ?_
      exact own_out X0 (v := (some (.int (0 : Int32)))) hlk (own_nv Bd.returns) (by rw [e0]; exact ⟨by rw [show (F2 p0) = (0 : Int32) from (by simp only [F2, if_neg hc1_1, if_pos hc7_2])], N0, rfl⟩) (by decide) (by decide) (fun fs hr => retN X0 hx (t := .boolean) Bd.returns (by simp) (hb hby d2_15) hr)
    · refine own_step (U' := s₁.setTop (mkF m 15 #[iv p0] [(.int (1 : Int32))])) (fun t k => XS.icmpNo X0.here hx rfl (hb hby d2_7) rfl (flt hc7_2).2.2.1 (XS.iconst X0.here hx rfl (hb hby d2_10) (XS.goto X0.here hx rfl (pc0 := 11) (pc' := 15) rfl (hb hby d2_11) (by decide) (by decide) k))) ?_
      exact own_out X0 (v := (some (.int (1 : Int32)))) hlk (own_nv Bd.returns) (by rw [e0]; exact ⟨by rw [show (F2 p0) = (1 : Int32) from (by simp only [F2, if_neg hc1_1, if_neg hc7_2])], N0, rfl⟩) (by decide) (by decide) (fun fs hr => retN X0 hx (t := .boolean) Bd.returns (by simp) (hb hby d2_15) hr)
theorem d3_0 : decode prog_42_method_3_code 0 = .ok (.iconst 4, 1) := by decide +kernel
theorem d3_1 : decode prog_42_method_3_code 1 = .ok (.iload_n 0, 1) := by decide +kernel
theorem d3_2 : decode prog_42_method_3_code 2 = .ok (.iadd, 1) := by decide +kernel
theorem d3_3 : decode prog_42_method_3_code 3 = .ok (.iconst 4, 1) := by decide +kernel
theorem d3_4 : decode prog_42_method_3_code 4 = .ok (.iadd, 1) := by decide +kernel
theorem d3_5 : decode prog_42_method_3_code 5 = .ok (.ireturn, 1) := by decide +kernel
theorem pn_3 : plainName "com/example/catchwire/catchwire/disk/LogRecord" = true := by first | (simp [plainName, overriddenIn]; done) | decide +kernel
theorem ef_3 (m : MethodId) (p0 : Int32) : entryFrame m #[(.int p0)] 1 = mkF m 0 #[iv p0] [] := by first | (simp [entryFrame, mkF, argsToLocals, Value.category]; done) | rfl
def F3 (p0 : Int32) : Int32 :=
  (((4 : Int32) + p0) + (4 : Int32))
def Q3 (Z : State) (p0 : Int32) (h0 : Heap) (n0 : Nat) (v : Option Value) (h : Heap) (L : List Loc) : Prop := v = some (.int (F3 p0)) ∧ Fr n0 L ∧ h = h0
set_option maxRecDepth 65536 in
set_option maxHeartbeats 40000000 in
theorem rm3 (l : Launch) (Z : State) (a0 : Array Value) (hw : ∀ d ∈ tables_1, d.before a0 Z = true) (ws : List Jvm.Cond) (p0 : Int32) (h0 : Heap) (n0 : Nat) (Z0 : n0 ≤ h0.size) :
    MetFree l (⟨"com/example/catchwire/catchwire/disk/LogRecord", "size", "(I)I"⟩ : MethodName) (head1 (Jvm.Cond.code (⟨"com/example/catchwire/catchwire/disk/LogRecord", "size", "(I)I"⟩ : MethodName) prog_42_method_3_code 1 (some .int) :: ws) ({ frames := 0, cells := 0, slots := 0, locals := 0 } : Room)) (fun a U => a = #[(.int p0)] ∧ Z.Warmed39 U.vm ∧ U.heap = h0) (fun _ _ _ _ _ => True) (fun _ U o U' => ∃ v L, o = .returned v ∧ Q3 Z p0 h0 n0 v U'.heap L ∧ FrameEnd U o U' L ({ frames := 0, cells := 0, slots := 0, locals := 0 } : Room).cells ({ frames := 0, cells := 0, slots := 0, locals := 0 } : Room).slots) := by
  refine MetFree.of_bodySF (plainFor_of_name pn_3) hisR ?_
  intro p e s m args below meth c s₁ Bd hml0 hP hK
  obtain ⟨rfl, hZ, hh⟩ := hP
  have hx := Bd.exec
  have hby := Bd.bytes
  have hml : c.maxLocals = 1 := hml0
  have hown : s.vm.findClass "com/example/catchwire/catchwire/disk/LogRecord" = some m.cls := findClass_of_methodNamed Bd.named
  have hnm := (name_of_methodNamed Bd.named Bd.method).1
  have hlk : meth.locks = false := Bd.notSynchronized
  have X0 : Stand p l e ({ frames := 0, cells := 0, slots := 0, locals := 0 } : Room) s m #[(.int p0)] below meth c s₁ [] 0 0 := Stand.of_body Bd
  have e0 : s₁.heap = h0 := by rw [← hh, Bd.state]; rfl
  have N0 := Fr.nil n0
  have KK0 := Keep.refl h0 []
  show own_Go p.tables e below s 0 0 (Q3 Z p0 h0 n0) (s₁.setTop (entryFrame m #[(.int p0)] 1))
  rw [ef_3]
  refine own_step (U' := s₁.setTop (mkF m 5 #[iv p0] [(.int (((4 : Int32) + p0) + (4 : Int32)))])) (fun t k => XS.iconst X0.here hx rfl (hb hby d3_0) (XS.iloadN X0.here hx rfl (hb hby d3_1) rfl (XS.iadd X0.here hx rfl (hb hby d3_2) rfl (XS.iconst X0.here hx rfl (hb hby d3_3) (XS.iadd X0.here hx rfl (hb hby d3_4) rfl k))))) ?_
  exact own_out X0 (v := (some (.int (((4 : Int32) + p0) + (4 : Int32))))) hlk (own_nv Bd.returns) (by rw [e0]; exact ⟨by rw [show (F3 p0) = (((4 : Int32) + p0) + (4 : Int32)) from (by simp only [F3])], N0, rfl⟩) (by decide) (by decide) (fun fs hr => retI X0 hx Bd.returns (hb hby d3_5) hr)

theorem own_same (x : Int32) : F1 x = F2 x := rfl
theorem own_ok {x y z v : Int32} (h : v = (if (F1 x) = (F2 x) then (if (F1 y) = (F2 y) then (if (F1 z) = (F2 z) then (1 : Int32) else (0 : Int32)) else (0 : Int32)) else (0 : Int32))) : v = 1 := by
  rw [h, if_pos (own_same x), if_pos (own_same y), if_pos (own_same z)]
theorem own_size {x v : Int32} (hc : ¬ (F1 x) = (0 : Int32)) (h : v = (if (F3 x) < (8 : Int32) then (0 : Int32) else (if (4194312 : Int32) < (F3 x) then (0 : Int32) else (1 : Int32)))) : v = 1 := by
  have k0 : (0 : Int32).toInt = 0 := by decide
  have k8 : (8 : Int32).toInt = 8 := by decide
  have k4 : (4 : Int32).toInt = 4 := by decide
  have kA : (4194304 : Int32).toInt = 4194304 := by decide
  have kB : (4194312 : Int32).toInt = 4194312 := by decide
  have q1 : ¬ x < 0 := fun q => hc (by simp only [F1, if_pos q])
  have q2 : ¬ 4194304 < x := fun q => hc (by simp only [F1, if_neg q1, if_pos q])
  rw [Int32.lt_iff_toInt_lt] at q1 q2
  have r := rng32 x
  have a1 := c_iadd 4 x; have r1 := rng32 (4 + x)
  have a2 := c_iadd (4 + x) 4; have r2 := rng32 (4 + x + 4)
  rw [k4] at a1 a2
  have e : (F3 x).toInt = x.toInt + 8 := by simp only [F3]; omega
  rw [h, if_neg (by rw [Int32.lt_iff_toInt_lt, e, k8]; omega), if_neg (by rw [Int32.lt_iff_toInt_lt, e, kB]; omega)]

theorem pn_0 : plainName "com/example/catchwire/catchwire/disk/LogRecordIsPossibleLengthPinLaw" = true := by first | (simp [plainName, overriddenIn]; done) | decide +kernel
theorem ef_0 (m : MethodId) (p0 : Int32) (p1 : Int32) : entryFrame m #[(.int p0), (.int p1)] maxLocals = mkF m 0 #[iv p0, iv p1, .unset, .unset, .unset, .unset, .unset] [] := by first | (simp [entryFrame, mkF, argsToLocals, Value.category, maxLocals]; done) | rfl
def Q0 (Z : State) (p0 : Int32) (p1 : Int32) (h0 : Heap) (n0 : Nat) (v : Option Value) (h : Heap) (L : List Loc) : Prop := v = some (.int 1) ∧ Fr n0 L
set_option maxRecDepth 65536 in
set_option maxHeartbeats 40000000 in
theorem rm0 (l : Launch) (Z : State) (a0 : Array Value) (hw : ∀ d ∈ tables_1, d.before a0 Z = true) (ws : List Jvm.Cond) (p0 : Int32) (p1 : Int32) (h0 : Heap) (n0 : Nat) (Z0 : n0 ≤ h0.size) (S_MAX : Sta Z h0 "com/example/catchwire/catchwire/disk/LogRecord" "MAX_SIZE" "I" (.int (4194312 : Int32))) :
    MetFree l x (head1 (Jvm.Cond.code x code maxLocals ret :: ws) room_1) (fun a U => a = #[(.int p0), (.int p1)] ∧ Z.Warmed39 U.vm ∧ U.heap = h0) (fun _ _ _ _ _ => True) (fun _ U o U' => ∃ v L, o = .returned v ∧ Q0 Z p0 p1 h0 n0 v U'.heap L ∧ FrameEnd U o U' L 0 0) := by
  refine MetFree.of_bodySF (plainFor_of_name pn_0) hisR ?_
  intro p e s m args below meth c s₁ Bd hml0 hP hK
  obtain ⟨rfl, hZ, hh⟩ := hP
  have hx := Bd.exec
  have hby := Bd.bytes
  have hml : c.maxLocals = 7 := hml0
  have hown : s.vm.findClass "com/example/catchwire/catchwire/disk/LogRecordIsPossibleLengthPinLaw" = some m.cls := findClass_of_methodNamed Bd.named
  have hnm := (name_of_methodNamed Bd.named Bd.method).1
  have hlk : meth.locks = false := Bd.notSynchronized
  have X0 : Stand p l e room_1 s m #[(.int p0), (.int p1)] below meth c s₁ [] 0 0 := Stand.of_body Bd
  have e0 : s₁.heap = h0 := by rw [← hh, Bd.state]; rfl
  have N0 := Fr.nil n0
  have KK0 := Keep.refl h0 []
  show own_Go p.tables e below s 0 0 (Q0 Z p0 p1 h0 n0) (s₁.setTop (entryFrame m #[(.int p0), (.int p1)] maxLocals))
  rw [ef_0]
  refine own_step (U' := s₁.setTop (mkF m 9 #[iv p0, iv p1, iv (((4194304 : Int32) + (p1 &&& (3 : Int32))) - (1 : Int32)), .unset, .unset, .unset, .unset] [])) (fun t k => X0.ldcInt hx hown (mvT hZ (own_w hw 0 rfl)) (g := (mkF m 0 #[iv p0, iv p1, .unset, .unset, .unset, .unset, .unset] [])) rfl (hb hby at_0) t (XS.iloadN X0.here hx rfl (hb hby at_2) rfl (XS.iconst X0.here hx rfl (hb hby at_3) (XS.iand X0.here hx rfl (hb hby at_4) rfl (XS.iadd X0.here hx rfl (hb hby at_5) rfl (XS.iconst X0.here hx rfl (hb hby at_6) (XS.isub X0.here hx rfl (hb hby at_7) rfl (XS.istoreN X0.here hx rfl (hb hby at_8) rfl (l' := #[iv p0, iv p1, iv (((4194304 : Int32) + (p1 &&& (3 : Int32))) - (1 : Int32)), .unset, .unset, .unset, .unset]) rfl k)))))))) ?_
  refine own_step (U' := s₁.setTop (mkF m 16 #[iv p0, iv p1, iv (((4194304 : Int32) + (p1 &&& (3 : Int32))) - (1 : Int32)), iv ((p1 &&& (3 : Int32)) - (2 : Int32)), .unset, .unset, .unset] [(.int p0)])) (fun t k => XS.iloadN X0.here hx rfl (hb hby at_9) rfl (XS.iconst X0.here hx rfl (hb hby at_10) (XS.iand X0.here hx rfl (hb hby at_11) rfl (XS.iconst X0.here hx rfl (hb hby at_12) (XS.isub X0.here hx rfl (hb hby at_13) rfl (XS.istoreN X0.here hx rfl (hb hby at_14) rfl (l' := #[iv p0, iv p1, iv (((4194304 : Int32) + (p1 &&& (3 : Int32))) - (1 : Int32)), iv ((p1 &&& (3 : Int32)) - (2 : Int32)), .unset, .unset, .unset]) rfl (XS.iloadN X0.here hx rfl (hb hby at_15) rfl k))))))) ?_
  obtain ⟨_, _, ⟨T1, L1, k1, n1⟩, -, X1, ⟨Lc1, hQ1, l1, y1, z1⟩, st1⟩ := Jvm.LawKit.callS X0 hx (y := (⟨"com/example/catchwire/catchwire/disk/LogRecord", "isPossibleLength", "(I)Z"⟩ : MethodName)) hown (mvT hZ (own_w hw 1 rfl)) (mvT hZ (own_w hw 2 rfl)) (mvT hZ (own_w hw 3 rfl)) (mvT hZ (own_w hw 4 rfl)) (by decide) (backOf (W := 0) (rm1 l Z a0 hw [] p0 h0 n0 Z0) hZ (own_w hw 4 rfl) (own_w hw 3 rfl) (by decide) (by decide)) (g := (mkF m 16 #[iv p0, iv p1, iv (((4194304 : Int32) + (p1 &&& (3 : Int32))) - (1 : Int32)), iv ((p1 &&& (3 : Int32)) - (2 : Int32)), .unset, .unset, .unset] [(.int p0)])) rfl (by rw [hml]; rfl) (argsL := [(.int p0)]) (rest := []) (lenOf pd__I_Z rfl) rfl (by show 2 * 0 + _ ≤ _; exact Nat.le_of_eq rfl) (hb hby at_16) (fun _ _ => ⟨rfl, e0, (by decide : 0 + 0 ≤ _), (by decide : 0 + 0 ≤ _)⟩)
  dsimp only [Pt.U, Pt.locs, Pt.cells, Pt.slots] at X1 l1 y1 z1 st1 hQ1
  subst l1 y1 z1
  obtain ⟨rfl, N1q, eq1⟩ := hQ1
  have N1 := Fr.app N0 N1q
  refine own_step (U' := T1.setTop (mkF m 19 #[iv p0, iv p1, iv (((4194304 : Int32) + (p1 &&& (3 : Int32))) - (1 : Int32)), iv ((p1 &&& (3 : Int32)) - (2 : Int32)), .unset, .unset, .unset] [(.int (F1 p0))])) st1 ?_
  refine own_step (U' := T1.setTop (mkF m 24 #[iv p0, iv p1, iv (((4194304 : Int32) + (p1 &&& (3 : Int32))) - (1 : Int32)), iv ((p1 &&& (3 : Int32)) - (2 : Int32)), iv (F1 p0), .unset, .unset] [(.int p0), (.int (F1 p0))])) (fun t k => XS.istore X1.here hx rfl (hb hby at_19) rfl (l' := #[iv p0, iv p1, iv (((4194304 : Int32) + (p1 &&& (3 : Int32))) - (1 : Int32)), iv ((p1 &&& (3 : Int32)) - (2 : Int32)), iv (F1 p0), .unset, .unset]) rfl (XS.iload X1.here hx rfl (hb hby at_21) rfl (XS.iloadN X1.here hx rfl (hb hby at_23) rfl k))) ?_
  obtain ⟨_, _, ⟨T2, L2, k2, n2⟩, -, X2, ⟨Lc2, hQ2, l2, y2, z2⟩, st2⟩ := Jvm.LawKit.callS X1 hx (y := (⟨"com/example/catchwire/catchwire/disk/LogRecordIsPossibleLengthPinLaw", "reference", "(I)Z"⟩ : MethodName)) hown (mvT hZ (own_w hw 6 rfl)) (mvT hZ (own_w hw 7 rfl)) (mvT hZ (own_w hw 8 rfl)) (mvT hZ (own_w hw 9 rfl)) (by decide) (backOf (W := 1) (rm2 l Z a0 hw [] p0 h0 n0 Z0) hZ (own_w hw 9 rfl) (own_w hw 8 rfl) (by decide) (by decide)) (g := (mkF m 24 #[iv p0, iv p1, iv (((4194304 : Int32) + (p1 &&& (3 : Int32))) - (1 : Int32)), iv ((p1 &&& (3 : Int32)) - (2 : Int32)), iv (F1 p0), .unset, .unset] [(.int p0), (.int (F1 p0))])) rfl (by rw [hml]; rfl) (argsL := [(.int p0)]) (rest := [(.int (F1 p0))]) (lenOf pd__I_Z rfl) rfl (by show 2 * 0 + _ ≤ _; exact Nat.le_of_eq rfl) (hb hby at_24) (fun _ _ => ⟨rfl, eq1, (by decide : 0 + 0 ≤ _), (by decide : 0 + 0 ≤ _)⟩)
  dsimp only [Pt.U, Pt.locs, Pt.cells, Pt.slots] at X2 l2 y2 z2 st2 hQ2
  subst l2 y2 z2
  obtain ⟨rfl, N2q, eq2⟩ := hQ2
  have N2 := Fr.app N1 N2q
  refine own_step (U' := T2.setTop (mkF m 27 #[iv p0, iv p1, iv (((4194304 : Int32) + (p1 &&& (3 : Int32))) - (1 : Int32)), iv ((p1 &&& (3 : Int32)) - (2 : Int32)), iv (F1 p0), .unset, .unset] [(.int (F2 p0)), (.int (F1 p0))])) st2 ?_
  obtain ⟨v57_10, hv57_10⟩ : ∃ v : Int32, v = (if (F1 p0) = (F2 p0) then (if (F1 (((4194304 : Int32) + (p1 &&& (3 : Int32))) - (1 : Int32))) = (F2 (((4194304 : Int32) + (p1 &&& (3 : Int32))) - (1 : Int32))) then (if (F1 ((p1 &&& (3 : Int32)) - (2 : Int32))) = (F2 ((p1 &&& (3 : Int32)) - (2 : Int32))) then (1 : Int32) else (0 : Int32)) else (0 : Int32)) else (0 : Int32)) := ⟨_, rfl⟩
  have K57_11 : ∀ (T' : State) (locs' : List Loc) (X' : Stand p l e room_1 s m #[(.int p0), (.int p1)] below meth c T' locs' 0 0) (N' : Fr n0 locs') (e' : T'.heap = h0), own_Go p.tables e below s 0 0 (Q0 Z p0 p1 h0 n0) (T'.setTop (mkF m 57 #[iv p0, iv p1, iv (((4194304 : Int32) + (p1 &&& (3 : Int32))) - (1 : Int32)), iv ((p1 &&& (3 : Int32)) - (2 : Int32)), iv (F1 p0), .unset, .unset] [(.int v57_10)])) := by
    intro T11 L11 X11 N11 e11
    refine own_step (U' := T11.setTop (mkF m 61 #[iv p0, iv p1, iv (((4194304 : Int32) + (p1 &&& (3 : Int32))) - (1 : Int32)), iv ((p1 &&& (3 : Int32)) - (2 : Int32)), iv (F1 p0), iv v57_10, .unset] [(.int v57_10)])) (fun t k => XS.istore X11.here hx rfl (hb hby at_57) rfl (l' := #[iv p0, iv p1, iv (((4194304 : Int32) + (p1 &&& (3 : Int32))) - (1 : Int32)), iv ((p1 &&& (3 : Int32)) - (2 : Int32)), iv (F1 p0), iv v57_10, .unset]) rfl (XS.iload X11.here hx rfl (hb hby at_59) rfl k)) ?_
    by_cases hc61_18 : v57_10 = (0 : Int32)
    · refine own_step (U' := T11.setTop (mkF m 99 #[iv p0, iv p1, iv (((4194304 : Int32) + (p1 &&& (3 : Int32))) - (1 : Int32)), iv ((p1 &&& (3 : Int32)) - (2 : Int32)), iv (F1 p0), iv v57_10, .unset] [(.int v57_10)])) (fun t k => XS.ifYes X11.here hx rfl (pc0 := 61) (pc' := 97) rfl (hb hby at_61) rfl ((if0 _ _).trans (teq hc61_18).1) (by decide) (by decide) (XS.iload X11.here hx rfl (hb hby at_97) rfl k)) ?_
      exact own_out X11 (v := (some (.int (nar .boolean v57_10)))) hlk (own_nv Bd.returns) (by rw [e11]; exact ⟨by rw [own_ok hv57_10]; rfl, N11⟩) (by decide) (by decide) (fun fs hr => retN X11 hx (t := .boolean) Bd.returns (by simp) (hb hby at_99) hr)
    · refine own_step (U' := T11.setTop (mkF m 66 #[iv p0, iv p1, iv (((4194304 : Int32) + (p1 &&& (3 : Int32))) - (1 : Int32)), iv ((p1 &&& (3 : Int32)) - (2 : Int32)), iv (F1 p0), iv v57_10, .unset] [(.int (F1 p0))])) (fun t k => XS.ifNo X11.here hx rfl (hb hby at_61) rfl ((if0 _ _).trans (feq hc61_18).1) (XS.iload X11.here hx rfl (hb hby at_64) rfl k)) ?_
      by_cases hc66_24 : (F1 p0) = (0 : Int32)
      · refine own_step (U' := T11.setTop (mkF m 99 #[iv p0, iv p1, iv (((4194304 : Int32) + (p1 &&& (3 : Int32))) - (1 : Int32)), iv ((p1 &&& (3 : Int32)) - (2 : Int32)), iv (F1 p0), iv v57_10, .unset] [(.int v57_10)])) (fun t k => XS.ifYes X11.here hx rfl (pc0 := 66) (pc' := 97) rfl (hb hby at_66) rfl ((if0 _ _).trans (teq hc66_24).1) (by decide) (by decide) (XS.iload X11.here hx rfl (hb hby at_97) rfl k)) ?_
        exact own_out X11 (v := (some (.int (nar .boolean v57_10)))) hlk (own_nv Bd.returns) (by rw [e11]; exact ⟨by rw [own_ok hv57_10]; rfl, N11⟩) (by decide) (by decide) (fun fs hr => retN X11 hx (t := .boolean) Bd.returns (by simp) (hb hby at_99) hr)
      · refine own_step (U' := T11.setTop (mkF m 70 #[iv p0, iv p1, iv (((4194304 : Int32) + (p1 &&& (3 : Int32))) - (1 : Int32)), iv ((p1 &&& (3 : Int32)) - (2 : Int32)), iv (F1 p0), iv v57_10, .unset] [(.int p0)])) (fun t k => XS.ifNo X11.here hx rfl (hb hby at_66) rfl ((if0 _ _).trans (feq hc66_24).1) (XS.iloadN X11.here hx rfl (hb hby at_69) rfl k)) ?_
        obtain ⟨_, _, ⟨T25, L25, k25, n25⟩, -, X25, ⟨Lc25, hQ25, l25, y25, z25⟩, st25⟩ := Jvm.LawKit.callS X11 hx (y := (⟨"com/example/catchwire/catchwire/disk/LogRecord", "size", "(I)I"⟩ : MethodName)) hown (mvT hZ (own_w hw 10 rfl)) (mvT hZ (own_w hw 11 rfl)) (mvT hZ (own_w hw 3 rfl)) (mvT hZ (own_w hw 12 rfl)) (by decide) (backOf (W := 0) (rm3 l Z a0 hw [] p0 h0 n0 Z0) hZ (own_w hw 12 rfl) (own_w hw 3 rfl) (by decide) (by decide)) (g := (mkF m 70 #[iv p0, iv p1, iv (((4194304 : Int32) + (p1 &&& (3 : Int32))) - (1 : Int32)), iv ((p1 &&& (3 : Int32)) - (2 : Int32)), iv (F1 p0), iv v57_10, .unset] [(.int p0)])) rfl (by rw [hml]; rfl) (argsL := [(.int p0)]) (rest := []) (lenOf pd__I_I rfl) rfl (by show 2 * 0 + _ ≤ _; exact Nat.le_of_eq rfl) (hb hby at_70) (fun _ _ => ⟨rfl, e11, (by decide : 0 + 0 ≤ _), (by decide : 0 + 0 ≤ _)⟩)
        dsimp only [Pt.U, Pt.locs, Pt.cells, Pt.slots] at X25 l25 y25 z25 st25 hQ25
        subst l25 y25 z25
        obtain ⟨rfl, N25q, eq25⟩ := hQ25
        have N25 := Fr.app N11 N25q
        refine own_step (U' := T25.setTop (mkF m 73 #[iv p0, iv p1, iv (((4194304 : Int32) + (p1 &&& (3 : Int32))) - (1 : Int32)), iv ((p1 &&& (3 : Int32)) - (2 : Int32)), iv (F1 p0), iv v57_10, .unset] [(.int (F3 p0))])) st25 ?_
        refine own_step (U' := T25.setTop (mkF m 79 #[iv p0, iv p1, iv (((4194304 : Int32) + (p1 &&& (3 : Int32))) - (1 : Int32)), iv ((p1 &&& (3 : Int32)) - (2 : Int32)), iv (F1 p0), iv v57_10, iv (F3 p0)] [(.int (8 : Int32)), (.int (F3 p0))])) (fun t k => XS.istore X25.here hx rfl (hb hby at_73) rfl (l' := #[iv p0, iv p1, iv (((4194304 : Int32) + (p1 &&& (3 : Int32))) - (1 : Int32)), iv ((p1 &&& (3 : Int32)) - (2 : Int32)), iv (F1 p0), iv v57_10, iv (F3 p0)]) rfl (XS.iload X25.here hx rfl (hb hby at_75) rfl (XS.bipush X25.here hx rfl (hb hby at_77) k))) ?_
        obtain ⟨v95_29, hv95_29⟩ : ∃ v : Int32, v = (if (F3 p0) < (8 : Int32) then (0 : Int32) else (if (4194312 : Int32) < (F3 p0) then (0 : Int32) else (1 : Int32))) := ⟨_, rfl⟩
        have K95_30 : ∀ (T' : State) (locs' : List Loc) (X' : Stand p l e room_1 s m #[(.int p0), (.int p1)] below meth c T' locs' 0 0) (N' : Fr n0 locs') (e' : T'.heap = h0), own_Go p.tables e below s 0 0 (Q0 Z p0 p1 h0 n0) (T'.setTop (mkF m 95 #[iv p0, iv p1, iv (((4194304 : Int32) + (p1 &&& (3 : Int32))) - (1 : Int32)), iv ((p1 &&& (3 : Int32)) - (2 : Int32)), iv (F1 p0), iv v57_10, iv (F3 p0)] [(.int v95_29)])) := by
          intro T30 L30 X30 N30 e30
          refine own_step (U' := T30.setTop (mkF m 99 #[iv p0, iv p1, iv (((4194304 : Int32) + (p1 &&& (3 : Int32))) - (1 : Int32)), iv ((p1 &&& (3 : Int32)) - (2 : Int32)), iv (F1 p0), iv v95_29, iv (F3 p0)] [(.int v95_29)])) (fun t k => XS.istore X30.here hx rfl (hb hby at_95) rfl (l' := #[iv p0, iv p1, iv (((4194304 : Int32) + (p1 &&& (3 : Int32))) - (1 : Int32)), iv ((p1 &&& (3 : Int32)) - (2 : Int32)), iv (F1 p0), iv v95_29, iv (F3 p0)]) rfl (XS.iload X30.here hx rfl (hb hby at_97) rfl k)) ?_
          exact own_out X30 (v := (some (.int (nar .boolean v95_29)))) hlk (own_nv Bd.returns) (by rw [e30]; exact ⟨by rw [own_size hc66_24 hv95_29]; rfl, N30⟩) (by decide) (by decide) (fun fs hr => retN X30 hx (t := .boolean) Bd.returns (by simp) (hb hby at_99) hr)
        by_cases hc79_31 : (F3 p0) < (8 : Int32)
        · refine own_step (U' := T25.setTop (mkF m 95 #[iv p0, iv p1, iv (((4194304 : Int32) + (p1 &&& (3 : Int32))) - (1 : Int32)), iv ((p1 &&& (3 : Int32)) - (2 : Int32)), iv (F1 p0), iv v57_10, iv (F3 p0)] [(.int (0 : Int32))])) (fun t k => XS.icmpYes X25.here hx rfl (pc0 := 79) (pc' := 94) rfl (hb hby at_79) rfl (tlt hc79_31).1 (by decide) (by decide) (XS.iconst X25.here hx rfl (hb hby at_94) k)) ?_
          have q_v95_29 : v95_29 = (0 : Int32) := by rw [hv95_29, if_pos hc79_31]
          rw [q_v95_29] at K95_30
          exact K95_30 _ _ X25 N25 eq25
        · refine own_step (U' := T25.setTop (mkF m 84 #[iv p0, iv p1, iv (((4194304 : Int32) + (p1 &&& (3 : Int32))) - (1 : Int32)), iv ((p1 &&& (3 : Int32)) - (2 : Int32)), iv (F1 p0), iv v57_10, iv (F3 p0)] [(.int (F3 p0))])) (fun t k => XS.icmpNo X25.here hx rfl (hb hby at_79) rfl (flt hc79_31).1 (XS.iload X25.here hx rfl (hb hby at_82) rfl k)) ?_
          obtain ⟨T32, X32, e32, st32⟩ := getS2 X25 hx hZ hown (host := "") (Or.inl (own_w hw 13 rfl)) Via.refl eq25 S_MAX (g := (mkF m 84 #[iv p0, iv p1, iv (((4194304 : Int32) + (p1 &&& (3 : Int32))) - (1 : Int32)), iv ((p1 &&& (3 : Int32)) - (2 : Int32)), iv (F1 p0), iv v57_10, iv (F3 p0)] [(.int (F3 p0))])) rfl (hb hby at_84)
          refine own_step (U' := T32.setTop (mkF m 87 #[iv p0, iv p1, iv (((4194304 : Int32) + (p1 &&& (3 : Int32))) - (1 : Int32)), iv ((p1 &&& (3 : Int32)) - (2 : Int32)), iv (F1 p0), iv v57_10, iv (F3 p0)] [(.int (4194312 : Int32)), (.int (F3 p0))])) st32 ?_
          by_cases hc87_33 : (4194312 : Int32) < (F3 p0)
          · refine own_step (U' := T32.setTop (mkF m 95 #[iv p0, iv p1, iv (((4194304 : Int32) + (p1 &&& (3 : Int32))) - (1 : Int32)), iv ((p1 &&& (3 : Int32)) - (2 : Int32)), iv (F1 p0), iv v57_10, iv (F3 p0)] [(.int (0 : Int32))])) (fun t k => XS.icmpYes X32.here hx rfl (pc0 := 87) (pc' := 94) rfl (hb hby at_87) rfl (tlt hc87_33).2.2.1 (by decide) (by decide) (XS.iconst X32.here hx rfl (hb hby at_94) k)) ?_
            have q_v95_29 : v95_29 = (0 : Int32) := by rw [hv95_29, if_neg hc79_31, if_pos hc87_33]
            rw [q_v95_29] at K95_30
            exact K95_30 _ _ X32 N25 e32
          · refine own_step (U' := T32.setTop (mkF m 95 #[iv p0, iv p1, iv (((4194304 : Int32) + (p1 &&& (3 : Int32))) - (1 : Int32)), iv ((p1 &&& (3 : Int32)) - (2 : Int32)), iv (F1 p0), iv v57_10, iv (F3 p0)] [(.int (1 : Int32))])) (fun t k => XS.icmpNo X32.here hx rfl (hb hby at_87) rfl (flt hc87_33).2.2.1 (XS.iconst X32.here hx rfl (hb hby at_90) (XS.goto X32.here hx rfl (pc0 := 91) (pc' := 95) rfl (hb hby at_91) (by decide) (by decide) k))) ?_
            have q_v95_29 : v95_29 = (1 : Int32) := by rw [hv95_29, if_neg hc79_31, if_neg hc87_33]
            rw [q_v95_29] at K95_30
            exact K95_30 _ _ X32 N25 e32
  by_cases hc27_34 : (F1 p0) = (F2 p0)
  · refine own_step (U' := T2.setTop (mkF m 31 #[iv p0, iv p1, iv (((4194304 : Int32) + (p1 &&& (3 : Int32))) - (1 : Int32)), iv ((p1 &&& (3 : Int32)) - (2 : Int32)), iv (F1 p0), .unset, .unset] [(.int (((4194304 : Int32) + (p1 &&& (3 : Int32))) - (1 : Int32)))])) (fun t k => XS.icmpNo X2.here hx rfl (hb hby at_27) rfl (teq hc27_34).2 (XS.iloadN X2.here hx rfl (hb hby at_30) rfl k)) ?_
    obtain ⟨_, _, ⟨T35, L35, k35, n35⟩, -, X35, ⟨Lc35, hQ35, l35, y35, z35⟩, st35⟩ := Jvm.LawKit.callS X2 hx (y := (⟨"com/example/catchwire/catchwire/disk/LogRecord", "isPossibleLength", "(I)Z"⟩ : MethodName)) hown (mvT hZ (own_w hw 1 rfl)) (mvT hZ (own_w hw 2 rfl)) (mvT hZ (own_w hw 3 rfl)) (mvT hZ (own_w hw 4 rfl)) (by decide) (backOf (W := 0) (rm1 l Z a0 hw [] (((4194304 : Int32) + (p1 &&& (3 : Int32))) - (1 : Int32)) h0 n0 Z0) hZ (own_w hw 4 rfl) (own_w hw 3 rfl) (by decide) (by decide)) (g := (mkF m 31 #[iv p0, iv p1, iv (((4194304 : Int32) + (p1 &&& (3 : Int32))) - (1 : Int32)), iv ((p1 &&& (3 : Int32)) - (2 : Int32)), iv (F1 p0), .unset, .unset] [(.int (((4194304 : Int32) + (p1 &&& (3 : Int32))) - (1 : Int32)))])) rfl (by rw [hml]; rfl) (argsL := [(.int (((4194304 : Int32) + (p1 &&& (3 : Int32))) - (1 : Int32)))]) (rest := []) (lenOf pd__I_Z rfl) rfl (by show 2 * 0 + _ ≤ _; exact Nat.le_of_eq rfl) (hb hby at_31) (fun _ _ => ⟨rfl, eq2, (by decide : 0 + 0 ≤ _), (by decide : 0 + 0 ≤ _)⟩)
    dsimp only [Pt.U, Pt.locs, Pt.cells, Pt.slots] at X35 l35 y35 z35 st35 hQ35
    subst l35 y35 z35
    obtain ⟨rfl, N35q, eq35⟩ := hQ35
    have N35 := Fr.app N2 N35q
    refine own_step (U' := T35.setTop (mkF m 34 #[iv p0, iv p1, iv (((4194304 : Int32) + (p1 &&& (3 : Int32))) - (1 : Int32)), iv ((p1 &&& (3 : Int32)) - (2 : Int32)), iv (F1 p0), .unset, .unset] [(.int (F1 (((4194304 : Int32) + (p1 &&& (3 : Int32))) - (1 : Int32))))])) st35 ?_
    refine own_step (U' := T35.setTop (mkF m 35 #[iv p0, iv p1, iv (((4194304 : Int32) + (p1 &&& (3 : Int32))) - (1 : Int32)), iv ((p1 &&& (3 : Int32)) - (2 : Int32)), iv (F1 p0), .unset, .unset] [(.int (((4194304 : Int32) + (p1 &&& (3 : Int32))) - (1 : Int32))), (.int (F1 (((4194304 : Int32) + (p1 &&& (3 : Int32))) - (1 : Int32))))])) (fun t k => XS.iloadN X35.here hx rfl (hb hby at_34) rfl k) ?_
    obtain ⟨_, _, ⟨T36, L36, k36, n36⟩, -, X36, ⟨Lc36, hQ36, l36, y36, z36⟩, st36⟩ := Jvm.LawKit.callS X35 hx (y := (⟨"com/example/catchwire/catchwire/disk/LogRecordIsPossibleLengthPinLaw", "reference", "(I)Z"⟩ : MethodName)) hown (mvT hZ (own_w hw 6 rfl)) (mvT hZ (own_w hw 7 rfl)) (mvT hZ (own_w hw 8 rfl)) (mvT hZ (own_w hw 9 rfl)) (by decide) (backOf (W := 1) (rm2 l Z a0 hw [] (((4194304 : Int32) + (p1 &&& (3 : Int32))) - (1 : Int32)) h0 n0 Z0) hZ (own_w hw 9 rfl) (own_w hw 8 rfl) (by decide) (by decide)) (g := (mkF m 35 #[iv p0, iv p1, iv (((4194304 : Int32) + (p1 &&& (3 : Int32))) - (1 : Int32)), iv ((p1 &&& (3 : Int32)) - (2 : Int32)), iv (F1 p0), .unset, .unset] [(.int (((4194304 : Int32) + (p1 &&& (3 : Int32))) - (1 : Int32))), (.int (F1 (((4194304 : Int32) + (p1 &&& (3 : Int32))) - (1 : Int32))))])) rfl (by rw [hml]; rfl) (argsL := [(.int (((4194304 : Int32) + (p1 &&& (3 : Int32))) - (1 : Int32)))]) (rest := [(.int (F1 (((4194304 : Int32) + (p1 &&& (3 : Int32))) - (1 : Int32))))]) (lenOf pd__I_Z rfl) rfl (by show 2 * 0 + _ ≤ _; exact Nat.le_of_eq rfl) (hb hby at_35) (fun _ _ => ⟨rfl, eq35, (by decide : 0 + 0 ≤ _), (by decide : 0 + 0 ≤ _)⟩)
    dsimp only [Pt.U, Pt.locs, Pt.cells, Pt.slots] at X36 l36 y36 z36 st36 hQ36
    subst l36 y36 z36
    obtain ⟨rfl, N36q, eq36⟩ := hQ36
    have N36 := Fr.app N35 N36q
    refine own_step (U' := T36.setTop (mkF m 38 #[iv p0, iv p1, iv (((4194304 : Int32) + (p1 &&& (3 : Int32))) - (1 : Int32)), iv ((p1 &&& (3 : Int32)) - (2 : Int32)), iv (F1 p0), .unset, .unset] [(.int (F2 (((4194304 : Int32) + (p1 &&& (3 : Int32))) - (1 : Int32)))), (.int (F1 (((4194304 : Int32) + (p1 &&& (3 : Int32))) - (1 : Int32))))])) st36 ?_
    by_cases hc38_37 : (F1 (((4194304 : Int32) + (p1 &&& (3 : Int32))) - (1 : Int32))) = (F2 (((4194304 : Int32) + (p1 &&& (3 : Int32))) - (1 : Int32)))
    · refine own_step (U' := T36.setTop (mkF m 42 #[iv p0, iv p1, iv (((4194304 : Int32) + (p1 &&& (3 : Int32))) - (1 : Int32)), iv ((p1 &&& (3 : Int32)) - (2 : Int32)), iv (F1 p0), .unset, .unset] [(.int ((p1 &&& (3 : Int32)) - (2 : Int32)))])) (fun t k => XS.icmpNo X36.here hx rfl (hb hby at_38) rfl (teq hc38_37).2 (XS.iloadN X36.here hx rfl (hb hby at_41) rfl k)) ?_
      obtain ⟨_, _, ⟨T38, L38, k38, n38⟩, -, X38, ⟨Lc38, hQ38, l38, y38, z38⟩, st38⟩ := Jvm.LawKit.callS X36 hx (y := (⟨"com/example/catchwire/catchwire/disk/LogRecord", "isPossibleLength", "(I)Z"⟩ : MethodName)) hown (mvT hZ (own_w hw 1 rfl)) (mvT hZ (own_w hw 2 rfl)) (mvT hZ (own_w hw 3 rfl)) (mvT hZ (own_w hw 4 rfl)) (by decide) (backOf (W := 0) (rm1 l Z a0 hw [] ((p1 &&& (3 : Int32)) - (2 : Int32)) h0 n0 Z0) hZ (own_w hw 4 rfl) (own_w hw 3 rfl) (by decide) (by decide)) (g := (mkF m 42 #[iv p0, iv p1, iv (((4194304 : Int32) + (p1 &&& (3 : Int32))) - (1 : Int32)), iv ((p1 &&& (3 : Int32)) - (2 : Int32)), iv (F1 p0), .unset, .unset] [(.int ((p1 &&& (3 : Int32)) - (2 : Int32)))])) rfl (by rw [hml]; rfl) (argsL := [(.int ((p1 &&& (3 : Int32)) - (2 : Int32)))]) (rest := []) (lenOf pd__I_Z rfl) rfl (by show 2 * 0 + _ ≤ _; exact Nat.le_of_eq rfl) (hb hby at_42) (fun _ _ => ⟨rfl, eq36, (by decide : 0 + 0 ≤ _), (by decide : 0 + 0 ≤ _)⟩)
      dsimp only [Pt.U, Pt.locs, Pt.cells, Pt.slots] at X38 l38 y38 z38 st38 hQ38
      subst l38 y38 z38
      obtain ⟨rfl, N38q, eq38⟩ := hQ38
      have N38 := Fr.app N36 N38q
      refine own_step (U' := T38.setTop (mkF m 45 #[iv p0, iv p1, iv (((4194304 : Int32) + (p1 &&& (3 : Int32))) - (1 : Int32)), iv ((p1 &&& (3 : Int32)) - (2 : Int32)), iv (F1 p0), .unset, .unset] [(.int (F1 ((p1 &&& (3 : Int32)) - (2 : Int32))))])) st38 ?_
      refine own_step (U' := T38.setTop (mkF m 46 #[iv p0, iv p1, iv (((4194304 : Int32) + (p1 &&& (3 : Int32))) - (1 : Int32)), iv ((p1 &&& (3 : Int32)) - (2 : Int32)), iv (F1 p0), .unset, .unset] [(.int ((p1 &&& (3 : Int32)) - (2 : Int32))), (.int (F1 ((p1 &&& (3 : Int32)) - (2 : Int32))))])) (fun t k => XS.iloadN X38.here hx rfl (hb hby at_45) rfl k) ?_
      obtain ⟨_, _, ⟨T39, L39, k39, n39⟩, -, X39, ⟨Lc39, hQ39, l39, y39, z39⟩, st39⟩ := Jvm.LawKit.callS X38 hx (y := (⟨"com/example/catchwire/catchwire/disk/LogRecordIsPossibleLengthPinLaw", "reference", "(I)Z"⟩ : MethodName)) hown (mvT hZ (own_w hw 6 rfl)) (mvT hZ (own_w hw 7 rfl)) (mvT hZ (own_w hw 8 rfl)) (mvT hZ (own_w hw 9 rfl)) (by decide) (backOf (W := 1) (rm2 l Z a0 hw [] ((p1 &&& (3 : Int32)) - (2 : Int32)) h0 n0 Z0) hZ (own_w hw 9 rfl) (own_w hw 8 rfl) (by decide) (by decide)) (g := (mkF m 46 #[iv p0, iv p1, iv (((4194304 : Int32) + (p1 &&& (3 : Int32))) - (1 : Int32)), iv ((p1 &&& (3 : Int32)) - (2 : Int32)), iv (F1 p0), .unset, .unset] [(.int ((p1 &&& (3 : Int32)) - (2 : Int32))), (.int (F1 ((p1 &&& (3 : Int32)) - (2 : Int32))))])) rfl (by rw [hml]; rfl) (argsL := [(.int ((p1 &&& (3 : Int32)) - (2 : Int32)))]) (rest := [(.int (F1 ((p1 &&& (3 : Int32)) - (2 : Int32))))]) (lenOf pd__I_Z rfl) rfl (by show 2 * 0 + _ ≤ _; exact Nat.le_of_eq rfl) (hb hby at_46) (fun _ _ => ⟨rfl, eq38, (by decide : 0 + 0 ≤ _), (by decide : 0 + 0 ≤ _)⟩)
      dsimp only [Pt.U, Pt.locs, Pt.cells, Pt.slots] at X39 l39 y39 z39 st39 hQ39
      subst l39 y39 z39
      obtain ⟨rfl, N39q, eq39⟩ := hQ39
      have N39 := Fr.app N38 N39q
      refine own_step (U' := T39.setTop (mkF m 49 #[iv p0, iv p1, iv (((4194304 : Int32) + (p1 &&& (3 : Int32))) - (1 : Int32)), iv ((p1 &&& (3 : Int32)) - (2 : Int32)), iv (F1 p0), .unset, .unset] [(.int (F2 ((p1 &&& (3 : Int32)) - (2 : Int32)))), (.int (F1 ((p1 &&& (3 : Int32)) - (2 : Int32))))])) st39 ?_
      by_cases hc49_40 : (F1 ((p1 &&& (3 : Int32)) - (2 : Int32))) = (F2 ((p1 &&& (3 : Int32)) - (2 : Int32)))
      · refine own_step (U' := T39.setTop (mkF m 57 #[iv p0, iv p1, iv (((4194304 : Int32) + (p1 &&& (3 : Int32))) - (1 : Int32)), iv ((p1 &&& (3 : Int32)) - (2 : Int32)), iv (F1 p0), .unset, .unset] [(.int (1 : Int32))])) (fun t k => XS.icmpNo X39.here hx rfl (hb hby at_49) rfl (teq hc49_40).2 (XS.iconst X39.here hx rfl (hb hby at_52) (XS.goto X39.here hx rfl (pc0 := 53) (pc' := 57) rfl (hb hby at_53) (by decide) (by decide) k))) ?_
        have q_v57_10 : v57_10 = (1 : Int32) := by rw [hv57_10, if_pos hc27_34, if_pos hc38_37, if_pos hc49_40]
        rw [q_v57_10] at K57_11
        exact K57_11 _ _ X39 N39 eq39
      · refine own_step (U' := T39.setTop (mkF m 57 #[iv p0, iv p1, iv (((4194304 : Int32) + (p1 &&& (3 : Int32))) - (1 : Int32)), iv ((p1 &&& (3 : Int32)) - (2 : Int32)), iv (F1 p0), .unset, .unset] [(.int (0 : Int32))])) (fun t k => XS.icmpYes X39.here hx rfl (pc0 := 49) (pc' := 56) rfl (hb hby at_49) rfl (feq hc49_40).2 (by decide) (by decide) (XS.iconst X39.here hx rfl (hb hby at_56) k)) ?_
        have q_v57_10 : v57_10 = (0 : Int32) := by rw [hv57_10, if_pos hc27_34, if_pos hc38_37, if_neg hc49_40]
        rw [q_v57_10] at K57_11
        exact K57_11 _ _ X39 N39 eq39
    · refine own_step (U' := T36.setTop (mkF m 57 #[iv p0, iv p1, iv (((4194304 : Int32) + (p1 &&& (3 : Int32))) - (1 : Int32)), iv ((p1 &&& (3 : Int32)) - (2 : Int32)), iv (F1 p0), .unset, .unset] [(.int (0 : Int32))])) (fun t k => XS.icmpYes X36.here hx rfl (pc0 := 38) (pc' := 56) rfl (hb hby at_38) rfl (feq hc38_37).2 (by decide) (by decide) (XS.iconst X36.here hx rfl (hb hby at_56) k)) ?_
      have q_v57_10 : v57_10 = (0 : Int32) := by rw [hv57_10, if_pos hc27_34, if_neg hc38_37]
      rw [q_v57_10] at K57_11
      exact K57_11 _ _ X36 N36 eq36
  · refine own_step (U' := T2.setTop (mkF m 57 #[iv p0, iv p1, iv (((4194304 : Int32) + (p1 &&& (3 : Int32))) - (1 : Int32)), iv ((p1 &&& (3 : Int32)) - (2 : Int32)), iv (F1 p0), .unset, .unset] [(.int (0 : Int32))])) (fun t k => XS.icmpYes X2.here hx rfl (pc0 := 27) (pc' := 56) rfl (hb hby at_27) rfl (feq hc27_34).2 (by decide) (by decide) (XS.iconst X2.here hx rfl (hb hby at_56) k)) ?_
    have q_v57_10 : v57_10 = (0 : Int32) := by rw [hv57_10, if_neg hc27_34]
    rw [q_v57_10] at K57_11
    exact K57_11 _ _ X2 N2 eq2
set_option maxRecDepth 65536 in
set_option maxHeartbeats 40000000 in
theorem comes_1 {Post : Tables → Env → Array Value → State → Outcome → State → Prop} (hpost : ∀ tb e args s v u, (limb_1_1.after args s (.returned v) u = true ∧ limb_1_2.after args s (.returned v) u = true ∧ True) → FrameEnd s (.returned v) u (Jvm.fieldLocs frame_1_writes args s ++ Jvm.arrayLocs frame_1_arrays args s ++ Jvm.staticLocs frame_1_statics s) 0 0 → Post tb e args s (.returned v) u) :
    ArmFor flags0 classFile x code maxLocals ret World_1 tables_1 room_1 Calls_1 rest_1 Pre_1 Post := by
  intro l hfl _ _ p e ha hc hk s m args below hf hA hF happ hP
  obtain ⟨hcalls, hrest, hpre⟩ := hP
  obtain ⟨-, -, -, hnamed, -, -, -, hat⟩ := (Spec.applies_iff hf).mp happ
  obtain ⟨hg, hn⟩ := and_e (Cond.before_iff.mp (show (Jvm.Cond.and given_1 narrow_1).before args s = true from hpre))
  obtain ⟨gc, gr0⟩ := and_e hg
  obtain ⟨ga0, gr1⟩ := and_e gr0
  obtain ⟨w0, w1, rfl⟩ : ∃ w0 w1 : Value, args = #[w0, w1] := by
    have hs : args.size = 2 := by simpa [Cond.value, given_1] using gc
    obtain ⟨L⟩ := args
    match L, hs with
    | [w0, w1], _ => exact ⟨w0, w1, rfl⟩
  have hw := fun d (hd : d ∈ tables_1) => atoms_spec (ws := Jvm.Cond.code x code maxLocals ret :: tables_1) hat d (List.mem_cons_of_mem _ hd)
  have hfit : Fit s := fun {y c} hc i hi => by
    obtain ⟨ha, rfl⟩ := Array.getElem?_eq_some_iff.mp hc
    have q := List.all_eq_true.mp ((Array.all_eq_true_iff_forall_mem.mp hF) _ (Array.getElem_mem ha)) i (List.mem_range.mpr hi)
    simpa [Array.getElem?_eq_getElem hi] using q
  obtain ⟨i0, ei0⟩ := is_v ga0
  obtain rfl : w0 = (.int i0) := Option.some.inj ei0
  obtain ⟨i1, ei1⟩ := is_v gr1
  obtain rfl : w1 = (.int i1) := Option.some.inj ei1
  have SM := Sta.start (Cond.eq_int (Cond.before_iff.mpr hn) rfl) (Or.inr ⟨(own_w hw 3 rfl), (own_w hw 14 rfl)⟩)
  obtain ⟨n, o, h1, h2, h3, _, L, rfl, ⟨rfl, N⟩, hq⟩ := rm0 l s _ hw tables_1 i0 i1  s.heap s.heap.size (Nat.le_refl _) SM p e ha hc hk s m _ below hf ((Spec.applies_iff_loose hf).mp happ).1 ⟨rfl, State.Warmed39.refl s, rfl⟩ trivial
  refine ⟨n, _, h1, h2, h3, hpost _ _ _ _ _ _ ⟨Cond.after_iff.mpr rfl, Cond.after_iff.mpr (eq_i res_at (Term.int_eval (1)) rfl), trivial⟩ ⟨hq.1, hq.2.1, (hq.2.2.sift fun y hy => Or.inr (N y hy)).mono (by decide) (by decide)⟩⟩
theorem main_1_1 : Claimed_1_1 := comes_1 fun _ _ _ _ _ _ h hF => ⟨h.1, hF⟩
theorem main_1_2 : Claimed_1_2 := comes_1 fun _ _ _ _ _ _ h hF => ⟨h.2.1, hF⟩
end Jvm.Pilot.@@N@@
namespace Jvm.Pilot.@@N@@
open Jvm Jvm.ClassFile Sem Op Lib Jvm.Free Jvm.Stand Jvm.Pilot.@@N@@.Jvm.D
/-! MADE BY PROGRAM (witnessworld.py) out of the Statement's table words and the real class files: 9 classes; the members and pool entries that the words name. The judged class is class 1, her method 2. -/
namespace start1
open Jvm.ClassFile
def u (s : String) : CpInfo := .utf8 (stringToUtf16 s)
/-- a pool by its gaps: so many unusable entries, then the entry; so many at the end -/
def gap : Nat → List CpInfo → List CpInfo
  | 0, r => r
  | n + 1, r => .unusable :: gap n r
def poolList (es : List (Nat × CpInfo)) (last : Nat) : List CpInfo := es.foldr (fun e r => gap e.1 (e.2 :: r)) (gap last [])
def pool (es : List (Nat × CpInfo)) (last : Nat) : Array CpInfo := ⟨poolList es last⟩
def fileOf (pool : Array CpInfo) (this : Nat) (attrs : Array Attribute := #[]) (ms : Array MethodInfo := #[]) (fl : Nat := 33) (sup : Nat := 0) (ifs : Array Nat := #[]) (fds : Array FieldInfo := #[]) : ClassFile where
  minorVersion := 0
  majorVersion := 65
  constantPool := pool
  accessFlags := fl
  thisClass := this
  superClass := sup
  interfaces := ifs
  fields := fds
  methods := ms
  attributes := attrs
def plain (name : String) (sup : Option ClassId) : Class where
  name := name
  kind := .ordinary
  loader := none
  accessFlags := 33
  super := sup
  interfaces := #[]
  cf := none
  fields := #[]
  methods := #[]
  instanceTypes := #[]
  staticTypes := #[]
  resolved := #[]
  callSites := []
  init := .initialized
  statics := none
  mirror := none

def pool0 : Array CpInfo := pool [(5, u "<init>"), (0, u "()V"), (1, .class_ 10), (1, u "java/lang/Object")] 113

def k0m0 : Method := { name := "<init>", desc := "()V", sig := { parameters := [], returnType := none }, accessFlags := 1, code := none }
/-- java/lang/Object -/
def k0 : Class := { plain "java/lang/Object" none with
  accessFlags := 33
  interfaces := #[]
  cf := some (fileOf pool0 8 #[] #[{ accessFlags := 1, nameIndex := 5, descriptorIndex := 6, attributes := #[] }] 33 0 #[] #[])
  fields := #[]
  methods := #[k0m0]
  instanceTypes := #[]
  staticTypes := #[]
  resolved := Array.replicate 124 none
  statics := none }

def pool1 : Array CpInfo := pool [(2, .class_ 4), (1, u "java/lang/Object"), (0, u "<init>"), (0, u "()V"), (0, .integer 4194304), (0, .methodref 9 10), (0, .class_ 11), (0, .nameAndType 12 13), (0, u "com/example/catchwire/catchwire/disk/LogRecord"), (0, u "isPossibleLength"), (0, u "(I)Z"), (0, .methodref 15 16), (0, .class_ 17), (0, .nameAndType 18 13), (0, u "com/example/catchwire/catchwire/disk/LogRecordIsPossibleLengthPinLaw"), (0, u "reference"), (0, .methodref 9 20), (0, .nameAndType 21 22), (0, u "size"), (0, u "(I)I"), (0, .fieldref 9 24), (0, .nameAndType 25 26), (0, u "MAX_SIZE"), (0, u "I"), (3, u "law"), (0, u "(II)Z")] 2

def k1m0 : Method := { name := "<init>", desc := "()V", sig := { parameters := [], returnType := none }, accessFlags := 2, code := none }
def k1c1 : Code := { maxStack := 2, maxLocals := 1, code := method_2_code, exceptionTable := #[], attributes := #[] }
def k1m1 : Method := { name := "reference", desc := "(I)Z", sig := { parameters := [.int], returnType := some .boolean }, accessFlags := 10, code := some k1c1 }
def k1c2 : Code := { maxStack := 3, maxLocals := 7, code := code, exceptionTable := #[], attributes := #[] }
def k1m2 : Method := { name := "law", desc := "(II)Z", sig := { parameters := [.int, .int], returnType := some .boolean }, accessFlags := 9, code := some k1c2 }
/-- com/example/catchwire/catchwire/disk/LogRecordIsPossibleLengthPinLaw -/
def k1 : Class := { plain "com/example/catchwire/catchwire/disk/LogRecordIsPossibleLengthPinLaw" (some 0) with
  accessFlags := 49
  interfaces := #[]
  cf := some (fileOf pool1 15 #[] #[{ accessFlags := 2, nameIndex := 5, descriptorIndex := 6, attributes := #[] }, { accessFlags := 10, nameIndex := 18, descriptorIndex := 13, attributes := #[] }, { accessFlags := 9, nameIndex := 30, descriptorIndex := 31, attributes := #[] }] 49 2 #[] #[])
  fields := #[]
  methods := #[k1m0, k1m1, k1m2]
  instanceTypes := #[]
  staticTypes := #[]
  resolved := Array.replicate 34 none
  statics := none }

def pool2 : Array CpInfo := pool [(6, .class_ 8), (1, u "java/lang/Object"), (0, u "<init>"), (0, u "()V"), (33, .class_ 45), (0, u "com/example/catchwire/catchwire/disk/LogRecord"), (0, .integer 4194304), (20, u "size"), (0, u "(I)I"), (2, u "MAX_SIZE"), (0, u "I"), (0, u "MAX_LENGTH"), (1, u "LENGTH_BYTES"), (1, u "CHECKSUM_BYTES"), (6, u "isPossibleLength"), (0, u "(I)Z")] 6

def k2m0 : Method := { name := "<init>", desc := "()V", sig := { parameters := [], returnType := none }, accessFlags := 2, code := none }
def k2c1 : Code := { maxStack := 2, maxLocals := 1, code := prog_42_method_3_code, exceptionTable := #[], attributes := #[] }
def k2m1 : Method := { name := "size", desc := "(I)I", sig := { parameters := [.int], returnType := some .int }, accessFlags := 8, code := some k2c1 }
def k2c2 : Code := { maxStack := 2, maxLocals := 1, code := prog_42_method_4_code, exceptionTable := #[], attributes := #[] }
def k2m2 : Method := { name := "isPossibleLength", desc := "(I)Z", sig := { parameters := [.int], returnType := some .boolean }, accessFlags := 8, code := some k2c2 }
/-- com/example/catchwire/catchwire/disk/LogRecord -/
def k2 : Class := { plain "com/example/catchwire/catchwire/disk/LogRecord" (some 0) with
  accessFlags := 48
  interfaces := #[]
  cf := some (fileOf pool2 44 #[] #[{ accessFlags := 2, nameIndex := 9, descriptorIndex := 10, attributes := #[] }, { accessFlags := 8, nameIndex := 67, descriptorIndex := 68, attributes := #[] }, { accessFlags := 8, nameIndex := 84, descriptorIndex := 85, attributes := #[] }] 48 6 #[] #[{ accessFlags := 24, nameIndex := 73, descriptorIndex := 72, attributes := #[] }, { accessFlags := 24, nameIndex := 75, descriptorIndex := 72, attributes := #[] }, { accessFlags := 24, nameIndex := 77, descriptorIndex := 72, attributes := #[] }, { accessFlags := 24, nameIndex := 71, descriptorIndex := 72, attributes := #[] }])
  fields := #[{ name := "MAX_LENGTH", type := .int, accessFlags := 24, slot := 0, constantValue := 0 }, { name := "LENGTH_BYTES", type := .int, accessFlags := 24, slot := 1, constantValue := 0 }, { name := "CHECKSUM_BYTES", type := .int, accessFlags := 24, slot := 2, constantValue := 0 }, { name := "MAX_SIZE", type := .int, accessFlags := 24, slot := 3, constantValue := 0 }]
  methods := #[k2m0, k2m1, k2m2]
  instanceTypes := #[]
  staticTypes := #[.int, .int, .int, .int]
  resolved := Array.replicate 92 none
  statics := some 0 }

def pool3 : Array CpInfo := pool [(1, u "java/lang/Cloneable"), (0, .class_ 1), (0, u "java/lang/Object"), (0, .class_ 3)] 3

/-- java/lang/Cloneable -/
def k3 : Class := { plain "java/lang/Cloneable" (some 0) with
  accessFlags := 1537
  interfaces := #[]
  cf := some (fileOf pool3 2 #[] #[] 1537 4 #[] #[])
  fields := #[]
  methods := #[]
  instanceTypes := #[]
  staticTypes := #[]
  resolved := Array.replicate 8 none
  statics := none }

def pool4 : Array CpInfo := pool [(1, u "java/io/Serializable"), (0, .class_ 1), (0, u "java/lang/Object"), (0, .class_ 3)] 3

/-- java/io/Serializable -/
def k4 : Class := { plain "java/io/Serializable" (some 0) with
  accessFlags := 1537
  interfaces := #[]
  cf := some (fileOf pool4 2 #[] #[] 1537 4 #[] #[])
  fields := #[]
  methods := #[]
  instanceTypes := #[]
  staticTypes := #[]
  resolved := Array.replicate 8 none
  statics := none }

/-- the primitive byte -/
def k5 : Class := { plain "byte" none with kind := .primitive 'B', accessFlags := 0x411 }
/-- [B -/
def k6 : Class := { plain "[B" (some 0) with kind := .array 5 .byte, interfaces := #[3, 4], accessFlags := 1041 }

/-- the primitive int -/
def k7 : Class := { plain "int" none with kind := .primitive 'I', accessFlags := 0x411 }
/-- [I -/
def k8 : Class := { plain "[I" (some 0) with kind := .array 7 .int, interfaces := #[3, 4], accessFlags := 1041 }

def heap : Heap := #[{ cls := 2, slots := #[.int 0, .int 0, .int 0, .int 4194312], vm := .statics 2 }]
def classes : Array Class := #[k0, k1, k2, k3, k4, k5, k6, k7, k8]
def interned : List (Array UInt16 × Addr) := []
def slotsUsed : Nat := 4
def theMethod : MethodId := ⟨1, 2⟩
def args0 : Array Value := #[.int 5, .int 6]
def aboutOver (below : List Frame) : State where
  vm := { classes := classes, interned := interned.toArray }
  heap := heap
  slotsUsed := slotsUsed
  threads := #[{ frames := .invoking theMethod args0 :: below }]
def below0 : List Frame := [.native { method := ⟨0, 0⟩, args := #[] }]
def about1 : State := aboutOver below0
def p0 : Program := .bare "" "" ""
def e0 : Env := launch0.env 0 0 0
theorem w_frames : about1.frames = Frame.invoking theMethod args0 :: below0 := rfl
set_option maxRecDepth 65536 in
theorem w_args : argsFit about1.vm theMethod args0 = true := by decide +kernel
set_option maxRecDepth 65536 in
theorem w_heap : heapFits about1 = true := by decide +kernel
set_option maxRecDepth 65536 in
theorem w_runnable : about1.curStatus? = some .runnable := by decide +kernel
set_option maxRecDepth 65536 in
theorem w_alone : about1.alone = true := by decide +kernel
set_option maxRecDepth 65536 in
theorem w_named : about1.methodNamed? x = some theMethod := by decide +kernel
set_option maxRecDepth 65536 in
theorem w_hears : about1.hears theMethod below0 = true := by decide +kernel
set_option maxRecDepth 65536 in
theorem w_ripe : about1.ripe theMethod args0 below0 = true := by decide +kernel
theorem w_running : about1.status = .running := rfl
set_option maxRecDepth 65536 in
theorem w_room : about1.hasRoom e0.platform room_1 = true :=
  launch0.hasRoom_least _ room_1 (by decide +kernel) (by decide +kernel) (by decide +kernel) (by decide +kernel) (by decide +kernel) (by decide +kernel)
theorem allAtoms_all (ts : List Jvm.Cond) (a : Array Jvm.Value) (st : Jvm.State) : (allAtoms ts).before a st = ts.all (fun c => c.before a st) := by
  induction ts with
  | nil => rfl
  | cons c t ih =>
    show (Jvm.Cond.and c (allAtoms t)).before a st = _
    rw [Jvm.Cond.before_and, ih, List.all_cons]
def words1 : List Jvm.Cond := Jvm.Cond.code x code maxLocals ret :: tables_1
/-- a 'code' word, met by the world's own term for the bytes: nothing is compared byte by byte -/
theorem code_word {y : MethodName} {bytes : ByteArray} {mx : Nat} {rt : Option FieldType} {a : Array Value} {s : State} {m : MethodId} {meth : Method} {c : Code} (h1 : s.methodNamed? y = some m) (h2 : s.vm.method? m = some meth) (h3 : meth.code = some c) (h4 : c.code = bytes)
    (h5 : (c.maxLocals == mx && c.exceptionTable.isEmpty && decide (c.maxStack ≤ mostOperands) && decide (meth.sig.returnType = rt) && !meth.locks && decide (parseMethodDescriptor y.desc = some meth.sig)) = true) : (Jvm.Cond.code y bytes mx rt).before a s = true := by
  simp only [Bool.and_eq_true, beq_iff_eq, Bool.not_eq_true', decide_eq_true_eq] at h5
  obtain ⟨⟨⟨⟨⟨g1, g2⟩, g3⟩, g4⟩, g5⟩, g6⟩ := h5
  simp [Cond.before, Cond.holds, Cond.value, h1, h2, h3, h4, g1, g2, g3, g4, g5, g6]
def isCode : Jvm.Cond → Bool
  | .code _ _ _ _ => true
  | _ => false
theorem all_split {L : List Jvm.Cond} {P : Jvm.Cond → Bool} (h1 : L.all (fun c => isCode c || P c) = true) (h2 : ∀ c ∈ L.filter isCode, P c = true) : L.all P = true := by
  refine List.all_eq_true.mpr fun c hc => ?_
  have h := List.all_eq_true.mp h1 c hc
  rcases Bool.eq_false_or_eq_true (isCode c) with hi | hi
  · exact h2 c (List.mem_filter.mpr ⟨hc, hi⟩)
  · simpa [hi] using h
set_option maxRecDepth 65536 in
theorem w_c0 : (Jvm.Cond.code x code maxLocals ret).before args0 about1 = true := code_word (m := ⟨1, 2⟩) (meth := k1m2) (c := k1c2) (by decide +kernel) rfl rfl rfl (by decide +kernel)
set_option maxRecDepth 65536 in
theorem w_c1 : (Jvm.Cond.code ({ cls := "com/example/catchwire/catchwire/disk/LogRecord", name := "isPossibleLength", desc := "(I)Z" } : Jvm.MethodName) prog_42_method_4_code (1 : Nat) (Option.some Jvm.ClassFile.FieldType.boolean)).before args0 about1 = true := code_word (m := ⟨2, 2⟩) (meth := k2m2) (c := k2c2) (by decide +kernel) rfl rfl rfl (by decide +kernel)
set_option maxRecDepth 65536 in
theorem w_c2 : (Jvm.Cond.code ({ cls := "com/example/catchwire/catchwire/disk/LogRecordIsPossibleLengthPinLaw", name := "reference", desc := "(I)Z" } : Jvm.MethodName) method_2_code (1 : Nat) (Option.some Jvm.ClassFile.FieldType.boolean)).before args0 about1 = true := code_word (m := ⟨1, 1⟩) (meth := k1m1) (c := k1c1) (by decide +kernel) rfl rfl rfl (by decide +kernel)
set_option maxRecDepth 65536 in
theorem w_c3 : (Jvm.Cond.code ({ cls := "com/example/catchwire/catchwire/disk/LogRecord", name := "size", desc := "(I)I" } : Jvm.MethodName) prog_42_method_3_code (1 : Nat) (Option.some Jvm.ClassFile.FieldType.int)).before args0 about1 = true := code_word (m := ⟨2, 1⟩) (meth := k2m1) (c := k2c1) (by decide +kernel) rfl rfl rfl (by decide +kernel)
def codes1 : List Jvm.Cond := [Jvm.Cond.code x code maxLocals ret, Jvm.Cond.code ({ cls := "com/example/catchwire/catchwire/disk/LogRecord", name := "isPossibleLength", desc := "(I)Z" } : Jvm.MethodName) prog_42_method_4_code (1 : Nat) (Option.some Jvm.ClassFile.FieldType.boolean), Jvm.Cond.code ({ cls := "com/example/catchwire/catchwire/disk/LogRecordIsPossibleLengthPinLaw", name := "reference", desc := "(I)Z" } : Jvm.MethodName) method_2_code (1 : Nat) (Option.some Jvm.ClassFile.FieldType.boolean), Jvm.Cond.code ({ cls := "com/example/catchwire/catchwire/disk/LogRecord", name := "size", desc := "(I)I" } : Jvm.MethodName) prog_42_method_3_code (1 : Nat) (Option.some Jvm.ClassFile.FieldType.int)]
set_option maxRecDepth 65536 in
theorem codes_eq : words1.filter isCode = codes1 := rfl
theorem w_codes : ∀ c ∈ words1.filter isCode, c.before args0 about1 = true := by
  rw [codes_eq]
  intro c hc
  simp only [codes1, List.mem_cons, List.not_mem_nil, or_false] at hc
  rcases hc with rfl | rfl | rfl | rfl
  · exact w_c0
  · exact w_c1
  · exact w_c2
  · exact w_c3
set_option maxRecDepth 65536 in
theorem w_t1 : words1.all (fun c => isCode c || c.before args0 about1) = true := by decide +kernel
theorem w_tables : (allAtoms (Jvm.Cond.code x code maxLocals ret :: tables_1)).before args0 about1 = true := by
  rw [allAtoms_all]
  show words1.all (fun c => c.before args0 about1) = true
  refine all_split ?_ w_codes
  rw [w_t1]
set_option maxRecDepth 65536 in
theorem w_case : (Jvm.Cond.and given_1 narrow_1).before args0 about1 = true := by decide +kernel
theorem w_applies : (headSpec (Jvm.Cond.code x code maxLocals ret :: tables_1) room_1).applies x e0.platform about1 = true :=
  (Spec.applies_iff w_frames).mpr ⟨w_running, w_runnable, w_alone, w_named, w_hears, w_ripe, w_room, w_tables⟩
theorem atStart : AtStart classFile x code maxLocals ret World_1 tables_1 room_1 Calls_1 rest_1 Pre_1 launch0 p0 e0 about1 theMethod args0 below0 :=
  ⟨lists_1, trivial, launch0.admits_env _ _ _, launch0.least_env, fairChoices_fair.cas, fairChoices_fair.clock, w_frames, w_args, w_heap, w_applies, trivial, trivial, w_case⟩
end start1
theorem witness_1 : WitnessClaimed_1 := ⟨start1.p0, start1.e0, start1.about1, start1.theMethod, start1.args0, start1.below0, start1.atStart⟩
end Jvm.Pilot.@@N@@
