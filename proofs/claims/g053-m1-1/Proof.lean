import JvmDerived
import JvmDerived.Pilot.@@N@@Statement
import JvmDerived.Pilot.@@N@@Code
set_option linter.unusedVariables false
set_option linter.unusedSimpArgs false
namespace Jvm.RoadKit
open Sem ClassFile Op Lib Jvm.Stand Jvm.Free Jvm.LawKit
section New
variable {p : Program} {l : Launch} {e : Env} {R : Room} {s : State} {m : MethodId} {args : Array Value} {below : List Frame} {meth : Method} {c : Code} {T : State} {locs : List Loc} {cells slots : Nat}
theorem retI (X : Stand p l e R s m args below meth c T locs cells slots) (hx : p.tables.exec = Jvm.exec) {pc : Nat} {Ls : Array Slot} {z : Int32} {rest : List Value} (hret : meth.sig.returnType = some .int) (hd : decode c.code pc = .ok (.ireturn, 1)) {fs : List Frame}
    (hl : ∀ (f : JFrame) (acts : List Action), f.method = m → f.locked = none → f.entered = [] → (doReturn e (T.setTop f) acts (some (.int z))).1 = T.setFrames fs) : Steps p.tables e below (T.setTop (mkF m pc Ls (.int z :: rest))) (T.setFrames fs) := by
  have hm' : T.vm.method? m = some meth := X.method'
  have hn : narrow .int (.int z) = .int z := rfl
  show Steps p.tables e below (T.setTop { method := m, pc := pc, locals := Ls, stack := _ :: rest, locked := none }) _
  jvm_step X.here [X.here.top, hx, hd, hm', hret, hn]
  first | (intro acts; rw [hl _ acts rfl rfl rfl]) | rw [hl _ _ rfl rfl rfl]
  exact Steps.refl _
end New
end Jvm.RoadKit
namespace Jvm.Pilot.@@N@@
open Jvm Jvm.ClassFile Sem Op Lib Jvm.Free Jvm.Stand Jvm.LawKit Jvm.RoadKit Bundle Jvm.Pilot.@@N@@.Jvm.D
theorem own_w {a0 : Array Value} {Z : State} (hw : ∀ d ∈ tables_1, d.before a0 Z = true) (i : Nat) {d : Jvm.Cond} (h : tables_1[i]? = some d) : d.before a0 Z = true := hw d (List.mem_of_getElem? h)
/-- from U the run comes to the method's end, and Q holds there -/
def own_Go (tb : Tables) (e : Env) (below : List Frame) (s : State) (C N : Nat) (Q : Option Value → Heap → List Loc → Prop) (U : State) : Prop :=
  ∃ t o, Steps tb e below U t ∧ t.status = .running ∧ Ended t below o ∧ ∃ v L, o = .returned v ∧ Q v t.heap L ∧ FrameEnd s o t L C N
theorem own_step {tb : Tables} {e : Env} {below : List Frame} {s : State} {C N : Nat} {Q : Option Value → Heap → List Loc → Prop} {U U' : State} (h : ∀ t, Steps tb e below U' t → Steps tb e below U t) (k : own_Go tb e below s C N Q U') : own_Go tb e below s C N Q U := by
  obtain ⟨t, o, h1, h2⟩ := k
  exact ⟨t, o, h t h1, h2⟩
theorem own_steps {tb : Tables} {e : Env} {below : List Frame} {s : State} {C N : Nat} {Q : Option Value → Heap → List Loc → Prop} {U U' : State} (h : Steps tb e below U U') (k : own_Go tb e below s C N Q U') : own_Go tb e below s C N Q U := own_step (fun _ q => h.trans q) k
theorem own_out {p : Program} {l : Launch} {e : Env} {R : Room} {s : State} {m : MethodId} {args : Array Value} {below : List Frame} {meth : Method} {c : Code} {T : State} {locs : List Loc} {cells slots : Nat} (X : Stand p l e R s m args below meth c T locs cells slots) {v : Option Value}
    (hlk : meth.locks = false) (hv : meth.sig.returnType = none → v = none) {C N : Nat} {Q : Option Value → Heap → List Loc → Prop} (hQ : Q v T.heap locs) (hC : cells ≤ C) (hN : slots ≤ N) {U : State}
    (k : ∀ fs, (∀ (f : JFrame) (acts : List Action), f.method = m → f.locked = none → f.entered = [] → (doReturn e (T.setTop f) acts v).1 = T.setFrames fs) → Steps p.tables e below U (T.setFrames fs)) : own_Go p.tables e below s C N Q U := by
  obtain ⟨fs, hr, hrun, hended, hW, hsame⟩ := X.leave hv hlk
  exact ⟨_, _, k fs hr, hrun, hended, _, _, rfl, hQ, ⟨_, rfl⟩, hW, hsame.mono hC hN⟩
theorem own_exaP {Z : State} {h : Heap} {a : Addr} {C : String} (E : Exa Z h a C) : ∀ c : Cell, h[a]? = some c → c.vm.isStatics = false := fun c hc => by
  obtain ⟨cell, k, h1, -, -, h4, -⟩ := E
  cases h1.symm.trans hc; exact h4
theorem own_staK {Z : State} {h h' : Heap} {C n d : String} {v : Value} {ws : List Addr} (S : Sta Z h C n d v) (K : Keep h h' ws) (q : ∀ w ∈ ws, ∀ c : Cell, h[w]? = some c → c.vm.isStatics = false) : Sta Z h' C n d v := by
  obtain ⟨cf, i, k, f, st, cell, h1, h2, h3, h4, h5, h6, h7⟩ := S
  exact ⟨cf, i, k, f, st, cell, h1, h2, h3, h4, K.2.1 st cell h5 (fun z => by have := q st z cell h5; rw [h6] at this; cases this), h6, h7⟩
theorem own_anyF {Z : State} {a0 : Array Value} {h : Heap} {a : Addr} {C O n d O' n' d' : String} {v' : Value} {k : Nat} (E : Exa Z h a C) (F : Fld Z h a O' n' d' v') (wi : (Cond.instantiable C k).before a0 Z = true) (L : Laid Z a0 C O n d) : ∃ v, Fld Z h a O n d v :=
  fld_laid E (by obtain ⟨cell, _, _, _, _, h1, _, _, h4, _⟩ := F; exact ⟨cell, h1, h4⟩) wi L
theorem own_nv {meth : Method} {t : FieldType} (h : meth.sig.returnType = some t) {v : Option Value} : meth.sig.returnType = none → v = none := fun q => by rw [h] at q; cases q
theorem own_frapp {n0 : Nat} {A B C : List Loc} (l : C = A ++ B) (h1 : Fr n0 A) (h2 : Fr n0 B) : Fr n0 C := by rw [l]; exact Fr.app h1 h2
abbrev own_XC : String := "com/example/palisade/palisade/xml/XmlCursor"
abbrev own_KT : String := "com/example/palisade/palisade/xml/KnownTexts"
abbrev own_LW : String := "com/example/palisade/palisade/xml/XmlCursorLinePinLaw"
theorem pd__I_B : parseMethodDescriptor "(I)B" = some ⟨[.int], some .byte⟩ := by decide +kernel
theorem pd___BI_I : parseMethodDescriptor "([BI)I" = some ⟨[(.array .byte), .int], some .int⟩ := by decide +kernel
theorem pd___V : parseMethodDescriptor "()V" = some ⟨[], none⟩ := by decide +kernel
theorem pd__Lcom_example_palisade_palisade_xml_KnownTexts__V : parseMethodDescriptor "(Lcom/example/palisade/palisade/xml/KnownTexts;)V" = some ⟨[(.object own_KT)], none⟩ := by decide +kernel
theorem pd__Ljava_io_InputStream__V : parseMethodDescriptor "(Ljava/io/InputStream;)V" = some ⟨[(.object "java/io/InputStream")], none⟩ := by decide +kernel
theorem pd____B : parseMethodDescriptor "()[B" = some ⟨[], some (.array .byte)⟩ := by decide +kernel
theorem pd__I_V : parseMethodDescriptor "(I)V" = some ⟨[.int], none⟩ := by decide +kernel
theorem pd___I : parseMethodDescriptor "()I" = some ⟨[], some .int⟩ := by decide +kernel
theorem d1_0 : decode method_2_code 0 = .ok (.iload_n 0, 1) := by decide +kernel
theorem d1_1 : decode method_2_code 1 = .ok (.iconst 3, 1) := by decide +kernel
theorem d1_2 : decode method_2_code 2 = .ok (.iand, 1) := by decide +kernel
theorem d1_3 : decode method_2_code 3 = .ok (.istore_n 1, 1) := by decide +kernel
theorem d1_4 : decode method_2_code 4 = .ok (.iload_n 1, 1) := by decide +kernel
theorem d1_5 : decode method_2_code 5 = .ok (.ifCond .ne 6, 3) := by decide +kernel
theorem d1_8 : decode method_2_code 8 = .ok (.bipush 13, 2) := by decide +kernel
theorem d1_10 : decode method_2_code 10 = .ok (.ireturn, 1) := by decide +kernel
theorem d1_11 : decode method_2_code 11 = .ok (.iload_n 1, 1) := by decide +kernel
theorem d1_12 : decode method_2_code 12 = .ok (.iconst 1, 1) := by decide +kernel
theorem d1_13 : decode method_2_code 13 = .ok (.if_icmp .ne 6, 3) := by decide +kernel
theorem d1_16 : decode method_2_code 16 = .ok (.bipush 10, 2) := by decide +kernel
theorem d1_18 : decode method_2_code 18 = .ok (.ireturn, 1) := by decide +kernel
theorem d1_19 : decode method_2_code 19 = .ok (.iload_n 0, 1) := by decide +kernel
theorem d1_20 : decode method_2_code 20 = .ok (.iconst 2, 1) := by decide +kernel
theorem d1_21 : decode method_2_code 21 = .ok (.ishr, 1) := by decide +kernel
theorem d1_22 : decode method_2_code 22 = .ok (.i2b, 1) := by decide +kernel
theorem d1_23 : decode method_2_code 23 = .ok (.ireturn, 1) := by decide +kernel
theorem pn_1 : plainName own_LW = true := by first | (simp [plainName, overriddenIn]; done) | decide +kernel
theorem ef_1 (m : MethodId) (p0 : Int32) : entryFrame m #[(.int p0)] 2 = mkF m 0 #[iv p0, .unset] [] := by first | (simp [entryFrame, mkF, argsToLocals, Value.category]; done) | rfl
def F1 (p0 : Int32) : Int32 :=
  if (p0 &&& (3 : Int32)) = (0 : Int32) then
    (nar .byte (13 : Int32))
  else
    if (p0 &&& (3 : Int32)) = (1 : Int32) then
      (nar .byte (10 : Int32))
    else
      (nar .byte ((p0 >>> ((2 : Int32) &&& 31)).toInt8.toInt32))
def Q1 (Z : State) (p0 : Int32) (h0 : Heap) (n0 : Nat) (v : Option Value) (h : Heap) (L : List Loc) : Prop := v = some (.int (F1 p0)) ∧ Fr n0 L ∧ h = h0
set_option maxRecDepth 65536 in
set_option maxHeartbeats 40000000 in
theorem rm1 (l : Launch) (Z : State) (a0 : Array Value) (hw : ∀ d ∈ tables_1, d.before a0 Z = true) (ws : List Jvm.Cond) (p0 : Int32) (h0 : Heap) (n0 : Nat) (Z0 : n0 ≤ h0.size) :
    MetFree l (⟨own_LW, "pick", "(I)B"⟩ : MethodName) (head1 (Jvm.Cond.code (⟨own_LW, "pick", "(I)B"⟩ : MethodName) method_2_code 2 (some .byte) :: ws) ({ frames := 0, cells := 0, slots := 0, locals := 0 } : Room)) (fun a U => a = #[(.int p0)] ∧ Z.Warmed39 U.vm ∧ U.heap = h0) (fun _ _ _ _ _ => True) (fun _ U o U' => ∃ v L, o = .returned v ∧ Q1 Z p0 h0 n0 v U'.heap L ∧ FrameEnd U o U' L ({ frames := 0, cells := 0, slots := 0, locals := 0 } : Room).cells ({ frames := 0, cells := 0, slots := 0, locals := 0 } : Room).slots) := by
  refine MetFree.of_bodySF (plainFor_of_name pn_1) hisR ?_
  intro p e s m args below meth c s₁ Bd hml0 hP hK
  obtain ⟨rfl, hZ, hh⟩ := hP
  have hx := Bd.exec
  have hby := Bd.bytes
  have hml : c.maxLocals = 2 := hml0
  have hown : s.vm.findClass own_LW = some m.cls := findClass_of_methodNamed Bd.named
  have hnm := (name_of_methodNamed Bd.named Bd.method).1
  have hlk : meth.locks = false := Bd.notSynchronized
  have X0 : Stand p l e ({ frames := 0, cells := 0, slots := 0, locals := 0 } : Room) s m #[(.int p0)] below meth c s₁ [] 0 0 := Stand.of_body Bd
  have e0 : s₁.heap = h0 := by rw [← hh, Bd.state]; rfl
  have N0 := Fr.nil n0
  have KK0 := Keep.refl h0 []
  show own_Go p.tables e below s 0 0 (Q1 Z p0 h0 n0) (s₁.setTop (entryFrame m #[(.int p0)] 2))
  rw [ef_1]
  refine own_step (U' := s₁.setTop (mkF m 5 #[iv p0, iv (p0 &&& (3 : Int32))] [(.int (p0 &&& (3 : Int32)))])) (fun t k => XS.iloadN X0.here hx rfl (hb hby d1_0) rfl (XS.iconst X0.here hx rfl (hb hby d1_1) (XS.iand X0.here hx rfl (hb hby d1_2) rfl (XS.istoreN X0.here hx rfl (hb hby d1_3) rfl (l' := #[iv p0, iv (p0 &&& (3 : Int32))]) rfl (XS.iloadN X0.here hx rfl (hb hby d1_4) rfl k))))) ?_
  by_cases hc5_1 : (p0 &&& (3 : Int32)) = (0 : Int32)
  · refine own_step (U' := s₁.setTop (mkF m 10 #[iv p0, iv (p0 &&& (3 : Int32))] [(.int (13 : Int32))])) (fun t k => XS.ifNo X0.here hx rfl (hb hby d1_5) rfl ((if0 _ _).trans (teq hc5_1).2) (XS.bipush X0.here hx rfl (hb hby d1_8) k)) ?_
    exact own_out X0 (v := (some (.int (nar .byte (13 : Int32))))) hlk (own_nv Bd.returns) (by rw [e0]; exact ⟨by rw [show (F1 p0) = (nar .byte (13 : Int32)) from (by simp only [F1, if_pos hc5_1])], N0, rfl⟩) (by decide) (by decide) (fun fs hr => retN X0 hx (t := .byte) Bd.returns (by simp) (hb hby d1_10) hr)
  · refine own_step (U' := s₁.setTop (mkF m 13 #[iv p0, iv (p0 &&& (3 : Int32))] [(.int (1 : Int32)), (.int (p0 &&& (3 : Int32)))])) (fun t k => XS.ifYes X0.here hx rfl (pc0 := 5) (pc' := 11) rfl (hb hby d1_5) rfl ((if0 _ _).trans (feq hc5_1).2) (by decide) (by decide) (XS.iloadN X0.here hx rfl (hb hby d1_11) rfl (XS.iconst X0.here hx rfl (hb hby d1_12) k))) ?_
    by_cases hc13_2 : (p0 &&& (3 : Int32)) = (1 : Int32)
    · refine own_step (U' := s₁.setTop (mkF m 18 #[iv p0, iv (p0 &&& (3 : Int32))] [(.int (10 : Int32))])) (fun t k => XS.icmpNo X0.here hx rfl (hb hby d1_13) rfl (teq hc13_2).2 (XS.bipush X0.here hx rfl (hb hby d1_16) k)) ?_
      exact own_out X0 (v := (some (.int (nar .byte (10 : Int32))))) hlk (own_nv Bd.returns) (by rw [e0]; exact ⟨by rw [show (F1 p0) = (nar .byte (10 : Int32)) from (by simp only [F1, if_neg hc5_1, if_pos hc13_2])], N0, rfl⟩) (by decide) (by decide) (fun fs hr => retN X0 hx (t := .byte) Bd.returns (by simp) (hb hby d1_18) hr)
    · refine own_step (U' := s₁.setTop (mkF m 23 #[iv p0, iv (p0 &&& (3 : Int32))] [(.int ((p0 >>> ((2 : Int32) &&& 31)).toInt8.toInt32))])) (fun t k => XS.icmpYes X0.here hx rfl (pc0 := 13) (pc' := 19) rfl (hb hby d1_13) rfl (feq hc13_2).2 (by decide) (by decide) (XS.iloadN X0.here hx rfl (hb hby d1_19) rfl (XS.iconst X0.here hx rfl (hb hby d1_20) (XS.ishr X0.here hx rfl (hb hby d1_21) rfl (XS.i2b X0.here hx rfl (hb hby d1_22) rfl k))))) ?_
      exact own_out X0 (v := (some (.int (nar .byte ((p0 >>> ((2 : Int32) &&& 31)).toInt8.toInt32))))) hlk (own_nv Bd.returns) (by rw [e0]; exact ⟨by rw [show (F1 p0) = (nar .byte ((p0 >>> ((2 : Int32) &&& 31)).toInt8.toInt32)) from (by simp only [F1, if_neg hc5_1, if_neg hc13_2])], N0, rfl⟩) (by decide) (by decide) (fun fs hr => retN X0 hx (t := .byte) Bd.returns (by simp) (hb hby d1_23) hr)
theorem d2_0 : decode method_3_code 0 = .ok (.aload_n 0, 1) := by decide +kernel
theorem d2_1 : decode method_3_code 1 = .ok (.iload_n 1, 1) := by decide +kernel
theorem d2_2 : decode method_3_code 2 = .ok (.baload, 1) := by decide +kernel
theorem d2_3 : decode method_3_code 3 = .ok (.bipush 13, 2) := by decide +kernel
theorem d2_5 : decode method_3_code 5 = .ok (.if_icmp .ne 5, 3) := by decide +kernel
theorem d2_8 : decode method_3_code 8 = .ok (.iconst 1, 1) := by decide +kernel
theorem d2_9 : decode method_3_code 9 = .ok (.ireturn, 1) := by decide +kernel
theorem d2_10 : decode method_3_code 10 = .ok (.aload_n 0, 1) := by decide +kernel
theorem d2_11 : decode method_3_code 11 = .ok (.iload_n 1, 1) := by decide +kernel
theorem d2_12 : decode method_3_code 12 = .ok (.baload, 1) := by decide +kernel
theorem d2_13 : decode method_3_code 13 = .ok (.bipush 10, 2) := by decide +kernel
theorem d2_15 : decode method_3_code 15 = .ok (.if_icmp .ne 25, 3) := by decide +kernel
theorem d2_18 : decode method_3_code 18 = .ok (.iload_n 1, 1) := by decide +kernel
theorem d2_19 : decode method_3_code 19 = .ok (.ifCond .ne 5, 3) := by decide +kernel
theorem d2_22 : decode method_3_code 22 = .ok (.iconst 1, 1) := by decide +kernel
theorem d2_23 : decode method_3_code 23 = .ok (.ireturn, 1) := by decide +kernel
theorem d2_24 : decode method_3_code 24 = .ok (.aload_n 0, 1) := by decide +kernel
theorem d2_25 : decode method_3_code 25 = .ok (.iload_n 1, 1) := by decide +kernel
theorem d2_26 : decode method_3_code 26 = .ok (.iconst 1, 1) := by decide +kernel
theorem d2_27 : decode method_3_code 27 = .ok (.isub, 1) := by decide +kernel
theorem d2_28 : decode method_3_code 28 = .ok (.baload, 1) := by decide +kernel
theorem d2_29 : decode method_3_code 29 = .ok (.bipush 13, 2) := by decide +kernel
theorem d2_31 : decode method_3_code 31 = .ok (.if_icmp .ne 7, 3) := by decide +kernel
theorem d2_34 : decode method_3_code 34 = .ok (.iconst 0, 1) := by decide +kernel
theorem d2_35 : decode method_3_code 35 = .ok (.goto 4, 3) := by decide +kernel
theorem d2_38 : decode method_3_code 38 = .ok (.iconst 1, 1) := by decide +kernel
theorem d2_39 : decode method_3_code 39 = .ok (.ireturn, 1) := by decide +kernel
theorem d2_40 : decode method_3_code 40 = .ok (.iconst 0, 1) := by decide +kernel
theorem d2_41 : decode method_3_code 41 = .ok (.ireturn, 1) := by decide +kernel
theorem pn_2 : plainName own_LW = true := by first | (simp [plainName, overriddenIn]; done) | decide +kernel
theorem ef_2i3 (m : MethodId) (r0 : Addr) : entryFrame m #[(.ref r0), (.int (3 : Int32))] 2 = mkF m 0 #[rv r0, iv (3 : Int32)] [] := by first | (simp [entryFrame, mkF, argsToLocals, Value.category]; done) | rfl
def F2i3 (w0 : Int32) (w1 : Int32) (w2 : Int32) (w3 : Int32) : Int32 :=
  if w3 = (13 : Int32) then
    (1 : Int32)
  else
    if w3 = (10 : Int32) then
      if w2 = (13 : Int32) then
        (0 : Int32)
      else
        (1 : Int32)
    else
      (0 : Int32)
def Q2i3 (Z : State) (r0 : Addr) (w0 : Int32) (w1 : Int32) (w2 : Int32) (w3 : Int32) (k_r0 : ClassId) (h0 : Heap) (n0 : Nat) (v : Option Value) (h : Heap) (L : List Loc) : Prop := v = some (.int (F2i3 w0 w1 w2 w3)) ∧ Fr n0 L ∧ h = h0
set_option maxRecDepth 65536 in
set_option maxHeartbeats 40000000 in
theorem rm2i3 (l : Launch) (Z : State) (a0 : Array Value) (hw : ∀ d ∈ tables_1, d.before a0 Z = true) (ws : List Jvm.Cond) (r0 : Addr) (w0 : Int32) (w1 : Int32) (w2 : Int32) (w3 : Int32) (k_r0 : ClassId) (h0 : Heap) (n0 : Nat) (Z0 : n0 ≤ h0.size) (V_r0 : Arv Z h0 r0 k_r0 .byte (4 : Int32) [(.int w0), (.int w1), (.int w2), (.int w3)] (.int (0 : Int32))) :
    MetFree l (⟨own_LW, "end", "([BI)I"⟩ : MethodName) (head1 (Jvm.Cond.code (⟨own_LW, "end", "([BI)I"⟩ : MethodName) method_3_code 2 (some .int) :: ws) ({ frames := 0, cells := 0, slots := 0, locals := 0 } : Room)) (fun a U => a = #[(.ref r0), (.int (3 : Int32))] ∧ Z.Warmed39 U.vm ∧ U.heap = h0) (fun _ _ _ _ _ => True) (fun _ U o U' => ∃ v L, o = .returned v ∧ Q2i3 Z r0 w0 w1 w2 w3 k_r0 h0 n0 v U'.heap L ∧ FrameEnd U o U' L ({ frames := 0, cells := 0, slots := 0, locals := 0 } : Room).cells ({ frames := 0, cells := 0, slots := 0, locals := 0 } : Room).slots) := by
  refine MetFree.of_bodySF (plainFor_of_name pn_2) hisR ?_
  intro p e s m args below meth c s₁ Bd hml0 hP hK
  obtain ⟨rfl, hZ, hh⟩ := hP
  have hx := Bd.exec
  have hby := Bd.bytes
  have hml : c.maxLocals = 2 := hml0
  have hown : s.vm.findClass own_LW = some m.cls := findClass_of_methodNamed Bd.named
  have hnm := (name_of_methodNamed Bd.named Bd.method).1
  have hlk : meth.locks = false := Bd.notSynchronized
  have X0 : Stand p l e ({ frames := 0, cells := 0, slots := 0, locals := 0 } : Room) s m #[(.ref r0), (.int (3 : Int32))] below meth c s₁ [] 0 0 := Stand.of_body Bd
  have e0 : s₁.heap = h0 := by rw [← hh, Bd.state]; rfl
  have N0 := Fr.nil n0
  have KK0 := Keep.refl h0 []
  show own_Go p.tables e below s 0 0 (Q2i3 Z r0 w0 w1 w2 w3 k_r0 h0 n0) (s₁.setTop (entryFrame m #[(.ref r0), (.int (3 : Int32))] 2))
  rw [ef_2i3]
  refine own_step (U' := s₁.setTop (mkF m 2 #[rv r0, iv (3 : Int32)] [(.int (3 : Int32)), (.ref r0)])) (fun t k => XS.aloadN X0.here hx rfl (hb hby d2_0) rfl rfl (XS.iloadN X0.here hx rfl (hb hby d2_1) rfl k)) ?_
  obtain ⟨cl1, Ar1, aq1, aS1, aN1, aH1, aG1⟩ := id V_r0
  have hin1 : ¬ ((3 : Int32) < 0 ∨ cl1.slots.size ≤ ((3 : Int32)).toNatClampNeg) := inb_of aS1 ⟨by decide, by decide⟩
  have hat1 : cl1.slots[((3 : Int32)).toNatClampNeg]? = some (.int w3) := aH1.at hin1 rfl
  refine own_step (U' := s₁.setTop (mkF m 5 #[rv r0, iv (3 : Int32)] [(.int (13 : Int32)), (.int w3)])) (fun t k => X0.baloadBytes hx (j := (3 : Int32)) (v := (.int w3)) (by rw [e0]; exact Ar1.1) (State.isArrayOf_alike hZ.alike Ar1.2.1) Ar1.2.2 hin1 hat1 (g := (mkF m 2 #[rv r0, iv (3 : Int32)] [(.int (3 : Int32)), (.ref r0)])) rfl rfl (hb hby d2_2) t (XS.bipush X0.here hx rfl (hb hby d2_3) k)) ?_
  by_cases hc5_2 : w3 = (13 : Int32)
  · refine own_step (U' := s₁.setTop (mkF m 9 #[rv r0, iv (3 : Int32)] [(.int (1 : Int32))])) (fun t k => XS.icmpNo X0.here hx rfl (hb hby d2_5) rfl (teq hc5_2).2 (XS.iconst X0.here hx rfl (hb hby d2_8) k)) ?_
    exact own_out X0 (v := (some (.int (1 : Int32)))) hlk (own_nv Bd.returns) (by rw [e0]; exact ⟨by rw [show (F2i3 w0 w1 w2 w3) = (1 : Int32) from (by simp only [F2i3, if_pos hc5_2])], N0, rfl⟩) (by decide) (by decide) (fun fs hr => retI X0 hx Bd.returns (hb hby d2_9) hr)
  · refine own_step (U' := s₁.setTop (mkF m 12 #[rv r0, iv (3 : Int32)] [(.int (3 : Int32)), (.ref r0)])) (fun t k => XS.icmpYes X0.here hx rfl (pc0 := 5) (pc' := 10) rfl (hb hby d2_5) rfl (feq hc5_2).2 (by decide) (by decide) (XS.aloadN X0.here hx rfl (hb hby d2_10) rfl rfl (XS.iloadN X0.here hx rfl (hb hby d2_11) rfl k))) ?_
    obtain ⟨cl3, Ar3, aq3, aS3, aN3, aH3, aG3⟩ := id V_r0
    have hin3 : ¬ ((3 : Int32) < 0 ∨ cl3.slots.size ≤ ((3 : Int32)).toNatClampNeg) := inb_of aS3 ⟨by decide, by decide⟩
    have hat3 : cl3.slots[((3 : Int32)).toNatClampNeg]? = some (.int w3) := aH3.at hin3 rfl
    refine own_step (U' := s₁.setTop (mkF m 15 #[rv r0, iv (3 : Int32)] [(.int (10 : Int32)), (.int w3)])) (fun t k => X0.baloadBytes hx (j := (3 : Int32)) (v := (.int w3)) (by rw [e0]; exact Ar3.1) (State.isArrayOf_alike hZ.alike Ar3.2.1) Ar3.2.2 hin3 hat3 (g := (mkF m 12 #[rv r0, iv (3 : Int32)] [(.int (3 : Int32)), (.ref r0)])) rfl rfl (hb hby d2_12) t (XS.bipush X0.here hx rfl (hb hby d2_13) k)) ?_
    by_cases hc15_4 : w3 = (10 : Int32)
    · refine own_step (U' := s₁.setTop (mkF m 28 #[rv r0, iv (3 : Int32)] [(.int (2 : Int32)), (.ref r0)])) (fun t k => XS.icmpNo X0.here hx rfl (hb hby d2_15) rfl (teq hc15_4).2 (XS.iloadN X0.here hx rfl (hb hby d2_18) rfl (XS.ifYes X0.here hx rfl (pc0 := 19) (pc' := 24) rfl (hb hby d2_19) rfl (by decide) (by decide) (by decide) (XS.aloadN X0.here hx rfl (hb hby d2_24) rfl rfl (XS.iloadN X0.here hx rfl (hb hby d2_25) rfl (XS.iconst X0.here hx rfl (hb hby d2_26) (XS.isub X0.here hx rfl (hb hby d2_27) rfl k))))))) ?_
      obtain ⟨cl5, Ar5, aq5, aS5, aN5, aH5, aG5⟩ := id V_r0
      have hin5 : ¬ ((2 : Int32) < 0 ∨ cl5.slots.size ≤ ((2 : Int32)).toNatClampNeg) := inb_of aS5 ⟨by decide, by decide⟩
      have hat5 : cl5.slots[((2 : Int32)).toNatClampNeg]? = some (.int w2) := aH5.at hin5 rfl
      refine own_step (U' := s₁.setTop (mkF m 31 #[rv r0, iv (3 : Int32)] [(.int (13 : Int32)), (.int w2)])) (fun t k => X0.baloadBytes hx (j := (2 : Int32)) (v := (.int w2)) (by rw [e0]; exact Ar5.1) (State.isArrayOf_alike hZ.alike Ar5.2.1) Ar5.2.2 hin5 hat5 (g := (mkF m 28 #[rv r0, iv (3 : Int32)] [(.int (2 : Int32)), (.ref r0)])) rfl rfl (hb hby d2_28) t (XS.bipush X0.here hx rfl (hb hby d2_29) k)) ?_
      by_cases hc31_6 : w2 = (13 : Int32)
      · refine own_step (U' := s₁.setTop (mkF m 39 #[rv r0, iv (3 : Int32)] [(.int (0 : Int32))])) (fun t k => XS.icmpNo X0.here hx rfl (hb hby d2_31) rfl (teq hc31_6).2 (XS.iconst X0.here hx rfl (hb hby d2_34) (XS.goto X0.here hx rfl (pc0 := 35) (pc' := 39) rfl (hb hby d2_35) (by decide) (by decide) k))) ?_
        exact own_out X0 (v := (some (.int (0 : Int32)))) hlk (own_nv Bd.returns) (by rw [e0]; exact ⟨by rw [show (F2i3 w0 w1 w2 w3) = (0 : Int32) from (by simp only [F2i3, if_neg hc5_2, if_pos hc15_4, if_pos hc31_6])], N0, rfl⟩) (by decide) (by decide) (fun fs hr => retI X0 hx Bd.returns (hb hby d2_39) hr)
      · refine own_step (U' := s₁.setTop (mkF m 39 #[rv r0, iv (3 : Int32)] [(.int (1 : Int32))])) (fun t k => XS.icmpYes X0.here hx rfl (pc0 := 31) (pc' := 38) rfl (hb hby d2_31) rfl (feq hc31_6).2 (by decide) (by decide) (XS.iconst X0.here hx rfl (hb hby d2_38) k)) ?_
        exact own_out X0 (v := (some (.int (1 : Int32)))) hlk (own_nv Bd.returns) (by rw [e0]; exact ⟨by rw [show (F2i3 w0 w1 w2 w3) = (1 : Int32) from (by simp only [F2i3, if_neg hc5_2, if_pos hc15_4, if_neg hc31_6])], N0, rfl⟩) (by decide) (by decide) (fun fs hr => retI X0 hx Bd.returns (hb hby d2_39) hr)
    · refine own_step (U' := s₁.setTop (mkF m 41 #[rv r0, iv (3 : Int32)] [(.int (0 : Int32))])) (fun t k => XS.icmpYes X0.here hx rfl (pc0 := 15) (pc' := 40) rfl (hb hby d2_15) rfl (feq hc15_4).2 (by decide) (by decide) (XS.iconst X0.here hx rfl (hb hby d2_40) k)) ?_
      exact own_out X0 (v := (some (.int (0 : Int32)))) hlk (own_nv Bd.returns) (by rw [e0]; exact ⟨by rw [show (F2i3 w0 w1 w2 w3) = (0 : Int32) from (by simp only [F2i3, if_neg hc5_2, if_neg hc15_4])], N0, rfl⟩) (by decide) (by decide) (fun fs hr => retI X0 hx Bd.returns (hb hby d2_41) hr)
theorem ef_2i2 (m : MethodId) (r0 : Addr) : entryFrame m #[(.ref r0), (.int (2 : Int32))] 2 = mkF m 0 #[rv r0, iv (2 : Int32)] [] := by first | (simp [entryFrame, mkF, argsToLocals, Value.category]; done) | rfl
def F2i2 (w0 : Int32) (w1 : Int32) (w2 : Int32) (w3 : Int32) : Int32 :=
  if w2 = (13 : Int32) then
    (1 : Int32)
  else
    if w2 = (10 : Int32) then
      if w1 = (13 : Int32) then
        (0 : Int32)
      else
        (1 : Int32)
    else
      (0 : Int32)
def Q2i2 (Z : State) (r0 : Addr) (w0 : Int32) (w1 : Int32) (w2 : Int32) (w3 : Int32) (k_r0 : ClassId) (h0 : Heap) (n0 : Nat) (v : Option Value) (h : Heap) (L : List Loc) : Prop := v = some (.int (F2i2 w0 w1 w2 w3)) ∧ Fr n0 L ∧ h = h0
set_option maxRecDepth 65536 in
set_option maxHeartbeats 40000000 in
theorem rm2i2 (l : Launch) (Z : State) (a0 : Array Value) (hw : ∀ d ∈ tables_1, d.before a0 Z = true) (ws : List Jvm.Cond) (r0 : Addr) (w0 : Int32) (w1 : Int32) (w2 : Int32) (w3 : Int32) (k_r0 : ClassId) (h0 : Heap) (n0 : Nat) (Z0 : n0 ≤ h0.size) (V_r0 : Arv Z h0 r0 k_r0 .byte (4 : Int32) [(.int w0), (.int w1), (.int w2), (.int w3)] (.int (0 : Int32))) :
    MetFree l (⟨own_LW, "end", "([BI)I"⟩ : MethodName) (head1 (Jvm.Cond.code (⟨own_LW, "end", "([BI)I"⟩ : MethodName) method_3_code 2 (some .int) :: ws) ({ frames := 0, cells := 0, slots := 0, locals := 0 } : Room)) (fun a U => a = #[(.ref r0), (.int (2 : Int32))] ∧ Z.Warmed39 U.vm ∧ U.heap = h0) (fun _ _ _ _ _ => True) (fun _ U o U' => ∃ v L, o = .returned v ∧ Q2i2 Z r0 w0 w1 w2 w3 k_r0 h0 n0 v U'.heap L ∧ FrameEnd U o U' L ({ frames := 0, cells := 0, slots := 0, locals := 0 } : Room).cells ({ frames := 0, cells := 0, slots := 0, locals := 0 } : Room).slots) := by
  refine MetFree.of_bodySF (plainFor_of_name pn_2) hisR ?_
  intro p e s m args below meth c s₁ Bd hml0 hP hK
  obtain ⟨rfl, hZ, hh⟩ := hP
  have hx := Bd.exec
  have hby := Bd.bytes
  have hml : c.maxLocals = 2 := hml0
  have hown : s.vm.findClass own_LW = some m.cls := findClass_of_methodNamed Bd.named
  have hnm := (name_of_methodNamed Bd.named Bd.method).1
  have hlk : meth.locks = false := Bd.notSynchronized
  have X0 : Stand p l e ({ frames := 0, cells := 0, slots := 0, locals := 0 } : Room) s m #[(.ref r0), (.int (2 : Int32))] below meth c s₁ [] 0 0 := Stand.of_body Bd
  have e0 : s₁.heap = h0 := by rw [← hh, Bd.state]; rfl
  have N0 := Fr.nil n0
  have KK0 := Keep.refl h0 []
  show own_Go p.tables e below s 0 0 (Q2i2 Z r0 w0 w1 w2 w3 k_r0 h0 n0) (s₁.setTop (entryFrame m #[(.ref r0), (.int (2 : Int32))] 2))
  rw [ef_2i2]
  refine own_step (U' := s₁.setTop (mkF m 2 #[rv r0, iv (2 : Int32)] [(.int (2 : Int32)), (.ref r0)])) (fun t k => XS.aloadN X0.here hx rfl (hb hby d2_0) rfl rfl (XS.iloadN X0.here hx rfl (hb hby d2_1) rfl k)) ?_
  obtain ⟨cl1, Ar1, aq1, aS1, aN1, aH1, aG1⟩ := id V_r0
  have hin1 : ¬ ((2 : Int32) < 0 ∨ cl1.slots.size ≤ ((2 : Int32)).toNatClampNeg) := inb_of aS1 ⟨by decide, by decide⟩
  have hat1 : cl1.slots[((2 : Int32)).toNatClampNeg]? = some (.int w2) := aH1.at hin1 rfl
  refine own_step (U' := s₁.setTop (mkF m 5 #[rv r0, iv (2 : Int32)] [(.int (13 : Int32)), (.int w2)])) (fun t k => X0.baloadBytes hx (j := (2 : Int32)) (v := (.int w2)) (by rw [e0]; exact Ar1.1) (State.isArrayOf_alike hZ.alike Ar1.2.1) Ar1.2.2 hin1 hat1 (g := (mkF m 2 #[rv r0, iv (2 : Int32)] [(.int (2 : Int32)), (.ref r0)])) rfl rfl (hb hby d2_2) t (XS.bipush X0.here hx rfl (hb hby d2_3) k)) ?_
  by_cases hc5_2 : w2 = (13 : Int32)
  · refine own_step (U' := s₁.setTop (mkF m 9 #[rv r0, iv (2 : Int32)] [(.int (1 : Int32))])) (fun t k => XS.icmpNo X0.here hx rfl (hb hby d2_5) rfl (teq hc5_2).2 (XS.iconst X0.here hx rfl (hb hby d2_8) k)) ?_
    exact own_out X0 (v := (some (.int (1 : Int32)))) hlk (own_nv Bd.returns) (by rw [e0]; exact ⟨by rw [show (F2i2 w0 w1 w2 w3) = (1 : Int32) from (by simp only [F2i2, if_pos hc5_2])], N0, rfl⟩) (by decide) (by decide) (fun fs hr => retI X0 hx Bd.returns (hb hby d2_9) hr)
  · refine own_step (U' := s₁.setTop (mkF m 12 #[rv r0, iv (2 : Int32)] [(.int (2 : Int32)), (.ref r0)])) (fun t k => XS.icmpYes X0.here hx rfl (pc0 := 5) (pc' := 10) rfl (hb hby d2_5) rfl (feq hc5_2).2 (by decide) (by decide) (XS.aloadN X0.here hx rfl (hb hby d2_10) rfl rfl (XS.iloadN X0.here hx rfl (hb hby d2_11) rfl k))) ?_
    obtain ⟨cl3, Ar3, aq3, aS3, aN3, aH3, aG3⟩ := id V_r0
    have hin3 : ¬ ((2 : Int32) < 0 ∨ cl3.slots.size ≤ ((2 : Int32)).toNatClampNeg) := inb_of aS3 ⟨by decide, by decide⟩
    have hat3 : cl3.slots[((2 : Int32)).toNatClampNeg]? = some (.int w2) := aH3.at hin3 rfl
    refine own_step (U' := s₁.setTop (mkF m 15 #[rv r0, iv (2 : Int32)] [(.int (10 : Int32)), (.int w2)])) (fun t k => X0.baloadBytes hx (j := (2 : Int32)) (v := (.int w2)) (by rw [e0]; exact Ar3.1) (State.isArrayOf_alike hZ.alike Ar3.2.1) Ar3.2.2 hin3 hat3 (g := (mkF m 12 #[rv r0, iv (2 : Int32)] [(.int (2 : Int32)), (.ref r0)])) rfl rfl (hb hby d2_12) t (XS.bipush X0.here hx rfl (hb hby d2_13) k)) ?_
    by_cases hc15_4 : w2 = (10 : Int32)
    · refine own_step (U' := s₁.setTop (mkF m 28 #[rv r0, iv (2 : Int32)] [(.int (1 : Int32)), (.ref r0)])) (fun t k => XS.icmpNo X0.here hx rfl (hb hby d2_15) rfl (teq hc15_4).2 (XS.iloadN X0.here hx rfl (hb hby d2_18) rfl (XS.ifYes X0.here hx rfl (pc0 := 19) (pc' := 24) rfl (hb hby d2_19) rfl (by decide) (by decide) (by decide) (XS.aloadN X0.here hx rfl (hb hby d2_24) rfl rfl (XS.iloadN X0.here hx rfl (hb hby d2_25) rfl (XS.iconst X0.here hx rfl (hb hby d2_26) (XS.isub X0.here hx rfl (hb hby d2_27) rfl k))))))) ?_
      obtain ⟨cl5, Ar5, aq5, aS5, aN5, aH5, aG5⟩ := id V_r0
      have hin5 : ¬ ((1 : Int32) < 0 ∨ cl5.slots.size ≤ ((1 : Int32)).toNatClampNeg) := inb_of aS5 ⟨by decide, by decide⟩
      have hat5 : cl5.slots[((1 : Int32)).toNatClampNeg]? = some (.int w1) := aH5.at hin5 rfl
      refine own_step (U' := s₁.setTop (mkF m 31 #[rv r0, iv (2 : Int32)] [(.int (13 : Int32)), (.int w1)])) (fun t k => X0.baloadBytes hx (j := (1 : Int32)) (v := (.int w1)) (by rw [e0]; exact Ar5.1) (State.isArrayOf_alike hZ.alike Ar5.2.1) Ar5.2.2 hin5 hat5 (g := (mkF m 28 #[rv r0, iv (2 : Int32)] [(.int (1 : Int32)), (.ref r0)])) rfl rfl (hb hby d2_28) t (XS.bipush X0.here hx rfl (hb hby d2_29) k)) ?_
      by_cases hc31_6 : w1 = (13 : Int32)
      · refine own_step (U' := s₁.setTop (mkF m 39 #[rv r0, iv (2 : Int32)] [(.int (0 : Int32))])) (fun t k => XS.icmpNo X0.here hx rfl (hb hby d2_31) rfl (teq hc31_6).2 (XS.iconst X0.here hx rfl (hb hby d2_34) (XS.goto X0.here hx rfl (pc0 := 35) (pc' := 39) rfl (hb hby d2_35) (by decide) (by decide) k))) ?_
        exact own_out X0 (v := (some (.int (0 : Int32)))) hlk (own_nv Bd.returns) (by rw [e0]; exact ⟨by rw [show (F2i2 w0 w1 w2 w3) = (0 : Int32) from (by simp only [F2i2, if_neg hc5_2, if_pos hc15_4, if_pos hc31_6])], N0, rfl⟩) (by decide) (by decide) (fun fs hr => retI X0 hx Bd.returns (hb hby d2_39) hr)
      · refine own_step (U' := s₁.setTop (mkF m 39 #[rv r0, iv (2 : Int32)] [(.int (1 : Int32))])) (fun t k => XS.icmpYes X0.here hx rfl (pc0 := 31) (pc' := 38) rfl (hb hby d2_31) rfl (feq hc31_6).2 (by decide) (by decide) (XS.iconst X0.here hx rfl (hb hby d2_38) k)) ?_
        exact own_out X0 (v := (some (.int (1 : Int32)))) hlk (own_nv Bd.returns) (by rw [e0]; exact ⟨by rw [show (F2i2 w0 w1 w2 w3) = (1 : Int32) from (by simp only [F2i2, if_neg hc5_2, if_pos hc15_4, if_neg hc31_6])], N0, rfl⟩) (by decide) (by decide) (fun fs hr => retI X0 hx Bd.returns (hb hby d2_39) hr)
    · refine own_step (U' := s₁.setTop (mkF m 41 #[rv r0, iv (2 : Int32)] [(.int (0 : Int32))])) (fun t k => XS.icmpYes X0.here hx rfl (pc0 := 15) (pc' := 40) rfl (hb hby d2_15) rfl (feq hc15_4).2 (by decide) (by decide) (XS.iconst X0.here hx rfl (hb hby d2_40) k)) ?_
      exact own_out X0 (v := (some (.int (0 : Int32)))) hlk (own_nv Bd.returns) (by rw [e0]; exact ⟨by rw [show (F2i2 w0 w1 w2 w3) = (0 : Int32) from (by simp only [F2i2, if_neg hc5_2, if_neg hc15_4])], N0, rfl⟩) (by decide) (by decide) (fun fs hr => retI X0 hx Bd.returns (hb hby d2_41) hr)
theorem ef_2i1 (m : MethodId) (r0 : Addr) : entryFrame m #[(.ref r0), (.int (1 : Int32))] 2 = mkF m 0 #[rv r0, iv (1 : Int32)] [] := by first | (simp [entryFrame, mkF, argsToLocals, Value.category]; done) | rfl
def F2i1 (w0 : Int32) (w1 : Int32) (w2 : Int32) (w3 : Int32) : Int32 :=
  if w1 = (13 : Int32) then
    (1 : Int32)
  else
    if w1 = (10 : Int32) then
      if w0 = (13 : Int32) then
        (0 : Int32)
      else
        (1 : Int32)
    else
      (0 : Int32)
def Q2i1 (Z : State) (r0 : Addr) (w0 : Int32) (w1 : Int32) (w2 : Int32) (w3 : Int32) (k_r0 : ClassId) (h0 : Heap) (n0 : Nat) (v : Option Value) (h : Heap) (L : List Loc) : Prop := v = some (.int (F2i1 w0 w1 w2 w3)) ∧ Fr n0 L ∧ h = h0
set_option maxRecDepth 65536 in
set_option maxHeartbeats 40000000 in
theorem rm2i1 (l : Launch) (Z : State) (a0 : Array Value) (hw : ∀ d ∈ tables_1, d.before a0 Z = true) (ws : List Jvm.Cond) (r0 : Addr) (w0 : Int32) (w1 : Int32) (w2 : Int32) (w3 : Int32) (k_r0 : ClassId) (h0 : Heap) (n0 : Nat) (Z0 : n0 ≤ h0.size) (V_r0 : Arv Z h0 r0 k_r0 .byte (4 : Int32) [(.int w0), (.int w1), (.int w2), (.int w3)] (.int (0 : Int32))) :
    MetFree l (⟨own_LW, "end", "([BI)I"⟩ : MethodName) (head1 (Jvm.Cond.code (⟨own_LW, "end", "([BI)I"⟩ : MethodName) method_3_code 2 (some .int) :: ws) ({ frames := 0, cells := 0, slots := 0, locals := 0 } : Room)) (fun a U => a = #[(.ref r0), (.int (1 : Int32))] ∧ Z.Warmed39 U.vm ∧ U.heap = h0) (fun _ _ _ _ _ => True) (fun _ U o U' => ∃ v L, o = .returned v ∧ Q2i1 Z r0 w0 w1 w2 w3 k_r0 h0 n0 v U'.heap L ∧ FrameEnd U o U' L ({ frames := 0, cells := 0, slots := 0, locals := 0 } : Room).cells ({ frames := 0, cells := 0, slots := 0, locals := 0 } : Room).slots) := by
  refine MetFree.of_bodySF (plainFor_of_name pn_2) hisR ?_
  intro p e s m args below meth c s₁ Bd hml0 hP hK
  obtain ⟨rfl, hZ, hh⟩ := hP
  have hx := Bd.exec
  have hby := Bd.bytes
  have hml : c.maxLocals = 2 := hml0
  have hown : s.vm.findClass own_LW = some m.cls := findClass_of_methodNamed Bd.named
  have hnm := (name_of_methodNamed Bd.named Bd.method).1
  have hlk : meth.locks = false := Bd.notSynchronized
  have X0 : Stand p l e ({ frames := 0, cells := 0, slots := 0, locals := 0 } : Room) s m #[(.ref r0), (.int (1 : Int32))] below meth c s₁ [] 0 0 := Stand.of_body Bd
  have e0 : s₁.heap = h0 := by rw [← hh, Bd.state]; rfl
  have N0 := Fr.nil n0
  have KK0 := Keep.refl h0 []
  show own_Go p.tables e below s 0 0 (Q2i1 Z r0 w0 w1 w2 w3 k_r0 h0 n0) (s₁.setTop (entryFrame m #[(.ref r0), (.int (1 : Int32))] 2))
  rw [ef_2i1]
  refine own_step (U' := s₁.setTop (mkF m 2 #[rv r0, iv (1 : Int32)] [(.int (1 : Int32)), (.ref r0)])) (fun t k => XS.aloadN X0.here hx rfl (hb hby d2_0) rfl rfl (XS.iloadN X0.here hx rfl (hb hby d2_1) rfl k)) ?_
  obtain ⟨cl1, Ar1, aq1, aS1, aN1, aH1, aG1⟩ := id V_r0
  have hin1 : ¬ ((1 : Int32) < 0 ∨ cl1.slots.size ≤ ((1 : Int32)).toNatClampNeg) := inb_of aS1 ⟨by decide, by decide⟩
  have hat1 : cl1.slots[((1 : Int32)).toNatClampNeg]? = some (.int w1) := aH1.at hin1 rfl
  refine own_step (U' := s₁.setTop (mkF m 5 #[rv r0, iv (1 : Int32)] [(.int (13 : Int32)), (.int w1)])) (fun t k => X0.baloadBytes hx (j := (1 : Int32)) (v := (.int w1)) (by rw [e0]; exact Ar1.1) (State.isArrayOf_alike hZ.alike Ar1.2.1) Ar1.2.2 hin1 hat1 (g := (mkF m 2 #[rv r0, iv (1 : Int32)] [(.int (1 : Int32)), (.ref r0)])) rfl rfl (hb hby d2_2) t (XS.bipush X0.here hx rfl (hb hby d2_3) k)) ?_
  by_cases hc5_2 : w1 = (13 : Int32)
  · refine own_step (U' := s₁.setTop (mkF m 9 #[rv r0, iv (1 : Int32)] [(.int (1 : Int32))])) (fun t k => XS.icmpNo X0.here hx rfl (hb hby d2_5) rfl (teq hc5_2).2 (XS.iconst X0.here hx rfl (hb hby d2_8) k)) ?_
    exact own_out X0 (v := (some (.int (1 : Int32)))) hlk (own_nv Bd.returns) (by rw [e0]; exact ⟨by rw [show (F2i1 w0 w1 w2 w3) = (1 : Int32) from (by simp only [F2i1, if_pos hc5_2])], N0, rfl⟩) (by decide) (by decide) (fun fs hr => retI X0 hx Bd.returns (hb hby d2_9) hr)
  · refine own_step (U' := s₁.setTop (mkF m 12 #[rv r0, iv (1 : Int32)] [(.int (1 : Int32)), (.ref r0)])) (fun t k => XS.icmpYes X0.here hx rfl (pc0 := 5) (pc' := 10) rfl (hb hby d2_5) rfl (feq hc5_2).2 (by decide) (by decide) (XS.aloadN X0.here hx rfl (hb hby d2_10) rfl rfl (XS.iloadN X0.here hx rfl (hb hby d2_11) rfl k))) ?_
    obtain ⟨cl3, Ar3, aq3, aS3, aN3, aH3, aG3⟩ := id V_r0
    have hin3 : ¬ ((1 : Int32) < 0 ∨ cl3.slots.size ≤ ((1 : Int32)).toNatClampNeg) := inb_of aS3 ⟨by decide, by decide⟩
    have hat3 : cl3.slots[((1 : Int32)).toNatClampNeg]? = some (.int w1) := aH3.at hin3 rfl
    refine own_step (U' := s₁.setTop (mkF m 15 #[rv r0, iv (1 : Int32)] [(.int (10 : Int32)), (.int w1)])) (fun t k => X0.baloadBytes hx (j := (1 : Int32)) (v := (.int w1)) (by rw [e0]; exact Ar3.1) (State.isArrayOf_alike hZ.alike Ar3.2.1) Ar3.2.2 hin3 hat3 (g := (mkF m 12 #[rv r0, iv (1 : Int32)] [(.int (1 : Int32)), (.ref r0)])) rfl rfl (hb hby d2_12) t (XS.bipush X0.here hx rfl (hb hby d2_13) k)) ?_
    by_cases hc15_4 : w1 = (10 : Int32)
    · refine own_step (U' := s₁.setTop (mkF m 28 #[rv r0, iv (1 : Int32)] [(.int (0 : Int32)), (.ref r0)])) (fun t k => XS.icmpNo X0.here hx rfl (hb hby d2_15) rfl (teq hc15_4).2 (XS.iloadN X0.here hx rfl (hb hby d2_18) rfl (XS.ifYes X0.here hx rfl (pc0 := 19) (pc' := 24) rfl (hb hby d2_19) rfl (by decide) (by decide) (by decide) (XS.aloadN X0.here hx rfl (hb hby d2_24) rfl rfl (XS.iloadN X0.here hx rfl (hb hby d2_25) rfl (XS.iconst X0.here hx rfl (hb hby d2_26) (XS.isub X0.here hx rfl (hb hby d2_27) rfl k))))))) ?_
      obtain ⟨cl5, Ar5, aq5, aS5, aN5, aH5, aG5⟩ := id V_r0
      have hin5 : ¬ ((0 : Int32) < 0 ∨ cl5.slots.size ≤ ((0 : Int32)).toNatClampNeg) := inb_of aS5 ⟨by decide, by decide⟩
      have hat5 : cl5.slots[((0 : Int32)).toNatClampNeg]? = some (.int w0) := aH5.at hin5 rfl
      refine own_step (U' := s₁.setTop (mkF m 31 #[rv r0, iv (1 : Int32)] [(.int (13 : Int32)), (.int w0)])) (fun t k => X0.baloadBytes hx (j := (0 : Int32)) (v := (.int w0)) (by rw [e0]; exact Ar5.1) (State.isArrayOf_alike hZ.alike Ar5.2.1) Ar5.2.2 hin5 hat5 (g := (mkF m 28 #[rv r0, iv (1 : Int32)] [(.int (0 : Int32)), (.ref r0)])) rfl rfl (hb hby d2_28) t (XS.bipush X0.here hx rfl (hb hby d2_29) k)) ?_
      by_cases hc31_6 : w0 = (13 : Int32)
      · refine own_step (U' := s₁.setTop (mkF m 39 #[rv r0, iv (1 : Int32)] [(.int (0 : Int32))])) (fun t k => XS.icmpNo X0.here hx rfl (hb hby d2_31) rfl (teq hc31_6).2 (XS.iconst X0.here hx rfl (hb hby d2_34) (XS.goto X0.here hx rfl (pc0 := 35) (pc' := 39) rfl (hb hby d2_35) (by decide) (by decide) k))) ?_
        exact own_out X0 (v := (some (.int (0 : Int32)))) hlk (own_nv Bd.returns) (by rw [e0]; exact ⟨by rw [show (F2i1 w0 w1 w2 w3) = (0 : Int32) from (by simp only [F2i1, if_neg hc5_2, if_pos hc15_4, if_pos hc31_6])], N0, rfl⟩) (by decide) (by decide) (fun fs hr => retI X0 hx Bd.returns (hb hby d2_39) hr)
      · refine own_step (U' := s₁.setTop (mkF m 39 #[rv r0, iv (1 : Int32)] [(.int (1 : Int32))])) (fun t k => XS.icmpYes X0.here hx rfl (pc0 := 31) (pc' := 38) rfl (hb hby d2_31) rfl (feq hc31_6).2 (by decide) (by decide) (XS.iconst X0.here hx rfl (hb hby d2_38) k)) ?_
        exact own_out X0 (v := (some (.int (1 : Int32)))) hlk (own_nv Bd.returns) (by rw [e0]; exact ⟨by rw [show (F2i1 w0 w1 w2 w3) = (1 : Int32) from (by simp only [F2i1, if_neg hc5_2, if_pos hc15_4, if_neg hc31_6])], N0, rfl⟩) (by decide) (by decide) (fun fs hr => retI X0 hx Bd.returns (hb hby d2_39) hr)
    · refine own_step (U' := s₁.setTop (mkF m 41 #[rv r0, iv (1 : Int32)] [(.int (0 : Int32))])) (fun t k => XS.icmpYes X0.here hx rfl (pc0 := 15) (pc' := 40) rfl (hb hby d2_15) rfl (feq hc15_4).2 (by decide) (by decide) (XS.iconst X0.here hx rfl (hb hby d2_40) k)) ?_
      exact own_out X0 (v := (some (.int (0 : Int32)))) hlk (own_nv Bd.returns) (by rw [e0]; exact ⟨by rw [show (F2i1 w0 w1 w2 w3) = (0 : Int32) from (by simp only [F2i1, if_neg hc5_2, if_neg hc15_4])], N0, rfl⟩) (by decide) (by decide) (fun fs hr => retI X0 hx Bd.returns (hb hby d2_41) hr)
theorem ef_2i0 (m : MethodId) (r0 : Addr) : entryFrame m #[(.ref r0), (.int (0 : Int32))] 2 = mkF m 0 #[rv r0, iv (0 : Int32)] [] := by first | (simp [entryFrame, mkF, argsToLocals, Value.category]; done) | rfl
def F2i0 (w0 : Int32) (w1 : Int32) (w2 : Int32) (w3 : Int32) : Int32 :=
  if w0 = (13 : Int32) then
    (1 : Int32)
  else
    if w0 = (10 : Int32) then
      (1 : Int32)
    else
      (0 : Int32)
def Q2i0 (Z : State) (r0 : Addr) (w0 : Int32) (w1 : Int32) (w2 : Int32) (w3 : Int32) (k_r0 : ClassId) (h0 : Heap) (n0 : Nat) (v : Option Value) (h : Heap) (L : List Loc) : Prop := v = some (.int (F2i0 w0 w1 w2 w3)) ∧ Fr n0 L ∧ h = h0
set_option maxRecDepth 65536 in
set_option maxHeartbeats 40000000 in
theorem rm2i0 (l : Launch) (Z : State) (a0 : Array Value) (hw : ∀ d ∈ tables_1, d.before a0 Z = true) (ws : List Jvm.Cond) (r0 : Addr) (w0 : Int32) (w1 : Int32) (w2 : Int32) (w3 : Int32) (k_r0 : ClassId) (h0 : Heap) (n0 : Nat) (Z0 : n0 ≤ h0.size) (V_r0 : Arv Z h0 r0 k_r0 .byte (4 : Int32) [(.int w0), (.int w1), (.int w2), (.int w3)] (.int (0 : Int32))) :
    MetFree l (⟨own_LW, "end", "([BI)I"⟩ : MethodName) (head1 (Jvm.Cond.code (⟨own_LW, "end", "([BI)I"⟩ : MethodName) method_3_code 2 (some .int) :: ws) ({ frames := 0, cells := 0, slots := 0, locals := 0 } : Room)) (fun a U => a = #[(.ref r0), (.int (0 : Int32))] ∧ Z.Warmed39 U.vm ∧ U.heap = h0) (fun _ _ _ _ _ => True) (fun _ U o U' => ∃ v L, o = .returned v ∧ Q2i0 Z r0 w0 w1 w2 w3 k_r0 h0 n0 v U'.heap L ∧ FrameEnd U o U' L ({ frames := 0, cells := 0, slots := 0, locals := 0 } : Room).cells ({ frames := 0, cells := 0, slots := 0, locals := 0 } : Room).slots) := by
  refine MetFree.of_bodySF (plainFor_of_name pn_2) hisR ?_
  intro p e s m args below meth c s₁ Bd hml0 hP hK
  obtain ⟨rfl, hZ, hh⟩ := hP
  have hx := Bd.exec
  have hby := Bd.bytes
  have hml : c.maxLocals = 2 := hml0
  have hown : s.vm.findClass own_LW = some m.cls := findClass_of_methodNamed Bd.named
  have hnm := (name_of_methodNamed Bd.named Bd.method).1
  have hlk : meth.locks = false := Bd.notSynchronized
  have X0 : Stand p l e ({ frames := 0, cells := 0, slots := 0, locals := 0 } : Room) s m #[(.ref r0), (.int (0 : Int32))] below meth c s₁ [] 0 0 := Stand.of_body Bd
  have e0 : s₁.heap = h0 := by rw [← hh, Bd.state]; rfl
  have N0 := Fr.nil n0
  have KK0 := Keep.refl h0 []
  show own_Go p.tables e below s 0 0 (Q2i0 Z r0 w0 w1 w2 w3 k_r0 h0 n0) (s₁.setTop (entryFrame m #[(.ref r0), (.int (0 : Int32))] 2))
  rw [ef_2i0]
  refine own_step (U' := s₁.setTop (mkF m 2 #[rv r0, iv (0 : Int32)] [(.int (0 : Int32)), (.ref r0)])) (fun t k => XS.aloadN X0.here hx rfl (hb hby d2_0) rfl rfl (XS.iloadN X0.here hx rfl (hb hby d2_1) rfl k)) ?_
  obtain ⟨cl1, Ar1, aq1, aS1, aN1, aH1, aG1⟩ := id V_r0
  have hin1 : ¬ ((0 : Int32) < 0 ∨ cl1.slots.size ≤ ((0 : Int32)).toNatClampNeg) := inb_of aS1 ⟨by decide, by decide⟩
  have hat1 : cl1.slots[((0 : Int32)).toNatClampNeg]? = some (.int w0) := aH1.at hin1 rfl
  refine own_step (U' := s₁.setTop (mkF m 5 #[rv r0, iv (0 : Int32)] [(.int (13 : Int32)), (.int w0)])) (fun t k => X0.baloadBytes hx (j := (0 : Int32)) (v := (.int w0)) (by rw [e0]; exact Ar1.1) (State.isArrayOf_alike hZ.alike Ar1.2.1) Ar1.2.2 hin1 hat1 (g := (mkF m 2 #[rv r0, iv (0 : Int32)] [(.int (0 : Int32)), (.ref r0)])) rfl rfl (hb hby d2_2) t (XS.bipush X0.here hx rfl (hb hby d2_3) k)) ?_
  by_cases hc5_2 : w0 = (13 : Int32)
  · refine own_step (U' := s₁.setTop (mkF m 9 #[rv r0, iv (0 : Int32)] [(.int (1 : Int32))])) (fun t k => XS.icmpNo X0.here hx rfl (hb hby d2_5) rfl (teq hc5_2).2 (XS.iconst X0.here hx rfl (hb hby d2_8) k)) ?_
    exact own_out X0 (v := (some (.int (1 : Int32)))) hlk (own_nv Bd.returns) (by rw [e0]; exact ⟨by rw [show (F2i0 w0 w1 w2 w3) = (1 : Int32) from (by simp only [F2i0, if_pos hc5_2])], N0, rfl⟩) (by decide) (by decide) (fun fs hr => retI X0 hx Bd.returns (hb hby d2_9) hr)
  · refine own_step (U' := s₁.setTop (mkF m 12 #[rv r0, iv (0 : Int32)] [(.int (0 : Int32)), (.ref r0)])) (fun t k => XS.icmpYes X0.here hx rfl (pc0 := 5) (pc' := 10) rfl (hb hby d2_5) rfl (feq hc5_2).2 (by decide) (by decide) (XS.aloadN X0.here hx rfl (hb hby d2_10) rfl rfl (XS.iloadN X0.here hx rfl (hb hby d2_11) rfl k))) ?_
    obtain ⟨cl3, Ar3, aq3, aS3, aN3, aH3, aG3⟩ := id V_r0
    have hin3 : ¬ ((0 : Int32) < 0 ∨ cl3.slots.size ≤ ((0 : Int32)).toNatClampNeg) := inb_of aS3 ⟨by decide, by decide⟩
    have hat3 : cl3.slots[((0 : Int32)).toNatClampNeg]? = some (.int w0) := aH3.at hin3 rfl
    refine own_step (U' := s₁.setTop (mkF m 15 #[rv r0, iv (0 : Int32)] [(.int (10 : Int32)), (.int w0)])) (fun t k => X0.baloadBytes hx (j := (0 : Int32)) (v := (.int w0)) (by rw [e0]; exact Ar3.1) (State.isArrayOf_alike hZ.alike Ar3.2.1) Ar3.2.2 hin3 hat3 (g := (mkF m 12 #[rv r0, iv (0 : Int32)] [(.int (0 : Int32)), (.ref r0)])) rfl rfl (hb hby d2_12) t (XS.bipush X0.here hx rfl (hb hby d2_13) k)) ?_
    by_cases hc15_4 : w0 = (10 : Int32)
    · refine own_step (U' := s₁.setTop (mkF m 23 #[rv r0, iv (0 : Int32)] [(.int (1 : Int32))])) (fun t k => XS.icmpNo X0.here hx rfl (hb hby d2_15) rfl (teq hc15_4).2 (XS.iloadN X0.here hx rfl (hb hby d2_18) rfl (XS.ifNo X0.here hx rfl (hb hby d2_19) rfl (by decide) (XS.iconst X0.here hx rfl (hb hby d2_22) k)))) ?_
      exact own_out X0 (v := (some (.int (1 : Int32)))) hlk (own_nv Bd.returns) (by rw [e0]; exact ⟨by rw [show (F2i0 w0 w1 w2 w3) = (1 : Int32) from (by simp only [F2i0, if_neg hc5_2, if_pos hc15_4])], N0, rfl⟩) (by decide) (by decide) (fun fs hr => retI X0 hx Bd.returns (hb hby d2_23) hr)
    · refine own_step (U' := s₁.setTop (mkF m 41 #[rv r0, iv (0 : Int32)] [(.int (0 : Int32))])) (fun t k => XS.icmpYes X0.here hx rfl (pc0 := 15) (pc' := 40) rfl (hb hby d2_15) rfl (feq hc15_4).2 (by decide) (by decide) (XS.iconst X0.here hx rfl (hb hby d2_40) k)) ?_
      exact own_out X0 (v := (some (.int (0 : Int32)))) hlk (own_nv Bd.returns) (by rw [e0]; exact ⟨by rw [show (F2i0 w0 w1 w2 w3) = (0 : Int32) from (by simp only [F2i0, if_neg hc5_2, if_neg hc15_4])], N0, rfl⟩) (by decide) (by decide) (fun fs hr => retI X0 hx Bd.returns (hb hby d2_41) hr)
theorem d3_0 : decode prog_141_method_1_code 0 = .ok (.aload_n 0, 1) := by decide +kernel
theorem d3_1 : decode prog_141_method_1_code 1 = .ok (.invokespecial 1, 3) := by decide +kernel
theorem d3_4 : decode prog_141_method_1_code 4 = .ok (.aload_n 0, 1) := by decide +kernel
theorem d3_5 : decode prog_141_method_1_code 5 = .ok (.sipush 1024, 3) := by decide +kernel
theorem d3_8 : decode prog_141_method_1_code 8 = .ok (.anewarray 9, 3) := by decide +kernel
theorem d3_11 : decode prog_141_method_1_code 11 = .ok (.putfield 11, 3) := by decide +kernel
theorem d3_14 : decode prog_141_method_1_code 14 = .ok (.aload_n 0, 1) := by decide +kernel
theorem d3_15 : decode prog_141_method_1_code 15 = .ok (.sipush 1024, 3) := by decide +kernel
theorem d3_18 : decode prog_141_method_1_code 18 = .ok (.anewarray 15, 3) := by decide +kernel
theorem d3_21 : decode prog_141_method_1_code 21 = .ok (.putfield 17, 3) := by decide +kernel
theorem d3_24 : decode prog_141_method_1_code 24 = .ok (.aload_n 0, 1) := by decide +kernel
theorem d3_25 : decode prog_141_method_1_code 25 = .ok (.ldc 21, 2) := by decide +kernel
theorem d3_27 : decode prog_141_method_1_code 27 = .ok (.newarray .byte, 2) := by decide +kernel
theorem d3_29 : decode prog_141_method_1_code 29 = .ok (.putfield 22, 3) := by decide +kernel
theorem d3_32 : decode prog_141_method_1_code 32 = .ok (.aload_n 0, 1) := by decide +kernel
theorem d3_33 : decode prog_141_method_1_code 33 = .ok (.sipush 1024, 3) := by decide +kernel
theorem d3_36 : decode prog_141_method_1_code 36 = .ok (.newarray .byte, 2) := by decide +kernel
theorem d3_38 : decode prog_141_method_1_code 38 = .ok (.putfield 25, 3) := by decide +kernel
theorem d3_41 : decode prog_141_method_1_code 41 = .ok (.return_, 1) := by decide +kernel
theorem pn_3 : plainName own_KT = true := by first | (simp [plainName, overriddenIn]; done) | decide +kernel
theorem ef_3 (m : MethodId) (r0 : Addr) : entryFrame m #[(.ref r0)] 1 = mkF m 0 #[rv r0] [] := by first | (simp [entryFrame, mkF, argsToLocals, Value.category]; done) | rfl
def Q3 (Z : State) (r0 : Addr) (h0 : Heap) (n0 : Nat) (v : Option Value) (h : Heap) (L : List Loc) : Prop := v = none ∧ Fr n0 L ∧ Keep h0 h [r0] ∧ Exa Z h r0 own_KT
set_option maxRecDepth 65536 in
set_option maxHeartbeats 40000000 in
theorem rm3 (l : Launch) (Z : State) (a0 : Array Value) (hw : ∀ d ∈ tables_1, d.before a0 Z = true) (ws : List Jvm.Cond) (r0 : Addr) (h0 : Heap) (n0 : Nat) (Z0 : n0 ≤ h0.size) (E_r0 : Exa Z h0 r0 own_KT) (F_metOnce_r0 : Fld Z h0 r0 own_KT "metOnce" "[B" .null) (g_r0 : n0 ≤ r0) :
    MetFree l (⟨own_KT, "<init>", "()V"⟩ : MethodName) (head1 (Jvm.Cond.code (⟨own_KT, "<init>", "()V"⟩ : MethodName) prog_141_method_1_code 1 none :: ws) ({ frames := 1, cells := 4, slots := 68608, locals := 12 } : Room)) (fun a U => a = #[(.ref r0)] ∧ Z.Warmed39 U.vm ∧ U.heap = h0) (fun _ _ _ _ _ => True) (fun _ U o U' => ∃ v L, o = .returned v ∧ Q3 Z r0 h0 n0 v U'.heap L ∧ FrameEnd U o U' L ({ frames := 1, cells := 4, slots := 68608, locals := 12 } : Room).cells ({ frames := 1, cells := 4, slots := 68608, locals := 12 } : Room).slots) := by
  refine MetFree.of_bodySF (plainFor_of_name pn_3) hisR ?_
  intro p e s m args below meth c s₁ Bd hml0 hP hK
  obtain ⟨rfl, hZ, hh⟩ := hP
  have hx := Bd.exec
  have hby := Bd.bytes
  have hml : c.maxLocals = 1 := hml0
  have hown : s.vm.findClass own_KT = some m.cls := findClass_of_methodNamed Bd.named
  have hnm := (name_of_methodNamed Bd.named Bd.method).1
  have hlk : meth.locks = false := Bd.notSynchronized
  have X0 : Stand p l e ({ frames := 1, cells := 4, slots := 68608, locals := 12 } : Room) s m #[(.ref r0)] below meth c s₁ [] 0 0 := Stand.of_body Bd
  have e0 : s₁.heap = h0 := by rw [← hh, Bd.state]; rfl
  have N0 := Fr.nil n0
  have KK0 := Keep.refl h0 [r0]
  show own_Go p.tables e below s 4 68608 (Q3 Z r0 h0 n0) (s₁.setTop (entryFrame m #[(.ref r0)] 1))
  rw [ef_3]
  refine own_step (U' := s₁.setTop (mkF m 1 #[rv r0] [(.ref r0)])) (fun t k => XS.aloadN X0.here hx rfl (hb hby d3_0) rfl rfl k) ?_
  obtain ⟨T1, X1, e1, st1⟩ := initO X0 hx hZ hown (own_w hw 19 rfl) (own_w hw 20 rfl) (own_w hw 21 rfl) e0 (g := (mkF m 1 #[rv r0] [(.ref r0)])) rfl (by rw [hml]; rfl) rfl (hb hby d3_1) (by decide) (W := 0) (by show 2 * 0 + _ ≤ _; exact Nat.le_of_eq rfl) (by decide)
  refine own_step (U' := T1.setTop (mkF m 4 #[rv r0] [])) st1 ?_
  refine own_step (U' := T1.setTop (mkF m 8 #[rv r0] [(.int (1024 : Int32)), (.ref r0)])) (fun t k => XS.aloadN X1.here hx rfl (hb hby d3_4) rfl rfl (XS.sipush X1.here hx rfl (hb hby d3_5) k)) ?_
  obtain ⟨T2, h2, k2, X2, e2, E2, A2, -, -, st2⟩ := newRA X1 hx hZ hown (by decide) (own_w hw 22 rfl) (own_w hw 23 rfl) e1 (g := (mkF m 8 #[rv r0] [(.int (1024 : Int32)), (.ref r0)])) rfl (hb hby d3_8) rfl (by decide) (cap := 1024) (by decide) (by decide) (by decide) (by decide) rfl
  obtain ⟨b2, g2⟩ : ∃ z, z = h0.size := ⟨_, rfl⟩
  have ne_r0_b2 : r0 ≠ b2 := Nat.ne_of_lt (Nat.lt_of_lt_of_le E_r0.lt (Nat.le_of_eq g2.symm))
  have ge_b2 : n0 ≤ b2 := Nat.le_trans Z0 (Nat.le_of_eq g2.symm)
  have sz_b2 : h0.size ≤ b2 := Nat.le_trans KK0.1 (Nat.le_of_eq g2.symm)
  rw [← g2] at A2 st2
  have E_r0_2 := E_r0.ext E2
  have F_metOnce_r0_2 := F_metOnce_r0.ext E2
  have Z2 : n0 ≤ h2.size := Nat.le_trans Z0 E2.1
  have KK2 := KK0.ext E2
  refine own_step (U' := T2.setTop (mkF m 11 #[rv r0] [(.ref b2), (.ref r0)])) st2 ?_
  obtain ⟨u3, Fu3⟩ := own_anyF (O := own_KT) (n := "knownBytes") (d := "[[B") E_r0_2 F_metOnce_r0_2 (own_w hw 14 rfl) (Or.inr (own_w hw 25 rfl))
  obtain ⟨T3, h3, X3, e3, W3, st3⟩ := putF X2 hx hZ hown (host := "") (Or.inl (own_w hw 24 rfl)) Via.refl e2 Fu3 E_r0_2 (Or.inr ⟨(own_w hw 25 rfl), rfl, hnm⟩) (own_w hw 14 rfl) (ty := (.array (.array .byte))) (by decide) rfl rfl (g := (mkF m 11 #[rv r0] [(.ref b2), (.ref r0)])) rfl rfl (hb hby d3_11)
  have E_r0_3 := E_r0_2.wr W3
  have F_metOnce_r0_3 := F_metOnce_r0_2.other W3 (Or.inr (slot_ne (Or.inr (own_w hw 32 rfl)) (Or.inr (own_w hw 25 rfl)) (by decide) (t := (.array .byte)) (t' := (.array (.array .byte))) (by decide) (by decide)))
  have Z3 : n0 ≤ h3.size := Nat.le_trans Z2 (Keep.of_wr W3).1
  have KK3 := KK2.wr W3 (Or.inl (List.mem_of_getElem? (i := 0) rfl))
  have N3 := Fr.snoc X3 N0 g_r0
  refine own_step (U' := T3.setTop (mkF m 14 #[rv r0] [])) st3 ?_
  refine own_step (U' := T3.setTop (mkF m 18 #[rv r0] [(.int (1024 : Int32)), (.ref r0)])) (fun t k => XS.aloadN X3.here hx rfl (hb hby d3_14) rfl rfl (XS.sipush X3.here hx rfl (hb hby d3_15) k)) ?_
  obtain ⟨T4, h4, k4, X4, e4, E4, A4, -, st4⟩ := newR X3 hx hZ hown (own_w hw 26 rfl) (own_w hw 27 rfl) e3 (g := (mkF m 18 #[rv r0] [(.int (1024 : Int32)), (.ref r0)])) rfl (hb hby d3_18) rfl (by decide) (cap := 1024) (by decide) (by decide) (by decide) (by decide)
  obtain ⟨b4, g4⟩ : ∃ z, z = h3.size := ⟨_, rfl⟩
  have ne_r0_b4 : r0 ≠ b4 := Nat.ne_of_lt (Nat.lt_of_lt_of_le E_r0_3.lt (Nat.le_of_eq g4.symm))
  have ge_b4 : n0 ≤ b4 := Nat.le_trans Z3 (Nat.le_of_eq g4.symm)
  have sz_b4 : h0.size ≤ b4 := Nat.le_trans KK3.1 (Nat.le_of_eq g4.symm)
  rw [← g4] at A4 st4
  have E_r0_4 := E_r0_3.ext E4
  have F_metOnce_r0_4 := F_metOnce_r0_3.ext E4
  have Z4 : n0 ≤ h4.size := Nat.le_trans Z3 E4.1
  have KK4 := KK3.ext E4
  refine own_step (U' := T4.setTop (mkF m 21 #[rv r0] [(.ref b4), (.ref r0)])) st4 ?_
  obtain ⟨u5, Fu5⟩ := own_anyF (O := own_KT) (n := "known") (d := "[Ljava/lang/String;") E_r0_4 F_metOnce_r0_4 (own_w hw 14 rfl) (Or.inr (own_w hw 29 rfl))
  obtain ⟨T5, h5, X5, e5, W5, st5⟩ := putF X4 hx hZ hown (host := "") (Or.inl (own_w hw 28 rfl)) Via.refl e4 Fu5 E_r0_4 (Or.inr ⟨(own_w hw 29 rfl), rfl, hnm⟩) (own_w hw 14 rfl) (ty := (.array (.object "java/lang/String"))) (by decide) rfl rfl (g := (mkF m 21 #[rv r0] [(.ref b4), (.ref r0)])) rfl rfl (hb hby d3_21)
  have E_r0_5 := E_r0_4.wr W5
  have F_metOnce_r0_5 := F_metOnce_r0_4.other W5 (Or.inr (slot_ne (Or.inr (own_w hw 32 rfl)) (Or.inr (own_w hw 29 rfl)) (by decide) (t := (.array .byte)) (t' := (.array (.object "java/lang/String"))) (by decide) (by decide)))
  have Z5 : n0 ≤ h5.size := Nat.le_trans Z4 (Keep.of_wr W5).1
  have KK5 := KK4.wr W5 (Or.inl (List.mem_of_getElem? (i := 0) rfl))
  have N5 := Fr.snoc X5 N3 g_r0
  refine own_step (U' := T5.setTop (mkF m 24 #[rv r0] [])) st5 ?_
  refine own_step (U' := T5.setTop (mkF m 27 #[rv r0] [(.int (65536 : Int32)), (.ref r0)])) (fun t k => XS.aloadN X5.here hx rfl (hb hby d3_24) rfl rfl (X5.ldcInt hx hown (mvT hZ (own_w hw 30 rfl)) (g := (mkF m 25 #[rv r0] [(.ref r0)])) rfl (hb hby d3_25) t k)) ?_
  obtain ⟨T6, h6, k6, X6, e6, E6, A6, st6⟩ := newP X5 hx hZ (own_w hw 0 rfl) e5 (g := (mkF m 27 #[rv r0] [(.int (65536 : Int32)), (.ref r0)])) rfl (hb hby d3_27) rfl (by decide) (cap := 65536) (by decide) (by decide) (by decide) (by decide)
  obtain ⟨b6, g6⟩ : ∃ z, z = h5.size := ⟨_, rfl⟩
  have ne_r0_b6 : r0 ≠ b6 := Nat.ne_of_lt (Nat.lt_of_lt_of_le E_r0_5.lt (Nat.le_of_eq g6.symm))
  have ge_b6 : n0 ≤ b6 := Nat.le_trans Z5 (Nat.le_of_eq g6.symm)
  have sz_b6 : h0.size ≤ b6 := Nat.le_trans KK5.1 (Nat.le_of_eq g6.symm)
  rw [← g6] at A6 st6
  have E_r0_6 := E_r0_5.ext E6
  have F_metOnce_r0_6 := F_metOnce_r0_5.ext E6
  have V_b6 := Arv.new A6 (by decide)
  have Z6 : n0 ≤ h6.size := Nat.le_trans Z5 E6.1
  have KK6 := KK5.ext E6
  refine own_step (U' := T6.setTop (mkF m 29 #[rv r0] [(.ref b6), (.ref r0)])) st6 ?_
  obtain ⟨T7, h7, X7, e7, W7, st7⟩ := putF X6 hx hZ hown (host := "") (Or.inl (own_w hw 31 rfl)) Via.refl e6 F_metOnce_r0_6 E_r0_6 (Or.inr ⟨(own_w hw 32 rfl), rfl, hnm⟩) (own_w hw 14 rfl) (ty := (.array .byte)) (by decide) rfl rfl (g := (mkF m 29 #[rv r0] [(.ref b6), (.ref r0)])) rfl rfl (hb hby d3_29)
  have E_r0_7 := E_r0_6.wr W7
  have V_b6_7 := V_b6.other W7 (Ne.symm ne_r0_b6)
  have F_metOnce_r0_7 := F_metOnce_r0_6.same W7
  have Z7 : n0 ≤ h7.size := Nat.le_trans Z6 (Keep.of_wr W7).1
  have KK7 := KK6.wr W7 (Or.inl (List.mem_of_getElem? (i := 0) rfl))
  have N7 := Fr.snoc X7 N5 g_r0
  refine own_step (U' := T7.setTop (mkF m 32 #[rv r0] [])) st7 ?_
  refine own_step (U' := T7.setTop (mkF m 36 #[rv r0] [(.int (1024 : Int32)), (.ref r0)])) (fun t k => XS.aloadN X7.here hx rfl (hb hby d3_32) rfl rfl (XS.sipush X7.here hx rfl (hb hby d3_33) k)) ?_
  obtain ⟨T8, h8, k8, X8, e8, E8, A8, st8⟩ := newP X7 hx hZ (own_w hw 0 rfl) e7 (g := (mkF m 36 #[rv r0] [(.int (1024 : Int32)), (.ref r0)])) rfl (hb hby d3_36) rfl (by decide) (cap := 1024) (by decide) (by decide) (by decide) (by decide)
  obtain ⟨b8, g8⟩ : ∃ z, z = h7.size := ⟨_, rfl⟩
  have ne_r0_b8 : r0 ≠ b8 := Nat.ne_of_lt (Nat.lt_of_lt_of_le E_r0_7.lt (Nat.le_of_eq g8.symm))
  have ne_b6_b8 : b6 ≠ b8 := Nat.ne_of_lt (Nat.lt_of_lt_of_le V_b6_7.lt (Nat.le_of_eq g8.symm))
  have ge_b8 : n0 ≤ b8 := Nat.le_trans Z7 (Nat.le_of_eq g8.symm)
  have sz_b8 : h0.size ≤ b8 := Nat.le_trans KK7.1 (Nat.le_of_eq g8.symm)
  rw [← g8] at A8 st8
  have E_r0_8 := E_r0_7.ext E8
  have F_metOnce_r0_8 := F_metOnce_r0_7.ext E8
  have V_b6_8 := V_b6_7.ext E8
  have V_b8 := Arv.new A8 (by decide)
  have Z8 : n0 ≤ h8.size := Nat.le_trans Z7 E8.1
  have KK8 := KK7.ext E8
  refine own_step (U' := T8.setTop (mkF m 38 #[rv r0] [(.ref b8), (.ref r0)])) st8 ?_
  obtain ⟨u9, Fu9⟩ := own_anyF (O := own_KT) (n := "metOnceLengths") (d := "[B") E_r0_8 F_metOnce_r0_8 (own_w hw 14 rfl) (Or.inr (own_w hw 34 rfl))
  obtain ⟨T9, h9, X9, e9, W9, st9⟩ := putF X8 hx hZ hown (host := "") (Or.inl (own_w hw 33 rfl)) Via.refl e8 Fu9 E_r0_8 (Or.inr ⟨(own_w hw 34 rfl), rfl, hnm⟩) (own_w hw 14 rfl) (ty := (.array .byte)) (by decide) rfl rfl (g := (mkF m 38 #[rv r0] [(.ref b8), (.ref r0)])) rfl rfl (hb hby d3_38)
  have E_r0_9 := E_r0_8.wr W9
  have F_metOnce_r0_9 := F_metOnce_r0_8.other W9 (Or.inr (slot_ne (Or.inr (own_w hw 32 rfl)) (Or.inr (own_w hw 34 rfl)) (by decide) (t := (.array .byte)) (t' := (.array .byte)) (by decide) (by decide)))
  have V_b6_9 := V_b6_8.other W9 (Ne.symm ne_r0_b6)
  have V_b8_9 := V_b8.other W9 (Ne.symm ne_r0_b8)
  have Z9 : n0 ≤ h9.size := Nat.le_trans Z8 (Keep.of_wr W9).1
  have KK9 := KK8.wr W9 (Or.inl (List.mem_of_getElem? (i := 0) rfl))
  have N9 := Fr.snoc X9 N7 g_r0
  refine own_step (U' := T9.setTop (mkF m 41 #[rv r0] [])) st9 ?_
  exact own_out X9 (v := none) hlk (fun _ => rfl) (by rw [e9]; exact ⟨rfl, N9, KK9, E_r0_9⟩) (by decide) (by decide) (fun fs hr => X9.returnOut hx Bd.returns (hb hby d3_41) hr)
theorem d5_0 : decode prog_148_method_1_code 0 = .ok (.aload_n 0, 1) := by decide +kernel
theorem d5_1 : decode prog_148_method_1_code 1 = .ok (.invokespecial 1, 3) := by decide +kernel
theorem d5_4 : decode prog_148_method_1_code 4 = .ok (.aload_n 0, 1) := by decide +kernel
theorem d5_5 : decode prog_148_method_1_code 5 = .ok (.ldc 9, 2) := by decide +kernel
theorem d5_7 : decode prog_148_method_1_code 7 = .ok (.newarray .byte, 2) := by decide +kernel
theorem d5_9 : decode prog_148_method_1_code 9 = .ok (.putfield 10, 3) := by decide +kernel
theorem d5_12 : decode prog_148_method_1_code 12 = .ok (.aload_n 0, 1) := by decide +kernel
theorem d5_13 : decode prog_148_method_1_code 13 = .ok (.iconst (-1), 1) := by decide +kernel
theorem d5_14 : decode prog_148_method_1_code 14 = .ok (.putfield 14, 3) := by decide +kernel
theorem d5_17 : decode prog_148_method_1_code 17 = .ok (.aload_n 0, 1) := by decide +kernel
theorem d5_18 : decode prog_148_method_1_code 18 = .ok (.sipush 256, 3) := by decide +kernel
theorem d5_21 : decode prog_148_method_1_code 21 = .ok (.newarray .byte, 2) := by decide +kernel
theorem d5_23 : decode prog_148_method_1_code 23 = .ok (.putfield 18, 3) := by decide +kernel
theorem d5_26 : decode prog_148_method_1_code 26 = .ok (.aload_n 0, 1) := by decide +kernel
theorem d5_27 : decode prog_148_method_1_code 27 = .ok (.iconst 1, 1) := by decide +kernel
theorem d5_28 : decode prog_148_method_1_code 28 = .ok (.putfield 21, 3) := by decide +kernel
theorem d5_31 : decode prog_148_method_1_code 31 = .ok (.aload_n 0, 1) := by decide +kernel
theorem d5_32 : decode prog_148_method_1_code 32 = .ok (.aload_n 1, 1) := by decide +kernel
theorem d5_33 : decode prog_148_method_1_code 33 = .ok (.putfield 25, 3) := by decide +kernel
theorem d5_36 : decode prog_148_method_1_code 36 = .ok (.return_, 1) := by decide +kernel
theorem pn_5 : plainName own_XC = true := by first | (simp [plainName, overriddenIn]; done) | decide +kernel
theorem ef_5 (m : MethodId) (r0 : Addr) (r1 : Addr) : entryFrame m #[(.ref r0), (.ref r1)] 2 = mkF m 0 #[rv r0, rv r1] [] := by first | (simp [entryFrame, mkF, argsToLocals, Value.category]; done) | rfl
def Q5 (Z : State) (r0 : Addr) (r1 : Addr) (h0 : Heap) (n0 : Nat) (v : Option Value) (h : Heap) (L : List Loc) : Prop := ∃ (ab : Addr) (kb : ClassId), v = none ∧ Fr n0 L ∧ Keep h0 h [r0] ∧ Exa Z h r0 own_XC ∧ Fld Z h r0 own_XC "bytes" "[B" (.ref ab) ∧ h0.size ≤ ab ∧ Arv Z h ab kb .byte (65536 : Int32) [] (.int (0 : Int32))
set_option maxRecDepth 65536 in
set_option maxHeartbeats 40000000 in
theorem rm5 (l : Launch) (Z : State) (a0 : Array Value) (hw : ∀ d ∈ tables_1, d.before a0 Z = true) (ws : List Jvm.Cond) (r0 : Addr) (r1 : Addr) (h0 : Heap) (n0 : Nat) (Z0 : n0 ≤ h0.size) (E_r0 : Exa Z h0 r0 own_XC) (F_bytes_r0 : Fld Z h0 r0 own_XC "bytes" "[B" .null) (g_r0 : n0 ≤ r0) :
    MetFree l (⟨own_XC, "<init>", "(Lcom/example/palisade/palisade/xml/KnownTexts;)V"⟩ : MethodName) (head1 (Jvm.Cond.code (⟨own_XC, "<init>", "(Lcom/example/palisade/palisade/xml/KnownTexts;)V"⟩ : MethodName) prog_148_method_1_code 2 none :: ws) ({ frames := 1, cells := 2, slots := 65792, locals := 12 } : Room)) (fun a U => a = #[(.ref r0), (.ref r1)] ∧ Z.Warmed39 U.vm ∧ U.heap = h0) (fun _ _ _ _ _ => True) (fun _ U o U' => ∃ v L, o = .returned v ∧ Q5 Z r0 r1 h0 n0 v U'.heap L ∧ FrameEnd U o U' L ({ frames := 1, cells := 2, slots := 65792, locals := 12 } : Room).cells ({ frames := 1, cells := 2, slots := 65792, locals := 12 } : Room).slots) := by
  refine MetFree.of_bodySF (plainFor_of_name pn_5) hisR ?_
  intro p e s m args below meth c s₁ Bd hml0 hP hK
  obtain ⟨rfl, hZ, hh⟩ := hP
  have hx := Bd.exec
  have hby := Bd.bytes
  have hml : c.maxLocals = 2 := hml0
  have hown : s.vm.findClass own_XC = some m.cls := findClass_of_methodNamed Bd.named
  have hnm := (name_of_methodNamed Bd.named Bd.method).1
  have hlk : meth.locks = false := Bd.notSynchronized
  have X0 : Stand p l e ({ frames := 1, cells := 2, slots := 65792, locals := 12 } : Room) s m #[(.ref r0), (.ref r1)] below meth c s₁ [] 0 0 := Stand.of_body Bd
  have e0 : s₁.heap = h0 := by rw [← hh, Bd.state]; rfl
  have N0 := Fr.nil n0
  have KK0 := Keep.refl h0 [r0]
  show own_Go p.tables e below s 2 65792 (Q5 Z r0 r1 h0 n0) (s₁.setTop (entryFrame m #[(.ref r0), (.ref r1)] 2))
  rw [ef_5]
  refine own_step (U' := s₁.setTop (mkF m 1 #[rv r0, rv r1] [(.ref r0)])) (fun t k => XS.aloadN X0.here hx rfl (hb hby d5_0) rfl rfl k) ?_
  obtain ⟨T1, X1, e1, st1⟩ := initO X0 hx hZ hown (own_w hw 38 rfl) (own_w hw 20 rfl) (own_w hw 21 rfl) e0 (g := (mkF m 1 #[rv r0, rv r1] [(.ref r0)])) rfl (by rw [hml]; rfl) rfl (hb hby d5_1) (by decide) (W := 0) (by show 2 * 0 + _ ≤ _; exact Nat.le_of_eq rfl) (by decide)
  refine own_step (U' := T1.setTop (mkF m 4 #[rv r0, rv r1] [])) st1 ?_
  refine own_step (U' := T1.setTop (mkF m 7 #[rv r0, rv r1] [(.int (65536 : Int32)), (.ref r0)])) (fun t k => XS.aloadN X1.here hx rfl (hb hby d5_4) rfl rfl (X1.ldcInt hx hown (mvT hZ (own_w hw 39 rfl)) (g := (mkF m 5 #[rv r0, rv r1] [(.ref r0)])) rfl (hb hby d5_5) t k)) ?_
  obtain ⟨T2, h2, k2, X2, e2, E2, A2, st2⟩ := newP X1 hx hZ (own_w hw 0 rfl) e1 (g := (mkF m 7 #[rv r0, rv r1] [(.int (65536 : Int32)), (.ref r0)])) rfl (hb hby d5_7) rfl (by decide) (cap := 65536) (by decide) (by decide) (by decide) (by decide)
  obtain ⟨b2, g2⟩ : ∃ z, z = h0.size := ⟨_, rfl⟩
  have ne_r0_b2 : r0 ≠ b2 := Nat.ne_of_lt (Nat.lt_of_lt_of_le E_r0.lt (Nat.le_of_eq g2.symm))
  have ge_b2 : n0 ≤ b2 := Nat.le_trans Z0 (Nat.le_of_eq g2.symm)
  have sz_b2 : h0.size ≤ b2 := Nat.le_trans KK0.1 (Nat.le_of_eq g2.symm)
  rw [← g2] at A2 st2
  have E_r0_2 := E_r0.ext E2
  have F_bytes_r0_2 := F_bytes_r0.ext E2
  have V_b2 := Arv.new A2 (by decide)
  have Z2 : n0 ≤ h2.size := Nat.le_trans Z0 E2.1
  have KK2 := KK0.ext E2
  refine own_step (U' := T2.setTop (mkF m 9 #[rv r0, rv r1] [(.ref b2), (.ref r0)])) st2 ?_
  obtain ⟨T3, h3, X3, e3, W3, st3⟩ := putF X2 hx hZ hown (host := "") (Or.inl (own_w hw 40 rfl)) Via.refl e2 F_bytes_r0_2 E_r0_2 (Or.inl (own_w hw 41 rfl)) (own_w hw 11 rfl) (ty := (.array .byte)) (by decide) rfl rfl (g := (mkF m 9 #[rv r0, rv r1] [(.ref b2), (.ref r0)])) rfl rfl (hb hby d5_9)
  have E_r0_3 := E_r0_2.wr W3
  have V_b2_3 := V_b2.other W3 (Ne.symm ne_r0_b2)
  have F_bytes_r0_3 := F_bytes_r0_2.same W3
  have Z3 : n0 ≤ h3.size := Nat.le_trans Z2 (Keep.of_wr W3).1
  have KK3 := KK2.wr W3 (Or.inl (List.mem_of_getElem? (i := 0) rfl))
  have N3 := Fr.snoc X3 N0 g_r0
  refine own_step (U' := T3.setTop (mkF m 12 #[rv r0, rv r1] [])) st3 ?_
  refine own_step (U' := T3.setTop (mkF m 14 #[rv r0, rv r1] [(.int (-1 : Int32)), (.ref r0)])) (fun t k => XS.aloadN X3.here hx rfl (hb hby d5_12) rfl rfl (XS.iconst X3.here hx rfl (hb hby d5_13) k)) ?_
  obtain ⟨u4, Fu4⟩ := own_anyF (O := own_XC) (n := "keep") (d := "I") E_r0_3 F_bytes_r0_3 (own_w hw 11 rfl) (Or.inl (own_w hw 43 rfl))
  obtain ⟨T4, h4, X4, e4, W4, st4⟩ := putF X3 hx hZ hown (host := "") (Or.inl (own_w hw 42 rfl)) Via.refl e3 Fu4 E_r0_3 (Or.inl (own_w hw 43 rfl)) (own_w hw 11 rfl) (ty := .int) (by decide) rfl rfl (g := (mkF m 14 #[rv r0, rv r1] [(.int (-1 : Int32)), (.ref r0)])) rfl rfl (hb hby d5_14)
  have E_r0_4 := E_r0_3.wr W4
  have F_bytes_r0_4 := F_bytes_r0_3.other W4 (Or.inr (slot_ne (Or.inl (own_w hw 41 rfl)) (Or.inl (own_w hw 43 rfl)) (by decide) (t := (.array .byte)) (t' := .int) (by decide) (by decide)))
  have V_b2_4 := V_b2_3.other W4 (Ne.symm ne_r0_b2)
  have Z4 : n0 ≤ h4.size := Nat.le_trans Z3 (Keep.of_wr W4).1
  have KK4 := KK3.wr W4 (Or.inl (List.mem_of_getElem? (i := 0) rfl))
  have N4 := Fr.snoc X4 N3 g_r0
  refine own_step (U' := T4.setTop (mkF m 17 #[rv r0, rv r1] [])) st4 ?_
  refine own_step (U' := T4.setTop (mkF m 21 #[rv r0, rv r1] [(.int (256 : Int32)), (.ref r0)])) (fun t k => XS.aloadN X4.here hx rfl (hb hby d5_17) rfl rfl (XS.sipush X4.here hx rfl (hb hby d5_18) k)) ?_
  obtain ⟨T5, h5, k5, X5, e5, E5, A5, st5⟩ := newP X4 hx hZ (own_w hw 0 rfl) e4 (g := (mkF m 21 #[rv r0, rv r1] [(.int (256 : Int32)), (.ref r0)])) rfl (hb hby d5_21) rfl (by decide) (cap := 256) (by decide) (by decide) (by decide) (by decide)
  obtain ⟨b5, g5⟩ : ∃ z, z = h4.size := ⟨_, rfl⟩
  have ne_r0_b5 : r0 ≠ b5 := Nat.ne_of_lt (Nat.lt_of_lt_of_le E_r0_4.lt (Nat.le_of_eq g5.symm))
  have ne_b2_b5 : b2 ≠ b5 := Nat.ne_of_lt (Nat.lt_of_lt_of_le V_b2_4.lt (Nat.le_of_eq g5.symm))
  have ge_b5 : n0 ≤ b5 := Nat.le_trans Z4 (Nat.le_of_eq g5.symm)
  have sz_b5 : h0.size ≤ b5 := Nat.le_trans KK4.1 (Nat.le_of_eq g5.symm)
  rw [← g5] at A5 st5
  have E_r0_5 := E_r0_4.ext E5
  have F_bytes_r0_5 := F_bytes_r0_4.ext E5
  have V_b2_5 := V_b2_4.ext E5
  have V_b5 := Arv.new A5 (by decide)
  have Z5 : n0 ≤ h5.size := Nat.le_trans Z4 E5.1
  have KK5 := KK4.ext E5
  refine own_step (U' := T5.setTop (mkF m 23 #[rv r0, rv r1] [(.ref b5), (.ref r0)])) st5 ?_
  obtain ⟨u6, Fu6⟩ := own_anyF (O := own_XC) (n := "piece") (d := "[B") E_r0_5 F_bytes_r0_5 (own_w hw 11 rfl) (Or.inl (own_w hw 45 rfl))
  obtain ⟨T6, h6, X6, e6, W6, st6⟩ := putF X5 hx hZ hown (host := "") (Or.inl (own_w hw 44 rfl)) Via.refl e5 Fu6 E_r0_5 (Or.inl (own_w hw 45 rfl)) (own_w hw 11 rfl) (ty := (.array .byte)) (by decide) rfl rfl (g := (mkF m 23 #[rv r0, rv r1] [(.ref b5), (.ref r0)])) rfl rfl (hb hby d5_23)
  have E_r0_6 := E_r0_5.wr W6
  have F_bytes_r0_6 := F_bytes_r0_5.other W6 (Or.inr (slot_ne (Or.inl (own_w hw 41 rfl)) (Or.inl (own_w hw 45 rfl)) (by decide) (t := (.array .byte)) (t' := (.array .byte)) (by decide) (by decide)))
  have V_b2_6 := V_b2_5.other W6 (Ne.symm ne_r0_b2)
  have V_b5_6 := V_b5.other W6 (Ne.symm ne_r0_b5)
  have Z6 : n0 ≤ h6.size := Nat.le_trans Z5 (Keep.of_wr W6).1
  have KK6 := KK5.wr W6 (Or.inl (List.mem_of_getElem? (i := 0) rfl))
  have N6 := Fr.snoc X6 N4 g_r0
  refine own_step (U' := T6.setTop (mkF m 26 #[rv r0, rv r1] [])) st6 ?_
  refine own_step (U' := T6.setTop (mkF m 28 #[rv r0, rv r1] [(.int (1 : Int32)), (.ref r0)])) (fun t k => XS.aloadN X6.here hx rfl (hb hby d5_26) rfl rfl (XS.iconst X6.here hx rfl (hb hby d5_27) k)) ?_
  obtain ⟨u7, Fu7⟩ := own_anyF (O := own_XC) (n := "pieceAscii") (d := "Z") E_r0_6 F_bytes_r0_6 (own_w hw 11 rfl) (Or.inl (own_w hw 47 rfl))
  obtain ⟨T7, h7, X7, e7, W7, st7⟩ := putFN X6 hx hZ hown (own_w hw 46 rfl) Via.refl e6 Fu7 E_r0_6 (Or.inl (own_w hw 47 rfl)) (own_w hw 11 rfl) (ty := .boolean) (v' := (.int (1 : Int32))) (by decide) rfl rfl (g := (mkF m 28 #[rv r0, rv r1] [(.int (1 : Int32)), (.ref r0)])) rfl rfl (hb hby d5_28)
  have E_r0_7 := E_r0_6.wr W7
  have F_bytes_r0_7 := F_bytes_r0_6.other W7 (Or.inr (slot_ne (Or.inl (own_w hw 41 rfl)) (Or.inl (own_w hw 47 rfl)) (by decide) (t := (.array .byte)) (t' := .boolean) (by decide) (by decide)))
  have V_b2_7 := V_b2_6.other W7 (Ne.symm ne_r0_b2)
  have V_b5_7 := V_b5_6.other W7 (Ne.symm ne_r0_b5)
  have Z7 : n0 ≤ h7.size := Nat.le_trans Z6 (Keep.of_wr W7).1
  have KK7 := KK6.wr W7 (Or.inl (List.mem_of_getElem? (i := 0) rfl))
  have N7 := Fr.snoc X7 N6 g_r0
  refine own_step (U' := T7.setTop (mkF m 31 #[rv r0, rv r1] [])) st7 ?_
  refine own_step (U' := T7.setTop (mkF m 33 #[rv r0, rv r1] [(.ref r1), (.ref r0)])) (fun t k => XS.aloadN X7.here hx rfl (hb hby d5_31) rfl rfl (XS.aloadN X7.here hx rfl (hb hby d5_32) rfl rfl k)) ?_
  obtain ⟨u8, Fu8⟩ := own_anyF (O := own_XC) (n := "known") (d := "Lcom/example/palisade/palisade/xml/KnownTexts;") E_r0_7 F_bytes_r0_7 (own_w hw 11 rfl) (Or.inr (own_w hw 49 rfl))
  obtain ⟨T8, h8, X8, e8, W8, st8⟩ := putF X7 hx hZ hown (host := "") (Or.inl (own_w hw 48 rfl)) Via.refl e7 Fu8 E_r0_7 (Or.inr ⟨(own_w hw 49 rfl), rfl, hnm⟩) (own_w hw 11 rfl) (ty := (.object own_KT)) (by decide) rfl rfl (g := (mkF m 33 #[rv r0, rv r1] [(.ref r1), (.ref r0)])) rfl rfl (hb hby d5_33)
  have E_r0_8 := E_r0_7.wr W8
  have F_bytes_r0_8 := F_bytes_r0_7.other W8 (Or.inr (slot_ne (Or.inl (own_w hw 41 rfl)) (Or.inr (own_w hw 49 rfl)) (by decide) (t := (.array .byte)) (t' := (.object own_KT)) (by decide) (by decide)))
  have V_b2_8 := V_b2_7.other W8 (Ne.symm ne_r0_b2)
  have V_b5_8 := V_b5_7.other W8 (Ne.symm ne_r0_b5)
  have Z8 : n0 ≤ h8.size := Nat.le_trans Z7 (Keep.of_wr W8).1
  have KK8 := KK7.wr W8 (Or.inl (List.mem_of_getElem? (i := 0) rfl))
  have N8 := Fr.snoc X8 N7 g_r0
  refine own_step (U' := T8.setTop (mkF m 36 #[rv r0, rv r1] [])) st8 ?_
  exact own_out X8 (v := none) hlk (fun _ => rfl) (by rw [e8]; exact ⟨b2, k2, rfl, N8, KK8, E_r0_8, F_bytes_r0_8, sz_b2, V_b2_8⟩) (by decide) (by decide) (fun fs hr => X8.returnOut hx Bd.returns (hb hby d5_36) hr)
theorem d6_0 : decode prog_148_method_2_code 0 = .ok (.aload_n 0, 1) := by decide +kernel
theorem d6_1 : decode prog_148_method_2_code 1 = .ok (.aload_n 1, 1) := by decide +kernel
theorem d6_2 : decode prog_148_method_2_code 2 = .ok (.putfield 29, 3) := by decide +kernel
theorem d6_5 : decode prog_148_method_2_code 5 = .ok (.aload_n 0, 1) := by decide +kernel
theorem d6_6 : decode prog_148_method_2_code 6 = .ok (.getfield 10, 3) := by decide +kernel
theorem d6_9 : decode prog_148_method_2_code 9 = .ok (.arraylength, 1) := by decide +kernel
theorem d6_10 : decode prog_148_method_2_code 10 = .ok (.ldc 9, 2) := by decide +kernel
theorem d6_12 : decode prog_148_method_2_code 12 = .ok (.if_icmp .le 11, 3) := by decide +kernel
theorem d6_23 : decode prog_148_method_2_code 23 = .ok (.aload_n 0, 1) := by decide +kernel
theorem d6_24 : decode prog_148_method_2_code 24 = .ok (.iconst 0, 1) := by decide +kernel
theorem d6_25 : decode prog_148_method_2_code 25 = .ok (.putfield 33, 3) := by decide +kernel
theorem d6_28 : decode prog_148_method_2_code 28 = .ok (.aload_n 0, 1) := by decide +kernel
theorem d6_29 : decode prog_148_method_2_code 29 = .ok (.iconst 0, 1) := by decide +kernel
theorem d6_30 : decode prog_148_method_2_code 30 = .ok (.putfield 36, 3) := by decide +kernel
theorem d6_33 : decode prog_148_method_2_code 33 = .ok (.aload_n 0, 1) := by decide +kernel
theorem d6_34 : decode prog_148_method_2_code 34 = .ok (.iconst (-1), 1) := by decide +kernel
theorem d6_35 : decode prog_148_method_2_code 35 = .ok (.putfield 14, 3) := by decide +kernel
theorem d6_38 : decode prog_148_method_2_code 38 = .ok (.aload_n 0, 1) := by decide +kernel
theorem d6_39 : decode prog_148_method_2_code 39 = .ok (.iconst 0, 1) := by decide +kernel
theorem d6_40 : decode prog_148_method_2_code 40 = .ok (.putfield 39, 3) := by decide +kernel
theorem d6_43 : decode prog_148_method_2_code 43 = .ok (.aload_n 0, 1) := by decide +kernel
theorem d6_44 : decode prog_148_method_2_code 44 = .ok (.iconst 0, 1) := by decide +kernel
theorem d6_45 : decode prog_148_method_2_code 45 = .ok (.putfield 42, 3) := by decide +kernel
theorem d6_48 : decode prog_148_method_2_code 48 = .ok (.aload_n 0, 1) := by decide +kernel
theorem d6_49 : decode prog_148_method_2_code 49 = .ok (.iconst 0, 1) := by decide +kernel
theorem d6_50 : decode prog_148_method_2_code 50 = .ok (.putfield 45, 3) := by decide +kernel
theorem d6_53 : decode prog_148_method_2_code 53 = .ok (.aload_n 0, 1) := by decide +kernel
theorem d6_54 : decode prog_148_method_2_code 54 = .ok (.aconst_null, 1) := by decide +kernel
theorem d6_55 : decode prog_148_method_2_code 55 = .ok (.putfield 48, 3) := by decide +kernel
theorem d6_58 : decode prog_148_method_2_code 58 = .ok (.aload_n 0, 1) := by decide +kernel
theorem d6_59 : decode prog_148_method_2_code 59 = .ok (.aconst_null, 1) := by decide +kernel
theorem d6_60 : decode prog_148_method_2_code 60 = .ok (.putfield 52, 3) := by decide +kernel
theorem d6_63 : decode prog_148_method_2_code 63 = .ok (.aload_n 0, 1) := by decide +kernel
theorem d6_64 : decode prog_148_method_2_code 64 = .ok (.iconst 1, 1) := by decide +kernel
theorem d6_65 : decode prog_148_method_2_code 65 = .ok (.putfield 56, 3) := by decide +kernel
theorem d6_68 : decode prog_148_method_2_code 68 = .ok (.aload_n 0, 1) := by decide +kernel
theorem d6_69 : decode prog_148_method_2_code 69 = .ok (.iconst 0, 1) := by decide +kernel
theorem d6_70 : decode prog_148_method_2_code 70 = .ok (.putfield 59, 3) := by decide +kernel
theorem d6_73 : decode prog_148_method_2_code 73 = .ok (.aload_n 0, 1) := by decide +kernel
theorem d6_74 : decode prog_148_method_2_code 74 = .ok (.iconst 0, 1) := by decide +kernel
theorem d6_75 : decode prog_148_method_2_code 75 = .ok (.putfield 62, 3) := by decide +kernel
theorem d6_78 : decode prog_148_method_2_code 78 = .ok (.aload_n 0, 1) := by decide +kernel
theorem d6_79 : decode prog_148_method_2_code 79 = .ok (.iconst 0, 1) := by decide +kernel
theorem d6_80 : decode prog_148_method_2_code 80 = .ok (.putfield 65, 3) := by decide +kernel
theorem d6_83 : decode prog_148_method_2_code 83 = .ok (.return_, 1) := by decide +kernel
theorem pn_6 : plainName own_XC = true := by first | (simp [plainName, overriddenIn]; done) | decide +kernel
theorem ef_6 (m : MethodId) (r0 : Addr) : entryFrame m #[(.ref r0), .null] 2 = mkF m 0 #[rv r0, .val .null] [] := by first | (simp [entryFrame, mkF, argsToLocals, Value.category]; done) | rfl
def Q6 (Z : State) (r0 : Addr) (gb : Addr) (k_gb : ClassId) (h0 : Heap) (n0 : Nat) (v : Option Value) (h : Heap) (L : List Loc) : Prop := v = none ∧ Fr n0 L ∧ Keep h0 h [r0] ∧ Exa Z h r0 own_XC ∧ Fld Z h r0 own_XC "bytes" "[B" (.ref gb) ∧ Fld Z h r0 own_XC "position" "I" (.int (0 : Int32)) ∧ Fld Z h r0 own_XC "line" "I" (.int (1 : Int32)) ∧ Fld Z h r0 own_XC "counted" "I" (.int (0 : Int32)) ∧ Fld Z h r0 own_XC "afterCarriageReturn" "Z" (.int (0 : Int32))
set_option maxRecDepth 65536 in
set_option maxHeartbeats 40000000 in
theorem rm6 (l : Launch) (Z : State) (a0 : Array Value) (hw : ∀ d ∈ tables_1, d.before a0 Z = true) (ws : List Jvm.Cond) (r0 : Addr) (gb : Addr) (k_gb : ClassId) (h0 : Heap) (n0 : Nat) (Z0 : n0 ≤ h0.size) (E_r0 : Exa Z h0 r0 own_XC) (F_bytes_r0 : Fld Z h0 r0 own_XC "bytes" "[B" (.ref gb)) (g_r0 : n0 ≤ r0) (V_gb : Arv Z h0 gb k_gb .byte (65536 : Int32) [] (.int (0 : Int32))) (hne : gb ≠ r0) :
    MetFree l (⟨own_XC, "restart", "(Ljava/io/InputStream;)V"⟩ : MethodName) (head1 (Jvm.Cond.code (⟨own_XC, "restart", "(Ljava/io/InputStream;)V"⟩ : MethodName) prog_148_method_2_code 2 none :: ws) ({ frames := 0, cells := 0, slots := 0, locals := 0 } : Room)) (fun a U => a = #[(.ref r0), .null] ∧ Z.Warmed39 U.vm ∧ U.heap = h0) (fun _ _ _ _ _ => True) (fun _ U o U' => ∃ v L, o = .returned v ∧ Q6 Z r0 gb k_gb h0 n0 v U'.heap L ∧ FrameEnd U o U' L ({ frames := 0, cells := 0, slots := 0, locals := 0 } : Room).cells ({ frames := 0, cells := 0, slots := 0, locals := 0 } : Room).slots) := by
  refine MetFree.of_bodySF (plainFor_of_name pn_6) hisR ?_
  intro p e s m args below meth c s₁ Bd hml0 hP hK
  obtain ⟨rfl, hZ, hh⟩ := hP
  have hx := Bd.exec
  have hby := Bd.bytes
  have hml : c.maxLocals = 2 := hml0
  have hown : s.vm.findClass own_XC = some m.cls := findClass_of_methodNamed Bd.named
  have hnm := (name_of_methodNamed Bd.named Bd.method).1
  have hlk : meth.locks = false := Bd.notSynchronized
  have X0 : Stand p l e ({ frames := 0, cells := 0, slots := 0, locals := 0 } : Room) s m #[(.ref r0), .null] below meth c s₁ [] 0 0 := Stand.of_body Bd
  have e0 : s₁.heap = h0 := by rw [← hh, Bd.state]; rfl
  have N0 := Fr.nil n0
  have KK0 := Keep.refl h0 [r0]
  show own_Go p.tables e below s 0 0 (Q6 Z r0 gb k_gb h0 n0) (s₁.setTop (entryFrame m #[(.ref r0), .null] 2))
  rw [ef_6]
  refine own_step (U' := s₁.setTop (mkF m 2 #[rv r0, .val .null] [.null, (.ref r0)])) (fun t k => XS.aloadN X0.here hx rfl (hb hby d6_0) rfl rfl (XS.aloadN X0.here hx rfl (hb hby d6_1) rfl rfl k)) ?_
  obtain ⟨u1, Fu1⟩ := own_anyF (O := own_XC) (n := "in") (d := "Ljava/io/InputStream;") E_r0 F_bytes_r0 (own_w hw 11 rfl) (Or.inl (own_w hw 56 rfl))
  obtain ⟨T1, h1, X1, e1, W1, st1⟩ := putF X0 hx hZ hown (host := "") (Or.inl (own_w hw 55 rfl)) Via.refl e0 Fu1 E_r0 (Or.inl (own_w hw 56 rfl)) (own_w hw 11 rfl) (ty := (.object "java/io/InputStream")) (by decide) rfl rfl (g := (mkF m 2 #[rv r0, .val .null] [.null, (.ref r0)])) rfl rfl (hb hby d6_2)
  have E_r0_1 := E_r0.wr W1
  have F_bytes_r0_1 := F_bytes_r0.other W1 (Or.inr (slot_ne (Or.inl (own_w hw 41 rfl)) (Or.inl (own_w hw 56 rfl)) (by decide) (t := (.array .byte)) (t' := (.object "java/io/InputStream")) (by decide) (by decide)))
  have V_gb_1 := V_gb.other W1 hne
  have Z1 : n0 ≤ h1.size := Nat.le_trans Z0 (Keep.of_wr W1).1
  have KK1 := KK0.wr W1 (Or.inl (List.mem_of_getElem? (i := 0) rfl))
  have N1 := Fr.snoc X1 N0 g_r0
  refine own_step (U' := T1.setTop (mkF m 5 #[rv r0, .val .null] [])) st1 ?_
  refine own_step (U' := T1.setTop (mkF m 6 #[rv r0, .val .null] [(.ref r0)])) (fun t k => XS.aloadN X1.here hx rfl (hb hby d6_5) rfl rfl k) ?_
  obtain ⟨T2, X2, e2, st2⟩ := getF X1 hx hZ hown (host := "") (Or.inl (own_w hw 40 rfl)) Via.refl e1 F_bytes_r0_1 (g := (mkF m 6 #[rv r0, .val .null] [(.ref r0)])) rfl rfl (hb hby d6_6)
  refine own_step (U' := T2.setTop (mkF m 9 #[rv r0, .val .null] [(.ref gb)])) st2 ?_
  obtain ⟨cl3, Ar3, aq3, aS3, aN3, aH3, aG3⟩ := id V_gb_1
  have hl3 := len_of aS3 aN3
  refine own_step (U' := T2.setTop (mkF m 25 #[rv r0, .val .null] [(.int (0 : Int32)), (.ref r0)])) (fun t k => X2.arraylength hx (by rw [e2]; exact Ar3.1) (State.isArrayOf_alike hZ.alike Ar3.2.1) (g := (mkF m 9 #[rv r0, .val .null] [(.ref gb)])) rfl rfl (hb hby d6_9) t (by rw [hl3]; exact (X2.ldcInt hx hown (mvT hZ (own_w hw 39 rfl)) (g := (mkF m 10 #[rv r0, .val .null] [(.int (65536 : Int32))])) rfl (hb hby d6_10) t (XS.icmpYes X2.here hx rfl (pc0 := 12) (pc' := 23) rfl (hb hby d6_12) rfl (by decide) (by decide) (by decide) (XS.aloadN X2.here hx rfl (hb hby d6_23) rfl rfl (XS.iconst X2.here hx rfl (hb hby d6_24) k)))))) ?_
  obtain ⟨u4, Fu4⟩ := own_anyF (O := own_XC) (n := "position") (d := "I") E_r0_1 F_bytes_r0_1 (own_w hw 11 rfl) (Or.inl (own_w hw 58 rfl))
  obtain ⟨T4, h4, X4, e4, W4, st4⟩ := putF X2 hx hZ hown (host := "") (Or.inl (own_w hw 57 rfl)) Via.refl e2 Fu4 E_r0_1 (Or.inl (own_w hw 58 rfl)) (own_w hw 11 rfl) (ty := .int) (by decide) rfl rfl (g := (mkF m 25 #[rv r0, .val .null] [(.int (0 : Int32)), (.ref r0)])) rfl rfl (hb hby d6_25)
  have E_r0_4 := E_r0_1.wr W4
  have F_bytes_r0_4 := F_bytes_r0_1.other W4 (Or.inr (slot_ne (Or.inl (own_w hw 41 rfl)) (Or.inl (own_w hw 58 rfl)) (by decide) (t := (.array .byte)) (t' := .int) (by decide) (by decide)))
  have V_gb_4 := V_gb_1.other W4 hne
  have F_position_r0_4 := Fu4.same W4
  have Z4 : n0 ≤ h4.size := Nat.le_trans Z1 (Keep.of_wr W4).1
  have KK4 := KK1.wr W4 (Or.inl (List.mem_of_getElem? (i := 0) rfl))
  have N4 := Fr.snoc X4 N1 g_r0
  refine own_step (U' := T4.setTop (mkF m 28 #[rv r0, .val .null] [])) st4 ?_
  refine own_step (U' := T4.setTop (mkF m 30 #[rv r0, .val .null] [(.int (0 : Int32)), (.ref r0)])) (fun t k => XS.aloadN X4.here hx rfl (hb hby d6_28) rfl rfl (XS.iconst X4.here hx rfl (hb hby d6_29) k)) ?_
  obtain ⟨u5, Fu5⟩ := own_anyF (O := own_XC) (n := "limit") (d := "I") E_r0_4 F_bytes_r0_4 (own_w hw 11 rfl) (Or.inl (own_w hw 60 rfl))
  obtain ⟨T5, h5, X5, e5, W5, st5⟩ := putF X4 hx hZ hown (host := "") (Or.inl (own_w hw 59 rfl)) Via.refl e4 Fu5 E_r0_4 (Or.inl (own_w hw 60 rfl)) (own_w hw 11 rfl) (ty := .int) (by decide) rfl rfl (g := (mkF m 30 #[rv r0, .val .null] [(.int (0 : Int32)), (.ref r0)])) rfl rfl (hb hby d6_30)
  have E_r0_5 := E_r0_4.wr W5
  have F_bytes_r0_5 := F_bytes_r0_4.other W5 (Or.inr (slot_ne (Or.inl (own_w hw 41 rfl)) (Or.inl (own_w hw 60 rfl)) (by decide) (t := (.array .byte)) (t' := .int) (by decide) (by decide)))
  have V_gb_5 := V_gb_4.other W5 hne
  have F_position_r0_5 := F_position_r0_4.other W5 (Or.inr (slot_ne (Or.inl (own_w hw 58 rfl)) (Or.inl (own_w hw 60 rfl)) (by decide) (t := .int) (t' := .int) (by decide) (by decide)))
  have Z5 : n0 ≤ h5.size := Nat.le_trans Z4 (Keep.of_wr W5).1
  have KK5 := KK4.wr W5 (Or.inl (List.mem_of_getElem? (i := 0) rfl))
  have N5 := Fr.snoc X5 N4 g_r0
  refine own_step (U' := T5.setTop (mkF m 33 #[rv r0, .val .null] [])) st5 ?_
  refine own_step (U' := T5.setTop (mkF m 35 #[rv r0, .val .null] [(.int (-1 : Int32)), (.ref r0)])) (fun t k => XS.aloadN X5.here hx rfl (hb hby d6_33) rfl rfl (XS.iconst X5.here hx rfl (hb hby d6_34) k)) ?_
  obtain ⟨u6, Fu6⟩ := own_anyF (O := own_XC) (n := "keep") (d := "I") E_r0_5 F_bytes_r0_5 (own_w hw 11 rfl) (Or.inl (own_w hw 43 rfl))
  obtain ⟨T6, h6, X6, e6, W6, st6⟩ := putF X5 hx hZ hown (host := "") (Or.inl (own_w hw 42 rfl)) Via.refl e5 Fu6 E_r0_5 (Or.inl (own_w hw 43 rfl)) (own_w hw 11 rfl) (ty := .int) (by decide) rfl rfl (g := (mkF m 35 #[rv r0, .val .null] [(.int (-1 : Int32)), (.ref r0)])) rfl rfl (hb hby d6_35)
  have E_r0_6 := E_r0_5.wr W6
  have F_bytes_r0_6 := F_bytes_r0_5.other W6 (Or.inr (slot_ne (Or.inl (own_w hw 41 rfl)) (Or.inl (own_w hw 43 rfl)) (by decide) (t := (.array .byte)) (t' := .int) (by decide) (by decide)))
  have V_gb_6 := V_gb_5.other W6 hne
  have F_position_r0_6 := F_position_r0_5.other W6 (Or.inr (slot_ne (Or.inl (own_w hw 58 rfl)) (Or.inl (own_w hw 43 rfl)) (by decide) (t := .int) (t' := .int) (by decide) (by decide)))
  have Z6 : n0 ≤ h6.size := Nat.le_trans Z5 (Keep.of_wr W6).1
  have KK6 := KK5.wr W6 (Or.inl (List.mem_of_getElem? (i := 0) rfl))
  have N6 := Fr.snoc X6 N5 g_r0
  refine own_step (U' := T6.setTop (mkF m 38 #[rv r0, .val .null] [])) st6 ?_
  refine own_step (U' := T6.setTop (mkF m 40 #[rv r0, .val .null] [(.int (0 : Int32)), (.ref r0)])) (fun t k => XS.aloadN X6.here hx rfl (hb hby d6_38) rfl rfl (XS.iconst X6.here hx rfl (hb hby d6_39) k)) ?_
  obtain ⟨u7, Fu7⟩ := own_anyF (O := own_XC) (n := "endOfInput") (d := "Z") E_r0_6 F_bytes_r0_6 (own_w hw 11 rfl) (Or.inl (own_w hw 62 rfl))
  obtain ⟨T7, h7, X7, e7, W7, st7⟩ := putFN X6 hx hZ hown (own_w hw 61 rfl) Via.refl e6 Fu7 E_r0_6 (Or.inl (own_w hw 62 rfl)) (own_w hw 11 rfl) (ty := .boolean) (v' := (.int (0 : Int32))) (by decide) rfl rfl (g := (mkF m 40 #[rv r0, .val .null] [(.int (0 : Int32)), (.ref r0)])) rfl rfl (hb hby d6_40)
  have E_r0_7 := E_r0_6.wr W7
  have F_bytes_r0_7 := F_bytes_r0_6.other W7 (Or.inr (slot_ne (Or.inl (own_w hw 41 rfl)) (Or.inl (own_w hw 62 rfl)) (by decide) (t := (.array .byte)) (t' := .boolean) (by decide) (by decide)))
  have V_gb_7 := V_gb_6.other W7 hne
  have F_position_r0_7 := F_position_r0_6.other W7 (Or.inr (slot_ne (Or.inl (own_w hw 58 rfl)) (Or.inl (own_w hw 62 rfl)) (by decide) (t := .int) (t' := .boolean) (by decide) (by decide)))
  have Z7 : n0 ≤ h7.size := Nat.le_trans Z6 (Keep.of_wr W7).1
  have KK7 := KK6.wr W7 (Or.inl (List.mem_of_getElem? (i := 0) rfl))
  have N7 := Fr.snoc X7 N6 g_r0
  refine own_step (U' := T7.setTop (mkF m 43 #[rv r0, .val .null] [])) st7 ?_
  refine own_step (U' := T7.setTop (mkF m 45 #[rv r0, .val .null] [(.int (0 : Int32)), (.ref r0)])) (fun t k => XS.aloadN X7.here hx rfl (hb hby d6_43) rfl rfl (XS.iconst X7.here hx rfl (hb hby d6_44) k)) ?_
  obtain ⟨u8, Fu8⟩ := own_anyF (O := own_XC) (n := "endsInsideCharacter") (d := "Z") E_r0_7 F_bytes_r0_7 (own_w hw 11 rfl) (Or.inl (own_w hw 64 rfl))
  obtain ⟨T8, h8, X8, e8, W8, st8⟩ := putFN X7 hx hZ hown (own_w hw 63 rfl) Via.refl e7 Fu8 E_r0_7 (Or.inl (own_w hw 64 rfl)) (own_w hw 11 rfl) (ty := .boolean) (v' := (.int (0 : Int32))) (by decide) rfl rfl (g := (mkF m 45 #[rv r0, .val .null] [(.int (0 : Int32)), (.ref r0)])) rfl rfl (hb hby d6_45)
  have E_r0_8 := E_r0_7.wr W8
  have F_bytes_r0_8 := F_bytes_r0_7.other W8 (Or.inr (slot_ne (Or.inl (own_w hw 41 rfl)) (Or.inl (own_w hw 64 rfl)) (by decide) (t := (.array .byte)) (t' := .boolean) (by decide) (by decide)))
  have V_gb_8 := V_gb_7.other W8 hne
  have F_position_r0_8 := F_position_r0_7.other W8 (Or.inr (slot_ne (Or.inl (own_w hw 58 rfl)) (Or.inl (own_w hw 64 rfl)) (by decide) (t := .int) (t' := .boolean) (by decide) (by decide)))
  have Z8 : n0 ≤ h8.size := Nat.le_trans Z7 (Keep.of_wr W8).1
  have KK8 := KK7.wr W8 (Or.inl (List.mem_of_getElem? (i := 0) rfl))
  have N8 := Fr.snoc X8 N7 g_r0
  refine own_step (U' := T8.setTop (mkF m 48 #[rv r0, .val .null] [])) st8 ?_
  refine own_step (U' := T8.setTop (mkF m 50 #[rv r0, .val .null] [(.int (0 : Int32)), (.ref r0)])) (fun t k => XS.aloadN X8.here hx rfl (hb hby d6_48) rfl rfl (XS.iconst X8.here hx rfl (hb hby d6_49) k)) ?_
  obtain ⟨u9, Fu9⟩ := own_anyF (O := own_XC) (n := "endInView") (d := "Z") E_r0_8 F_bytes_r0_8 (own_w hw 11 rfl) (Or.inl (own_w hw 66 rfl))
  obtain ⟨T9, h9, X9, e9, W9, st9⟩ := putFN X8 hx hZ hown (own_w hw 65 rfl) Via.refl e8 Fu9 E_r0_8 (Or.inl (own_w hw 66 rfl)) (own_w hw 11 rfl) (ty := .boolean) (v' := (.int (0 : Int32))) (by decide) rfl rfl (g := (mkF m 50 #[rv r0, .val .null] [(.int (0 : Int32)), (.ref r0)])) rfl rfl (hb hby d6_50)
  have E_r0_9 := E_r0_8.wr W9
  have F_bytes_r0_9 := F_bytes_r0_8.other W9 (Or.inr (slot_ne (Or.inl (own_w hw 41 rfl)) (Or.inl (own_w hw 66 rfl)) (by decide) (t := (.array .byte)) (t' := .boolean) (by decide) (by decide)))
  have V_gb_9 := V_gb_8.other W9 hne
  have F_position_r0_9 := F_position_r0_8.other W9 (Or.inr (slot_ne (Or.inl (own_w hw 58 rfl)) (Or.inl (own_w hw 66 rfl)) (by decide) (t := .int) (t' := .boolean) (by decide) (by decide)))
  have Z9 : n0 ≤ h9.size := Nat.le_trans Z8 (Keep.of_wr W9).1
  have KK9 := KK8.wr W9 (Or.inl (List.mem_of_getElem? (i := 0) rfl))
  have N9 := Fr.snoc X9 N8 g_r0
  refine own_step (U' := T9.setTop (mkF m 53 #[rv r0, .val .null] [])) st9 ?_
  refine own_step (U' := T9.setTop (mkF m 55 #[rv r0, .val .null] [.null, (.ref r0)])) (fun t k => XS.aloadN X9.here hx rfl (hb hby d6_53) rfl rfl (XS.aconstNull X9.here hx rfl (hb hby d6_54) k)) ?_
  obtain ⟨u10, Fu10⟩ := own_anyF (O := own_XC) (n := "unfinished") (d := "Ljava/lang/String;") E_r0_9 F_bytes_r0_9 (own_w hw 11 rfl) (Or.inl (own_w hw 68 rfl))
  obtain ⟨T10, h10, X10, e10, W10, st10⟩ := putF X9 hx hZ hown (host := "") (Or.inl (own_w hw 67 rfl)) Via.refl e9 Fu10 E_r0_9 (Or.inl (own_w hw 68 rfl)) (own_w hw 11 rfl) (ty := (.object "java/lang/String")) (by decide) rfl rfl (g := (mkF m 55 #[rv r0, .val .null] [.null, (.ref r0)])) rfl rfl (hb hby d6_55)
  have E_r0_10 := E_r0_9.wr W10
  have F_bytes_r0_10 := F_bytes_r0_9.other W10 (Or.inr (slot_ne (Or.inl (own_w hw 41 rfl)) (Or.inl (own_w hw 68 rfl)) (by decide) (t := (.array .byte)) (t' := (.object "java/lang/String")) (by decide) (by decide)))
  have V_gb_10 := V_gb_9.other W10 hne
  have F_position_r0_10 := F_position_r0_9.other W10 (Or.inr (slot_ne (Or.inl (own_w hw 58 rfl)) (Or.inl (own_w hw 68 rfl)) (by decide) (t := .int) (t' := (.object "java/lang/String")) (by decide) (by decide)))
  have Z10 : n0 ≤ h10.size := Nat.le_trans Z9 (Keep.of_wr W10).1
  have KK10 := KK9.wr W10 (Or.inl (List.mem_of_getElem? (i := 0) rfl))
  have N10 := Fr.snoc X10 N9 g_r0
  refine own_step (U' := T10.setTop (mkF m 58 #[rv r0, .val .null] [])) st10 ?_
  refine own_step (U' := T10.setTop (mkF m 60 #[rv r0, .val .null] [.null, (.ref r0)])) (fun t k => XS.aloadN X10.here hx rfl (hb hby d6_58) rfl rfl (XS.aconstNull X10.here hx rfl (hb hby d6_59) k)) ?_
  obtain ⟨u11, Fu11⟩ := own_anyF (O := own_XC) (n := "unfinishedName") (d := "Ljava/lang/CharSequence;") E_r0_10 F_bytes_r0_10 (own_w hw 11 rfl) (Or.inl (own_w hw 70 rfl))
  obtain ⟨T11, h11, X11, e11, W11, st11⟩ := putF X10 hx hZ hown (host := "") (Or.inl (own_w hw 69 rfl)) Via.refl e10 Fu11 E_r0_10 (Or.inl (own_w hw 70 rfl)) (own_w hw 11 rfl) (ty := (.object "java/lang/CharSequence")) (by decide) rfl rfl (g := (mkF m 60 #[rv r0, .val .null] [.null, (.ref r0)])) rfl rfl (hb hby d6_60)
  have E_r0_11 := E_r0_10.wr W11
  have F_bytes_r0_11 := F_bytes_r0_10.other W11 (Or.inr (slot_ne (Or.inl (own_w hw 41 rfl)) (Or.inl (own_w hw 70 rfl)) (by decide) (t := (.array .byte)) (t' := (.object "java/lang/CharSequence")) (by decide) (by decide)))
  have V_gb_11 := V_gb_10.other W11 hne
  have F_position_r0_11 := F_position_r0_10.other W11 (Or.inr (slot_ne (Or.inl (own_w hw 58 rfl)) (Or.inl (own_w hw 70 rfl)) (by decide) (t := .int) (t' := (.object "java/lang/CharSequence")) (by decide) (by decide)))
  have Z11 : n0 ≤ h11.size := Nat.le_trans Z10 (Keep.of_wr W11).1
  have KK11 := KK10.wr W11 (Or.inl (List.mem_of_getElem? (i := 0) rfl))
  have N11 := Fr.snoc X11 N10 g_r0
  refine own_step (U' := T11.setTop (mkF m 63 #[rv r0, .val .null] [])) st11 ?_
  refine own_step (U' := T11.setTop (mkF m 65 #[rv r0, .val .null] [(.int (1 : Int32)), (.ref r0)])) (fun t k => XS.aloadN X11.here hx rfl (hb hby d6_63) rfl rfl (XS.iconst X11.here hx rfl (hb hby d6_64) k)) ?_
  obtain ⟨u12, Fu12⟩ := own_anyF (O := own_XC) (n := "line") (d := "I") E_r0_11 F_bytes_r0_11 (own_w hw 11 rfl) (Or.inl (own_w hw 72 rfl))
  obtain ⟨T12, h12, X12, e12, W12, st12⟩ := putF X11 hx hZ hown (host := "") (Or.inl (own_w hw 71 rfl)) Via.refl e11 Fu12 E_r0_11 (Or.inl (own_w hw 72 rfl)) (own_w hw 11 rfl) (ty := .int) (by decide) rfl rfl (g := (mkF m 65 #[rv r0, .val .null] [(.int (1 : Int32)), (.ref r0)])) rfl rfl (hb hby d6_65)
  have E_r0_12 := E_r0_11.wr W12
  have F_bytes_r0_12 := F_bytes_r0_11.other W12 (Or.inr (slot_ne (Or.inl (own_w hw 41 rfl)) (Or.inl (own_w hw 72 rfl)) (by decide) (t := (.array .byte)) (t' := .int) (by decide) (by decide)))
  have V_gb_12 := V_gb_11.other W12 hne
  have F_position_r0_12 := F_position_r0_11.other W12 (Or.inr (slot_ne (Or.inl (own_w hw 58 rfl)) (Or.inl (own_w hw 72 rfl)) (by decide) (t := .int) (t' := .int) (by decide) (by decide)))
  have F_line_r0_12 := Fu12.same W12
  have Z12 : n0 ≤ h12.size := Nat.le_trans Z11 (Keep.of_wr W12).1
  have KK12 := KK11.wr W12 (Or.inl (List.mem_of_getElem? (i := 0) rfl))
  have N12 := Fr.snoc X12 N11 g_r0
  refine own_step (U' := T12.setTop (mkF m 68 #[rv r0, .val .null] [])) st12 ?_
  refine own_step (U' := T12.setTop (mkF m 70 #[rv r0, .val .null] [(.int (0 : Int32)), (.ref r0)])) (fun t k => XS.aloadN X12.here hx rfl (hb hby d6_68) rfl rfl (XS.iconst X12.here hx rfl (hb hby d6_69) k)) ?_
  obtain ⟨u13, Fu13⟩ := own_anyF (O := own_XC) (n := "counted") (d := "I") E_r0_12 F_bytes_r0_12 (own_w hw 11 rfl) (Or.inl (own_w hw 74 rfl))
  obtain ⟨T13, h13, X13, e13, W13, st13⟩ := putF X12 hx hZ hown (host := "") (Or.inl (own_w hw 73 rfl)) Via.refl e12 Fu13 E_r0_12 (Or.inl (own_w hw 74 rfl)) (own_w hw 11 rfl) (ty := .int) (by decide) rfl rfl (g := (mkF m 70 #[rv r0, .val .null] [(.int (0 : Int32)), (.ref r0)])) rfl rfl (hb hby d6_70)
  have E_r0_13 := E_r0_12.wr W13
  have F_bytes_r0_13 := F_bytes_r0_12.other W13 (Or.inr (slot_ne (Or.inl (own_w hw 41 rfl)) (Or.inl (own_w hw 74 rfl)) (by decide) (t := (.array .byte)) (t' := .int) (by decide) (by decide)))
  have V_gb_13 := V_gb_12.other W13 hne
  have F_position_r0_13 := F_position_r0_12.other W13 (Or.inr (slot_ne (Or.inl (own_w hw 58 rfl)) (Or.inl (own_w hw 74 rfl)) (by decide) (t := .int) (t' := .int) (by decide) (by decide)))
  have F_line_r0_13 := F_line_r0_12.other W13 (Or.inr (slot_ne (Or.inl (own_w hw 72 rfl)) (Or.inl (own_w hw 74 rfl)) (by decide) (t := .int) (t' := .int) (by decide) (by decide)))
  have F_counted_r0_13 := Fu13.same W13
  have Z13 : n0 ≤ h13.size := Nat.le_trans Z12 (Keep.of_wr W13).1
  have KK13 := KK12.wr W13 (Or.inl (List.mem_of_getElem? (i := 0) rfl))
  have N13 := Fr.snoc X13 N12 g_r0
  refine own_step (U' := T13.setTop (mkF m 73 #[rv r0, .val .null] [])) st13 ?_
  refine own_step (U' := T13.setTop (mkF m 75 #[rv r0, .val .null] [(.int (0 : Int32)), (.ref r0)])) (fun t k => XS.aloadN X13.here hx rfl (hb hby d6_73) rfl rfl (XS.iconst X13.here hx rfl (hb hby d6_74) k)) ?_
  obtain ⟨u14, Fu14⟩ := own_anyF (O := own_XC) (n := "afterCarriageReturn") (d := "Z") E_r0_13 F_bytes_r0_13 (own_w hw 11 rfl) (Or.inl (own_w hw 76 rfl))
  obtain ⟨T14, h14, X14, e14, W14, st14⟩ := putFN X13 hx hZ hown (own_w hw 75 rfl) Via.refl e13 Fu14 E_r0_13 (Or.inl (own_w hw 76 rfl)) (own_w hw 11 rfl) (ty := .boolean) (v' := (.int (0 : Int32))) (by decide) rfl rfl (g := (mkF m 75 #[rv r0, .val .null] [(.int (0 : Int32)), (.ref r0)])) rfl rfl (hb hby d6_75)
  have E_r0_14 := E_r0_13.wr W14
  have F_bytes_r0_14 := F_bytes_r0_13.other W14 (Or.inr (slot_ne (Or.inl (own_w hw 41 rfl)) (Or.inl (own_w hw 76 rfl)) (by decide) (t := (.array .byte)) (t' := .boolean) (by decide) (by decide)))
  have V_gb_14 := V_gb_13.other W14 hne
  have F_position_r0_14 := F_position_r0_13.other W14 (Or.inr (slot_ne (Or.inl (own_w hw 58 rfl)) (Or.inl (own_w hw 76 rfl)) (by decide) (t := .int) (t' := .boolean) (by decide) (by decide)))
  have F_line_r0_14 := F_line_r0_13.other W14 (Or.inr (slot_ne (Or.inl (own_w hw 72 rfl)) (Or.inl (own_w hw 76 rfl)) (by decide) (t := .int) (t' := .boolean) (by decide) (by decide)))
  have F_counted_r0_14 := F_counted_r0_13.other W14 (Or.inr (slot_ne (Or.inl (own_w hw 74 rfl)) (Or.inl (own_w hw 76 rfl)) (by decide) (t := .int) (t' := .boolean) (by decide) (by decide)))
  have F_afterCarriageReturn_r0_14 := Fu14.same W14
  have Z14 : n0 ≤ h14.size := Nat.le_trans Z13 (Keep.of_wr W14).1
  have KK14 := KK13.wr W14 (Or.inl (List.mem_of_getElem? (i := 0) rfl))
  have N14 := Fr.snoc X14 N13 g_r0
  refine own_step (U' := T14.setTop (mkF m 78 #[rv r0, .val .null] [])) st14 ?_
  refine own_step (U' := T14.setTop (mkF m 80 #[rv r0, .val .null] [(.int (0 : Int32)), (.ref r0)])) (fun t k => XS.aloadN X14.here hx rfl (hb hby d6_78) rfl rfl (XS.iconst X14.here hx rfl (hb hby d6_79) k)) ?_
  obtain ⟨u15, Fu15⟩ := own_anyF (O := own_XC) (n := "afterLineEnd") (d := "Z") E_r0_14 F_bytes_r0_14 (own_w hw 11 rfl) (Or.inl (own_w hw 78 rfl))
  obtain ⟨T15, h15, X15, e15, W15, st15⟩ := putFN X14 hx hZ hown (own_w hw 77 rfl) Via.refl e14 Fu15 E_r0_14 (Or.inl (own_w hw 78 rfl)) (own_w hw 11 rfl) (ty := .boolean) (v' := (.int (0 : Int32))) (by decide) rfl rfl (g := (mkF m 80 #[rv r0, .val .null] [(.int (0 : Int32)), (.ref r0)])) rfl rfl (hb hby d6_80)
  have E_r0_15 := E_r0_14.wr W15
  have F_bytes_r0_15 := F_bytes_r0_14.other W15 (Or.inr (slot_ne (Or.inl (own_w hw 41 rfl)) (Or.inl (own_w hw 78 rfl)) (by decide) (t := (.array .byte)) (t' := .boolean) (by decide) (by decide)))
  have V_gb_15 := V_gb_14.other W15 hne
  have F_position_r0_15 := F_position_r0_14.other W15 (Or.inr (slot_ne (Or.inl (own_w hw 58 rfl)) (Or.inl (own_w hw 78 rfl)) (by decide) (t := .int) (t' := .boolean) (by decide) (by decide)))
  have F_line_r0_15 := F_line_r0_14.other W15 (Or.inr (slot_ne (Or.inl (own_w hw 72 rfl)) (Or.inl (own_w hw 78 rfl)) (by decide) (t := .int) (t' := .boolean) (by decide) (by decide)))
  have F_counted_r0_15 := F_counted_r0_14.other W15 (Or.inr (slot_ne (Or.inl (own_w hw 74 rfl)) (Or.inl (own_w hw 78 rfl)) (by decide) (t := .int) (t' := .boolean) (by decide) (by decide)))
  have F_afterCarriageReturn_r0_15 := F_afterCarriageReturn_r0_14.other W15 (Or.inr (slot_ne (Or.inl (own_w hw 76 rfl)) (Or.inl (own_w hw 78 rfl)) (by decide) (t := .boolean) (t' := .boolean) (by decide) (by decide)))
  have Z15 : n0 ≤ h15.size := Nat.le_trans Z14 (Keep.of_wr W15).1
  have KK15 := KK14.wr W15 (Or.inl (List.mem_of_getElem? (i := 0) rfl))
  have N15 := Fr.snoc X15 N14 g_r0
  refine own_step (U' := T15.setTop (mkF m 83 #[rv r0, .val .null] [])) st15 ?_
  exact own_out X15 (v := none) hlk (fun _ => rfl) (by rw [e15]; exact ⟨rfl, N15, KK15, E_r0_15, F_bytes_r0_15, F_position_r0_15, F_line_r0_15, F_counted_r0_15, F_afterCarriageReturn_r0_15⟩) (by decide) (by decide) (fun fs hr => X15.returnOut hx Bd.returns (hb hby d6_83) hr)
theorem d7_0 : decode prog_148_method_41_code 0 = .ok (.aload_n 0, 1) := by decide +kernel
theorem d7_1 : decode prog_148_method_41_code 1 = .ok (.getfield 10, 3) := by decide +kernel
theorem d7_4 : decode prog_148_method_41_code 4 = .ok (.areturn, 1) := by decide +kernel
theorem pn_7 : plainName own_XC = true := by first | (simp [plainName, overriddenIn]; done) | decide +kernel
theorem ef_7 (m : MethodId) (r0 : Addr) : entryFrame m #[(.ref r0)] 1 = mkF m 0 #[rv r0] [] := by first | (simp [entryFrame, mkF, argsToLocals, Value.category]; done) | rfl
def Q7 (Z : State) (r0 : Addr) (gb : Addr) (h0 : Heap) (n0 : Nat) (v : Option Value) (h : Heap) (L : List Loc) : Prop := v = some (.ref gb) ∧ Fr n0 L ∧ h = h0
set_option maxRecDepth 65536 in
set_option maxHeartbeats 40000000 in
theorem rm7 (l : Launch) (Z : State) (a0 : Array Value) (hw : ∀ d ∈ tables_1, d.before a0 Z = true) (ws : List Jvm.Cond) (r0 : Addr) (gb : Addr) (h0 : Heap) (n0 : Nat) (Z0 : n0 ≤ h0.size) (E_r0 : Exa Z h0 r0 own_XC) (F_bytes_r0 : Fld Z h0 r0 own_XC "bytes" "[B" (.ref gb)) :
    MetFree l (⟨own_XC, "nameBytes", "()[B"⟩ : MethodName) (head1 (Jvm.Cond.code (⟨own_XC, "nameBytes", "()[B"⟩ : MethodName) prog_148_method_41_code 1 (some (.array .byte)) :: ws) ({ frames := 0, cells := 0, slots := 0, locals := 0 } : Room)) (fun a U => a = #[(.ref r0)] ∧ Z.Warmed39 U.vm ∧ U.heap = h0) (fun _ _ _ _ _ => True) (fun _ U o U' => ∃ v L, o = .returned v ∧ Q7 Z r0 gb h0 n0 v U'.heap L ∧ FrameEnd U o U' L ({ frames := 0, cells := 0, slots := 0, locals := 0 } : Room).cells ({ frames := 0, cells := 0, slots := 0, locals := 0 } : Room).slots) := by
  refine MetFree.of_bodySF (plainFor_of_name pn_7) hisR ?_
  intro p e s m args below meth c s₁ Bd hml0 hP hK
  obtain ⟨rfl, hZ, hh⟩ := hP
  have hx := Bd.exec
  have hby := Bd.bytes
  have hml : c.maxLocals = 1 := hml0
  have hown : s.vm.findClass own_XC = some m.cls := findClass_of_methodNamed Bd.named
  have hnm := (name_of_methodNamed Bd.named Bd.method).1
  have hlk : meth.locks = false := Bd.notSynchronized
  have X0 : Stand p l e ({ frames := 0, cells := 0, slots := 0, locals := 0 } : Room) s m #[(.ref r0)] below meth c s₁ [] 0 0 := Stand.of_body Bd
  have e0 : s₁.heap = h0 := by rw [← hh, Bd.state]; rfl
  have N0 := Fr.nil n0
  have KK0 := Keep.refl h0 []
  show own_Go p.tables e below s 0 0 (Q7 Z r0 gb h0 n0) (s₁.setTop (entryFrame m #[(.ref r0)] 1))
  rw [ef_7]
  refine own_step (U' := s₁.setTop (mkF m 1 #[rv r0] [(.ref r0)])) (fun t k => XS.aloadN X0.here hx rfl (hb hby d7_0) rfl rfl k) ?_
  obtain ⟨T1, X1, e1, st1⟩ := getF X0 hx hZ hown (host := "") (Or.inl (own_w hw 40 rfl)) Via.refl e0 F_bytes_r0 (g := (mkF m 1 #[rv r0] [(.ref r0)])) rfl rfl (hb hby d7_1)
  refine own_step (U' := T1.setTop (mkF m 4 #[rv r0] [(.ref gb)])) st1 ?_
  exact own_out X1 (v := (some (.ref gb))) hlk (own_nv Bd.returns) (by rw [e1]; exact ⟨rfl, N0, rfl⟩) (by decide) (by decide) (fun fs hr => X1.areturnOut hx rfl Bd.returns rfl (hb hby d7_4) hr)
theorem d8_0 : decode prog_148_method_6_code 0 = .ok (.aload_n 0, 1) := by decide +kernel
theorem d8_1 : decode prog_148_method_6_code 1 = .ok (.dup, 1) := by decide +kernel
theorem d8_2 : decode prog_148_method_6_code 2 = .ok (.getfield 33, 3) := by decide +kernel
theorem d8_5 : decode prog_148_method_6_code 5 = .ok (.iload_n 1, 1) := by decide +kernel
theorem d8_6 : decode prog_148_method_6_code 6 = .ok (.iadd, 1) := by decide +kernel
theorem d8_7 : decode prog_148_method_6_code 7 = .ok (.putfield 33, 3) := by decide +kernel
theorem d8_10 : decode prog_148_method_6_code 10 = .ok (.return_, 1) := by decide +kernel
theorem pn_8 : plainName own_XC = true := by first | (simp [plainName, overriddenIn]; done) | decide +kernel
theorem ef_8 (m : MethodId) (r0 : Addr) (p1 : Int32) : entryFrame m #[(.ref r0), (.int p1)] 2 = mkF m 0 #[rv r0, iv p1] [] := by first | (simp [entryFrame, mkF, argsToLocals, Value.category]; done) | rfl
def Q8 (Z : State) (r0 : Addr) (p1 : Int32) (gb : Addr) (w : Int32) (wl : Int32) (wc : Int32) (wr : Int32) (h0 : Heap) (n0 : Nat) (v : Option Value) (h : Heap) (L : List Loc) : Prop := v = none ∧ Fr n0 L ∧ Keep h0 h [r0] ∧ Exa Z h r0 own_XC ∧ Fld Z h r0 own_XC "bytes" "[B" (.ref gb) ∧ Fld Z h r0 own_XC "position" "I" (.int (w + p1)) ∧ Fld Z h r0 own_XC "line" "I" (.int wl) ∧ Fld Z h r0 own_XC "counted" "I" (.int wc) ∧ Fld Z h r0 own_XC "afterCarriageReturn" "Z" (.int wr)
set_option maxRecDepth 65536 in
set_option maxHeartbeats 40000000 in
theorem rm8 (l : Launch) (Z : State) (a0 : Array Value) (hw : ∀ d ∈ tables_1, d.before a0 Z = true) (ws : List Jvm.Cond) (r0 : Addr) (p1 : Int32) (gb : Addr) (w : Int32) (wl : Int32) (wc : Int32) (wr : Int32) (h0 : Heap) (n0 : Nat) (Z0 : n0 ≤ h0.size) (E_r0 : Exa Z h0 r0 own_XC) (F_bytes_r0 : Fld Z h0 r0 own_XC "bytes" "[B" (.ref gb)) (F_position_r0 : Fld Z h0 r0 own_XC "position" "I" (.int w)) (F_line_r0 : Fld Z h0 r0 own_XC "line" "I" (.int wl)) (F_counted_r0 : Fld Z h0 r0 own_XC "counted" "I" (.int wc)) (F_afterCarriageReturn_r0 : Fld Z h0 r0 own_XC "afterCarriageReturn" "Z" (.int wr)) (g_r0 : n0 ≤ r0) :
    MetFree l (⟨own_XC, "skip", "(I)V"⟩ : MethodName) (head1 (Jvm.Cond.code (⟨own_XC, "skip", "(I)V"⟩ : MethodName) prog_148_method_6_code 2 none :: ws) ({ frames := 0, cells := 0, slots := 0, locals := 0 } : Room)) (fun a U => a = #[(.ref r0), (.int p1)] ∧ Z.Warmed39 U.vm ∧ U.heap = h0) (fun _ _ _ _ _ => True) (fun _ U o U' => ∃ v L, o = .returned v ∧ Q8 Z r0 p1 gb w wl wc wr h0 n0 v U'.heap L ∧ FrameEnd U o U' L ({ frames := 0, cells := 0, slots := 0, locals := 0 } : Room).cells ({ frames := 0, cells := 0, slots := 0, locals := 0 } : Room).slots) := by
  refine MetFree.of_bodySF (plainFor_of_name pn_8) hisR ?_
  intro p e s m args below meth c s₁ Bd hml0 hP hK
  obtain ⟨rfl, hZ, hh⟩ := hP
  have hx := Bd.exec
  have hby := Bd.bytes
  have hml : c.maxLocals = 2 := hml0
  have hown : s.vm.findClass own_XC = some m.cls := findClass_of_methodNamed Bd.named
  have hnm := (name_of_methodNamed Bd.named Bd.method).1
  have hlk : meth.locks = false := Bd.notSynchronized
  have X0 : Stand p l e ({ frames := 0, cells := 0, slots := 0, locals := 0 } : Room) s m #[(.ref r0), (.int p1)] below meth c s₁ [] 0 0 := Stand.of_body Bd
  have e0 : s₁.heap = h0 := by rw [← hh, Bd.state]; rfl
  have N0 := Fr.nil n0
  have KK0 := Keep.refl h0 [r0]
  show own_Go p.tables e below s 0 0 (Q8 Z r0 p1 gb w wl wc wr h0 n0) (s₁.setTop (entryFrame m #[(.ref r0), (.int p1)] 2))
  rw [ef_8]
  refine own_step (U' := s₁.setTop (mkF m 2 #[rv r0, iv p1] [(.ref r0), (.ref r0)])) (fun t k => XS.aloadN X0.here hx rfl (hb hby d8_0) rfl rfl (XS.dup X0.here hx rfl (hb hby d8_1) rfl rfl k)) ?_
  obtain ⟨T1, X1, e1, st1⟩ := getF X0 hx hZ hown (host := "") (Or.inl (own_w hw 57 rfl)) Via.refl e0 F_position_r0 (g := (mkF m 2 #[rv r0, iv p1] [(.ref r0), (.ref r0)])) rfl rfl (hb hby d8_2)
  refine own_step (U' := T1.setTop (mkF m 5 #[rv r0, iv p1] [(.int w), (.ref r0)])) st1 ?_
  refine own_step (U' := T1.setTop (mkF m 7 #[rv r0, iv p1] [(.int (w + p1)), (.ref r0)])) (fun t k => XS.iloadN X1.here hx rfl (hb hby d8_5) rfl (XS.iadd X1.here hx rfl (hb hby d8_6) rfl k)) ?_
  obtain ⟨T2, h2, X2, e2, W2, st2⟩ := putF X1 hx hZ hown (host := "") (Or.inl (own_w hw 57 rfl)) Via.refl e1 F_position_r0 E_r0 (Or.inl (own_w hw 58 rfl)) (own_w hw 11 rfl) (ty := .int) (by decide) rfl rfl (g := (mkF m 7 #[rv r0, iv p1] [(.int (w + p1)), (.ref r0)])) rfl rfl (hb hby d8_7)
  have E_r0_2 := E_r0.wr W2
  have F_bytes_r0_2 := F_bytes_r0.other W2 (Or.inr (slot_ne (Or.inl (own_w hw 41 rfl)) (Or.inl (own_w hw 58 rfl)) (by decide) (t := (.array .byte)) (t' := .int) (by decide) (by decide)))
  have F_line_r0_2 := F_line_r0.other W2 (Or.inr (slot_ne (Or.inl (own_w hw 72 rfl)) (Or.inl (own_w hw 58 rfl)) (by decide) (t := .int) (t' := .int) (by decide) (by decide)))
  have F_counted_r0_2 := F_counted_r0.other W2 (Or.inr (slot_ne (Or.inl (own_w hw 74 rfl)) (Or.inl (own_w hw 58 rfl)) (by decide) (t := .int) (t' := .int) (by decide) (by decide)))
  have F_afterCarriageReturn_r0_2 := F_afterCarriageReturn_r0.other W2 (Or.inr (slot_ne (Or.inl (own_w hw 76 rfl)) (Or.inl (own_w hw 58 rfl)) (by decide) (t := .boolean) (t' := .int) (by decide) (by decide)))
  have F_position_r0_2 := F_position_r0.same W2
  have Z2 : n0 ≤ h2.size := Nat.le_trans Z0 (Keep.of_wr W2).1
  have KK2 := KK0.wr W2 (Or.inl (List.mem_of_getElem? (i := 0) rfl))
  have N2 := Fr.snoc X2 N0 g_r0
  refine own_step (U' := T2.setTop (mkF m 10 #[rv r0, iv p1] [])) st2 ?_
  exact own_out X2 (v := none) hlk (fun _ => rfl) (by rw [e2]; exact ⟨rfl, N2, KK2, E_r0_2, F_bytes_r0_2, F_position_r0_2, F_line_r0_2, F_counted_r0_2, F_afterCarriageReturn_r0_2⟩) (by decide) (by decide) (fun fs hr => X2.returnOut hx Bd.returns (hb hby d8_10) hr)
theorem d9_0 : decode prog_148_method_16_code 0 = .ok (.aload_n 0, 1) := by decide +kernel
theorem d9_1 : decode prog_148_method_16_code 1 = .ok (.getfield 59, 3) := by decide +kernel
theorem d9_4 : decode prog_148_method_16_code 4 = .ok (.istore_n 1, 1) := by decide +kernel
theorem d9_5 : decode prog_148_method_16_code 5 = .ok (.aload_n 0, 1) := by decide +kernel
theorem d9_6 : decode prog_148_method_16_code 6 = .ok (.getfield 33, 3) := by decide +kernel
theorem d9_9 : decode prog_148_method_16_code 9 = .ok (.istore_n 2, 1) := by decide +kernel
theorem d9_10 : decode prog_148_method_16_code 10 = .ok (.iload_n 1, 1) := by decide +kernel
theorem d9_11 : decode prog_148_method_16_code 11 = .ok (.iload_n 2, 1) := by decide +kernel
theorem d9_12 : decode prog_148_method_16_code 12 = .ok (.if_icmp .ne 8, 3) := by decide +kernel
theorem d9_15 : decode prog_148_method_16_code 15 = .ok (.aload_n 0, 1) := by decide +kernel
theorem d9_16 : decode prog_148_method_16_code 16 = .ok (.getfield 56, 3) := by decide +kernel
theorem d9_19 : decode prog_148_method_16_code 19 = .ok (.ireturn, 1) := by decide +kernel
theorem d9_20 : decode prog_148_method_16_code 20 = .ok (.aload_n 0, 1) := by decide +kernel
theorem d9_21 : decode prog_148_method_16_code 21 = .ok (.getfield 10, 3) := by decide +kernel
theorem d9_24 : decode prog_148_method_16_code 24 = .ok (.astore_n 3, 1) := by decide +kernel
theorem d9_25 : decode prog_148_method_16_code 25 = .ok (.iconst 0, 1) := by decide +kernel
theorem d9_26 : decode prog_148_method_16_code 26 = .ok (.istore 4, 2) := by decide +kernel
theorem d9_28 : decode prog_148_method_16_code 28 = .ok (.aload_n 0, 1) := by decide +kernel
theorem d9_29 : decode prog_148_method_16_code 29 = .ok (.getfield 62, 3) := by decide +kernel
theorem d9_32 : decode prog_148_method_16_code 32 = .ok (.ifCond .eq 8, 3) := by decide +kernel
theorem d9_35 : decode prog_148_method_16_code 35 = .ok (.bipush 13, 2) := by decide +kernel
theorem d9_37 : decode prog_148_method_16_code 37 = .ok (.goto 4, 3) := by decide +kernel
theorem d9_40 : decode prog_148_method_16_code 40 = .ok (.iconst 0, 1) := by decide +kernel
theorem d9_41 : decode prog_148_method_16_code 41 = .ok (.istore 5, 2) := by decide +kernel
theorem d9_43 : decode prog_148_method_16_code 43 = .ok (.iload_n 1, 1) := by decide +kernel
theorem d9_44 : decode prog_148_method_16_code 44 = .ok (.istore 6, 2) := by decide +kernel
theorem d9_46 : decode prog_148_method_16_code 46 = .ok (.iload 6, 2) := by decide +kernel
theorem d9_48 : decode prog_148_method_16_code 48 = .ok (.iload_n 2, 1) := by decide +kernel
theorem d9_49 : decode prog_148_method_16_code 49 = .ok (.if_icmp .ge 50, 3) := by decide +kernel
theorem d9_52 : decode prog_148_method_16_code 52 = .ok (.aload_n 3, 1) := by decide +kernel
theorem d9_53 : decode prog_148_method_16_code 53 = .ok (.iload 6, 2) := by decide +kernel
theorem d9_55 : decode prog_148_method_16_code 55 = .ok (.baload, 1) := by decide +kernel
theorem d9_56 : decode prog_148_method_16_code 56 = .ok (.istore 7, 2) := by decide +kernel
theorem d9_58 : decode prog_148_method_16_code 58 = .ok (.iload 7, 2) := by decide +kernel
theorem d9_60 : decode prog_148_method_16_code 60 = .ok (.bipush 13, 2) := by decide +kernel
theorem d9_62 : decode prog_148_method_16_code 62 = .ok (.if_icmp .gt 27, 3) := by decide +kernel
theorem d9_65 : decode prog_148_method_16_code 65 = .ok (.iload 7, 2) := by decide +kernel
theorem d9_67 : decode prog_148_method_16_code 67 = .ok (.bipush 13, 2) := by decide +kernel
theorem d9_69 : decode prog_148_method_16_code 69 = .ok (.if_icmp .eq 17, 3) := by decide +kernel
theorem d9_72 : decode prog_148_method_16_code 72 = .ok (.iload 7, 2) := by decide +kernel
theorem d9_74 : decode prog_148_method_16_code 74 = .ok (.bipush 10, 2) := by decide +kernel
theorem d9_76 : decode prog_148_method_16_code 76 = .ok (.if_icmp .ne 13, 3) := by decide +kernel
theorem d9_79 : decode prog_148_method_16_code 79 = .ok (.iload 5, 2) := by decide +kernel
theorem d9_81 : decode prog_148_method_16_code 81 = .ok (.bipush 13, 2) := by decide +kernel
theorem d9_83 : decode prog_148_method_16_code 83 = .ok (.if_icmp .eq 6, 3) := by decide +kernel
theorem d9_86 : decode prog_148_method_16_code 86 = .ok (.iinc 4 1, 3) := by decide +kernel
theorem d9_89 : decode prog_148_method_16_code 89 = .ok (.iload 7, 2) := by decide +kernel
theorem d9_91 : decode prog_148_method_16_code 91 = .ok (.istore 5, 2) := by decide +kernel
theorem d9_93 : decode prog_148_method_16_code 93 = .ok (.iinc 6 1, 3) := by decide +kernel
theorem d9_96 : decode prog_148_method_16_code 96 = .ok (.goto (-50), 3) := by decide +kernel
theorem d9_99 : decode prog_148_method_16_code 99 = .ok (.aload_n 0, 1) := by decide +kernel
theorem d9_100 : decode prog_148_method_16_code 100 = .ok (.dup, 1) := by decide +kernel
theorem d9_101 : decode prog_148_method_16_code 101 = .ok (.getfield 56, 3) := by decide +kernel
theorem d9_104 : decode prog_148_method_16_code 104 = .ok (.iload 4, 2) := by decide +kernel
theorem d9_106 : decode prog_148_method_16_code 106 = .ok (.iadd, 1) := by decide +kernel
theorem d9_107 : decode prog_148_method_16_code 107 = .ok (.putfield 56, 3) := by decide +kernel
theorem d9_110 : decode prog_148_method_16_code 110 = .ok (.aload_n 0, 1) := by decide +kernel
theorem d9_111 : decode prog_148_method_16_code 111 = .ok (.aload_n 3, 1) := by decide +kernel
theorem d9_112 : decode prog_148_method_16_code 112 = .ok (.iload_n 2, 1) := by decide +kernel
theorem d9_113 : decode prog_148_method_16_code 113 = .ok (.iconst 1, 1) := by decide +kernel
theorem d9_114 : decode prog_148_method_16_code 114 = .ok (.isub, 1) := by decide +kernel
theorem d9_115 : decode prog_148_method_16_code 115 = .ok (.baload, 1) := by decide +kernel
theorem d9_116 : decode prog_148_method_16_code 116 = .ok (.bipush 13, 2) := by decide +kernel
theorem d9_118 : decode prog_148_method_16_code 118 = .ok (.if_icmp .ne 7, 3) := by decide +kernel
theorem d9_121 : decode prog_148_method_16_code 121 = .ok (.iconst 1, 1) := by decide +kernel
theorem d9_122 : decode prog_148_method_16_code 122 = .ok (.goto 4, 3) := by decide +kernel
theorem d9_125 : decode prog_148_method_16_code 125 = .ok (.iconst 0, 1) := by decide +kernel
theorem d9_126 : decode prog_148_method_16_code 126 = .ok (.putfield 62, 3) := by decide +kernel
theorem d9_129 : decode prog_148_method_16_code 129 = .ok (.aload_n 0, 1) := by decide +kernel
theorem d9_130 : decode prog_148_method_16_code 130 = .ok (.aload_n 0, 1) := by decide +kernel
theorem d9_131 : decode prog_148_method_16_code 131 = .ok (.getfield 62, 3) := by decide +kernel
theorem d9_134 : decode prog_148_method_16_code 134 = .ok (.ifCond .ne 13, 3) := by decide +kernel
theorem d9_137 : decode prog_148_method_16_code 137 = .ok (.aload_n 3, 1) := by decide +kernel
theorem d9_138 : decode prog_148_method_16_code 138 = .ok (.iload_n 2, 1) := by decide +kernel
theorem d9_139 : decode prog_148_method_16_code 139 = .ok (.iconst 1, 1) := by decide +kernel
theorem d9_140 : decode prog_148_method_16_code 140 = .ok (.isub, 1) := by decide +kernel
theorem d9_141 : decode prog_148_method_16_code 141 = .ok (.baload, 1) := by decide +kernel
theorem d9_142 : decode prog_148_method_16_code 142 = .ok (.bipush 10, 2) := by decide +kernel
theorem d9_144 : decode prog_148_method_16_code 144 = .ok (.if_icmp .ne 7, 3) := by decide +kernel
theorem d9_147 : decode prog_148_method_16_code 147 = .ok (.iconst 1, 1) := by decide +kernel
theorem d9_148 : decode prog_148_method_16_code 148 = .ok (.goto 4, 3) := by decide +kernel
theorem d9_151 : decode prog_148_method_16_code 151 = .ok (.iconst 0, 1) := by decide +kernel
theorem d9_152 : decode prog_148_method_16_code 152 = .ok (.putfield 65, 3) := by decide +kernel
theorem d9_155 : decode prog_148_method_16_code 155 = .ok (.aload_n 0, 1) := by decide +kernel
theorem d9_156 : decode prog_148_method_16_code 156 = .ok (.iload_n 2, 1) := by decide +kernel
theorem d9_157 : decode prog_148_method_16_code 157 = .ok (.putfield 59, 3) := by decide +kernel
theorem d9_160 : decode prog_148_method_16_code 160 = .ok (.aload_n 0, 1) := by decide +kernel
theorem d9_161 : decode prog_148_method_16_code 161 = .ok (.getfield 56, 3) := by decide +kernel
theorem d9_164 : decode prog_148_method_16_code 164 = .ok (.ireturn, 1) := by decide +kernel
theorem pn_9 : plainName own_XC = true := by first | (simp [plainName, overriddenIn]; done) | decide +kernel
theorem ef_9c0p4 (m : MethodId) (r0 : Addr) : entryFrame m #[(.ref r0)] 8 = mkF m 0 #[rv r0, .unset, .unset, .unset, .unset, .unset, .unset, .unset] [] := by first | (simp [entryFrame, mkF, argsToLocals, Value.category]; done) | rfl
def F9c0p4 (wl : Int32) (wr : Int32) (w0 : Int32) (w1 : Int32) (w2 : Int32) (w3 : Int32) : Int32 :=
  let v41_6 : Int32 := (if wr = (0 : Int32) then (0 : Int32) else (13 : Int32))
  let v89_13 : Int32 := (if (13 : Int32) < w0 then (0 : Int32) else (if w0 = (13 : Int32) then (1 : Int32) else (if w0 = (10 : Int32) then (if v41_6 = (13 : Int32) then (0 : Int32) else (1 : Int32)) else (0 : Int32))))
  let v89_20 : Int32 := (if (13 : Int32) < w1 then v89_13 else (if w1 = (13 : Int32) then (v89_13 + (1 : Int32)) else (if w1 = (10 : Int32) then (if w0 = (13 : Int32) then v89_13 else (v89_13 + (1 : Int32))) else v89_13)))
  let v89_27 : Int32 := (if (13 : Int32) < w2 then v89_20 else (if w2 = (13 : Int32) then (v89_20 + (1 : Int32)) else (if w2 = (10 : Int32) then (if w1 = (13 : Int32) then v89_20 else (v89_20 + (1 : Int32))) else v89_20)))
  let v89_34 : Int32 := (if (13 : Int32) < w3 then v89_27 else (if w3 = (13 : Int32) then (v89_27 + (1 : Int32)) else (if w3 = (10 : Int32) then (if w2 = (13 : Int32) then v89_27 else (v89_27 + (1 : Int32))) else v89_27)))
  let v126_40 : Int32 := (if w3 = (13 : Int32) then (1 : Int32) else (0 : Int32))
  let v152_47 : Int32 := (if (nar .boolean v126_40) = (0 : Int32) then (if w3 = (10 : Int32) then (1 : Int32) else (0 : Int32)) else (1 : Int32))
  (wl + v89_34)
def Q9c0p4 (Z : State) (r0 : Addr) (gb : Addr) (wl : Int32) (wr : Int32) (w0 : Int32) (w1 : Int32) (w2 : Int32) (w3 : Int32) (k_gb : ClassId) (h0 : Heap) (n0 : Nat) (v : Option Value) (h : Heap) (L : List Loc) : Prop := v = some (.int (F9c0p4 wl wr w0 w1 w2 w3)) ∧ Fr n0 L ∧ Keep h0 h [r0] ∧ Exa Z h r0 own_XC ∧ Fld Z h r0 own_XC "bytes" "[B" (.ref gb) ∧ Fld Z h r0 own_XC "position" "I" (.int (4 : Int32)) ∧ Fld Z h r0 own_XC "line" "I" (.int (F9c0p4 wl wr w0 w1 w2 w3)) ∧ Fld Z h r0 own_XC "counted" "I" (.int (4 : Int32)) ∧ Fld Z h r0 own_XC "afterCarriageReturn" "Z" (.int (nar .boolean (if w3 = (13 : Int32) then (1 : Int32) else (0 : Int32))))
set_option maxRecDepth 65536 in
set_option maxHeartbeats 40000000 in
theorem rm9c0p4 (l : Launch) (Z : State) (a0 : Array Value) (hw : ∀ d ∈ tables_1, d.before a0 Z = true) (ws : List Jvm.Cond) (r0 : Addr) (gb : Addr) (wl : Int32) (wr : Int32) (w0 : Int32) (w1 : Int32) (w2 : Int32) (w3 : Int32) (k_gb : ClassId) (h0 : Heap) (n0 : Nat) (Z0 : n0 ≤ h0.size) (E_r0 : Exa Z h0 r0 own_XC) (F_bytes_r0 : Fld Z h0 r0 own_XC "bytes" "[B" (.ref gb)) (F_position_r0 : Fld Z h0 r0 own_XC "position" "I" (.int (4 : Int32))) (F_line_r0 : Fld Z h0 r0 own_XC "line" "I" (.int wl)) (F_counted_r0 : Fld Z h0 r0 own_XC "counted" "I" (.int (0 : Int32))) (F_afterCarriageReturn_r0 : Fld Z h0 r0 own_XC "afterCarriageReturn" "Z" (.int wr)) (g_r0 : n0 ≤ r0) (V_gb : Arv Z h0 gb k_gb .byte (65536 : Int32) [(.int w0), (.int w1), (.int w2), (.int w3)] (.int (0 : Int32))) (hne : gb ≠ r0) :
    MetFree l (⟨own_XC, "line", "()I"⟩ : MethodName) (head1 (Jvm.Cond.code (⟨own_XC, "line", "()I"⟩ : MethodName) prog_148_method_16_code 8 (some .int) :: ws) ({ frames := 0, cells := 0, slots := 0, locals := 0 } : Room)) (fun a U => a = #[(.ref r0)] ∧ Z.Warmed39 U.vm ∧ U.heap = h0) (fun _ _ _ _ _ => True) (fun _ U o U' => ∃ v L, o = .returned v ∧ Q9c0p4 Z r0 gb wl wr w0 w1 w2 w3 k_gb h0 n0 v U'.heap L ∧ FrameEnd U o U' L ({ frames := 0, cells := 0, slots := 0, locals := 0 } : Room).cells ({ frames := 0, cells := 0, slots := 0, locals := 0 } : Room).slots) := by
  refine MetFree.of_bodySF (plainFor_of_name pn_9) hisR ?_
  intro p e s m args below meth c s₁ Bd hml0 hP hK
  obtain ⟨rfl, hZ, hh⟩ := hP
  have hx := Bd.exec
  have hby := Bd.bytes
  have hml : c.maxLocals = 8 := hml0
  have hown : s.vm.findClass own_XC = some m.cls := findClass_of_methodNamed Bd.named
  have hnm := (name_of_methodNamed Bd.named Bd.method).1
  have hlk : meth.locks = false := Bd.notSynchronized
  have X0 : Stand p l e ({ frames := 0, cells := 0, slots := 0, locals := 0 } : Room) s m #[(.ref r0)] below meth c s₁ [] 0 0 := Stand.of_body Bd
  have e0 : s₁.heap = h0 := by rw [← hh, Bd.state]; rfl
  have N0 := Fr.nil n0
  have KK0 := Keep.refl h0 [r0]
  show own_Go p.tables e below s 0 0 (Q9c0p4 Z r0 gb wl wr w0 w1 w2 w3 k_gb h0 n0) (s₁.setTop (entryFrame m #[(.ref r0)] 8))
  rw [ef_9c0p4]
  refine own_step (U' := s₁.setTop (mkF m 1 #[rv r0, .unset, .unset, .unset, .unset, .unset, .unset, .unset] [(.ref r0)])) (fun t k => XS.aloadN X0.here hx rfl (hb hby d9_0) rfl rfl k) ?_
  obtain ⟨T1, X1, e1, st1⟩ := getF X0 hx hZ hown (host := "") (Or.inl (own_w hw 73 rfl)) Via.refl e0 F_counted_r0 (g := (mkF m 1 #[rv r0, .unset, .unset, .unset, .unset, .unset, .unset, .unset] [(.ref r0)])) rfl rfl (hb hby d9_1)
  refine own_step (U' := T1.setTop (mkF m 4 #[rv r0, .unset, .unset, .unset, .unset, .unset, .unset, .unset] [(.int (0 : Int32))])) st1 ?_
  refine own_step (U' := T1.setTop (mkF m 6 #[rv r0, iv (0 : Int32), .unset, .unset, .unset, .unset, .unset, .unset] [(.ref r0)])) (fun t k => XS.istoreN X1.here hx rfl (hb hby d9_4) rfl (l' := #[rv r0, iv (0 : Int32), .unset, .unset, .unset, .unset, .unset, .unset]) rfl (XS.aloadN X1.here hx rfl (hb hby d9_5) rfl rfl k)) ?_
  obtain ⟨T2, X2, e2, st2⟩ := getF X1 hx hZ hown (host := "") (Or.inl (own_w hw 57 rfl)) Via.refl e1 F_position_r0 (g := (mkF m 6 #[rv r0, iv (0 : Int32), .unset, .unset, .unset, .unset, .unset, .unset] [(.ref r0)])) rfl rfl (hb hby d9_6)
  refine own_step (U' := T2.setTop (mkF m 9 #[rv r0, iv (0 : Int32), .unset, .unset, .unset, .unset, .unset, .unset] [(.int (4 : Int32))])) st2 ?_
  refine own_step (U' := T2.setTop (mkF m 21 #[rv r0, iv (0 : Int32), iv (4 : Int32), .unset, .unset, .unset, .unset, .unset] [(.ref r0)])) (fun t k => XS.istoreN X2.here hx rfl (hb hby d9_9) rfl (l' := #[rv r0, iv (0 : Int32), iv (4 : Int32), .unset, .unset, .unset, .unset, .unset]) rfl (XS.iloadN X2.here hx rfl (hb hby d9_10) rfl (XS.iloadN X2.here hx rfl (hb hby d9_11) rfl (XS.icmpYes X2.here hx rfl (pc0 := 12) (pc' := 20) rfl (hb hby d9_12) rfl (by decide) (by decide) (by decide) (XS.aloadN X2.here hx rfl (hb hby d9_20) rfl rfl k))))) ?_
  obtain ⟨T3, X3, e3, st3⟩ := getF X2 hx hZ hown (host := "") (Or.inl (own_w hw 40 rfl)) Via.refl e2 F_bytes_r0 (g := (mkF m 21 #[rv r0, iv (0 : Int32), iv (4 : Int32), .unset, .unset, .unset, .unset, .unset] [(.ref r0)])) rfl rfl (hb hby d9_21)
  refine own_step (U' := T3.setTop (mkF m 24 #[rv r0, iv (0 : Int32), iv (4 : Int32), .unset, .unset, .unset, .unset, .unset] [(.ref gb)])) st3 ?_
  refine own_step (U' := T3.setTop (mkF m 29 #[rv r0, iv (0 : Int32), iv (4 : Int32), rv gb, iv (0 : Int32), .unset, .unset, .unset] [(.ref r0)])) (fun t k => XS.astoreN X3.here hx rfl (hb hby d9_24) rfl rfl (l' := #[rv r0, iv (0 : Int32), iv (4 : Int32), rv gb, .unset, .unset, .unset, .unset]) rfl (XS.iconst X3.here hx rfl (hb hby d9_25) (XS.istore X3.here hx rfl (hb hby d9_26) rfl (l' := #[rv r0, iv (0 : Int32), iv (4 : Int32), rv gb, iv (0 : Int32), .unset, .unset, .unset]) rfl (XS.aloadN X3.here hx rfl (hb hby d9_28) rfl rfl k)))) ?_
  obtain ⟨T4, X4, e4, st4⟩ := getF X3 hx hZ hown (host := "") (Or.inl (own_w hw 75 rfl)) Via.refl e3 F_afterCarriageReturn_r0 (g := (mkF m 29 #[rv r0, iv (0 : Int32), iv (4 : Int32), rv gb, iv (0 : Int32), .unset, .unset, .unset] [(.ref r0)])) rfl rfl (hb hby d9_29)
  refine own_step (U' := T4.setTop (mkF m 32 #[rv r0, iv (0 : Int32), iv (4 : Int32), rv gb, iv (0 : Int32), .unset, .unset, .unset] [(.int wr)])) st4 ?_
  obtain ⟨v41_6, hv41_6⟩ : ∃ v : Int32, v = (if wr = (0 : Int32) then (0 : Int32) else (13 : Int32)) := ⟨_, rfl⟩
  have K41_7 : ∀ (T' : State) (locs' : List Loc) (X' : Stand p l e ({ frames := 0, cells := 0, slots := 0, locals := 0 } : Room) s m #[(.ref r0)] below meth c T' locs' 0 0) (N' : Fr n0 locs') (e' : T'.heap = h0), own_Go p.tables e below s 0 0 (Q9c0p4 Z r0 gb wl wr w0 w1 w2 w3 k_gb h0 n0) (T'.setTop (mkF m 41 #[rv r0, iv (0 : Int32), iv (4 : Int32), rv gb, iv (0 : Int32), .unset, .unset, .unset] [(.int v41_6)])) := by
    intro T7 L7 X7 N7 e7
    refine own_step (U' := T7.setTop (mkF m 55 #[rv r0, iv (0 : Int32), iv (4 : Int32), rv gb, iv (0 : Int32), iv v41_6, iv (0 : Int32), .unset] [(.int (0 : Int32)), (.ref gb)])) (fun t k => XS.istore X7.here hx rfl (hb hby d9_41) rfl (l' := #[rv r0, iv (0 : Int32), iv (4 : Int32), rv gb, iv (0 : Int32), iv v41_6, .unset, .unset]) rfl (XS.iloadN X7.here hx rfl (hb hby d9_43) rfl (XS.istore X7.here hx rfl (hb hby d9_44) rfl (l' := #[rv r0, iv (0 : Int32), iv (4 : Int32), rv gb, iv (0 : Int32), iv v41_6, iv (0 : Int32), .unset]) rfl (XS.iload X7.here hx rfl (hb hby d9_46) rfl (XS.iloadN X7.here hx rfl (hb hby d9_48) rfl (XS.icmpNo X7.here hx rfl (hb hby d9_49) rfl (by decide) (XS.aloadN X7.here hx rfl (hb hby d9_52) rfl rfl (XS.iload X7.here hx rfl (hb hby d9_53) rfl k)))))))) ?_
    obtain ⟨cl8, Ar8, aq8, aS8, aN8, aH8, aG8⟩ := id V_gb
    have hin8 : ¬ ((0 : Int32) < 0 ∨ cl8.slots.size ≤ ((0 : Int32)).toNatClampNeg) := inb_of aS8 ⟨by decide, by decide⟩
    have hat8 : cl8.slots[((0 : Int32)).toNatClampNeg]? = some (.int w0) := aH8.at hin8 rfl
    refine own_step (U' := T7.setTop (mkF m 62 #[rv r0, iv (0 : Int32), iv (4 : Int32), rv gb, iv (0 : Int32), iv v41_6, iv (0 : Int32), iv w0] [(.int (13 : Int32)), (.int w0)])) (fun t k => X7.baloadBytes hx (j := (0 : Int32)) (v := (.int w0)) (by rw [e7]; exact Ar8.1) (State.isArrayOf_alike hZ.alike Ar8.2.1) Ar8.2.2 hin8 hat8 (g := (mkF m 55 #[rv r0, iv (0 : Int32), iv (4 : Int32), rv gb, iv (0 : Int32), iv v41_6, iv (0 : Int32), .unset] [(.int (0 : Int32)), (.ref gb)])) rfl rfl (hb hby d9_55) t (XS.istore X7.here hx rfl (hb hby d9_56) rfl (l' := #[rv r0, iv (0 : Int32), iv (4 : Int32), rv gb, iv (0 : Int32), iv v41_6, iv (0 : Int32), iv w0]) rfl (XS.iload X7.here hx rfl (hb hby d9_58) rfl (XS.bipush X7.here hx rfl (hb hby d9_60) k)))) ?_
    obtain ⟨v89_13, hv89_13⟩ : ∃ v : Int32, v = (if (13 : Int32) < w0 then (0 : Int32) else (if w0 = (13 : Int32) then (1 : Int32) else (if w0 = (10 : Int32) then (if v41_6 = (13 : Int32) then (0 : Int32) else (1 : Int32)) else (0 : Int32)))) := ⟨_, rfl⟩
    have K89_14 : ∀ (T' : State) (locs' : List Loc) (X' : Stand p l e ({ frames := 0, cells := 0, slots := 0, locals := 0 } : Room) s m #[(.ref r0)] below meth c T' locs' 0 0) (N' : Fr n0 locs') (e' : T'.heap = h0), own_Go p.tables e below s 0 0 (Q9c0p4 Z r0 gb wl wr w0 w1 w2 w3 k_gb h0 n0) (T'.setTop (mkF m 89 #[rv r0, iv (0 : Int32), iv (4 : Int32), rv gb, iv v89_13, iv v41_6, iv (0 : Int32), iv w0] [])) := by
      intro T14 L14 X14 N14 e14
      refine own_step (U' := T14.setTop (mkF m 53 #[rv r0, iv (0 : Int32), iv (4 : Int32), rv gb, iv v89_13, iv w0, iv (1 : Int32), iv w0] [(.ref gb)])) (fun t k => XS.iload X14.here hx rfl (hb hby d9_89) rfl (XS.istore X14.here hx rfl (hb hby d9_91) rfl (l' := #[rv r0, iv (0 : Int32), iv (4 : Int32), rv gb, iv v89_13, iv w0, iv (0 : Int32), iv w0]) rfl (XS.iinc X14.here hx rfl (hb hby d9_93) rfl (l' := #[rv r0, iv (0 : Int32), iv (4 : Int32), rv gb, iv v89_13, iv w0, iv (1 : Int32), iv w0]) rfl (XS.goto X14.here hx rfl (pc0 := 96) (pc' := 46) rfl (hb hby d9_96) (by decide) (by decide) (XS.iload X14.here hx rfl (hb hby d9_46) rfl (XS.iloadN X14.here hx rfl (hb hby d9_48) rfl (XS.icmpNo X14.here hx rfl (hb hby d9_49) rfl (by decide) (XS.aloadN X14.here hx rfl (hb hby d9_52) rfl rfl k)))))))) ?_
      refine own_step (U' := T14.setTop (mkF m 55 #[rv r0, iv (0 : Int32), iv (4 : Int32), rv gb, iv v89_13, iv w0, iv (1 : Int32), iv w0] [(.int (1 : Int32)), (.ref gb)])) (fun t k => XS.iload X14.here hx rfl (hb hby d9_53) rfl k) ?_
      obtain ⟨cl15, Ar15, aq15, aS15, aN15, aH15, aG15⟩ := id V_gb
      have hin15 : ¬ ((1 : Int32) < 0 ∨ cl15.slots.size ≤ ((1 : Int32)).toNatClampNeg) := inb_of aS15 ⟨by decide, by decide⟩
      have hat15 : cl15.slots[((1 : Int32)).toNatClampNeg]? = some (.int w1) := aH15.at hin15 rfl
      refine own_step (U' := T14.setTop (mkF m 62 #[rv r0, iv (0 : Int32), iv (4 : Int32), rv gb, iv v89_13, iv w0, iv (1 : Int32), iv w1] [(.int (13 : Int32)), (.int w1)])) (fun t k => X14.baloadBytes hx (j := (1 : Int32)) (v := (.int w1)) (by rw [e14]; exact Ar15.1) (State.isArrayOf_alike hZ.alike Ar15.2.1) Ar15.2.2 hin15 hat15 (g := (mkF m 55 #[rv r0, iv (0 : Int32), iv (4 : Int32), rv gb, iv v89_13, iv w0, iv (1 : Int32), iv w0] [(.int (1 : Int32)), (.ref gb)])) rfl rfl (hb hby d9_55) t (XS.istore X14.here hx rfl (hb hby d9_56) rfl (l' := #[rv r0, iv (0 : Int32), iv (4 : Int32), rv gb, iv v89_13, iv w0, iv (1 : Int32), iv w1]) rfl (XS.iload X14.here hx rfl (hb hby d9_58) rfl (XS.bipush X14.here hx rfl (hb hby d9_60) k)))) ?_
      obtain ⟨v89_20, hv89_20⟩ : ∃ v : Int32, v = (if (13 : Int32) < w1 then v89_13 else (if w1 = (13 : Int32) then (v89_13 + (1 : Int32)) else (if w1 = (10 : Int32) then (if w0 = (13 : Int32) then v89_13 else (v89_13 + (1 : Int32))) else v89_13))) := ⟨_, rfl⟩
      have K89_21 : ∀ (T' : State) (locs' : List Loc) (X' : Stand p l e ({ frames := 0, cells := 0, slots := 0, locals := 0 } : Room) s m #[(.ref r0)] below meth c T' locs' 0 0) (N' : Fr n0 locs') (e' : T'.heap = h0), own_Go p.tables e below s 0 0 (Q9c0p4 Z r0 gb wl wr w0 w1 w2 w3 k_gb h0 n0) (T'.setTop (mkF m 89 #[rv r0, iv (0 : Int32), iv (4 : Int32), rv gb, iv v89_20, iv w0, iv (1 : Int32), iv w1] [])) := by
        intro T21 L21 X21 N21 e21
        refine own_step (U' := T21.setTop (mkF m 53 #[rv r0, iv (0 : Int32), iv (4 : Int32), rv gb, iv v89_20, iv w1, iv (2 : Int32), iv w1] [(.ref gb)])) (fun t k => XS.iload X21.here hx rfl (hb hby d9_89) rfl (XS.istore X21.here hx rfl (hb hby d9_91) rfl (l' := #[rv r0, iv (0 : Int32), iv (4 : Int32), rv gb, iv v89_20, iv w1, iv (1 : Int32), iv w1]) rfl (XS.iinc X21.here hx rfl (hb hby d9_93) rfl (l' := #[rv r0, iv (0 : Int32), iv (4 : Int32), rv gb, iv v89_20, iv w1, iv (2 : Int32), iv w1]) rfl (XS.goto X21.here hx rfl (pc0 := 96) (pc' := 46) rfl (hb hby d9_96) (by decide) (by decide) (XS.iload X21.here hx rfl (hb hby d9_46) rfl (XS.iloadN X21.here hx rfl (hb hby d9_48) rfl (XS.icmpNo X21.here hx rfl (hb hby d9_49) rfl (by decide) (XS.aloadN X21.here hx rfl (hb hby d9_52) rfl rfl k)))))))) ?_
        refine own_step (U' := T21.setTop (mkF m 55 #[rv r0, iv (0 : Int32), iv (4 : Int32), rv gb, iv v89_20, iv w1, iv (2 : Int32), iv w1] [(.int (2 : Int32)), (.ref gb)])) (fun t k => XS.iload X21.here hx rfl (hb hby d9_53) rfl k) ?_
        obtain ⟨cl22, Ar22, aq22, aS22, aN22, aH22, aG22⟩ := id V_gb
        have hin22 : ¬ ((2 : Int32) < 0 ∨ cl22.slots.size ≤ ((2 : Int32)).toNatClampNeg) := inb_of aS22 ⟨by decide, by decide⟩
        have hat22 : cl22.slots[((2 : Int32)).toNatClampNeg]? = some (.int w2) := aH22.at hin22 rfl
        refine own_step (U' := T21.setTop (mkF m 62 #[rv r0, iv (0 : Int32), iv (4 : Int32), rv gb, iv v89_20, iv w1, iv (2 : Int32), iv w2] [(.int (13 : Int32)), (.int w2)])) (fun t k => X21.baloadBytes hx (j := (2 : Int32)) (v := (.int w2)) (by rw [e21]; exact Ar22.1) (State.isArrayOf_alike hZ.alike Ar22.2.1) Ar22.2.2 hin22 hat22 (g := (mkF m 55 #[rv r0, iv (0 : Int32), iv (4 : Int32), rv gb, iv v89_20, iv w1, iv (2 : Int32), iv w1] [(.int (2 : Int32)), (.ref gb)])) rfl rfl (hb hby d9_55) t (XS.istore X21.here hx rfl (hb hby d9_56) rfl (l' := #[rv r0, iv (0 : Int32), iv (4 : Int32), rv gb, iv v89_20, iv w1, iv (2 : Int32), iv w2]) rfl (XS.iload X21.here hx rfl (hb hby d9_58) rfl (XS.bipush X21.here hx rfl (hb hby d9_60) k)))) ?_
        obtain ⟨v89_27, hv89_27⟩ : ∃ v : Int32, v = (if (13 : Int32) < w2 then v89_20 else (if w2 = (13 : Int32) then (v89_20 + (1 : Int32)) else (if w2 = (10 : Int32) then (if w1 = (13 : Int32) then v89_20 else (v89_20 + (1 : Int32))) else v89_20))) := ⟨_, rfl⟩
        have K89_28 : ∀ (T' : State) (locs' : List Loc) (X' : Stand p l e ({ frames := 0, cells := 0, slots := 0, locals := 0 } : Room) s m #[(.ref r0)] below meth c T' locs' 0 0) (N' : Fr n0 locs') (e' : T'.heap = h0), own_Go p.tables e below s 0 0 (Q9c0p4 Z r0 gb wl wr w0 w1 w2 w3 k_gb h0 n0) (T'.setTop (mkF m 89 #[rv r0, iv (0 : Int32), iv (4 : Int32), rv gb, iv v89_27, iv w1, iv (2 : Int32), iv w2] [])) := by
          intro T28 L28 X28 N28 e28
          refine own_step (U' := T28.setTop (mkF m 53 #[rv r0, iv (0 : Int32), iv (4 : Int32), rv gb, iv v89_27, iv w2, iv (3 : Int32), iv w2] [(.ref gb)])) (fun t k => XS.iload X28.here hx rfl (hb hby d9_89) rfl (XS.istore X28.here hx rfl (hb hby d9_91) rfl (l' := #[rv r0, iv (0 : Int32), iv (4 : Int32), rv gb, iv v89_27, iv w2, iv (2 : Int32), iv w2]) rfl (XS.iinc X28.here hx rfl (hb hby d9_93) rfl (l' := #[rv r0, iv (0 : Int32), iv (4 : Int32), rv gb, iv v89_27, iv w2, iv (3 : Int32), iv w2]) rfl (XS.goto X28.here hx rfl (pc0 := 96) (pc' := 46) rfl (hb hby d9_96) (by decide) (by decide) (XS.iload X28.here hx rfl (hb hby d9_46) rfl (XS.iloadN X28.here hx rfl (hb hby d9_48) rfl (XS.icmpNo X28.here hx rfl (hb hby d9_49) rfl (by decide) (XS.aloadN X28.here hx rfl (hb hby d9_52) rfl rfl k)))))))) ?_
          refine own_step (U' := T28.setTop (mkF m 55 #[rv r0, iv (0 : Int32), iv (4 : Int32), rv gb, iv v89_27, iv w2, iv (3 : Int32), iv w2] [(.int (3 : Int32)), (.ref gb)])) (fun t k => XS.iload X28.here hx rfl (hb hby d9_53) rfl k) ?_
          obtain ⟨cl29, Ar29, aq29, aS29, aN29, aH29, aG29⟩ := id V_gb
          have hin29 : ¬ ((3 : Int32) < 0 ∨ cl29.slots.size ≤ ((3 : Int32)).toNatClampNeg) := inb_of aS29 ⟨by decide, by decide⟩
          have hat29 : cl29.slots[((3 : Int32)).toNatClampNeg]? = some (.int w3) := aH29.at hin29 rfl
          refine own_step (U' := T28.setTop (mkF m 62 #[rv r0, iv (0 : Int32), iv (4 : Int32), rv gb, iv v89_27, iv w2, iv (3 : Int32), iv w3] [(.int (13 : Int32)), (.int w3)])) (fun t k => X28.baloadBytes hx (j := (3 : Int32)) (v := (.int w3)) (by rw [e28]; exact Ar29.1) (State.isArrayOf_alike hZ.alike Ar29.2.1) Ar29.2.2 hin29 hat29 (g := (mkF m 55 #[rv r0, iv (0 : Int32), iv (4 : Int32), rv gb, iv v89_27, iv w2, iv (3 : Int32), iv w2] [(.int (3 : Int32)), (.ref gb)])) rfl rfl (hb hby d9_55) t (XS.istore X28.here hx rfl (hb hby d9_56) rfl (l' := #[rv r0, iv (0 : Int32), iv (4 : Int32), rv gb, iv v89_27, iv w2, iv (3 : Int32), iv w3]) rfl (XS.iload X28.here hx rfl (hb hby d9_58) rfl (XS.bipush X28.here hx rfl (hb hby d9_60) k)))) ?_
          obtain ⟨v89_34, hv89_34⟩ : ∃ v : Int32, v = (if (13 : Int32) < w3 then v89_27 else (if w3 = (13 : Int32) then (v89_27 + (1 : Int32)) else (if w3 = (10 : Int32) then (if w2 = (13 : Int32) then v89_27 else (v89_27 + (1 : Int32))) else v89_27))) := ⟨_, rfl⟩
          have K89_35 : ∀ (T' : State) (locs' : List Loc) (X' : Stand p l e ({ frames := 0, cells := 0, slots := 0, locals := 0 } : Room) s m #[(.ref r0)] below meth c T' locs' 0 0) (N' : Fr n0 locs') (e' : T'.heap = h0), own_Go p.tables e below s 0 0 (Q9c0p4 Z r0 gb wl wr w0 w1 w2 w3 k_gb h0 n0) (T'.setTop (mkF m 89 #[rv r0, iv (0 : Int32), iv (4 : Int32), rv gb, iv v89_34, iv w2, iv (3 : Int32), iv w3] [])) := by
            intro T35 L35 X35 N35 e35
            refine own_step (U' := T35.setTop (mkF m 100 #[rv r0, iv (0 : Int32), iv (4 : Int32), rv gb, iv v89_34, iv w3, iv (4 : Int32), iv w3] [(.ref r0)])) (fun t k => XS.iload X35.here hx rfl (hb hby d9_89) rfl (XS.istore X35.here hx rfl (hb hby d9_91) rfl (l' := #[rv r0, iv (0 : Int32), iv (4 : Int32), rv gb, iv v89_34, iv w3, iv (3 : Int32), iv w3]) rfl (XS.iinc X35.here hx rfl (hb hby d9_93) rfl (l' := #[rv r0, iv (0 : Int32), iv (4 : Int32), rv gb, iv v89_34, iv w3, iv (4 : Int32), iv w3]) rfl (XS.goto X35.here hx rfl (pc0 := 96) (pc' := 46) rfl (hb hby d9_96) (by decide) (by decide) (XS.iload X35.here hx rfl (hb hby d9_46) rfl (XS.iloadN X35.here hx rfl (hb hby d9_48) rfl (XS.icmpYes X35.here hx rfl (pc0 := 49) (pc' := 99) rfl (hb hby d9_49) rfl (by decide) (by decide) (by decide) (XS.aloadN X35.here hx rfl (hb hby d9_99) rfl rfl k)))))))) ?_
            refine own_step (U' := T35.setTop (mkF m 101 #[rv r0, iv (0 : Int32), iv (4 : Int32), rv gb, iv v89_34, iv w3, iv (4 : Int32), iv w3] [(.ref r0), (.ref r0)])) (fun t k => XS.dup X35.here hx rfl (hb hby d9_100) rfl rfl k) ?_
            obtain ⟨T36, X36, e36, st36⟩ := getF X35 hx hZ hown (host := "") (Or.inl (own_w hw 71 rfl)) Via.refl e35 F_line_r0 (g := (mkF m 101 #[rv r0, iv (0 : Int32), iv (4 : Int32), rv gb, iv v89_34, iv w3, iv (4 : Int32), iv w3] [(.ref r0), (.ref r0)])) rfl rfl (hb hby d9_101)
            refine own_step (U' := T36.setTop (mkF m 104 #[rv r0, iv (0 : Int32), iv (4 : Int32), rv gb, iv v89_34, iv w3, iv (4 : Int32), iv w3] [(.int wl), (.ref r0)])) st36 ?_
            refine own_step (U' := T36.setTop (mkF m 107 #[rv r0, iv (0 : Int32), iv (4 : Int32), rv gb, iv v89_34, iv w3, iv (4 : Int32), iv w3] [(.int (wl + v89_34)), (.ref r0)])) (fun t k => XS.iload X36.here hx rfl (hb hby d9_104) rfl (XS.iadd X36.here hx rfl (hb hby d9_106) rfl k)) ?_
            obtain ⟨T37, h37, X37, e37, W37, st37⟩ := putF X36 hx hZ hown (host := "") (Or.inl (own_w hw 71 rfl)) Via.refl e36 F_line_r0 E_r0 (Or.inl (own_w hw 72 rfl)) (own_w hw 11 rfl) (ty := .int) (by decide) rfl rfl (g := (mkF m 107 #[rv r0, iv (0 : Int32), iv (4 : Int32), rv gb, iv v89_34, iv w3, iv (4 : Int32), iv w3] [(.int (wl + v89_34)), (.ref r0)])) rfl rfl (hb hby d9_107)
            have E_r0_37 := E_r0.wr W37
            have F_bytes_r0_37 := F_bytes_r0.other W37 (Or.inr (slot_ne (Or.inl (own_w hw 41 rfl)) (Or.inl (own_w hw 72 rfl)) (by decide) (t := (.array .byte)) (t' := .int) (by decide) (by decide)))
            have F_position_r0_37 := F_position_r0.other W37 (Or.inr (slot_ne (Or.inl (own_w hw 58 rfl)) (Or.inl (own_w hw 72 rfl)) (by decide) (t := .int) (t' := .int) (by decide) (by decide)))
            have F_counted_r0_37 := F_counted_r0.other W37 (Or.inr (slot_ne (Or.inl (own_w hw 74 rfl)) (Or.inl (own_w hw 72 rfl)) (by decide) (t := .int) (t' := .int) (by decide) (by decide)))
            have F_afterCarriageReturn_r0_37 := F_afterCarriageReturn_r0.other W37 (Or.inr (slot_ne (Or.inl (own_w hw 76 rfl)) (Or.inl (own_w hw 72 rfl)) (by decide) (t := .boolean) (t' := .int) (by decide) (by decide)))
            have V_gb_37 := V_gb.other W37 hne
            have F_line_r0_37 := F_line_r0.same W37
            have Z37 : n0 ≤ h37.size := Nat.le_trans Z0 (Keep.of_wr W37).1
            have KK37 := KK0.wr W37 (Or.inl (List.mem_of_getElem? (i := 0) rfl))
            have N37 := Fr.snoc X37 N35 g_r0
            refine own_step (U' := T37.setTop (mkF m 110 #[rv r0, iv (0 : Int32), iv (4 : Int32), rv gb, iv v89_34, iv w3, iv (4 : Int32), iv w3] [])) st37 ?_
            refine own_step (U' := T37.setTop (mkF m 115 #[rv r0, iv (0 : Int32), iv (4 : Int32), rv gb, iv v89_34, iv w3, iv (4 : Int32), iv w3] [(.int (3 : Int32)), (.ref gb), (.ref r0)])) (fun t k => XS.aloadN X37.here hx rfl (hb hby d9_110) rfl rfl (XS.aloadN X37.here hx rfl (hb hby d9_111) rfl rfl (XS.iloadN X37.here hx rfl (hb hby d9_112) rfl (XS.iconst X37.here hx rfl (hb hby d9_113) (XS.isub X37.here hx rfl (hb hby d9_114) rfl k))))) ?_
            obtain ⟨cl38, Ar38, aq38, aS38, aN38, aH38, aG38⟩ := id V_gb_37
            have hin38 : ¬ ((3 : Int32) < 0 ∨ cl38.slots.size ≤ ((3 : Int32)).toNatClampNeg) := inb_of aS38 ⟨by decide, by decide⟩
            have hat38 : cl38.slots[((3 : Int32)).toNatClampNeg]? = some (.int w3) := aH38.at hin38 rfl
            refine own_step (U' := T37.setTop (mkF m 118 #[rv r0, iv (0 : Int32), iv (4 : Int32), rv gb, iv v89_34, iv w3, iv (4 : Int32), iv w3] [(.int (13 : Int32)), (.int w3), (.ref r0)])) (fun t k => X37.baloadBytes hx (j := (3 : Int32)) (v := (.int w3)) (by rw [e37]; exact Ar38.1) (State.isArrayOf_alike hZ.alike Ar38.2.1) Ar38.2.2 hin38 hat38 (g := (mkF m 115 #[rv r0, iv (0 : Int32), iv (4 : Int32), rv gb, iv v89_34, iv w3, iv (4 : Int32), iv w3] [(.int (3 : Int32)), (.ref gb), (.ref r0)])) rfl rfl (hb hby d9_115) t (XS.bipush X37.here hx rfl (hb hby d9_116) k)) ?_
            obtain ⟨v126_40, hv126_40⟩ : ∃ v : Int32, v = (if w3 = (13 : Int32) then (1 : Int32) else (0 : Int32)) := ⟨_, rfl⟩
            have K126_41 : ∀ (T' : State) (locs' : List Loc) (X' : Stand p l e ({ frames := 0, cells := 0, slots := 0, locals := 0 } : Room) s m #[(.ref r0)] below meth c T' locs' 0 0) (N' : Fr n0 locs') (e' : T'.heap = h37), own_Go p.tables e below s 0 0 (Q9c0p4 Z r0 gb wl wr w0 w1 w2 w3 k_gb h0 n0) (T'.setTop (mkF m 126 #[rv r0, iv (0 : Int32), iv (4 : Int32), rv gb, iv v89_34, iv w3, iv (4 : Int32), iv w3] [(.int v126_40), (.ref r0)])) := by
              intro T41 L41 X41 N41 e41
              obtain ⟨T42, h42, X42, e42, W42, st42⟩ := putFN X41 hx hZ hown (own_w hw 75 rfl) Via.refl e41 F_afterCarriageReturn_r0_37 E_r0_37 (Or.inl (own_w hw 76 rfl)) (own_w hw 11 rfl) (ty := .boolean) (v' := (.int (nar .boolean v126_40))) (by decide) rfl (fits_nar_bool _) (g := (mkF m 126 #[rv r0, iv (0 : Int32), iv (4 : Int32), rv gb, iv v89_34, iv w3, iv (4 : Int32), iv w3] [(.int v126_40), (.ref r0)])) rfl rfl (hb hby d9_126)
              have E_r0_42 := E_r0_37.wr W42
              have F_bytes_r0_42 := F_bytes_r0_37.other W42 (Or.inr (slot_ne (Or.inl (own_w hw 41 rfl)) (Or.inl (own_w hw 76 rfl)) (by decide) (t := (.array .byte)) (t' := .boolean) (by decide) (by decide)))
              have F_position_r0_42 := F_position_r0_37.other W42 (Or.inr (slot_ne (Or.inl (own_w hw 58 rfl)) (Or.inl (own_w hw 76 rfl)) (by decide) (t := .int) (t' := .boolean) (by decide) (by decide)))
              have F_line_r0_42 := F_line_r0_37.other W42 (Or.inr (slot_ne (Or.inl (own_w hw 72 rfl)) (Or.inl (own_w hw 76 rfl)) (by decide) (t := .int) (t' := .boolean) (by decide) (by decide)))
              have F_counted_r0_42 := F_counted_r0_37.other W42 (Or.inr (slot_ne (Or.inl (own_w hw 74 rfl)) (Or.inl (own_w hw 76 rfl)) (by decide) (t := .int) (t' := .boolean) (by decide) (by decide)))
              have V_gb_42 := V_gb_37.other W42 hne
              have F_afterCarriageReturn_r0_42 := F_afterCarriageReturn_r0_37.same W42
              have Z42 : n0 ≤ h42.size := Nat.le_trans Z37 (Keep.of_wr W42).1
              have KK42 := KK37.wr W42 (Or.inl (List.mem_of_getElem? (i := 0) rfl))
              have N42 := Fr.snoc X42 N41 g_r0
              refine own_step (U' := T42.setTop (mkF m 129 #[rv r0, iv (0 : Int32), iv (4 : Int32), rv gb, iv v89_34, iv w3, iv (4 : Int32), iv w3] [])) st42 ?_
              refine own_step (U' := T42.setTop (mkF m 131 #[rv r0, iv (0 : Int32), iv (4 : Int32), rv gb, iv v89_34, iv w3, iv (4 : Int32), iv w3] [(.ref r0), (.ref r0)])) (fun t k => XS.aloadN X42.here hx rfl (hb hby d9_129) rfl rfl (XS.aloadN X42.here hx rfl (hb hby d9_130) rfl rfl k)) ?_
              obtain ⟨T43, X43, e43, st43⟩ := getF X42 hx hZ hown (host := "") (Or.inl (own_w hw 75 rfl)) Via.refl e42 F_afterCarriageReturn_r0_42 (g := (mkF m 131 #[rv r0, iv (0 : Int32), iv (4 : Int32), rv gb, iv v89_34, iv w3, iv (4 : Int32), iv w3] [(.ref r0), (.ref r0)])) rfl rfl (hb hby d9_131)
              refine own_step (U' := T43.setTop (mkF m 134 #[rv r0, iv (0 : Int32), iv (4 : Int32), rv gb, iv v89_34, iv w3, iv (4 : Int32), iv w3] [(.int (nar .boolean v126_40)), (.ref r0)])) st43 ?_
              obtain ⟨v152_47, hv152_47⟩ : ∃ v : Int32, v = (if (nar .boolean v126_40) = (0 : Int32) then (if w3 = (10 : Int32) then (1 : Int32) else (0 : Int32)) else (1 : Int32)) := ⟨_, rfl⟩
              have K152_48 : ∀ (T' : State) (locs' : List Loc) (X' : Stand p l e ({ frames := 0, cells := 0, slots := 0, locals := 0 } : Room) s m #[(.ref r0)] below meth c T' locs' 0 0) (N' : Fr n0 locs') (e' : T'.heap = h42), own_Go p.tables e below s 0 0 (Q9c0p4 Z r0 gb wl wr w0 w1 w2 w3 k_gb h0 n0) (T'.setTop (mkF m 152 #[rv r0, iv (0 : Int32), iv (4 : Int32), rv gb, iv v89_34, iv w3, iv (4 : Int32), iv w3] [(.int v152_47), (.ref r0)])) := by
                intro T48 L48 X48 N48 e48
                obtain ⟨u49, Fu49⟩ := own_anyF (O := own_XC) (n := "afterLineEnd") (d := "Z") E_r0_42 F_bytes_r0_42 (own_w hw 11 rfl) (Or.inl (own_w hw 78 rfl))
                obtain ⟨T49, h49, X49, e49, W49, st49⟩ := putFN X48 hx hZ hown (own_w hw 77 rfl) Via.refl e48 Fu49 E_r0_42 (Or.inl (own_w hw 78 rfl)) (own_w hw 11 rfl) (ty := .boolean) (v' := (.int (nar .boolean v152_47))) (by decide) rfl (fits_nar_bool _) (g := (mkF m 152 #[rv r0, iv (0 : Int32), iv (4 : Int32), rv gb, iv v89_34, iv w3, iv (4 : Int32), iv w3] [(.int v152_47), (.ref r0)])) rfl rfl (hb hby d9_152)
                have E_r0_49 := E_r0_42.wr W49
                have F_bytes_r0_49 := F_bytes_r0_42.other W49 (Or.inr (slot_ne (Or.inl (own_w hw 41 rfl)) (Or.inl (own_w hw 78 rfl)) (by decide) (t := (.array .byte)) (t' := .boolean) (by decide) (by decide)))
                have F_position_r0_49 := F_position_r0_42.other W49 (Or.inr (slot_ne (Or.inl (own_w hw 58 rfl)) (Or.inl (own_w hw 78 rfl)) (by decide) (t := .int) (t' := .boolean) (by decide) (by decide)))
                have F_line_r0_49 := F_line_r0_42.other W49 (Or.inr (slot_ne (Or.inl (own_w hw 72 rfl)) (Or.inl (own_w hw 78 rfl)) (by decide) (t := .int) (t' := .boolean) (by decide) (by decide)))
                have F_counted_r0_49 := F_counted_r0_42.other W49 (Or.inr (slot_ne (Or.inl (own_w hw 74 rfl)) (Or.inl (own_w hw 78 rfl)) (by decide) (t := .int) (t' := .boolean) (by decide) (by decide)))
                have F_afterCarriageReturn_r0_49 := F_afterCarriageReturn_r0_42.other W49 (Or.inr (slot_ne (Or.inl (own_w hw 76 rfl)) (Or.inl (own_w hw 78 rfl)) (by decide) (t := .boolean) (t' := .boolean) (by decide) (by decide)))
                have V_gb_49 := V_gb_42.other W49 hne
                have Z49 : n0 ≤ h49.size := Nat.le_trans Z42 (Keep.of_wr W49).1
                have KK49 := KK42.wr W49 (Or.inl (List.mem_of_getElem? (i := 0) rfl))
                have N49 := Fr.snoc X49 N48 g_r0
                refine own_step (U' := T49.setTop (mkF m 155 #[rv r0, iv (0 : Int32), iv (4 : Int32), rv gb, iv v89_34, iv w3, iv (4 : Int32), iv w3] [])) st49 ?_
                refine own_step (U' := T49.setTop (mkF m 157 #[rv r0, iv (0 : Int32), iv (4 : Int32), rv gb, iv v89_34, iv w3, iv (4 : Int32), iv w3] [(.int (4 : Int32)), (.ref r0)])) (fun t k => XS.aloadN X49.here hx rfl (hb hby d9_155) rfl rfl (XS.iloadN X49.here hx rfl (hb hby d9_156) rfl k)) ?_
                obtain ⟨T50, h50, X50, e50, W50, st50⟩ := putF X49 hx hZ hown (host := "") (Or.inl (own_w hw 73 rfl)) Via.refl e49 F_counted_r0_49 E_r0_49 (Or.inl (own_w hw 74 rfl)) (own_w hw 11 rfl) (ty := .int) (by decide) rfl rfl (g := (mkF m 157 #[rv r0, iv (0 : Int32), iv (4 : Int32), rv gb, iv v89_34, iv w3, iv (4 : Int32), iv w3] [(.int (4 : Int32)), (.ref r0)])) rfl rfl (hb hby d9_157)
                have E_r0_50 := E_r0_49.wr W50
                have F_bytes_r0_50 := F_bytes_r0_49.other W50 (Or.inr (slot_ne (Or.inl (own_w hw 41 rfl)) (Or.inl (own_w hw 74 rfl)) (by decide) (t := (.array .byte)) (t' := .int) (by decide) (by decide)))
                have F_position_r0_50 := F_position_r0_49.other W50 (Or.inr (slot_ne (Or.inl (own_w hw 58 rfl)) (Or.inl (own_w hw 74 rfl)) (by decide) (t := .int) (t' := .int) (by decide) (by decide)))
                have F_line_r0_50 := F_line_r0_49.other W50 (Or.inr (slot_ne (Or.inl (own_w hw 72 rfl)) (Or.inl (own_w hw 74 rfl)) (by decide) (t := .int) (t' := .int) (by decide) (by decide)))
                have F_afterCarriageReturn_r0_50 := F_afterCarriageReturn_r0_49.other W50 (Or.inr (slot_ne (Or.inl (own_w hw 76 rfl)) (Or.inl (own_w hw 74 rfl)) (by decide) (t := .boolean) (t' := .int) (by decide) (by decide)))
                have V_gb_50 := V_gb_49.other W50 hne
                have F_counted_r0_50 := F_counted_r0_49.same W50
                have Z50 : n0 ≤ h50.size := Nat.le_trans Z49 (Keep.of_wr W50).1
                have KK50 := KK49.wr W50 (Or.inl (List.mem_of_getElem? (i := 0) rfl))
                have N50 := Fr.snoc X50 N49 g_r0
                refine own_step (U' := T50.setTop (mkF m 160 #[rv r0, iv (0 : Int32), iv (4 : Int32), rv gb, iv v89_34, iv w3, iv (4 : Int32), iv w3] [])) st50 ?_
                refine own_step (U' := T50.setTop (mkF m 161 #[rv r0, iv (0 : Int32), iv (4 : Int32), rv gb, iv v89_34, iv w3, iv (4 : Int32), iv w3] [(.ref r0)])) (fun t k => XS.aloadN X50.here hx rfl (hb hby d9_160) rfl rfl k) ?_
                obtain ⟨T51, X51, e51, st51⟩ := getF X50 hx hZ hown (host := "") (Or.inl (own_w hw 71 rfl)) Via.refl e50 F_line_r0_50 (g := (mkF m 161 #[rv r0, iv (0 : Int32), iv (4 : Int32), rv gb, iv v89_34, iv w3, iv (4 : Int32), iv w3] [(.ref r0)])) rfl rfl (hb hby d9_161)
                refine own_step (U' := T51.setTop (mkF m 164 #[rv r0, iv (0 : Int32), iv (4 : Int32), rv gb, iv v89_34, iv w3, iv (4 : Int32), iv w3] [(.int (wl + v89_34))])) st51 ?_
                exact own_out X51 (v := (some (.int (wl + v89_34)))) hlk (own_nv Bd.returns) (by rw [e51]; exact (by subst hv41_6 hv89_13 hv89_20 hv89_27 hv89_34 hv126_40 hv152_47; exact ⟨rfl, N50, KK50, E_r0_50, F_bytes_r0_50, F_position_r0_50, F_line_r0_50, F_counted_r0_50, F_afterCarriageReturn_r0_50⟩)) (by decide) (by decide) (fun fs hr => retI X51 hx Bd.returns (hb hby d9_164) hr)
              by_cases hc134_52 : (nar .boolean v126_40) = (0 : Int32)
              · refine own_step (U' := T43.setTop (mkF m 141 #[rv r0, iv (0 : Int32), iv (4 : Int32), rv gb, iv v89_34, iv w3, iv (4 : Int32), iv w3] [(.int (3 : Int32)), (.ref gb), (.ref r0)])) (fun t k => XS.ifNo X43.here hx rfl (hb hby d9_134) rfl ((if0 _ _).trans (teq hc134_52).2) (XS.aloadN X43.here hx rfl (hb hby d9_137) rfl rfl (XS.iloadN X43.here hx rfl (hb hby d9_138) rfl (XS.iconst X43.here hx rfl (hb hby d9_139) (XS.isub X43.here hx rfl (hb hby d9_140) rfl k))))) ?_
                obtain ⟨cl53, Ar53, aq53, aS53, aN53, aH53, aG53⟩ := id V_gb_42
                have hin53 : ¬ ((3 : Int32) < 0 ∨ cl53.slots.size ≤ ((3 : Int32)).toNatClampNeg) := inb_of aS53 ⟨by decide, by decide⟩
                have hat53 : cl53.slots[((3 : Int32)).toNatClampNeg]? = some (.int w3) := aH53.at hin53 rfl
                refine own_step (U' := T43.setTop (mkF m 144 #[rv r0, iv (0 : Int32), iv (4 : Int32), rv gb, iv v89_34, iv w3, iv (4 : Int32), iv w3] [(.int (10 : Int32)), (.int w3), (.ref r0)])) (fun t k => X43.baloadBytes hx (j := (3 : Int32)) (v := (.int w3)) (by rw [e43]; exact Ar53.1) (State.isArrayOf_alike hZ.alike Ar53.2.1) Ar53.2.2 hin53 hat53 (g := (mkF m 141 #[rv r0, iv (0 : Int32), iv (4 : Int32), rv gb, iv v89_34, iv w3, iv (4 : Int32), iv w3] [(.int (3 : Int32)), (.ref gb), (.ref r0)])) rfl rfl (hb hby d9_141) t (XS.bipush X43.here hx rfl (hb hby d9_142) k)) ?_
                by_cases hc144_54 : w3 = (10 : Int32)
                · refine own_step (U' := T43.setTop (mkF m 152 #[rv r0, iv (0 : Int32), iv (4 : Int32), rv gb, iv v89_34, iv w3, iv (4 : Int32), iv w3] [(.int (1 : Int32)), (.ref r0)])) (fun t k => XS.icmpNo X43.here hx rfl (hb hby d9_144) rfl (teq hc144_54).2 (XS.iconst X43.here hx rfl (hb hby d9_147) (XS.goto X43.here hx rfl (pc0 := 148) (pc' := 152) rfl (hb hby d9_148) (by decide) (by decide) k))) ?_
                  have q_v152_47 : v152_47 = (1 : Int32) := by rw [hv152_47, if_pos hc134_52, if_pos hc144_54]
                  rw [q_v152_47] at K152_48
                  exact K152_48 _ _ X43 N42 e43
                · refine own_step (U' := T43.setTop (mkF m 152 #[rv r0, iv (0 : Int32), iv (4 : Int32), rv gb, iv v89_34, iv w3, iv (4 : Int32), iv w3] [(.int (0 : Int32)), (.ref r0)])) (fun t k => XS.icmpYes X43.here hx rfl (pc0 := 144) (pc' := 151) rfl (hb hby d9_144) rfl (feq hc144_54).2 (by decide) (by decide) (XS.iconst X43.here hx rfl (hb hby d9_151) k)) ?_
                  have q_v152_47 : v152_47 = (0 : Int32) := by rw [hv152_47, if_pos hc134_52, if_neg hc144_54]
                  rw [q_v152_47] at K152_48
                  exact K152_48 _ _ X43 N42 e43
              · refine own_step (U' := T43.setTop (mkF m 152 #[rv r0, iv (0 : Int32), iv (4 : Int32), rv gb, iv v89_34, iv w3, iv (4 : Int32), iv w3] [(.int (1 : Int32)), (.ref r0)])) (fun t k => XS.ifYes X43.here hx rfl (pc0 := 134) (pc' := 147) rfl (hb hby d9_134) rfl ((if0 _ _).trans (feq hc134_52).2) (by decide) (by decide) (XS.iconst X43.here hx rfl (hb hby d9_147) (XS.goto X43.here hx rfl (pc0 := 148) (pc' := 152) rfl (hb hby d9_148) (by decide) (by decide) k))) ?_
                have q_v152_47 : v152_47 = (1 : Int32) := by rw [hv152_47, if_neg hc134_52]
                rw [q_v152_47] at K152_48
                exact K152_48 _ _ X43 N42 e43
            by_cases hc118_55 : w3 = (13 : Int32)
            · refine own_step (U' := T37.setTop (mkF m 126 #[rv r0, iv (0 : Int32), iv (4 : Int32), rv gb, iv v89_34, iv w3, iv (4 : Int32), iv w3] [(.int (1 : Int32)), (.ref r0)])) (fun t k => XS.icmpNo X37.here hx rfl (hb hby d9_118) rfl (teq hc118_55).2 (XS.iconst X37.here hx rfl (hb hby d9_121) (XS.goto X37.here hx rfl (pc0 := 122) (pc' := 126) rfl (hb hby d9_122) (by decide) (by decide) k))) ?_
              have q_v126_40 : v126_40 = (1 : Int32) := by rw [hv126_40, if_pos hc118_55]
              rw [q_v126_40] at K126_41
              exact K126_41 _ _ X37 N37 e37
            · refine own_step (U' := T37.setTop (mkF m 126 #[rv r0, iv (0 : Int32), iv (4 : Int32), rv gb, iv v89_34, iv w3, iv (4 : Int32), iv w3] [(.int (0 : Int32)), (.ref r0)])) (fun t k => XS.icmpYes X37.here hx rfl (pc0 := 118) (pc' := 125) rfl (hb hby d9_118) rfl (feq hc118_55).2 (by decide) (by decide) (XS.iconst X37.here hx rfl (hb hby d9_125) k)) ?_
              have q_v126_40 : v126_40 = (0 : Int32) := by rw [hv126_40, if_neg hc118_55]
              rw [q_v126_40] at K126_41
              exact K126_41 _ _ X37 N37 e37
          by_cases hc62_56 : (13 : Int32) < w3
          · refine own_step (U' := T28.setTop (mkF m 89 #[rv r0, iv (0 : Int32), iv (4 : Int32), rv gb, iv v89_27, iv w2, iv (3 : Int32), iv w3] [])) (fun t k => XS.icmpYes X28.here hx rfl (pc0 := 62) (pc' := 89) rfl (hb hby d9_62) rfl (tlt hc62_56).2.2.1 (by decide) (by decide) k) ?_
            have q_v89_34 : v89_34 = v89_27 := by rw [hv89_34, if_pos hc62_56]
            rw [q_v89_34] at K89_35
            exact K89_35 _ _ X28 N28 e28
          · refine own_step (U' := T28.setTop (mkF m 69 #[rv r0, iv (0 : Int32), iv (4 : Int32), rv gb, iv v89_27, iv w2, iv (3 : Int32), iv w3] [(.int (13 : Int32)), (.int w3)])) (fun t k => XS.icmpNo X28.here hx rfl (hb hby d9_62) rfl (flt hc62_56).2.2.1 (XS.iload X28.here hx rfl (hb hby d9_65) rfl (XS.bipush X28.here hx rfl (hb hby d9_67) k))) ?_
            by_cases hc69_57 : w3 = (13 : Int32)
            · refine own_step (U' := T28.setTop (mkF m 89 #[rv r0, iv (0 : Int32), iv (4 : Int32), rv gb, iv (v89_27 + (1 : Int32)), iv w2, iv (3 : Int32), iv w3] [])) (fun t k => XS.icmpYes X28.here hx rfl (pc0 := 69) (pc' := 86) rfl (hb hby d9_69) rfl (teq hc69_57).1 (by decide) (by decide) (XS.iinc X28.here hx rfl (hb hby d9_86) rfl (l' := #[rv r0, iv (0 : Int32), iv (4 : Int32), rv gb, iv (v89_27 + (1 : Int32)), iv w2, iv (3 : Int32), iv w3]) rfl k)) ?_
              have q_v89_34 : v89_34 = (v89_27 + (1 : Int32)) := by rw [hv89_34, if_neg hc62_56, if_pos hc69_57]
              rw [q_v89_34] at K89_35
              exact K89_35 _ _ X28 N28 e28
            · refine own_step (U' := T28.setTop (mkF m 76 #[rv r0, iv (0 : Int32), iv (4 : Int32), rv gb, iv v89_27, iv w2, iv (3 : Int32), iv w3] [(.int (10 : Int32)), (.int w3)])) (fun t k => XS.icmpNo X28.here hx rfl (hb hby d9_69) rfl (feq hc69_57).1 (XS.iload X28.here hx rfl (hb hby d9_72) rfl (XS.bipush X28.here hx rfl (hb hby d9_74) k))) ?_
              by_cases hc76_58 : w3 = (10 : Int32)
              · refine own_step (U' := T28.setTop (mkF m 83 #[rv r0, iv (0 : Int32), iv (4 : Int32), rv gb, iv v89_27, iv w2, iv (3 : Int32), iv w3] [(.int (13 : Int32)), (.int w2)])) (fun t k => XS.icmpNo X28.here hx rfl (hb hby d9_76) rfl (teq hc76_58).2 (XS.iload X28.here hx rfl (hb hby d9_79) rfl (XS.bipush X28.here hx rfl (hb hby d9_81) k))) ?_
                by_cases hc83_59 : w2 = (13 : Int32)
                · refine own_step (U' := T28.setTop (mkF m 89 #[rv r0, iv (0 : Int32), iv (4 : Int32), rv gb, iv v89_27, iv w2, iv (3 : Int32), iv w3] [])) (fun t k => XS.icmpYes X28.here hx rfl (pc0 := 83) (pc' := 89) rfl (hb hby d9_83) rfl (teq hc83_59).1 (by decide) (by decide) k) ?_
                  have q_v89_34 : v89_34 = v89_27 := by rw [hv89_34, if_neg hc62_56, if_neg hc69_57, if_pos hc76_58, if_pos hc83_59]
                  rw [q_v89_34] at K89_35
                  exact K89_35 _ _ X28 N28 e28
                · refine own_step (U' := T28.setTop (mkF m 89 #[rv r0, iv (0 : Int32), iv (4 : Int32), rv gb, iv (v89_27 + (1 : Int32)), iv w2, iv (3 : Int32), iv w3] [])) (fun t k => XS.icmpNo X28.here hx rfl (hb hby d9_83) rfl (feq hc83_59).1 (XS.iinc X28.here hx rfl (hb hby d9_86) rfl (l' := #[rv r0, iv (0 : Int32), iv (4 : Int32), rv gb, iv (v89_27 + (1 : Int32)), iv w2, iv (3 : Int32), iv w3]) rfl k)) ?_
                  have q_v89_34 : v89_34 = (v89_27 + (1 : Int32)) := by rw [hv89_34, if_neg hc62_56, if_neg hc69_57, if_pos hc76_58, if_neg hc83_59]
                  rw [q_v89_34] at K89_35
                  exact K89_35 _ _ X28 N28 e28
              · refine own_step (U' := T28.setTop (mkF m 89 #[rv r0, iv (0 : Int32), iv (4 : Int32), rv gb, iv v89_27, iv w2, iv (3 : Int32), iv w3] [])) (fun t k => XS.icmpYes X28.here hx rfl (pc0 := 76) (pc' := 89) rfl (hb hby d9_76) rfl (feq hc76_58).2 (by decide) (by decide) k) ?_
                have q_v89_34 : v89_34 = v89_27 := by rw [hv89_34, if_neg hc62_56, if_neg hc69_57, if_neg hc76_58]
                rw [q_v89_34] at K89_35
                exact K89_35 _ _ X28 N28 e28
        by_cases hc62_60 : (13 : Int32) < w2
        · refine own_step (U' := T21.setTop (mkF m 89 #[rv r0, iv (0 : Int32), iv (4 : Int32), rv gb, iv v89_20, iv w1, iv (2 : Int32), iv w2] [])) (fun t k => XS.icmpYes X21.here hx rfl (pc0 := 62) (pc' := 89) rfl (hb hby d9_62) rfl (tlt hc62_60).2.2.1 (by decide) (by decide) k) ?_
          have q_v89_27 : v89_27 = v89_20 := by rw [hv89_27, if_pos hc62_60]
          rw [q_v89_27] at K89_28
          exact K89_28 _ _ X21 N21 e21
        · refine own_step (U' := T21.setTop (mkF m 69 #[rv r0, iv (0 : Int32), iv (4 : Int32), rv gb, iv v89_20, iv w1, iv (2 : Int32), iv w2] [(.int (13 : Int32)), (.int w2)])) (fun t k => XS.icmpNo X21.here hx rfl (hb hby d9_62) rfl (flt hc62_60).2.2.1 (XS.iload X21.here hx rfl (hb hby d9_65) rfl (XS.bipush X21.here hx rfl (hb hby d9_67) k))) ?_
          by_cases hc69_61 : w2 = (13 : Int32)
          · refine own_step (U' := T21.setTop (mkF m 89 #[rv r0, iv (0 : Int32), iv (4 : Int32), rv gb, iv (v89_20 + (1 : Int32)), iv w1, iv (2 : Int32), iv w2] [])) (fun t k => XS.icmpYes X21.here hx rfl (pc0 := 69) (pc' := 86) rfl (hb hby d9_69) rfl (teq hc69_61).1 (by decide) (by decide) (XS.iinc X21.here hx rfl (hb hby d9_86) rfl (l' := #[rv r0, iv (0 : Int32), iv (4 : Int32), rv gb, iv (v89_20 + (1 : Int32)), iv w1, iv (2 : Int32), iv w2]) rfl k)) ?_
            have q_v89_27 : v89_27 = (v89_20 + (1 : Int32)) := by rw [hv89_27, if_neg hc62_60, if_pos hc69_61]
            rw [q_v89_27] at K89_28
            exact K89_28 _ _ X21 N21 e21
          · refine own_step (U' := T21.setTop (mkF m 76 #[rv r0, iv (0 : Int32), iv (4 : Int32), rv gb, iv v89_20, iv w1, iv (2 : Int32), iv w2] [(.int (10 : Int32)), (.int w2)])) (fun t k => XS.icmpNo X21.here hx rfl (hb hby d9_69) rfl (feq hc69_61).1 (XS.iload X21.here hx rfl (hb hby d9_72) rfl (XS.bipush X21.here hx rfl (hb hby d9_74) k))) ?_
            by_cases hc76_62 : w2 = (10 : Int32)
            · refine own_step (U' := T21.setTop (mkF m 83 #[rv r0, iv (0 : Int32), iv (4 : Int32), rv gb, iv v89_20, iv w1, iv (2 : Int32), iv w2] [(.int (13 : Int32)), (.int w1)])) (fun t k => XS.icmpNo X21.here hx rfl (hb hby d9_76) rfl (teq hc76_62).2 (XS.iload X21.here hx rfl (hb hby d9_79) rfl (XS.bipush X21.here hx rfl (hb hby d9_81) k))) ?_
              by_cases hc83_63 : w1 = (13 : Int32)
              · refine own_step (U' := T21.setTop (mkF m 89 #[rv r0, iv (0 : Int32), iv (4 : Int32), rv gb, iv v89_20, iv w1, iv (2 : Int32), iv w2] [])) (fun t k => XS.icmpYes X21.here hx rfl (pc0 := 83) (pc' := 89) rfl (hb hby d9_83) rfl (teq hc83_63).1 (by decide) (by decide) k) ?_
                have q_v89_27 : v89_27 = v89_20 := by rw [hv89_27, if_neg hc62_60, if_neg hc69_61, if_pos hc76_62, if_pos hc83_63]
                rw [q_v89_27] at K89_28
                exact K89_28 _ _ X21 N21 e21
              · refine own_step (U' := T21.setTop (mkF m 89 #[rv r0, iv (0 : Int32), iv (4 : Int32), rv gb, iv (v89_20 + (1 : Int32)), iv w1, iv (2 : Int32), iv w2] [])) (fun t k => XS.icmpNo X21.here hx rfl (hb hby d9_83) rfl (feq hc83_63).1 (XS.iinc X21.here hx rfl (hb hby d9_86) rfl (l' := #[rv r0, iv (0 : Int32), iv (4 : Int32), rv gb, iv (v89_20 + (1 : Int32)), iv w1, iv (2 : Int32), iv w2]) rfl k)) ?_
                have q_v89_27 : v89_27 = (v89_20 + (1 : Int32)) := by rw [hv89_27, if_neg hc62_60, if_neg hc69_61, if_pos hc76_62, if_neg hc83_63]
                rw [q_v89_27] at K89_28
                exact K89_28 _ _ X21 N21 e21
            · refine own_step (U' := T21.setTop (mkF m 89 #[rv r0, iv (0 : Int32), iv (4 : Int32), rv gb, iv v89_20, iv w1, iv (2 : Int32), iv w2] [])) (fun t k => XS.icmpYes X21.here hx rfl (pc0 := 76) (pc' := 89) rfl (hb hby d9_76) rfl (feq hc76_62).2 (by decide) (by decide) k) ?_
              have q_v89_27 : v89_27 = v89_20 := by rw [hv89_27, if_neg hc62_60, if_neg hc69_61, if_neg hc76_62]
              rw [q_v89_27] at K89_28
              exact K89_28 _ _ X21 N21 e21
      by_cases hc62_64 : (13 : Int32) < w1
      · refine own_step (U' := T14.setTop (mkF m 89 #[rv r0, iv (0 : Int32), iv (4 : Int32), rv gb, iv v89_13, iv w0, iv (1 : Int32), iv w1] [])) (fun t k => XS.icmpYes X14.here hx rfl (pc0 := 62) (pc' := 89) rfl (hb hby d9_62) rfl (tlt hc62_64).2.2.1 (by decide) (by decide) k) ?_
        have q_v89_20 : v89_20 = v89_13 := by rw [hv89_20, if_pos hc62_64]
        rw [q_v89_20] at K89_21
        exact K89_21 _ _ X14 N14 e14
      · refine own_step (U' := T14.setTop (mkF m 69 #[rv r0, iv (0 : Int32), iv (4 : Int32), rv gb, iv v89_13, iv w0, iv (1 : Int32), iv w1] [(.int (13 : Int32)), (.int w1)])) (fun t k => XS.icmpNo X14.here hx rfl (hb hby d9_62) rfl (flt hc62_64).2.2.1 (XS.iload X14.here hx rfl (hb hby d9_65) rfl (XS.bipush X14.here hx rfl (hb hby d9_67) k))) ?_
        by_cases hc69_65 : w1 = (13 : Int32)
        · refine own_step (U' := T14.setTop (mkF m 89 #[rv r0, iv (0 : Int32), iv (4 : Int32), rv gb, iv (v89_13 + (1 : Int32)), iv w0, iv (1 : Int32), iv w1] [])) (fun t k => XS.icmpYes X14.here hx rfl (pc0 := 69) (pc' := 86) rfl (hb hby d9_69) rfl (teq hc69_65).1 (by decide) (by decide) (XS.iinc X14.here hx rfl (hb hby d9_86) rfl (l' := #[rv r0, iv (0 : Int32), iv (4 : Int32), rv gb, iv (v89_13 + (1 : Int32)), iv w0, iv (1 : Int32), iv w1]) rfl k)) ?_
          have q_v89_20 : v89_20 = (v89_13 + (1 : Int32)) := by rw [hv89_20, if_neg hc62_64, if_pos hc69_65]
          rw [q_v89_20] at K89_21
          exact K89_21 _ _ X14 N14 e14
        · refine own_step (U' := T14.setTop (mkF m 76 #[rv r0, iv (0 : Int32), iv (4 : Int32), rv gb, iv v89_13, iv w0, iv (1 : Int32), iv w1] [(.int (10 : Int32)), (.int w1)])) (fun t k => XS.icmpNo X14.here hx rfl (hb hby d9_69) rfl (feq hc69_65).1 (XS.iload X14.here hx rfl (hb hby d9_72) rfl (XS.bipush X14.here hx rfl (hb hby d9_74) k))) ?_
          by_cases hc76_66 : w1 = (10 : Int32)
          · refine own_step (U' := T14.setTop (mkF m 83 #[rv r0, iv (0 : Int32), iv (4 : Int32), rv gb, iv v89_13, iv w0, iv (1 : Int32), iv w1] [(.int (13 : Int32)), (.int w0)])) (fun t k => XS.icmpNo X14.here hx rfl (hb hby d9_76) rfl (teq hc76_66).2 (XS.iload X14.here hx rfl (hb hby d9_79) rfl (XS.bipush X14.here hx rfl (hb hby d9_81) k))) ?_
            by_cases hc83_67 : w0 = (13 : Int32)
            · refine own_step (U' := T14.setTop (mkF m 89 #[rv r0, iv (0 : Int32), iv (4 : Int32), rv gb, iv v89_13, iv w0, iv (1 : Int32), iv w1] [])) (fun t k => XS.icmpYes X14.here hx rfl (pc0 := 83) (pc' := 89) rfl (hb hby d9_83) rfl (teq hc83_67).1 (by decide) (by decide) k) ?_
              have q_v89_20 : v89_20 = v89_13 := by rw [hv89_20, if_neg hc62_64, if_neg hc69_65, if_pos hc76_66, if_pos hc83_67]
              rw [q_v89_20] at K89_21
              exact K89_21 _ _ X14 N14 e14
            · refine own_step (U' := T14.setTop (mkF m 89 #[rv r0, iv (0 : Int32), iv (4 : Int32), rv gb, iv (v89_13 + (1 : Int32)), iv w0, iv (1 : Int32), iv w1] [])) (fun t k => XS.icmpNo X14.here hx rfl (hb hby d9_83) rfl (feq hc83_67).1 (XS.iinc X14.here hx rfl (hb hby d9_86) rfl (l' := #[rv r0, iv (0 : Int32), iv (4 : Int32), rv gb, iv (v89_13 + (1 : Int32)), iv w0, iv (1 : Int32), iv w1]) rfl k)) ?_
              have q_v89_20 : v89_20 = (v89_13 + (1 : Int32)) := by rw [hv89_20, if_neg hc62_64, if_neg hc69_65, if_pos hc76_66, if_neg hc83_67]
              rw [q_v89_20] at K89_21
              exact K89_21 _ _ X14 N14 e14
          · refine own_step (U' := T14.setTop (mkF m 89 #[rv r0, iv (0 : Int32), iv (4 : Int32), rv gb, iv v89_13, iv w0, iv (1 : Int32), iv w1] [])) (fun t k => XS.icmpYes X14.here hx rfl (pc0 := 76) (pc' := 89) rfl (hb hby d9_76) rfl (feq hc76_66).2 (by decide) (by decide) k) ?_
            have q_v89_20 : v89_20 = v89_13 := by rw [hv89_20, if_neg hc62_64, if_neg hc69_65, if_neg hc76_66]
            rw [q_v89_20] at K89_21
            exact K89_21 _ _ X14 N14 e14
    by_cases hc62_68 : (13 : Int32) < w0
    · refine own_step (U' := T7.setTop (mkF m 89 #[rv r0, iv (0 : Int32), iv (4 : Int32), rv gb, iv (0 : Int32), iv v41_6, iv (0 : Int32), iv w0] [])) (fun t k => XS.icmpYes X7.here hx rfl (pc0 := 62) (pc' := 89) rfl (hb hby d9_62) rfl (tlt hc62_68).2.2.1 (by decide) (by decide) k) ?_
      have q_v89_13 : v89_13 = (0 : Int32) := by rw [hv89_13, if_pos hc62_68]
      rw [q_v89_13] at K89_14
      exact K89_14 _ _ X7 N7 e7
    · refine own_step (U' := T7.setTop (mkF m 69 #[rv r0, iv (0 : Int32), iv (4 : Int32), rv gb, iv (0 : Int32), iv v41_6, iv (0 : Int32), iv w0] [(.int (13 : Int32)), (.int w0)])) (fun t k => XS.icmpNo X7.here hx rfl (hb hby d9_62) rfl (flt hc62_68).2.2.1 (XS.iload X7.here hx rfl (hb hby d9_65) rfl (XS.bipush X7.here hx rfl (hb hby d9_67) k))) ?_
      by_cases hc69_69 : w0 = (13 : Int32)
      · refine own_step (U' := T7.setTop (mkF m 89 #[rv r0, iv (0 : Int32), iv (4 : Int32), rv gb, iv (1 : Int32), iv v41_6, iv (0 : Int32), iv w0] [])) (fun t k => XS.icmpYes X7.here hx rfl (pc0 := 69) (pc' := 86) rfl (hb hby d9_69) rfl (teq hc69_69).1 (by decide) (by decide) (XS.iinc X7.here hx rfl (hb hby d9_86) rfl (l' := #[rv r0, iv (0 : Int32), iv (4 : Int32), rv gb, iv (1 : Int32), iv v41_6, iv (0 : Int32), iv w0]) rfl k)) ?_
        have q_v89_13 : v89_13 = (1 : Int32) := by rw [hv89_13, if_neg hc62_68, if_pos hc69_69]
        rw [q_v89_13] at K89_14
        exact K89_14 _ _ X7 N7 e7
      · refine own_step (U' := T7.setTop (mkF m 76 #[rv r0, iv (0 : Int32), iv (4 : Int32), rv gb, iv (0 : Int32), iv v41_6, iv (0 : Int32), iv w0] [(.int (10 : Int32)), (.int w0)])) (fun t k => XS.icmpNo X7.here hx rfl (hb hby d9_69) rfl (feq hc69_69).1 (XS.iload X7.here hx rfl (hb hby d9_72) rfl (XS.bipush X7.here hx rfl (hb hby d9_74) k))) ?_
        by_cases hc76_70 : w0 = (10 : Int32)
        · refine own_step (U' := T7.setTop (mkF m 83 #[rv r0, iv (0 : Int32), iv (4 : Int32), rv gb, iv (0 : Int32), iv v41_6, iv (0 : Int32), iv w0] [(.int (13 : Int32)), (.int v41_6)])) (fun t k => XS.icmpNo X7.here hx rfl (hb hby d9_76) rfl (teq hc76_70).2 (XS.iload X7.here hx rfl (hb hby d9_79) rfl (XS.bipush X7.here hx rfl (hb hby d9_81) k))) ?_
          by_cases hc83_71 : v41_6 = (13 : Int32)
          · refine own_step (U' := T7.setTop (mkF m 89 #[rv r0, iv (0 : Int32), iv (4 : Int32), rv gb, iv (0 : Int32), iv v41_6, iv (0 : Int32), iv w0] [])) (fun t k => XS.icmpYes X7.here hx rfl (pc0 := 83) (pc' := 89) rfl (hb hby d9_83) rfl (teq hc83_71).1 (by decide) (by decide) k) ?_
            have q_v89_13 : v89_13 = (0 : Int32) := by rw [hv89_13, if_neg hc62_68, if_neg hc69_69, if_pos hc76_70, if_pos hc83_71]
            rw [q_v89_13] at K89_14
            exact K89_14 _ _ X7 N7 e7
          · refine own_step (U' := T7.setTop (mkF m 89 #[rv r0, iv (0 : Int32), iv (4 : Int32), rv gb, iv (1 : Int32), iv v41_6, iv (0 : Int32), iv w0] [])) (fun t k => XS.icmpNo X7.here hx rfl (hb hby d9_83) rfl (feq hc83_71).1 (XS.iinc X7.here hx rfl (hb hby d9_86) rfl (l' := #[rv r0, iv (0 : Int32), iv (4 : Int32), rv gb, iv (1 : Int32), iv v41_6, iv (0 : Int32), iv w0]) rfl k)) ?_
            have q_v89_13 : v89_13 = (1 : Int32) := by rw [hv89_13, if_neg hc62_68, if_neg hc69_69, if_pos hc76_70, if_neg hc83_71]
            rw [q_v89_13] at K89_14
            exact K89_14 _ _ X7 N7 e7
        · refine own_step (U' := T7.setTop (mkF m 89 #[rv r0, iv (0 : Int32), iv (4 : Int32), rv gb, iv (0 : Int32), iv v41_6, iv (0 : Int32), iv w0] [])) (fun t k => XS.icmpYes X7.here hx rfl (pc0 := 76) (pc' := 89) rfl (hb hby d9_76) rfl (feq hc76_70).2 (by decide) (by decide) k) ?_
          have q_v89_13 : v89_13 = (0 : Int32) := by rw [hv89_13, if_neg hc62_68, if_neg hc69_69, if_neg hc76_70]
          rw [q_v89_13] at K89_14
          exact K89_14 _ _ X7 N7 e7
  by_cases hc32_72 : wr = (0 : Int32)
  · refine own_step (U' := T4.setTop (mkF m 41 #[rv r0, iv (0 : Int32), iv (4 : Int32), rv gb, iv (0 : Int32), .unset, .unset, .unset] [(.int (0 : Int32))])) (fun t k => XS.ifYes X4.here hx rfl (pc0 := 32) (pc' := 40) rfl (hb hby d9_32) rfl ((if0 _ _).trans (teq hc32_72).1) (by decide) (by decide) (XS.iconst X4.here hx rfl (hb hby d9_40) k)) ?_
    have q_v41_6 : v41_6 = (0 : Int32) := by rw [hv41_6, if_pos hc32_72]
    rw [q_v41_6] at K41_7
    exact K41_7 _ _ X4 N0 e4
  · refine own_step (U' := T4.setTop (mkF m 41 #[rv r0, iv (0 : Int32), iv (4 : Int32), rv gb, iv (0 : Int32), .unset, .unset, .unset] [(.int (13 : Int32))])) (fun t k => XS.ifNo X4.here hx rfl (hb hby d9_32) rfl ((if0 _ _).trans (feq hc32_72).1) (XS.bipush X4.here hx rfl (hb hby d9_35) (XS.goto X4.here hx rfl (pc0 := 37) (pc' := 41) rfl (hb hby d9_37) (by decide) (by decide) k))) ?_
    have q_v41_6 : v41_6 = (13 : Int32) := by rw [hv41_6, if_neg hc32_72]
    rw [q_v41_6] at K41_7
    exact K41_7 _ _ X4 N0 e4
theorem ef_9c1p4 (m : MethodId) (r0 : Addr) : entryFrame m #[(.ref r0)] 8 = mkF m 0 #[rv r0, .unset, .unset, .unset, .unset, .unset, .unset, .unset] [] := by first | (simp [entryFrame, mkF, argsToLocals, Value.category]; done) | rfl
def F9c1p4 (wl : Int32) (wr : Int32) (w0 : Int32) (w1 : Int32) (w2 : Int32) (w3 : Int32) : Int32 :=
  let v41_6 : Int32 := (if wr = (0 : Int32) then (0 : Int32) else (13 : Int32))
  let v89_13 : Int32 := (if (13 : Int32) < w1 then (0 : Int32) else (if w1 = (13 : Int32) then (1 : Int32) else (if w1 = (10 : Int32) then (if v41_6 = (13 : Int32) then (0 : Int32) else (1 : Int32)) else (0 : Int32))))
  let v89_20 : Int32 := (if (13 : Int32) < w2 then v89_13 else (if w2 = (13 : Int32) then (v89_13 + (1 : Int32)) else (if w2 = (10 : Int32) then (if w1 = (13 : Int32) then v89_13 else (v89_13 + (1 : Int32))) else v89_13)))
  let v89_27 : Int32 := (if (13 : Int32) < w3 then v89_20 else (if w3 = (13 : Int32) then (v89_20 + (1 : Int32)) else (if w3 = (10 : Int32) then (if w2 = (13 : Int32) then v89_20 else (v89_20 + (1 : Int32))) else v89_20)))
  let v126_33 : Int32 := (if w3 = (13 : Int32) then (1 : Int32) else (0 : Int32))
  let v152_40 : Int32 := (if (nar .boolean v126_33) = (0 : Int32) then (if w3 = (10 : Int32) then (1 : Int32) else (0 : Int32)) else (1 : Int32))
  (wl + v89_27)
def Q9c1p4 (Z : State) (r0 : Addr) (gb : Addr) (wl : Int32) (wr : Int32) (w0 : Int32) (w1 : Int32) (w2 : Int32) (w3 : Int32) (k_gb : ClassId) (h0 : Heap) (n0 : Nat) (v : Option Value) (h : Heap) (L : List Loc) : Prop := v = some (.int (F9c1p4 wl wr w0 w1 w2 w3)) ∧ Fr n0 L ∧ Keep h0 h [r0] ∧ Exa Z h r0 own_XC ∧ Fld Z h r0 own_XC "bytes" "[B" (.ref gb) ∧ Fld Z h r0 own_XC "position" "I" (.int (4 : Int32)) ∧ Fld Z h r0 own_XC "line" "I" (.int (F9c1p4 wl wr w0 w1 w2 w3)) ∧ Fld Z h r0 own_XC "counted" "I" (.int (4 : Int32)) ∧ Fld Z h r0 own_XC "afterCarriageReturn" "Z" (.int (nar .boolean (if w3 = (13 : Int32) then (1 : Int32) else (0 : Int32))))
set_option maxRecDepth 65536 in
set_option maxHeartbeats 40000000 in
theorem rm9c1p4 (l : Launch) (Z : State) (a0 : Array Value) (hw : ∀ d ∈ tables_1, d.before a0 Z = true) (ws : List Jvm.Cond) (r0 : Addr) (gb : Addr) (wl : Int32) (wr : Int32) (w0 : Int32) (w1 : Int32) (w2 : Int32) (w3 : Int32) (k_gb : ClassId) (h0 : Heap) (n0 : Nat) (Z0 : n0 ≤ h0.size) (E_r0 : Exa Z h0 r0 own_XC) (F_bytes_r0 : Fld Z h0 r0 own_XC "bytes" "[B" (.ref gb)) (F_position_r0 : Fld Z h0 r0 own_XC "position" "I" (.int (4 : Int32))) (F_line_r0 : Fld Z h0 r0 own_XC "line" "I" (.int wl)) (F_counted_r0 : Fld Z h0 r0 own_XC "counted" "I" (.int (1 : Int32))) (F_afterCarriageReturn_r0 : Fld Z h0 r0 own_XC "afterCarriageReturn" "Z" (.int wr)) (g_r0 : n0 ≤ r0) (V_gb : Arv Z h0 gb k_gb .byte (65536 : Int32) [(.int w0), (.int w1), (.int w2), (.int w3)] (.int (0 : Int32))) (hne : gb ≠ r0) :
    MetFree l (⟨own_XC, "line", "()I"⟩ : MethodName) (head1 (Jvm.Cond.code (⟨own_XC, "line", "()I"⟩ : MethodName) prog_148_method_16_code 8 (some .int) :: ws) ({ frames := 0, cells := 0, slots := 0, locals := 0 } : Room)) (fun a U => a = #[(.ref r0)] ∧ Z.Warmed39 U.vm ∧ U.heap = h0) (fun _ _ _ _ _ => True) (fun _ U o U' => ∃ v L, o = .returned v ∧ Q9c1p4 Z r0 gb wl wr w0 w1 w2 w3 k_gb h0 n0 v U'.heap L ∧ FrameEnd U o U' L ({ frames := 0, cells := 0, slots := 0, locals := 0 } : Room).cells ({ frames := 0, cells := 0, slots := 0, locals := 0 } : Room).slots) := by
  refine MetFree.of_bodySF (plainFor_of_name pn_9) hisR ?_
  intro p e s m args below meth c s₁ Bd hml0 hP hK
  obtain ⟨rfl, hZ, hh⟩ := hP
  have hx := Bd.exec
  have hby := Bd.bytes
  have hml : c.maxLocals = 8 := hml0
  have hown : s.vm.findClass own_XC = some m.cls := findClass_of_methodNamed Bd.named
  have hnm := (name_of_methodNamed Bd.named Bd.method).1
  have hlk : meth.locks = false := Bd.notSynchronized
  have X0 : Stand p l e ({ frames := 0, cells := 0, slots := 0, locals := 0 } : Room) s m #[(.ref r0)] below meth c s₁ [] 0 0 := Stand.of_body Bd
  have e0 : s₁.heap = h0 := by rw [← hh, Bd.state]; rfl
  have N0 := Fr.nil n0
  have KK0 := Keep.refl h0 [r0]
  show own_Go p.tables e below s 0 0 (Q9c1p4 Z r0 gb wl wr w0 w1 w2 w3 k_gb h0 n0) (s₁.setTop (entryFrame m #[(.ref r0)] 8))
  rw [ef_9c1p4]
  refine own_step (U' := s₁.setTop (mkF m 1 #[rv r0, .unset, .unset, .unset, .unset, .unset, .unset, .unset] [(.ref r0)])) (fun t k => XS.aloadN X0.here hx rfl (hb hby d9_0) rfl rfl k) ?_
  obtain ⟨T1, X1, e1, st1⟩ := getF X0 hx hZ hown (host := "") (Or.inl (own_w hw 73 rfl)) Via.refl e0 F_counted_r0 (g := (mkF m 1 #[rv r0, .unset, .unset, .unset, .unset, .unset, .unset, .unset] [(.ref r0)])) rfl rfl (hb hby d9_1)
  refine own_step (U' := T1.setTop (mkF m 4 #[rv r0, .unset, .unset, .unset, .unset, .unset, .unset, .unset] [(.int (1 : Int32))])) st1 ?_
  refine own_step (U' := T1.setTop (mkF m 6 #[rv r0, iv (1 : Int32), .unset, .unset, .unset, .unset, .unset, .unset] [(.ref r0)])) (fun t k => XS.istoreN X1.here hx rfl (hb hby d9_4) rfl (l' := #[rv r0, iv (1 : Int32), .unset, .unset, .unset, .unset, .unset, .unset]) rfl (XS.aloadN X1.here hx rfl (hb hby d9_5) rfl rfl k)) ?_
  obtain ⟨T2, X2, e2, st2⟩ := getF X1 hx hZ hown (host := "") (Or.inl (own_w hw 57 rfl)) Via.refl e1 F_position_r0 (g := (mkF m 6 #[rv r0, iv (1 : Int32), .unset, .unset, .unset, .unset, .unset, .unset] [(.ref r0)])) rfl rfl (hb hby d9_6)
  refine own_step (U' := T2.setTop (mkF m 9 #[rv r0, iv (1 : Int32), .unset, .unset, .unset, .unset, .unset, .unset] [(.int (4 : Int32))])) st2 ?_
  refine own_step (U' := T2.setTop (mkF m 21 #[rv r0, iv (1 : Int32), iv (4 : Int32), .unset, .unset, .unset, .unset, .unset] [(.ref r0)])) (fun t k => XS.istoreN X2.here hx rfl (hb hby d9_9) rfl (l' := #[rv r0, iv (1 : Int32), iv (4 : Int32), .unset, .unset, .unset, .unset, .unset]) rfl (XS.iloadN X2.here hx rfl (hb hby d9_10) rfl (XS.iloadN X2.here hx rfl (hb hby d9_11) rfl (XS.icmpYes X2.here hx rfl (pc0 := 12) (pc' := 20) rfl (hb hby d9_12) rfl (by decide) (by decide) (by decide) (XS.aloadN X2.here hx rfl (hb hby d9_20) rfl rfl k))))) ?_
  obtain ⟨T3, X3, e3, st3⟩ := getF X2 hx hZ hown (host := "") (Or.inl (own_w hw 40 rfl)) Via.refl e2 F_bytes_r0 (g := (mkF m 21 #[rv r0, iv (1 : Int32), iv (4 : Int32), .unset, .unset, .unset, .unset, .unset] [(.ref r0)])) rfl rfl (hb hby d9_21)
  refine own_step (U' := T3.setTop (mkF m 24 #[rv r0, iv (1 : Int32), iv (4 : Int32), .unset, .unset, .unset, .unset, .unset] [(.ref gb)])) st3 ?_
  refine own_step (U' := T3.setTop (mkF m 29 #[rv r0, iv (1 : Int32), iv (4 : Int32), rv gb, iv (0 : Int32), .unset, .unset, .unset] [(.ref r0)])) (fun t k => XS.astoreN X3.here hx rfl (hb hby d9_24) rfl rfl (l' := #[rv r0, iv (1 : Int32), iv (4 : Int32), rv gb, .unset, .unset, .unset, .unset]) rfl (XS.iconst X3.here hx rfl (hb hby d9_25) (XS.istore X3.here hx rfl (hb hby d9_26) rfl (l' := #[rv r0, iv (1 : Int32), iv (4 : Int32), rv gb, iv (0 : Int32), .unset, .unset, .unset]) rfl (XS.aloadN X3.here hx rfl (hb hby d9_28) rfl rfl k)))) ?_
  obtain ⟨T4, X4, e4, st4⟩ := getF X3 hx hZ hown (host := "") (Or.inl (own_w hw 75 rfl)) Via.refl e3 F_afterCarriageReturn_r0 (g := (mkF m 29 #[rv r0, iv (1 : Int32), iv (4 : Int32), rv gb, iv (0 : Int32), .unset, .unset, .unset] [(.ref r0)])) rfl rfl (hb hby d9_29)
  refine own_step (U' := T4.setTop (mkF m 32 #[rv r0, iv (1 : Int32), iv (4 : Int32), rv gb, iv (0 : Int32), .unset, .unset, .unset] [(.int wr)])) st4 ?_
  obtain ⟨v41_6, hv41_6⟩ : ∃ v : Int32, v = (if wr = (0 : Int32) then (0 : Int32) else (13 : Int32)) := ⟨_, rfl⟩
  have K41_7 : ∀ (T' : State) (locs' : List Loc) (X' : Stand p l e ({ frames := 0, cells := 0, slots := 0, locals := 0 } : Room) s m #[(.ref r0)] below meth c T' locs' 0 0) (N' : Fr n0 locs') (e' : T'.heap = h0), own_Go p.tables e below s 0 0 (Q9c1p4 Z r0 gb wl wr w0 w1 w2 w3 k_gb h0 n0) (T'.setTop (mkF m 41 #[rv r0, iv (1 : Int32), iv (4 : Int32), rv gb, iv (0 : Int32), .unset, .unset, .unset] [(.int v41_6)])) := by
    intro T7 L7 X7 N7 e7
    refine own_step (U' := T7.setTop (mkF m 55 #[rv r0, iv (1 : Int32), iv (4 : Int32), rv gb, iv (0 : Int32), iv v41_6, iv (1 : Int32), .unset] [(.int (1 : Int32)), (.ref gb)])) (fun t k => XS.istore X7.here hx rfl (hb hby d9_41) rfl (l' := #[rv r0, iv (1 : Int32), iv (4 : Int32), rv gb, iv (0 : Int32), iv v41_6, .unset, .unset]) rfl (XS.iloadN X7.here hx rfl (hb hby d9_43) rfl (XS.istore X7.here hx rfl (hb hby d9_44) rfl (l' := #[rv r0, iv (1 : Int32), iv (4 : Int32), rv gb, iv (0 : Int32), iv v41_6, iv (1 : Int32), .unset]) rfl (XS.iload X7.here hx rfl (hb hby d9_46) rfl (XS.iloadN X7.here hx rfl (hb hby d9_48) rfl (XS.icmpNo X7.here hx rfl (hb hby d9_49) rfl (by decide) (XS.aloadN X7.here hx rfl (hb hby d9_52) rfl rfl (XS.iload X7.here hx rfl (hb hby d9_53) rfl k)))))))) ?_
    obtain ⟨cl8, Ar8, aq8, aS8, aN8, aH8, aG8⟩ := id V_gb
    have hin8 : ¬ ((1 : Int32) < 0 ∨ cl8.slots.size ≤ ((1 : Int32)).toNatClampNeg) := inb_of aS8 ⟨by decide, by decide⟩
    have hat8 : cl8.slots[((1 : Int32)).toNatClampNeg]? = some (.int w1) := aH8.at hin8 rfl
    refine own_step (U' := T7.setTop (mkF m 62 #[rv r0, iv (1 : Int32), iv (4 : Int32), rv gb, iv (0 : Int32), iv v41_6, iv (1 : Int32), iv w1] [(.int (13 : Int32)), (.int w1)])) (fun t k => X7.baloadBytes hx (j := (1 : Int32)) (v := (.int w1)) (by rw [e7]; exact Ar8.1) (State.isArrayOf_alike hZ.alike Ar8.2.1) Ar8.2.2 hin8 hat8 (g := (mkF m 55 #[rv r0, iv (1 : Int32), iv (4 : Int32), rv gb, iv (0 : Int32), iv v41_6, iv (1 : Int32), .unset] [(.int (1 : Int32)), (.ref gb)])) rfl rfl (hb hby d9_55) t (XS.istore X7.here hx rfl (hb hby d9_56) rfl (l' := #[rv r0, iv (1 : Int32), iv (4 : Int32), rv gb, iv (0 : Int32), iv v41_6, iv (1 : Int32), iv w1]) rfl (XS.iload X7.here hx rfl (hb hby d9_58) rfl (XS.bipush X7.here hx rfl (hb hby d9_60) k)))) ?_
    obtain ⟨v89_13, hv89_13⟩ : ∃ v : Int32, v = (if (13 : Int32) < w1 then (0 : Int32) else (if w1 = (13 : Int32) then (1 : Int32) else (if w1 = (10 : Int32) then (if v41_6 = (13 : Int32) then (0 : Int32) else (1 : Int32)) else (0 : Int32)))) := ⟨_, rfl⟩
    have K89_14 : ∀ (T' : State) (locs' : List Loc) (X' : Stand p l e ({ frames := 0, cells := 0, slots := 0, locals := 0 } : Room) s m #[(.ref r0)] below meth c T' locs' 0 0) (N' : Fr n0 locs') (e' : T'.heap = h0), own_Go p.tables e below s 0 0 (Q9c1p4 Z r0 gb wl wr w0 w1 w2 w3 k_gb h0 n0) (T'.setTop (mkF m 89 #[rv r0, iv (1 : Int32), iv (4 : Int32), rv gb, iv v89_13, iv v41_6, iv (1 : Int32), iv w1] [])) := by
      intro T14 L14 X14 N14 e14
      refine own_step (U' := T14.setTop (mkF m 53 #[rv r0, iv (1 : Int32), iv (4 : Int32), rv gb, iv v89_13, iv w1, iv (2 : Int32), iv w1] [(.ref gb)])) (fun t k => XS.iload X14.here hx rfl (hb hby d9_89) rfl (XS.istore X14.here hx rfl (hb hby d9_91) rfl (l' := #[rv r0, iv (1 : Int32), iv (4 : Int32), rv gb, iv v89_13, iv w1, iv (1 : Int32), iv w1]) rfl (XS.iinc X14.here hx rfl (hb hby d9_93) rfl (l' := #[rv r0, iv (1 : Int32), iv (4 : Int32), rv gb, iv v89_13, iv w1, iv (2 : Int32), iv w1]) rfl (XS.goto X14.here hx rfl (pc0 := 96) (pc' := 46) rfl (hb hby d9_96) (by decide) (by decide) (XS.iload X14.here hx rfl (hb hby d9_46) rfl (XS.iloadN X14.here hx rfl (hb hby d9_48) rfl (XS.icmpNo X14.here hx rfl (hb hby d9_49) rfl (by decide) (XS.aloadN X14.here hx rfl (hb hby d9_52) rfl rfl k)))))))) ?_
      refine own_step (U' := T14.setTop (mkF m 55 #[rv r0, iv (1 : Int32), iv (4 : Int32), rv gb, iv v89_13, iv w1, iv (2 : Int32), iv w1] [(.int (2 : Int32)), (.ref gb)])) (fun t k => XS.iload X14.here hx rfl (hb hby d9_53) rfl k) ?_
      obtain ⟨cl15, Ar15, aq15, aS15, aN15, aH15, aG15⟩ := id V_gb
      have hin15 : ¬ ((2 : Int32) < 0 ∨ cl15.slots.size ≤ ((2 : Int32)).toNatClampNeg) := inb_of aS15 ⟨by decide, by decide⟩
      have hat15 : cl15.slots[((2 : Int32)).toNatClampNeg]? = some (.int w2) := aH15.at hin15 rfl
      refine own_step (U' := T14.setTop (mkF m 62 #[rv r0, iv (1 : Int32), iv (4 : Int32), rv gb, iv v89_13, iv w1, iv (2 : Int32), iv w2] [(.int (13 : Int32)), (.int w2)])) (fun t k => X14.baloadBytes hx (j := (2 : Int32)) (v := (.int w2)) (by rw [e14]; exact Ar15.1) (State.isArrayOf_alike hZ.alike Ar15.2.1) Ar15.2.2 hin15 hat15 (g := (mkF m 55 #[rv r0, iv (1 : Int32), iv (4 : Int32), rv gb, iv v89_13, iv w1, iv (2 : Int32), iv w1] [(.int (2 : Int32)), (.ref gb)])) rfl rfl (hb hby d9_55) t (XS.istore X14.here hx rfl (hb hby d9_56) rfl (l' := #[rv r0, iv (1 : Int32), iv (4 : Int32), rv gb, iv v89_13, iv w1, iv (2 : Int32), iv w2]) rfl (XS.iload X14.here hx rfl (hb hby d9_58) rfl (XS.bipush X14.here hx rfl (hb hby d9_60) k)))) ?_
      obtain ⟨v89_20, hv89_20⟩ : ∃ v : Int32, v = (if (13 : Int32) < w2 then v89_13 else (if w2 = (13 : Int32) then (v89_13 + (1 : Int32)) else (if w2 = (10 : Int32) then (if w1 = (13 : Int32) then v89_13 else (v89_13 + (1 : Int32))) else v89_13))) := ⟨_, rfl⟩
      have K89_21 : ∀ (T' : State) (locs' : List Loc) (X' : Stand p l e ({ frames := 0, cells := 0, slots := 0, locals := 0 } : Room) s m #[(.ref r0)] below meth c T' locs' 0 0) (N' : Fr n0 locs') (e' : T'.heap = h0), own_Go p.tables e below s 0 0 (Q9c1p4 Z r0 gb wl wr w0 w1 w2 w3 k_gb h0 n0) (T'.setTop (mkF m 89 #[rv r0, iv (1 : Int32), iv (4 : Int32), rv gb, iv v89_20, iv w1, iv (2 : Int32), iv w2] [])) := by
        intro T21 L21 X21 N21 e21
        refine own_step (U' := T21.setTop (mkF m 53 #[rv r0, iv (1 : Int32), iv (4 : Int32), rv gb, iv v89_20, iv w2, iv (3 : Int32), iv w2] [(.ref gb)])) (fun t k => XS.iload X21.here hx rfl (hb hby d9_89) rfl (XS.istore X21.here hx rfl (hb hby d9_91) rfl (l' := #[rv r0, iv (1 : Int32), iv (4 : Int32), rv gb, iv v89_20, iv w2, iv (2 : Int32), iv w2]) rfl (XS.iinc X21.here hx rfl (hb hby d9_93) rfl (l' := #[rv r0, iv (1 : Int32), iv (4 : Int32), rv gb, iv v89_20, iv w2, iv (3 : Int32), iv w2]) rfl (XS.goto X21.here hx rfl (pc0 := 96) (pc' := 46) rfl (hb hby d9_96) (by decide) (by decide) (XS.iload X21.here hx rfl (hb hby d9_46) rfl (XS.iloadN X21.here hx rfl (hb hby d9_48) rfl (XS.icmpNo X21.here hx rfl (hb hby d9_49) rfl (by decide) (XS.aloadN X21.here hx rfl (hb hby d9_52) rfl rfl k)))))))) ?_
        refine own_step (U' := T21.setTop (mkF m 55 #[rv r0, iv (1 : Int32), iv (4 : Int32), rv gb, iv v89_20, iv w2, iv (3 : Int32), iv w2] [(.int (3 : Int32)), (.ref gb)])) (fun t k => XS.iload X21.here hx rfl (hb hby d9_53) rfl k) ?_
        obtain ⟨cl22, Ar22, aq22, aS22, aN22, aH22, aG22⟩ := id V_gb
        have hin22 : ¬ ((3 : Int32) < 0 ∨ cl22.slots.size ≤ ((3 : Int32)).toNatClampNeg) := inb_of aS22 ⟨by decide, by decide⟩
        have hat22 : cl22.slots[((3 : Int32)).toNatClampNeg]? = some (.int w3) := aH22.at hin22 rfl
        refine own_step (U' := T21.setTop (mkF m 62 #[rv r0, iv (1 : Int32), iv (4 : Int32), rv gb, iv v89_20, iv w2, iv (3 : Int32), iv w3] [(.int (13 : Int32)), (.int w3)])) (fun t k => X21.baloadBytes hx (j := (3 : Int32)) (v := (.int w3)) (by rw [e21]; exact Ar22.1) (State.isArrayOf_alike hZ.alike Ar22.2.1) Ar22.2.2 hin22 hat22 (g := (mkF m 55 #[rv r0, iv (1 : Int32), iv (4 : Int32), rv gb, iv v89_20, iv w2, iv (3 : Int32), iv w2] [(.int (3 : Int32)), (.ref gb)])) rfl rfl (hb hby d9_55) t (XS.istore X21.here hx rfl (hb hby d9_56) rfl (l' := #[rv r0, iv (1 : Int32), iv (4 : Int32), rv gb, iv v89_20, iv w2, iv (3 : Int32), iv w3]) rfl (XS.iload X21.here hx rfl (hb hby d9_58) rfl (XS.bipush X21.here hx rfl (hb hby d9_60) k)))) ?_
        obtain ⟨v89_27, hv89_27⟩ : ∃ v : Int32, v = (if (13 : Int32) < w3 then v89_20 else (if w3 = (13 : Int32) then (v89_20 + (1 : Int32)) else (if w3 = (10 : Int32) then (if w2 = (13 : Int32) then v89_20 else (v89_20 + (1 : Int32))) else v89_20))) := ⟨_, rfl⟩
        have K89_28 : ∀ (T' : State) (locs' : List Loc) (X' : Stand p l e ({ frames := 0, cells := 0, slots := 0, locals := 0 } : Room) s m #[(.ref r0)] below meth c T' locs' 0 0) (N' : Fr n0 locs') (e' : T'.heap = h0), own_Go p.tables e below s 0 0 (Q9c1p4 Z r0 gb wl wr w0 w1 w2 w3 k_gb h0 n0) (T'.setTop (mkF m 89 #[rv r0, iv (1 : Int32), iv (4 : Int32), rv gb, iv v89_27, iv w2, iv (3 : Int32), iv w3] [])) := by
          intro T28 L28 X28 N28 e28
          refine own_step (U' := T28.setTop (mkF m 100 #[rv r0, iv (1 : Int32), iv (4 : Int32), rv gb, iv v89_27, iv w3, iv (4 : Int32), iv w3] [(.ref r0)])) (fun t k => XS.iload X28.here hx rfl (hb hby d9_89) rfl (XS.istore X28.here hx rfl (hb hby d9_91) rfl (l' := #[rv r0, iv (1 : Int32), iv (4 : Int32), rv gb, iv v89_27, iv w3, iv (3 : Int32), iv w3]) rfl (XS.iinc X28.here hx rfl (hb hby d9_93) rfl (l' := #[rv r0, iv (1 : Int32), iv (4 : Int32), rv gb, iv v89_27, iv w3, iv (4 : Int32), iv w3]) rfl (XS.goto X28.here hx rfl (pc0 := 96) (pc' := 46) rfl (hb hby d9_96) (by decide) (by decide) (XS.iload X28.here hx rfl (hb hby d9_46) rfl (XS.iloadN X28.here hx rfl (hb hby d9_48) rfl (XS.icmpYes X28.here hx rfl (pc0 := 49) (pc' := 99) rfl (hb hby d9_49) rfl (by decide) (by decide) (by decide) (XS.aloadN X28.here hx rfl (hb hby d9_99) rfl rfl k)))))))) ?_
          refine own_step (U' := T28.setTop (mkF m 101 #[rv r0, iv (1 : Int32), iv (4 : Int32), rv gb, iv v89_27, iv w3, iv (4 : Int32), iv w3] [(.ref r0), (.ref r0)])) (fun t k => XS.dup X28.here hx rfl (hb hby d9_100) rfl rfl k) ?_
          obtain ⟨T29, X29, e29, st29⟩ := getF X28 hx hZ hown (host := "") (Or.inl (own_w hw 71 rfl)) Via.refl e28 F_line_r0 (g := (mkF m 101 #[rv r0, iv (1 : Int32), iv (4 : Int32), rv gb, iv v89_27, iv w3, iv (4 : Int32), iv w3] [(.ref r0), (.ref r0)])) rfl rfl (hb hby d9_101)
          refine own_step (U' := T29.setTop (mkF m 104 #[rv r0, iv (1 : Int32), iv (4 : Int32), rv gb, iv v89_27, iv w3, iv (4 : Int32), iv w3] [(.int wl), (.ref r0)])) st29 ?_
          refine own_step (U' := T29.setTop (mkF m 107 #[rv r0, iv (1 : Int32), iv (4 : Int32), rv gb, iv v89_27, iv w3, iv (4 : Int32), iv w3] [(.int (wl + v89_27)), (.ref r0)])) (fun t k => XS.iload X29.here hx rfl (hb hby d9_104) rfl (XS.iadd X29.here hx rfl (hb hby d9_106) rfl k)) ?_
          obtain ⟨T30, h30, X30, e30, W30, st30⟩ := putF X29 hx hZ hown (host := "") (Or.inl (own_w hw 71 rfl)) Via.refl e29 F_line_r0 E_r0 (Or.inl (own_w hw 72 rfl)) (own_w hw 11 rfl) (ty := .int) (by decide) rfl rfl (g := (mkF m 107 #[rv r0, iv (1 : Int32), iv (4 : Int32), rv gb, iv v89_27, iv w3, iv (4 : Int32), iv w3] [(.int (wl + v89_27)), (.ref r0)])) rfl rfl (hb hby d9_107)
          have E_r0_30 := E_r0.wr W30
          have F_bytes_r0_30 := F_bytes_r0.other W30 (Or.inr (slot_ne (Or.inl (own_w hw 41 rfl)) (Or.inl (own_w hw 72 rfl)) (by decide) (t := (.array .byte)) (t' := .int) (by decide) (by decide)))
          have F_position_r0_30 := F_position_r0.other W30 (Or.inr (slot_ne (Or.inl (own_w hw 58 rfl)) (Or.inl (own_w hw 72 rfl)) (by decide) (t := .int) (t' := .int) (by decide) (by decide)))
          have F_counted_r0_30 := F_counted_r0.other W30 (Or.inr (slot_ne (Or.inl (own_w hw 74 rfl)) (Or.inl (own_w hw 72 rfl)) (by decide) (t := .int) (t' := .int) (by decide) (by decide)))
          have F_afterCarriageReturn_r0_30 := F_afterCarriageReturn_r0.other W30 (Or.inr (slot_ne (Or.inl (own_w hw 76 rfl)) (Or.inl (own_w hw 72 rfl)) (by decide) (t := .boolean) (t' := .int) (by decide) (by decide)))
          have V_gb_30 := V_gb.other W30 hne
          have F_line_r0_30 := F_line_r0.same W30
          have Z30 : n0 ≤ h30.size := Nat.le_trans Z0 (Keep.of_wr W30).1
          have KK30 := KK0.wr W30 (Or.inl (List.mem_of_getElem? (i := 0) rfl))
          have N30 := Fr.snoc X30 N28 g_r0
          refine own_step (U' := T30.setTop (mkF m 110 #[rv r0, iv (1 : Int32), iv (4 : Int32), rv gb, iv v89_27, iv w3, iv (4 : Int32), iv w3] [])) st30 ?_
          refine own_step (U' := T30.setTop (mkF m 115 #[rv r0, iv (1 : Int32), iv (4 : Int32), rv gb, iv v89_27, iv w3, iv (4 : Int32), iv w3] [(.int (3 : Int32)), (.ref gb), (.ref r0)])) (fun t k => XS.aloadN X30.here hx rfl (hb hby d9_110) rfl rfl (XS.aloadN X30.here hx rfl (hb hby d9_111) rfl rfl (XS.iloadN X30.here hx rfl (hb hby d9_112) rfl (XS.iconst X30.here hx rfl (hb hby d9_113) (XS.isub X30.here hx rfl (hb hby d9_114) rfl k))))) ?_
          obtain ⟨cl31, Ar31, aq31, aS31, aN31, aH31, aG31⟩ := id V_gb_30
          have hin31 : ¬ ((3 : Int32) < 0 ∨ cl31.slots.size ≤ ((3 : Int32)).toNatClampNeg) := inb_of aS31 ⟨by decide, by decide⟩
          have hat31 : cl31.slots[((3 : Int32)).toNatClampNeg]? = some (.int w3) := aH31.at hin31 rfl
          refine own_step (U' := T30.setTop (mkF m 118 #[rv r0, iv (1 : Int32), iv (4 : Int32), rv gb, iv v89_27, iv w3, iv (4 : Int32), iv w3] [(.int (13 : Int32)), (.int w3), (.ref r0)])) (fun t k => X30.baloadBytes hx (j := (3 : Int32)) (v := (.int w3)) (by rw [e30]; exact Ar31.1) (State.isArrayOf_alike hZ.alike Ar31.2.1) Ar31.2.2 hin31 hat31 (g := (mkF m 115 #[rv r0, iv (1 : Int32), iv (4 : Int32), rv gb, iv v89_27, iv w3, iv (4 : Int32), iv w3] [(.int (3 : Int32)), (.ref gb), (.ref r0)])) rfl rfl (hb hby d9_115) t (XS.bipush X30.here hx rfl (hb hby d9_116) k)) ?_
          obtain ⟨v126_33, hv126_33⟩ : ∃ v : Int32, v = (if w3 = (13 : Int32) then (1 : Int32) else (0 : Int32)) := ⟨_, rfl⟩
          have K126_34 : ∀ (T' : State) (locs' : List Loc) (X' : Stand p l e ({ frames := 0, cells := 0, slots := 0, locals := 0 } : Room) s m #[(.ref r0)] below meth c T' locs' 0 0) (N' : Fr n0 locs') (e' : T'.heap = h30), own_Go p.tables e below s 0 0 (Q9c1p4 Z r0 gb wl wr w0 w1 w2 w3 k_gb h0 n0) (T'.setTop (mkF m 126 #[rv r0, iv (1 : Int32), iv (4 : Int32), rv gb, iv v89_27, iv w3, iv (4 : Int32), iv w3] [(.int v126_33), (.ref r0)])) := by
            intro T34 L34 X34 N34 e34
            obtain ⟨T35, h35, X35, e35, W35, st35⟩ := putFN X34 hx hZ hown (own_w hw 75 rfl) Via.refl e34 F_afterCarriageReturn_r0_30 E_r0_30 (Or.inl (own_w hw 76 rfl)) (own_w hw 11 rfl) (ty := .boolean) (v' := (.int (nar .boolean v126_33))) (by decide) rfl (fits_nar_bool _) (g := (mkF m 126 #[rv r0, iv (1 : Int32), iv (4 : Int32), rv gb, iv v89_27, iv w3, iv (4 : Int32), iv w3] [(.int v126_33), (.ref r0)])) rfl rfl (hb hby d9_126)
            have E_r0_35 := E_r0_30.wr W35
            have F_bytes_r0_35 := F_bytes_r0_30.other W35 (Or.inr (slot_ne (Or.inl (own_w hw 41 rfl)) (Or.inl (own_w hw 76 rfl)) (by decide) (t := (.array .byte)) (t' := .boolean) (by decide) (by decide)))
            have F_position_r0_35 := F_position_r0_30.other W35 (Or.inr (slot_ne (Or.inl (own_w hw 58 rfl)) (Or.inl (own_w hw 76 rfl)) (by decide) (t := .int) (t' := .boolean) (by decide) (by decide)))
            have F_line_r0_35 := F_line_r0_30.other W35 (Or.inr (slot_ne (Or.inl (own_w hw 72 rfl)) (Or.inl (own_w hw 76 rfl)) (by decide) (t := .int) (t' := .boolean) (by decide) (by decide)))
            have F_counted_r0_35 := F_counted_r0_30.other W35 (Or.inr (slot_ne (Or.inl (own_w hw 74 rfl)) (Or.inl (own_w hw 76 rfl)) (by decide) (t := .int) (t' := .boolean) (by decide) (by decide)))
            have V_gb_35 := V_gb_30.other W35 hne
            have F_afterCarriageReturn_r0_35 := F_afterCarriageReturn_r0_30.same W35
            have Z35 : n0 ≤ h35.size := Nat.le_trans Z30 (Keep.of_wr W35).1
            have KK35 := KK30.wr W35 (Or.inl (List.mem_of_getElem? (i := 0) rfl))
            have N35 := Fr.snoc X35 N34 g_r0
            refine own_step (U' := T35.setTop (mkF m 129 #[rv r0, iv (1 : Int32), iv (4 : Int32), rv gb, iv v89_27, iv w3, iv (4 : Int32), iv w3] [])) st35 ?_
            refine own_step (U' := T35.setTop (mkF m 131 #[rv r0, iv (1 : Int32), iv (4 : Int32), rv gb, iv v89_27, iv w3, iv (4 : Int32), iv w3] [(.ref r0), (.ref r0)])) (fun t k => XS.aloadN X35.here hx rfl (hb hby d9_129) rfl rfl (XS.aloadN X35.here hx rfl (hb hby d9_130) rfl rfl k)) ?_
            obtain ⟨T36, X36, e36, st36⟩ := getF X35 hx hZ hown (host := "") (Or.inl (own_w hw 75 rfl)) Via.refl e35 F_afterCarriageReturn_r0_35 (g := (mkF m 131 #[rv r0, iv (1 : Int32), iv (4 : Int32), rv gb, iv v89_27, iv w3, iv (4 : Int32), iv w3] [(.ref r0), (.ref r0)])) rfl rfl (hb hby d9_131)
            refine own_step (U' := T36.setTop (mkF m 134 #[rv r0, iv (1 : Int32), iv (4 : Int32), rv gb, iv v89_27, iv w3, iv (4 : Int32), iv w3] [(.int (nar .boolean v126_33)), (.ref r0)])) st36 ?_
            obtain ⟨v152_40, hv152_40⟩ : ∃ v : Int32, v = (if (nar .boolean v126_33) = (0 : Int32) then (if w3 = (10 : Int32) then (1 : Int32) else (0 : Int32)) else (1 : Int32)) := ⟨_, rfl⟩
            have K152_41 : ∀ (T' : State) (locs' : List Loc) (X' : Stand p l e ({ frames := 0, cells := 0, slots := 0, locals := 0 } : Room) s m #[(.ref r0)] below meth c T' locs' 0 0) (N' : Fr n0 locs') (e' : T'.heap = h35), own_Go p.tables e below s 0 0 (Q9c1p4 Z r0 gb wl wr w0 w1 w2 w3 k_gb h0 n0) (T'.setTop (mkF m 152 #[rv r0, iv (1 : Int32), iv (4 : Int32), rv gb, iv v89_27, iv w3, iv (4 : Int32), iv w3] [(.int v152_40), (.ref r0)])) := by
              intro T41 L41 X41 N41 e41
              obtain ⟨u42, Fu42⟩ := own_anyF (O := own_XC) (n := "afterLineEnd") (d := "Z") E_r0_35 F_bytes_r0_35 (own_w hw 11 rfl) (Or.inl (own_w hw 78 rfl))
              obtain ⟨T42, h42, X42, e42, W42, st42⟩ := putFN X41 hx hZ hown (own_w hw 77 rfl) Via.refl e41 Fu42 E_r0_35 (Or.inl (own_w hw 78 rfl)) (own_w hw 11 rfl) (ty := .boolean) (v' := (.int (nar .boolean v152_40))) (by decide) rfl (fits_nar_bool _) (g := (mkF m 152 #[rv r0, iv (1 : Int32), iv (4 : Int32), rv gb, iv v89_27, iv w3, iv (4 : Int32), iv w3] [(.int v152_40), (.ref r0)])) rfl rfl (hb hby d9_152)
              have E_r0_42 := E_r0_35.wr W42
              have F_bytes_r0_42 := F_bytes_r0_35.other W42 (Or.inr (slot_ne (Or.inl (own_w hw 41 rfl)) (Or.inl (own_w hw 78 rfl)) (by decide) (t := (.array .byte)) (t' := .boolean) (by decide) (by decide)))
              have F_position_r0_42 := F_position_r0_35.other W42 (Or.inr (slot_ne (Or.inl (own_w hw 58 rfl)) (Or.inl (own_w hw 78 rfl)) (by decide) (t := .int) (t' := .boolean) (by decide) (by decide)))
              have F_line_r0_42 := F_line_r0_35.other W42 (Or.inr (slot_ne (Or.inl (own_w hw 72 rfl)) (Or.inl (own_w hw 78 rfl)) (by decide) (t := .int) (t' := .boolean) (by decide) (by decide)))
              have F_counted_r0_42 := F_counted_r0_35.other W42 (Or.inr (slot_ne (Or.inl (own_w hw 74 rfl)) (Or.inl (own_w hw 78 rfl)) (by decide) (t := .int) (t' := .boolean) (by decide) (by decide)))
              have F_afterCarriageReturn_r0_42 := F_afterCarriageReturn_r0_35.other W42 (Or.inr (slot_ne (Or.inl (own_w hw 76 rfl)) (Or.inl (own_w hw 78 rfl)) (by decide) (t := .boolean) (t' := .boolean) (by decide) (by decide)))
              have V_gb_42 := V_gb_35.other W42 hne
              have Z42 : n0 ≤ h42.size := Nat.le_trans Z35 (Keep.of_wr W42).1
              have KK42 := KK35.wr W42 (Or.inl (List.mem_of_getElem? (i := 0) rfl))
              have N42 := Fr.snoc X42 N41 g_r0
              refine own_step (U' := T42.setTop (mkF m 155 #[rv r0, iv (1 : Int32), iv (4 : Int32), rv gb, iv v89_27, iv w3, iv (4 : Int32), iv w3] [])) st42 ?_
              refine own_step (U' := T42.setTop (mkF m 157 #[rv r0, iv (1 : Int32), iv (4 : Int32), rv gb, iv v89_27, iv w3, iv (4 : Int32), iv w3] [(.int (4 : Int32)), (.ref r0)])) (fun t k => XS.aloadN X42.here hx rfl (hb hby d9_155) rfl rfl (XS.iloadN X42.here hx rfl (hb hby d9_156) rfl k)) ?_
              obtain ⟨T43, h43, X43, e43, W43, st43⟩ := putF X42 hx hZ hown (host := "") (Or.inl (own_w hw 73 rfl)) Via.refl e42 F_counted_r0_42 E_r0_42 (Or.inl (own_w hw 74 rfl)) (own_w hw 11 rfl) (ty := .int) (by decide) rfl rfl (g := (mkF m 157 #[rv r0, iv (1 : Int32), iv (4 : Int32), rv gb, iv v89_27, iv w3, iv (4 : Int32), iv w3] [(.int (4 : Int32)), (.ref r0)])) rfl rfl (hb hby d9_157)
              have E_r0_43 := E_r0_42.wr W43
              have F_bytes_r0_43 := F_bytes_r0_42.other W43 (Or.inr (slot_ne (Or.inl (own_w hw 41 rfl)) (Or.inl (own_w hw 74 rfl)) (by decide) (t := (.array .byte)) (t' := .int) (by decide) (by decide)))
              have F_position_r0_43 := F_position_r0_42.other W43 (Or.inr (slot_ne (Or.inl (own_w hw 58 rfl)) (Or.inl (own_w hw 74 rfl)) (by decide) (t := .int) (t' := .int) (by decide) (by decide)))
              have F_line_r0_43 := F_line_r0_42.other W43 (Or.inr (slot_ne (Or.inl (own_w hw 72 rfl)) (Or.inl (own_w hw 74 rfl)) (by decide) (t := .int) (t' := .int) (by decide) (by decide)))
              have F_afterCarriageReturn_r0_43 := F_afterCarriageReturn_r0_42.other W43 (Or.inr (slot_ne (Or.inl (own_w hw 76 rfl)) (Or.inl (own_w hw 74 rfl)) (by decide) (t := .boolean) (t' := .int) (by decide) (by decide)))
              have V_gb_43 := V_gb_42.other W43 hne
              have F_counted_r0_43 := F_counted_r0_42.same W43
              have Z43 : n0 ≤ h43.size := Nat.le_trans Z42 (Keep.of_wr W43).1
              have KK43 := KK42.wr W43 (Or.inl (List.mem_of_getElem? (i := 0) rfl))
              have N43 := Fr.snoc X43 N42 g_r0
              refine own_step (U' := T43.setTop (mkF m 160 #[rv r0, iv (1 : Int32), iv (4 : Int32), rv gb, iv v89_27, iv w3, iv (4 : Int32), iv w3] [])) st43 ?_
              refine own_step (U' := T43.setTop (mkF m 161 #[rv r0, iv (1 : Int32), iv (4 : Int32), rv gb, iv v89_27, iv w3, iv (4 : Int32), iv w3] [(.ref r0)])) (fun t k => XS.aloadN X43.here hx rfl (hb hby d9_160) rfl rfl k) ?_
              obtain ⟨T44, X44, e44, st44⟩ := getF X43 hx hZ hown (host := "") (Or.inl (own_w hw 71 rfl)) Via.refl e43 F_line_r0_43 (g := (mkF m 161 #[rv r0, iv (1 : Int32), iv (4 : Int32), rv gb, iv v89_27, iv w3, iv (4 : Int32), iv w3] [(.ref r0)])) rfl rfl (hb hby d9_161)
              refine own_step (U' := T44.setTop (mkF m 164 #[rv r0, iv (1 : Int32), iv (4 : Int32), rv gb, iv v89_27, iv w3, iv (4 : Int32), iv w3] [(.int (wl + v89_27))])) st44 ?_
              exact own_out X44 (v := (some (.int (wl + v89_27)))) hlk (own_nv Bd.returns) (by rw [e44]; exact (by subst hv41_6 hv89_13 hv89_20 hv89_27 hv126_33 hv152_40; exact ⟨rfl, N43, KK43, E_r0_43, F_bytes_r0_43, F_position_r0_43, F_line_r0_43, F_counted_r0_43, F_afterCarriageReturn_r0_43⟩)) (by decide) (by decide) (fun fs hr => retI X44 hx Bd.returns (hb hby d9_164) hr)
            by_cases hc134_45 : (nar .boolean v126_33) = (0 : Int32)
            · refine own_step (U' := T36.setTop (mkF m 141 #[rv r0, iv (1 : Int32), iv (4 : Int32), rv gb, iv v89_27, iv w3, iv (4 : Int32), iv w3] [(.int (3 : Int32)), (.ref gb), (.ref r0)])) (fun t k => XS.ifNo X36.here hx rfl (hb hby d9_134) rfl ((if0 _ _).trans (teq hc134_45).2) (XS.aloadN X36.here hx rfl (hb hby d9_137) rfl rfl (XS.iloadN X36.here hx rfl (hb hby d9_138) rfl (XS.iconst X36.here hx rfl (hb hby d9_139) (XS.isub X36.here hx rfl (hb hby d9_140) rfl k))))) ?_
              obtain ⟨cl46, Ar46, aq46, aS46, aN46, aH46, aG46⟩ := id V_gb_35
              have hin46 : ¬ ((3 : Int32) < 0 ∨ cl46.slots.size ≤ ((3 : Int32)).toNatClampNeg) := inb_of aS46 ⟨by decide, by decide⟩
              have hat46 : cl46.slots[((3 : Int32)).toNatClampNeg]? = some (.int w3) := aH46.at hin46 rfl
              refine own_step (U' := T36.setTop (mkF m 144 #[rv r0, iv (1 : Int32), iv (4 : Int32), rv gb, iv v89_27, iv w3, iv (4 : Int32), iv w3] [(.int (10 : Int32)), (.int w3), (.ref r0)])) (fun t k => X36.baloadBytes hx (j := (3 : Int32)) (v := (.int w3)) (by rw [e36]; exact Ar46.1) (State.isArrayOf_alike hZ.alike Ar46.2.1) Ar46.2.2 hin46 hat46 (g := (mkF m 141 #[rv r0, iv (1 : Int32), iv (4 : Int32), rv gb, iv v89_27, iv w3, iv (4 : Int32), iv w3] [(.int (3 : Int32)), (.ref gb), (.ref r0)])) rfl rfl (hb hby d9_141) t (XS.bipush X36.here hx rfl (hb hby d9_142) k)) ?_
              by_cases hc144_47 : w3 = (10 : Int32)
              · refine own_step (U' := T36.setTop (mkF m 152 #[rv r0, iv (1 : Int32), iv (4 : Int32), rv gb, iv v89_27, iv w3, iv (4 : Int32), iv w3] [(.int (1 : Int32)), (.ref r0)])) (fun t k => XS.icmpNo X36.here hx rfl (hb hby d9_144) rfl (teq hc144_47).2 (XS.iconst X36.here hx rfl (hb hby d9_147) (XS.goto X36.here hx rfl (pc0 := 148) (pc' := 152) rfl (hb hby d9_148) (by decide) (by decide) k))) ?_
                have q_v152_40 : v152_40 = (1 : Int32) := by rw [hv152_40, if_pos hc134_45, if_pos hc144_47]
                rw [q_v152_40] at K152_41
                exact K152_41 _ _ X36 N35 e36
              · refine own_step (U' := T36.setTop (mkF m 152 #[rv r0, iv (1 : Int32), iv (4 : Int32), rv gb, iv v89_27, iv w3, iv (4 : Int32), iv w3] [(.int (0 : Int32)), (.ref r0)])) (fun t k => XS.icmpYes X36.here hx rfl (pc0 := 144) (pc' := 151) rfl (hb hby d9_144) rfl (feq hc144_47).2 (by decide) (by decide) (XS.iconst X36.here hx rfl (hb hby d9_151) k)) ?_
                have q_v152_40 : v152_40 = (0 : Int32) := by rw [hv152_40, if_pos hc134_45, if_neg hc144_47]
                rw [q_v152_40] at K152_41
                exact K152_41 _ _ X36 N35 e36
            · refine own_step (U' := T36.setTop (mkF m 152 #[rv r0, iv (1 : Int32), iv (4 : Int32), rv gb, iv v89_27, iv w3, iv (4 : Int32), iv w3] [(.int (1 : Int32)), (.ref r0)])) (fun t k => XS.ifYes X36.here hx rfl (pc0 := 134) (pc' := 147) rfl (hb hby d9_134) rfl ((if0 _ _).trans (feq hc134_45).2) (by decide) (by decide) (XS.iconst X36.here hx rfl (hb hby d9_147) (XS.goto X36.here hx rfl (pc0 := 148) (pc' := 152) rfl (hb hby d9_148) (by decide) (by decide) k))) ?_
              have q_v152_40 : v152_40 = (1 : Int32) := by rw [hv152_40, if_neg hc134_45]
              rw [q_v152_40] at K152_41
              exact K152_41 _ _ X36 N35 e36
          by_cases hc118_48 : w3 = (13 : Int32)
          · refine own_step (U' := T30.setTop (mkF m 126 #[rv r0, iv (1 : Int32), iv (4 : Int32), rv gb, iv v89_27, iv w3, iv (4 : Int32), iv w3] [(.int (1 : Int32)), (.ref r0)])) (fun t k => XS.icmpNo X30.here hx rfl (hb hby d9_118) rfl (teq hc118_48).2 (XS.iconst X30.here hx rfl (hb hby d9_121) (XS.goto X30.here hx rfl (pc0 := 122) (pc' := 126) rfl (hb hby d9_122) (by decide) (by decide) k))) ?_
            have q_v126_33 : v126_33 = (1 : Int32) := by rw [hv126_33, if_pos hc118_48]
            rw [q_v126_33] at K126_34
            exact K126_34 _ _ X30 N30 e30
          · refine own_step (U' := T30.setTop (mkF m 126 #[rv r0, iv (1 : Int32), iv (4 : Int32), rv gb, iv v89_27, iv w3, iv (4 : Int32), iv w3] [(.int (0 : Int32)), (.ref r0)])) (fun t k => XS.icmpYes X30.here hx rfl (pc0 := 118) (pc' := 125) rfl (hb hby d9_118) rfl (feq hc118_48).2 (by decide) (by decide) (XS.iconst X30.here hx rfl (hb hby d9_125) k)) ?_
            have q_v126_33 : v126_33 = (0 : Int32) := by rw [hv126_33, if_neg hc118_48]
            rw [q_v126_33] at K126_34
            exact K126_34 _ _ X30 N30 e30
        by_cases hc62_49 : (13 : Int32) < w3
        · refine own_step (U' := T21.setTop (mkF m 89 #[rv r0, iv (1 : Int32), iv (4 : Int32), rv gb, iv v89_20, iv w2, iv (3 : Int32), iv w3] [])) (fun t k => XS.icmpYes X21.here hx rfl (pc0 := 62) (pc' := 89) rfl (hb hby d9_62) rfl (tlt hc62_49).2.2.1 (by decide) (by decide) k) ?_
          have q_v89_27 : v89_27 = v89_20 := by rw [hv89_27, if_pos hc62_49]
          rw [q_v89_27] at K89_28
          exact K89_28 _ _ X21 N21 e21
        · refine own_step (U' := T21.setTop (mkF m 69 #[rv r0, iv (1 : Int32), iv (4 : Int32), rv gb, iv v89_20, iv w2, iv (3 : Int32), iv w3] [(.int (13 : Int32)), (.int w3)])) (fun t k => XS.icmpNo X21.here hx rfl (hb hby d9_62) rfl (flt hc62_49).2.2.1 (XS.iload X21.here hx rfl (hb hby d9_65) rfl (XS.bipush X21.here hx rfl (hb hby d9_67) k))) ?_
          by_cases hc69_50 : w3 = (13 : Int32)
          · refine own_step (U' := T21.setTop (mkF m 89 #[rv r0, iv (1 : Int32), iv (4 : Int32), rv gb, iv (v89_20 + (1 : Int32)), iv w2, iv (3 : Int32), iv w3] [])) (fun t k => XS.icmpYes X21.here hx rfl (pc0 := 69) (pc' := 86) rfl (hb hby d9_69) rfl (teq hc69_50).1 (by decide) (by decide) (XS.iinc X21.here hx rfl (hb hby d9_86) rfl (l' := #[rv r0, iv (1 : Int32), iv (4 : Int32), rv gb, iv (v89_20 + (1 : Int32)), iv w2, iv (3 : Int32), iv w3]) rfl k)) ?_
            have q_v89_27 : v89_27 = (v89_20 + (1 : Int32)) := by rw [hv89_27, if_neg hc62_49, if_pos hc69_50]
            rw [q_v89_27] at K89_28
            exact K89_28 _ _ X21 N21 e21
          · refine own_step (U' := T21.setTop (mkF m 76 #[rv r0, iv (1 : Int32), iv (4 : Int32), rv gb, iv v89_20, iv w2, iv (3 : Int32), iv w3] [(.int (10 : Int32)), (.int w3)])) (fun t k => XS.icmpNo X21.here hx rfl (hb hby d9_69) rfl (feq hc69_50).1 (XS.iload X21.here hx rfl (hb hby d9_72) rfl (XS.bipush X21.here hx rfl (hb hby d9_74) k))) ?_
            by_cases hc76_51 : w3 = (10 : Int32)
            · refine own_step (U' := T21.setTop (mkF m 83 #[rv r0, iv (1 : Int32), iv (4 : Int32), rv gb, iv v89_20, iv w2, iv (3 : Int32), iv w3] [(.int (13 : Int32)), (.int w2)])) (fun t k => XS.icmpNo X21.here hx rfl (hb hby d9_76) rfl (teq hc76_51).2 (XS.iload X21.here hx rfl (hb hby d9_79) rfl (XS.bipush X21.here hx rfl (hb hby d9_81) k))) ?_
              by_cases hc83_52 : w2 = (13 : Int32)
              · refine own_step (U' := T21.setTop (mkF m 89 #[rv r0, iv (1 : Int32), iv (4 : Int32), rv gb, iv v89_20, iv w2, iv (3 : Int32), iv w3] [])) (fun t k => XS.icmpYes X21.here hx rfl (pc0 := 83) (pc' := 89) rfl (hb hby d9_83) rfl (teq hc83_52).1 (by decide) (by decide) k) ?_
                have q_v89_27 : v89_27 = v89_20 := by rw [hv89_27, if_neg hc62_49, if_neg hc69_50, if_pos hc76_51, if_pos hc83_52]
                rw [q_v89_27] at K89_28
                exact K89_28 _ _ X21 N21 e21
              · refine own_step (U' := T21.setTop (mkF m 89 #[rv r0, iv (1 : Int32), iv (4 : Int32), rv gb, iv (v89_20 + (1 : Int32)), iv w2, iv (3 : Int32), iv w3] [])) (fun t k => XS.icmpNo X21.here hx rfl (hb hby d9_83) rfl (feq hc83_52).1 (XS.iinc X21.here hx rfl (hb hby d9_86) rfl (l' := #[rv r0, iv (1 : Int32), iv (4 : Int32), rv gb, iv (v89_20 + (1 : Int32)), iv w2, iv (3 : Int32), iv w3]) rfl k)) ?_
                have q_v89_27 : v89_27 = (v89_20 + (1 : Int32)) := by rw [hv89_27, if_neg hc62_49, if_neg hc69_50, if_pos hc76_51, if_neg hc83_52]
                rw [q_v89_27] at K89_28
                exact K89_28 _ _ X21 N21 e21
            · refine own_step (U' := T21.setTop (mkF m 89 #[rv r0, iv (1 : Int32), iv (4 : Int32), rv gb, iv v89_20, iv w2, iv (3 : Int32), iv w3] [])) (fun t k => XS.icmpYes X21.here hx rfl (pc0 := 76) (pc' := 89) rfl (hb hby d9_76) rfl (feq hc76_51).2 (by decide) (by decide) k) ?_
              have q_v89_27 : v89_27 = v89_20 := by rw [hv89_27, if_neg hc62_49, if_neg hc69_50, if_neg hc76_51]
              rw [q_v89_27] at K89_28
              exact K89_28 _ _ X21 N21 e21
      by_cases hc62_53 : (13 : Int32) < w2
      · refine own_step (U' := T14.setTop (mkF m 89 #[rv r0, iv (1 : Int32), iv (4 : Int32), rv gb, iv v89_13, iv w1, iv (2 : Int32), iv w2] [])) (fun t k => XS.icmpYes X14.here hx rfl (pc0 := 62) (pc' := 89) rfl (hb hby d9_62) rfl (tlt hc62_53).2.2.1 (by decide) (by decide) k) ?_
        have q_v89_20 : v89_20 = v89_13 := by rw [hv89_20, if_pos hc62_53]
        rw [q_v89_20] at K89_21
        exact K89_21 _ _ X14 N14 e14
      · refine own_step (U' := T14.setTop (mkF m 69 #[rv r0, iv (1 : Int32), iv (4 : Int32), rv gb, iv v89_13, iv w1, iv (2 : Int32), iv w2] [(.int (13 : Int32)), (.int w2)])) (fun t k => XS.icmpNo X14.here hx rfl (hb hby d9_62) rfl (flt hc62_53).2.2.1 (XS.iload X14.here hx rfl (hb hby d9_65) rfl (XS.bipush X14.here hx rfl (hb hby d9_67) k))) ?_
        by_cases hc69_54 : w2 = (13 : Int32)
        · refine own_step (U' := T14.setTop (mkF m 89 #[rv r0, iv (1 : Int32), iv (4 : Int32), rv gb, iv (v89_13 + (1 : Int32)), iv w1, iv (2 : Int32), iv w2] [])) (fun t k => XS.icmpYes X14.here hx rfl (pc0 := 69) (pc' := 86) rfl (hb hby d9_69) rfl (teq hc69_54).1 (by decide) (by decide) (XS.iinc X14.here hx rfl (hb hby d9_86) rfl (l' := #[rv r0, iv (1 : Int32), iv (4 : Int32), rv gb, iv (v89_13 + (1 : Int32)), iv w1, iv (2 : Int32), iv w2]) rfl k)) ?_
          have q_v89_20 : v89_20 = (v89_13 + (1 : Int32)) := by rw [hv89_20, if_neg hc62_53, if_pos hc69_54]
          rw [q_v89_20] at K89_21
          exact K89_21 _ _ X14 N14 e14
        · refine own_step (U' := T14.setTop (mkF m 76 #[rv r0, iv (1 : Int32), iv (4 : Int32), rv gb, iv v89_13, iv w1, iv (2 : Int32), iv w2] [(.int (10 : Int32)), (.int w2)])) (fun t k => XS.icmpNo X14.here hx rfl (hb hby d9_69) rfl (feq hc69_54).1 (XS.iload X14.here hx rfl (hb hby d9_72) rfl (XS.bipush X14.here hx rfl (hb hby d9_74) k))) ?_
          by_cases hc76_55 : w2 = (10 : Int32)
          · refine own_step (U' := T14.setTop (mkF m 83 #[rv r0, iv (1 : Int32), iv (4 : Int32), rv gb, iv v89_13, iv w1, iv (2 : Int32), iv w2] [(.int (13 : Int32)), (.int w1)])) (fun t k => XS.icmpNo X14.here hx rfl (hb hby d9_76) rfl (teq hc76_55).2 (XS.iload X14.here hx rfl (hb hby d9_79) rfl (XS.bipush X14.here hx rfl (hb hby d9_81) k))) ?_
            by_cases hc83_56 : w1 = (13 : Int32)
            · refine own_step (U' := T14.setTop (mkF m 89 #[rv r0, iv (1 : Int32), iv (4 : Int32), rv gb, iv v89_13, iv w1, iv (2 : Int32), iv w2] [])) (fun t k => XS.icmpYes X14.here hx rfl (pc0 := 83) (pc' := 89) rfl (hb hby d9_83) rfl (teq hc83_56).1 (by decide) (by decide) k) ?_
              have q_v89_20 : v89_20 = v89_13 := by rw [hv89_20, if_neg hc62_53, if_neg hc69_54, if_pos hc76_55, if_pos hc83_56]
              rw [q_v89_20] at K89_21
              exact K89_21 _ _ X14 N14 e14
            · refine own_step (U' := T14.setTop (mkF m 89 #[rv r0, iv (1 : Int32), iv (4 : Int32), rv gb, iv (v89_13 + (1 : Int32)), iv w1, iv (2 : Int32), iv w2] [])) (fun t k => XS.icmpNo X14.here hx rfl (hb hby d9_83) rfl (feq hc83_56).1 (XS.iinc X14.here hx rfl (hb hby d9_86) rfl (l' := #[rv r0, iv (1 : Int32), iv (4 : Int32), rv gb, iv (v89_13 + (1 : Int32)), iv w1, iv (2 : Int32), iv w2]) rfl k)) ?_
              have q_v89_20 : v89_20 = (v89_13 + (1 : Int32)) := by rw [hv89_20, if_neg hc62_53, if_neg hc69_54, if_pos hc76_55, if_neg hc83_56]
              rw [q_v89_20] at K89_21
              exact K89_21 _ _ X14 N14 e14
          · refine own_step (U' := T14.setTop (mkF m 89 #[rv r0, iv (1 : Int32), iv (4 : Int32), rv gb, iv v89_13, iv w1, iv (2 : Int32), iv w2] [])) (fun t k => XS.icmpYes X14.here hx rfl (pc0 := 76) (pc' := 89) rfl (hb hby d9_76) rfl (feq hc76_55).2 (by decide) (by decide) k) ?_
            have q_v89_20 : v89_20 = v89_13 := by rw [hv89_20, if_neg hc62_53, if_neg hc69_54, if_neg hc76_55]
            rw [q_v89_20] at K89_21
            exact K89_21 _ _ X14 N14 e14
    by_cases hc62_57 : (13 : Int32) < w1
    · refine own_step (U' := T7.setTop (mkF m 89 #[rv r0, iv (1 : Int32), iv (4 : Int32), rv gb, iv (0 : Int32), iv v41_6, iv (1 : Int32), iv w1] [])) (fun t k => XS.icmpYes X7.here hx rfl (pc0 := 62) (pc' := 89) rfl (hb hby d9_62) rfl (tlt hc62_57).2.2.1 (by decide) (by decide) k) ?_
      have q_v89_13 : v89_13 = (0 : Int32) := by rw [hv89_13, if_pos hc62_57]
      rw [q_v89_13] at K89_14
      exact K89_14 _ _ X7 N7 e7
    · refine own_step (U' := T7.setTop (mkF m 69 #[rv r0, iv (1 : Int32), iv (4 : Int32), rv gb, iv (0 : Int32), iv v41_6, iv (1 : Int32), iv w1] [(.int (13 : Int32)), (.int w1)])) (fun t k => XS.icmpNo X7.here hx rfl (hb hby d9_62) rfl (flt hc62_57).2.2.1 (XS.iload X7.here hx rfl (hb hby d9_65) rfl (XS.bipush X7.here hx rfl (hb hby d9_67) k))) ?_
      by_cases hc69_58 : w1 = (13 : Int32)
      · refine own_step (U' := T7.setTop (mkF m 89 #[rv r0, iv (1 : Int32), iv (4 : Int32), rv gb, iv (1 : Int32), iv v41_6, iv (1 : Int32), iv w1] [])) (fun t k => XS.icmpYes X7.here hx rfl (pc0 := 69) (pc' := 86) rfl (hb hby d9_69) rfl (teq hc69_58).1 (by decide) (by decide) (XS.iinc X7.here hx rfl (hb hby d9_86) rfl (l' := #[rv r0, iv (1 : Int32), iv (4 : Int32), rv gb, iv (1 : Int32), iv v41_6, iv (1 : Int32), iv w1]) rfl k)) ?_
        have q_v89_13 : v89_13 = (1 : Int32) := by rw [hv89_13, if_neg hc62_57, if_pos hc69_58]
        rw [q_v89_13] at K89_14
        exact K89_14 _ _ X7 N7 e7
      · refine own_step (U' := T7.setTop (mkF m 76 #[rv r0, iv (1 : Int32), iv (4 : Int32), rv gb, iv (0 : Int32), iv v41_6, iv (1 : Int32), iv w1] [(.int (10 : Int32)), (.int w1)])) (fun t k => XS.icmpNo X7.here hx rfl (hb hby d9_69) rfl (feq hc69_58).1 (XS.iload X7.here hx rfl (hb hby d9_72) rfl (XS.bipush X7.here hx rfl (hb hby d9_74) k))) ?_
        by_cases hc76_59 : w1 = (10 : Int32)
        · refine own_step (U' := T7.setTop (mkF m 83 #[rv r0, iv (1 : Int32), iv (4 : Int32), rv gb, iv (0 : Int32), iv v41_6, iv (1 : Int32), iv w1] [(.int (13 : Int32)), (.int v41_6)])) (fun t k => XS.icmpNo X7.here hx rfl (hb hby d9_76) rfl (teq hc76_59).2 (XS.iload X7.here hx rfl (hb hby d9_79) rfl (XS.bipush X7.here hx rfl (hb hby d9_81) k))) ?_
          by_cases hc83_60 : v41_6 = (13 : Int32)
          · refine own_step (U' := T7.setTop (mkF m 89 #[rv r0, iv (1 : Int32), iv (4 : Int32), rv gb, iv (0 : Int32), iv v41_6, iv (1 : Int32), iv w1] [])) (fun t k => XS.icmpYes X7.here hx rfl (pc0 := 83) (pc' := 89) rfl (hb hby d9_83) rfl (teq hc83_60).1 (by decide) (by decide) k) ?_
            have q_v89_13 : v89_13 = (0 : Int32) := by rw [hv89_13, if_neg hc62_57, if_neg hc69_58, if_pos hc76_59, if_pos hc83_60]
            rw [q_v89_13] at K89_14
            exact K89_14 _ _ X7 N7 e7
          · refine own_step (U' := T7.setTop (mkF m 89 #[rv r0, iv (1 : Int32), iv (4 : Int32), rv gb, iv (1 : Int32), iv v41_6, iv (1 : Int32), iv w1] [])) (fun t k => XS.icmpNo X7.here hx rfl (hb hby d9_83) rfl (feq hc83_60).1 (XS.iinc X7.here hx rfl (hb hby d9_86) rfl (l' := #[rv r0, iv (1 : Int32), iv (4 : Int32), rv gb, iv (1 : Int32), iv v41_6, iv (1 : Int32), iv w1]) rfl k)) ?_
            have q_v89_13 : v89_13 = (1 : Int32) := by rw [hv89_13, if_neg hc62_57, if_neg hc69_58, if_pos hc76_59, if_neg hc83_60]
            rw [q_v89_13] at K89_14
            exact K89_14 _ _ X7 N7 e7
        · refine own_step (U' := T7.setTop (mkF m 89 #[rv r0, iv (1 : Int32), iv (4 : Int32), rv gb, iv (0 : Int32), iv v41_6, iv (1 : Int32), iv w1] [])) (fun t k => XS.icmpYes X7.here hx rfl (pc0 := 76) (pc' := 89) rfl (hb hby d9_76) rfl (feq hc76_59).2 (by decide) (by decide) k) ?_
          have q_v89_13 : v89_13 = (0 : Int32) := by rw [hv89_13, if_neg hc62_57, if_neg hc69_58, if_neg hc76_59]
          rw [q_v89_13] at K89_14
          exact K89_14 _ _ X7 N7 e7
  by_cases hc32_61 : wr = (0 : Int32)
  · refine own_step (U' := T4.setTop (mkF m 41 #[rv r0, iv (1 : Int32), iv (4 : Int32), rv gb, iv (0 : Int32), .unset, .unset, .unset] [(.int (0 : Int32))])) (fun t k => XS.ifYes X4.here hx rfl (pc0 := 32) (pc' := 40) rfl (hb hby d9_32) rfl ((if0 _ _).trans (teq hc32_61).1) (by decide) (by decide) (XS.iconst X4.here hx rfl (hb hby d9_40) k)) ?_
    have q_v41_6 : v41_6 = (0 : Int32) := by rw [hv41_6, if_pos hc32_61]
    rw [q_v41_6] at K41_7
    exact K41_7 _ _ X4 N0 e4
  · refine own_step (U' := T4.setTop (mkF m 41 #[rv r0, iv (1 : Int32), iv (4 : Int32), rv gb, iv (0 : Int32), .unset, .unset, .unset] [(.int (13 : Int32))])) (fun t k => XS.ifNo X4.here hx rfl (hb hby d9_32) rfl ((if0 _ _).trans (feq hc32_61).1) (XS.bipush X4.here hx rfl (hb hby d9_35) (XS.goto X4.here hx rfl (pc0 := 37) (pc' := 41) rfl (hb hby d9_37) (by decide) (by decide) k))) ?_
    have q_v41_6 : v41_6 = (13 : Int32) := by rw [hv41_6, if_neg hc32_61]
    rw [q_v41_6] at K41_7
    exact K41_7 _ _ X4 N0 e4
theorem ef_9c2p4 (m : MethodId) (r0 : Addr) : entryFrame m #[(.ref r0)] 8 = mkF m 0 #[rv r0, .unset, .unset, .unset, .unset, .unset, .unset, .unset] [] := by first | (simp [entryFrame, mkF, argsToLocals, Value.category]; done) | rfl
def F9c2p4 (wl : Int32) (wr : Int32) (w0 : Int32) (w1 : Int32) (w2 : Int32) (w3 : Int32) : Int32 :=
  let v41_6 : Int32 := (if wr = (0 : Int32) then (0 : Int32) else (13 : Int32))
  let v89_13 : Int32 := (if (13 : Int32) < w2 then (0 : Int32) else (if w2 = (13 : Int32) then (1 : Int32) else (if w2 = (10 : Int32) then (if v41_6 = (13 : Int32) then (0 : Int32) else (1 : Int32)) else (0 : Int32))))
  let v89_20 : Int32 := (if (13 : Int32) < w3 then v89_13 else (if w3 = (13 : Int32) then (v89_13 + (1 : Int32)) else (if w3 = (10 : Int32) then (if w2 = (13 : Int32) then v89_13 else (v89_13 + (1 : Int32))) else v89_13)))
  let v126_26 : Int32 := (if w3 = (13 : Int32) then (1 : Int32) else (0 : Int32))
  let v152_33 : Int32 := (if (nar .boolean v126_26) = (0 : Int32) then (if w3 = (10 : Int32) then (1 : Int32) else (0 : Int32)) else (1 : Int32))
  (wl + v89_20)
def Q9c2p4 (Z : State) (r0 : Addr) (gb : Addr) (wl : Int32) (wr : Int32) (w0 : Int32) (w1 : Int32) (w2 : Int32) (w3 : Int32) (k_gb : ClassId) (h0 : Heap) (n0 : Nat) (v : Option Value) (h : Heap) (L : List Loc) : Prop := v = some (.int (F9c2p4 wl wr w0 w1 w2 w3)) ∧ Fr n0 L ∧ Keep h0 h [r0] ∧ Exa Z h r0 own_XC ∧ Fld Z h r0 own_XC "bytes" "[B" (.ref gb) ∧ Fld Z h r0 own_XC "position" "I" (.int (4 : Int32)) ∧ Fld Z h r0 own_XC "line" "I" (.int (F9c2p4 wl wr w0 w1 w2 w3)) ∧ Fld Z h r0 own_XC "counted" "I" (.int (4 : Int32)) ∧ Fld Z h r0 own_XC "afterCarriageReturn" "Z" (.int (nar .boolean (if w3 = (13 : Int32) then (1 : Int32) else (0 : Int32))))
set_option maxRecDepth 65536 in
set_option maxHeartbeats 40000000 in
theorem rm9c2p4 (l : Launch) (Z : State) (a0 : Array Value) (hw : ∀ d ∈ tables_1, d.before a0 Z = true) (ws : List Jvm.Cond) (r0 : Addr) (gb : Addr) (wl : Int32) (wr : Int32) (w0 : Int32) (w1 : Int32) (w2 : Int32) (w3 : Int32) (k_gb : ClassId) (h0 : Heap) (n0 : Nat) (Z0 : n0 ≤ h0.size) (E_r0 : Exa Z h0 r0 own_XC) (F_bytes_r0 : Fld Z h0 r0 own_XC "bytes" "[B" (.ref gb)) (F_position_r0 : Fld Z h0 r0 own_XC "position" "I" (.int (4 : Int32))) (F_line_r0 : Fld Z h0 r0 own_XC "line" "I" (.int wl)) (F_counted_r0 : Fld Z h0 r0 own_XC "counted" "I" (.int (2 : Int32))) (F_afterCarriageReturn_r0 : Fld Z h0 r0 own_XC "afterCarriageReturn" "Z" (.int wr)) (g_r0 : n0 ≤ r0) (V_gb : Arv Z h0 gb k_gb .byte (65536 : Int32) [(.int w0), (.int w1), (.int w2), (.int w3)] (.int (0 : Int32))) (hne : gb ≠ r0) :
    MetFree l (⟨own_XC, "line", "()I"⟩ : MethodName) (head1 (Jvm.Cond.code (⟨own_XC, "line", "()I"⟩ : MethodName) prog_148_method_16_code 8 (some .int) :: ws) ({ frames := 0, cells := 0, slots := 0, locals := 0 } : Room)) (fun a U => a = #[(.ref r0)] ∧ Z.Warmed39 U.vm ∧ U.heap = h0) (fun _ _ _ _ _ => True) (fun _ U o U' => ∃ v L, o = .returned v ∧ Q9c2p4 Z r0 gb wl wr w0 w1 w2 w3 k_gb h0 n0 v U'.heap L ∧ FrameEnd U o U' L ({ frames := 0, cells := 0, slots := 0, locals := 0 } : Room).cells ({ frames := 0, cells := 0, slots := 0, locals := 0 } : Room).slots) := by
  refine MetFree.of_bodySF (plainFor_of_name pn_9) hisR ?_
  intro p e s m args below meth c s₁ Bd hml0 hP hK
  obtain ⟨rfl, hZ, hh⟩ := hP
  have hx := Bd.exec
  have hby := Bd.bytes
  have hml : c.maxLocals = 8 := hml0
  have hown : s.vm.findClass own_XC = some m.cls := findClass_of_methodNamed Bd.named
  have hnm := (name_of_methodNamed Bd.named Bd.method).1
  have hlk : meth.locks = false := Bd.notSynchronized
  have X0 : Stand p l e ({ frames := 0, cells := 0, slots := 0, locals := 0 } : Room) s m #[(.ref r0)] below meth c s₁ [] 0 0 := Stand.of_body Bd
  have e0 : s₁.heap = h0 := by rw [← hh, Bd.state]; rfl
  have N0 := Fr.nil n0
  have KK0 := Keep.refl h0 [r0]
  show own_Go p.tables e below s 0 0 (Q9c2p4 Z r0 gb wl wr w0 w1 w2 w3 k_gb h0 n0) (s₁.setTop (entryFrame m #[(.ref r0)] 8))
  rw [ef_9c2p4]
  refine own_step (U' := s₁.setTop (mkF m 1 #[rv r0, .unset, .unset, .unset, .unset, .unset, .unset, .unset] [(.ref r0)])) (fun t k => XS.aloadN X0.here hx rfl (hb hby d9_0) rfl rfl k) ?_
  obtain ⟨T1, X1, e1, st1⟩ := getF X0 hx hZ hown (host := "") (Or.inl (own_w hw 73 rfl)) Via.refl e0 F_counted_r0 (g := (mkF m 1 #[rv r0, .unset, .unset, .unset, .unset, .unset, .unset, .unset] [(.ref r0)])) rfl rfl (hb hby d9_1)
  refine own_step (U' := T1.setTop (mkF m 4 #[rv r0, .unset, .unset, .unset, .unset, .unset, .unset, .unset] [(.int (2 : Int32))])) st1 ?_
  refine own_step (U' := T1.setTop (mkF m 6 #[rv r0, iv (2 : Int32), .unset, .unset, .unset, .unset, .unset, .unset] [(.ref r0)])) (fun t k => XS.istoreN X1.here hx rfl (hb hby d9_4) rfl (l' := #[rv r0, iv (2 : Int32), .unset, .unset, .unset, .unset, .unset, .unset]) rfl (XS.aloadN X1.here hx rfl (hb hby d9_5) rfl rfl k)) ?_
  obtain ⟨T2, X2, e2, st2⟩ := getF X1 hx hZ hown (host := "") (Or.inl (own_w hw 57 rfl)) Via.refl e1 F_position_r0 (g := (mkF m 6 #[rv r0, iv (2 : Int32), .unset, .unset, .unset, .unset, .unset, .unset] [(.ref r0)])) rfl rfl (hb hby d9_6)
  refine own_step (U' := T2.setTop (mkF m 9 #[rv r0, iv (2 : Int32), .unset, .unset, .unset, .unset, .unset, .unset] [(.int (4 : Int32))])) st2 ?_
  refine own_step (U' := T2.setTop (mkF m 21 #[rv r0, iv (2 : Int32), iv (4 : Int32), .unset, .unset, .unset, .unset, .unset] [(.ref r0)])) (fun t k => XS.istoreN X2.here hx rfl (hb hby d9_9) rfl (l' := #[rv r0, iv (2 : Int32), iv (4 : Int32), .unset, .unset, .unset, .unset, .unset]) rfl (XS.iloadN X2.here hx rfl (hb hby d9_10) rfl (XS.iloadN X2.here hx rfl (hb hby d9_11) rfl (XS.icmpYes X2.here hx rfl (pc0 := 12) (pc' := 20) rfl (hb hby d9_12) rfl (by decide) (by decide) (by decide) (XS.aloadN X2.here hx rfl (hb hby d9_20) rfl rfl k))))) ?_
  obtain ⟨T3, X3, e3, st3⟩ := getF X2 hx hZ hown (host := "") (Or.inl (own_w hw 40 rfl)) Via.refl e2 F_bytes_r0 (g := (mkF m 21 #[rv r0, iv (2 : Int32), iv (4 : Int32), .unset, .unset, .unset, .unset, .unset] [(.ref r0)])) rfl rfl (hb hby d9_21)
  refine own_step (U' := T3.setTop (mkF m 24 #[rv r0, iv (2 : Int32), iv (4 : Int32), .unset, .unset, .unset, .unset, .unset] [(.ref gb)])) st3 ?_
  refine own_step (U' := T3.setTop (mkF m 29 #[rv r0, iv (2 : Int32), iv (4 : Int32), rv gb, iv (0 : Int32), .unset, .unset, .unset] [(.ref r0)])) (fun t k => XS.astoreN X3.here hx rfl (hb hby d9_24) rfl rfl (l' := #[rv r0, iv (2 : Int32), iv (4 : Int32), rv gb, .unset, .unset, .unset, .unset]) rfl (XS.iconst X3.here hx rfl (hb hby d9_25) (XS.istore X3.here hx rfl (hb hby d9_26) rfl (l' := #[rv r0, iv (2 : Int32), iv (4 : Int32), rv gb, iv (0 : Int32), .unset, .unset, .unset]) rfl (XS.aloadN X3.here hx rfl (hb hby d9_28) rfl rfl k)))) ?_
  obtain ⟨T4, X4, e4, st4⟩ := getF X3 hx hZ hown (host := "") (Or.inl (own_w hw 75 rfl)) Via.refl e3 F_afterCarriageReturn_r0 (g := (mkF m 29 #[rv r0, iv (2 : Int32), iv (4 : Int32), rv gb, iv (0 : Int32), .unset, .unset, .unset] [(.ref r0)])) rfl rfl (hb hby d9_29)
  refine own_step (U' := T4.setTop (mkF m 32 #[rv r0, iv (2 : Int32), iv (4 : Int32), rv gb, iv (0 : Int32), .unset, .unset, .unset] [(.int wr)])) st4 ?_
  obtain ⟨v41_6, hv41_6⟩ : ∃ v : Int32, v = (if wr = (0 : Int32) then (0 : Int32) else (13 : Int32)) := ⟨_, rfl⟩
  have K41_7 : ∀ (T' : State) (locs' : List Loc) (X' : Stand p l e ({ frames := 0, cells := 0, slots := 0, locals := 0 } : Room) s m #[(.ref r0)] below meth c T' locs' 0 0) (N' : Fr n0 locs') (e' : T'.heap = h0), own_Go p.tables e below s 0 0 (Q9c2p4 Z r0 gb wl wr w0 w1 w2 w3 k_gb h0 n0) (T'.setTop (mkF m 41 #[rv r0, iv (2 : Int32), iv (4 : Int32), rv gb, iv (0 : Int32), .unset, .unset, .unset] [(.int v41_6)])) := by
    intro T7 L7 X7 N7 e7
    refine own_step (U' := T7.setTop (mkF m 55 #[rv r0, iv (2 : Int32), iv (4 : Int32), rv gb, iv (0 : Int32), iv v41_6, iv (2 : Int32), .unset] [(.int (2 : Int32)), (.ref gb)])) (fun t k => XS.istore X7.here hx rfl (hb hby d9_41) rfl (l' := #[rv r0, iv (2 : Int32), iv (4 : Int32), rv gb, iv (0 : Int32), iv v41_6, .unset, .unset]) rfl (XS.iloadN X7.here hx rfl (hb hby d9_43) rfl (XS.istore X7.here hx rfl (hb hby d9_44) rfl (l' := #[rv r0, iv (2 : Int32), iv (4 : Int32), rv gb, iv (0 : Int32), iv v41_6, iv (2 : Int32), .unset]) rfl (XS.iload X7.here hx rfl (hb hby d9_46) rfl (XS.iloadN X7.here hx rfl (hb hby d9_48) rfl (XS.icmpNo X7.here hx rfl (hb hby d9_49) rfl (by decide) (XS.aloadN X7.here hx rfl (hb hby d9_52) rfl rfl (XS.iload X7.here hx rfl (hb hby d9_53) rfl k)))))))) ?_
    obtain ⟨cl8, Ar8, aq8, aS8, aN8, aH8, aG8⟩ := id V_gb
    have hin8 : ¬ ((2 : Int32) < 0 ∨ cl8.slots.size ≤ ((2 : Int32)).toNatClampNeg) := inb_of aS8 ⟨by decide, by decide⟩
    have hat8 : cl8.slots[((2 : Int32)).toNatClampNeg]? = some (.int w2) := aH8.at hin8 rfl
    refine own_step (U' := T7.setTop (mkF m 62 #[rv r0, iv (2 : Int32), iv (4 : Int32), rv gb, iv (0 : Int32), iv v41_6, iv (2 : Int32), iv w2] [(.int (13 : Int32)), (.int w2)])) (fun t k => X7.baloadBytes hx (j := (2 : Int32)) (v := (.int w2)) (by rw [e7]; exact Ar8.1) (State.isArrayOf_alike hZ.alike Ar8.2.1) Ar8.2.2 hin8 hat8 (g := (mkF m 55 #[rv r0, iv (2 : Int32), iv (4 : Int32), rv gb, iv (0 : Int32), iv v41_6, iv (2 : Int32), .unset] [(.int (2 : Int32)), (.ref gb)])) rfl rfl (hb hby d9_55) t (XS.istore X7.here hx rfl (hb hby d9_56) rfl (l' := #[rv r0, iv (2 : Int32), iv (4 : Int32), rv gb, iv (0 : Int32), iv v41_6, iv (2 : Int32), iv w2]) rfl (XS.iload X7.here hx rfl (hb hby d9_58) rfl (XS.bipush X7.here hx rfl (hb hby d9_60) k)))) ?_
    obtain ⟨v89_13, hv89_13⟩ : ∃ v : Int32, v = (if (13 : Int32) < w2 then (0 : Int32) else (if w2 = (13 : Int32) then (1 : Int32) else (if w2 = (10 : Int32) then (if v41_6 = (13 : Int32) then (0 : Int32) else (1 : Int32)) else (0 : Int32)))) := ⟨_, rfl⟩
    have K89_14 : ∀ (T' : State) (locs' : List Loc) (X' : Stand p l e ({ frames := 0, cells := 0, slots := 0, locals := 0 } : Room) s m #[(.ref r0)] below meth c T' locs' 0 0) (N' : Fr n0 locs') (e' : T'.heap = h0), own_Go p.tables e below s 0 0 (Q9c2p4 Z r0 gb wl wr w0 w1 w2 w3 k_gb h0 n0) (T'.setTop (mkF m 89 #[rv r0, iv (2 : Int32), iv (4 : Int32), rv gb, iv v89_13, iv v41_6, iv (2 : Int32), iv w2] [])) := by
      intro T14 L14 X14 N14 e14
      refine own_step (U' := T14.setTop (mkF m 53 #[rv r0, iv (2 : Int32), iv (4 : Int32), rv gb, iv v89_13, iv w2, iv (3 : Int32), iv w2] [(.ref gb)])) (fun t k => XS.iload X14.here hx rfl (hb hby d9_89) rfl (XS.istore X14.here hx rfl (hb hby d9_91) rfl (l' := #[rv r0, iv (2 : Int32), iv (4 : Int32), rv gb, iv v89_13, iv w2, iv (2 : Int32), iv w2]) rfl (XS.iinc X14.here hx rfl (hb hby d9_93) rfl (l' := #[rv r0, iv (2 : Int32), iv (4 : Int32), rv gb, iv v89_13, iv w2, iv (3 : Int32), iv w2]) rfl (XS.goto X14.here hx rfl (pc0 := 96) (pc' := 46) rfl (hb hby d9_96) (by decide) (by decide) (XS.iload X14.here hx rfl (hb hby d9_46) rfl (XS.iloadN X14.here hx rfl (hb hby d9_48) rfl (XS.icmpNo X14.here hx rfl (hb hby d9_49) rfl (by decide) (XS.aloadN X14.here hx rfl (hb hby d9_52) rfl rfl k)))))))) ?_
      refine own_step (U' := T14.setTop (mkF m 55 #[rv r0, iv (2 : Int32), iv (4 : Int32), rv gb, iv v89_13, iv w2, iv (3 : Int32), iv w2] [(.int (3 : Int32)), (.ref gb)])) (fun t k => XS.iload X14.here hx rfl (hb hby d9_53) rfl k) ?_
      obtain ⟨cl15, Ar15, aq15, aS15, aN15, aH15, aG15⟩ := id V_gb
      have hin15 : ¬ ((3 : Int32) < 0 ∨ cl15.slots.size ≤ ((3 : Int32)).toNatClampNeg) := inb_of aS15 ⟨by decide, by decide⟩
      have hat15 : cl15.slots[((3 : Int32)).toNatClampNeg]? = some (.int w3) := aH15.at hin15 rfl
      refine own_step (U' := T14.setTop (mkF m 62 #[rv r0, iv (2 : Int32), iv (4 : Int32), rv gb, iv v89_13, iv w2, iv (3 : Int32), iv w3] [(.int (13 : Int32)), (.int w3)])) (fun t k => X14.baloadBytes hx (j := (3 : Int32)) (v := (.int w3)) (by rw [e14]; exact Ar15.1) (State.isArrayOf_alike hZ.alike Ar15.2.1) Ar15.2.2 hin15 hat15 (g := (mkF m 55 #[rv r0, iv (2 : Int32), iv (4 : Int32), rv gb, iv v89_13, iv w2, iv (3 : Int32), iv w2] [(.int (3 : Int32)), (.ref gb)])) rfl rfl (hb hby d9_55) t (XS.istore X14.here hx rfl (hb hby d9_56) rfl (l' := #[rv r0, iv (2 : Int32), iv (4 : Int32), rv gb, iv v89_13, iv w2, iv (3 : Int32), iv w3]) rfl (XS.iload X14.here hx rfl (hb hby d9_58) rfl (XS.bipush X14.here hx rfl (hb hby d9_60) k)))) ?_
      obtain ⟨v89_20, hv89_20⟩ : ∃ v : Int32, v = (if (13 : Int32) < w3 then v89_13 else (if w3 = (13 : Int32) then (v89_13 + (1 : Int32)) else (if w3 = (10 : Int32) then (if w2 = (13 : Int32) then v89_13 else (v89_13 + (1 : Int32))) else v89_13))) := ⟨_, rfl⟩
      have K89_21 : ∀ (T' : State) (locs' : List Loc) (X' : Stand p l e ({ frames := 0, cells := 0, slots := 0, locals := 0 } : Room) s m #[(.ref r0)] below meth c T' locs' 0 0) (N' : Fr n0 locs') (e' : T'.heap = h0), own_Go p.tables e below s 0 0 (Q9c2p4 Z r0 gb wl wr w0 w1 w2 w3 k_gb h0 n0) (T'.setTop (mkF m 89 #[rv r0, iv (2 : Int32), iv (4 : Int32), rv gb, iv v89_20, iv w2, iv (3 : Int32), iv w3] [])) := by
        intro T21 L21 X21 N21 e21
        refine own_step (U' := T21.setTop (mkF m 100 #[rv r0, iv (2 : Int32), iv (4 : Int32), rv gb, iv v89_20, iv w3, iv (4 : Int32), iv w3] [(.ref r0)])) (fun t k => XS.iload X21.here hx rfl (hb hby d9_89) rfl (XS.istore X21.here hx rfl (hb hby d9_91) rfl (l' := #[rv r0, iv (2 : Int32), iv (4 : Int32), rv gb, iv v89_20, iv w3, iv (3 : Int32), iv w3]) rfl (XS.iinc X21.here hx rfl (hb hby d9_93) rfl (l' := #[rv r0, iv (2 : Int32), iv (4 : Int32), rv gb, iv v89_20, iv w3, iv (4 : Int32), iv w3]) rfl (XS.goto X21.here hx rfl (pc0 := 96) (pc' := 46) rfl (hb hby d9_96) (by decide) (by decide) (XS.iload X21.here hx rfl (hb hby d9_46) rfl (XS.iloadN X21.here hx rfl (hb hby d9_48) rfl (XS.icmpYes X21.here hx rfl (pc0 := 49) (pc' := 99) rfl (hb hby d9_49) rfl (by decide) (by decide) (by decide) (XS.aloadN X21.here hx rfl (hb hby d9_99) rfl rfl k)))))))) ?_
        refine own_step (U' := T21.setTop (mkF m 101 #[rv r0, iv (2 : Int32), iv (4 : Int32), rv gb, iv v89_20, iv w3, iv (4 : Int32), iv w3] [(.ref r0), (.ref r0)])) (fun t k => XS.dup X21.here hx rfl (hb hby d9_100) rfl rfl k) ?_
        obtain ⟨T22, X22, e22, st22⟩ := getF X21 hx hZ hown (host := "") (Or.inl (own_w hw 71 rfl)) Via.refl e21 F_line_r0 (g := (mkF m 101 #[rv r0, iv (2 : Int32), iv (4 : Int32), rv gb, iv v89_20, iv w3, iv (4 : Int32), iv w3] [(.ref r0), (.ref r0)])) rfl rfl (hb hby d9_101)
        refine own_step (U' := T22.setTop (mkF m 104 #[rv r0, iv (2 : Int32), iv (4 : Int32), rv gb, iv v89_20, iv w3, iv (4 : Int32), iv w3] [(.int wl), (.ref r0)])) st22 ?_
        refine own_step (U' := T22.setTop (mkF m 107 #[rv r0, iv (2 : Int32), iv (4 : Int32), rv gb, iv v89_20, iv w3, iv (4 : Int32), iv w3] [(.int (wl + v89_20)), (.ref r0)])) (fun t k => XS.iload X22.here hx rfl (hb hby d9_104) rfl (XS.iadd X22.here hx rfl (hb hby d9_106) rfl k)) ?_
        obtain ⟨T23, h23, X23, e23, W23, st23⟩ := putF X22 hx hZ hown (host := "") (Or.inl (own_w hw 71 rfl)) Via.refl e22 F_line_r0 E_r0 (Or.inl (own_w hw 72 rfl)) (own_w hw 11 rfl) (ty := .int) (by decide) rfl rfl (g := (mkF m 107 #[rv r0, iv (2 : Int32), iv (4 : Int32), rv gb, iv v89_20, iv w3, iv (4 : Int32), iv w3] [(.int (wl + v89_20)), (.ref r0)])) rfl rfl (hb hby d9_107)
        have E_r0_23 := E_r0.wr W23
        have F_bytes_r0_23 := F_bytes_r0.other W23 (Or.inr (slot_ne (Or.inl (own_w hw 41 rfl)) (Or.inl (own_w hw 72 rfl)) (by decide) (t := (.array .byte)) (t' := .int) (by decide) (by decide)))
        have F_position_r0_23 := F_position_r0.other W23 (Or.inr (slot_ne (Or.inl (own_w hw 58 rfl)) (Or.inl (own_w hw 72 rfl)) (by decide) (t := .int) (t' := .int) (by decide) (by decide)))
        have F_counted_r0_23 := F_counted_r0.other W23 (Or.inr (slot_ne (Or.inl (own_w hw 74 rfl)) (Or.inl (own_w hw 72 rfl)) (by decide) (t := .int) (t' := .int) (by decide) (by decide)))
        have F_afterCarriageReturn_r0_23 := F_afterCarriageReturn_r0.other W23 (Or.inr (slot_ne (Or.inl (own_w hw 76 rfl)) (Or.inl (own_w hw 72 rfl)) (by decide) (t := .boolean) (t' := .int) (by decide) (by decide)))
        have V_gb_23 := V_gb.other W23 hne
        have F_line_r0_23 := F_line_r0.same W23
        have Z23 : n0 ≤ h23.size := Nat.le_trans Z0 (Keep.of_wr W23).1
        have KK23 := KK0.wr W23 (Or.inl (List.mem_of_getElem? (i := 0) rfl))
        have N23 := Fr.snoc X23 N21 g_r0
        refine own_step (U' := T23.setTop (mkF m 110 #[rv r0, iv (2 : Int32), iv (4 : Int32), rv gb, iv v89_20, iv w3, iv (4 : Int32), iv w3] [])) st23 ?_
        refine own_step (U' := T23.setTop (mkF m 115 #[rv r0, iv (2 : Int32), iv (4 : Int32), rv gb, iv v89_20, iv w3, iv (4 : Int32), iv w3] [(.int (3 : Int32)), (.ref gb), (.ref r0)])) (fun t k => XS.aloadN X23.here hx rfl (hb hby d9_110) rfl rfl (XS.aloadN X23.here hx rfl (hb hby d9_111) rfl rfl (XS.iloadN X23.here hx rfl (hb hby d9_112) rfl (XS.iconst X23.here hx rfl (hb hby d9_113) (XS.isub X23.here hx rfl (hb hby d9_114) rfl k))))) ?_
        obtain ⟨cl24, Ar24, aq24, aS24, aN24, aH24, aG24⟩ := id V_gb_23
        have hin24 : ¬ ((3 : Int32) < 0 ∨ cl24.slots.size ≤ ((3 : Int32)).toNatClampNeg) := inb_of aS24 ⟨by decide, by decide⟩
        have hat24 : cl24.slots[((3 : Int32)).toNatClampNeg]? = some (.int w3) := aH24.at hin24 rfl
        refine own_step (U' := T23.setTop (mkF m 118 #[rv r0, iv (2 : Int32), iv (4 : Int32), rv gb, iv v89_20, iv w3, iv (4 : Int32), iv w3] [(.int (13 : Int32)), (.int w3), (.ref r0)])) (fun t k => X23.baloadBytes hx (j := (3 : Int32)) (v := (.int w3)) (by rw [e23]; exact Ar24.1) (State.isArrayOf_alike hZ.alike Ar24.2.1) Ar24.2.2 hin24 hat24 (g := (mkF m 115 #[rv r0, iv (2 : Int32), iv (4 : Int32), rv gb, iv v89_20, iv w3, iv (4 : Int32), iv w3] [(.int (3 : Int32)), (.ref gb), (.ref r0)])) rfl rfl (hb hby d9_115) t (XS.bipush X23.here hx rfl (hb hby d9_116) k)) ?_
        obtain ⟨v126_26, hv126_26⟩ : ∃ v : Int32, v = (if w3 = (13 : Int32) then (1 : Int32) else (0 : Int32)) := ⟨_, rfl⟩
        have K126_27 : ∀ (T' : State) (locs' : List Loc) (X' : Stand p l e ({ frames := 0, cells := 0, slots := 0, locals := 0 } : Room) s m #[(.ref r0)] below meth c T' locs' 0 0) (N' : Fr n0 locs') (e' : T'.heap = h23), own_Go p.tables e below s 0 0 (Q9c2p4 Z r0 gb wl wr w0 w1 w2 w3 k_gb h0 n0) (T'.setTop (mkF m 126 #[rv r0, iv (2 : Int32), iv (4 : Int32), rv gb, iv v89_20, iv w3, iv (4 : Int32), iv w3] [(.int v126_26), (.ref r0)])) := by
          intro T27 L27 X27 N27 e27
          obtain ⟨T28, h28, X28, e28, W28, st28⟩ := putFN X27 hx hZ hown (own_w hw 75 rfl) Via.refl e27 F_afterCarriageReturn_r0_23 E_r0_23 (Or.inl (own_w hw 76 rfl)) (own_w hw 11 rfl) (ty := .boolean) (v' := (.int (nar .boolean v126_26))) (by decide) rfl (fits_nar_bool _) (g := (mkF m 126 #[rv r0, iv (2 : Int32), iv (4 : Int32), rv gb, iv v89_20, iv w3, iv (4 : Int32), iv w3] [(.int v126_26), (.ref r0)])) rfl rfl (hb hby d9_126)
          have E_r0_28 := E_r0_23.wr W28
          have F_bytes_r0_28 := F_bytes_r0_23.other W28 (Or.inr (slot_ne (Or.inl (own_w hw 41 rfl)) (Or.inl (own_w hw 76 rfl)) (by decide) (t := (.array .byte)) (t' := .boolean) (by decide) (by decide)))
          have F_position_r0_28 := F_position_r0_23.other W28 (Or.inr (slot_ne (Or.inl (own_w hw 58 rfl)) (Or.inl (own_w hw 76 rfl)) (by decide) (t := .int) (t' := .boolean) (by decide) (by decide)))
          have F_line_r0_28 := F_line_r0_23.other W28 (Or.inr (slot_ne (Or.inl (own_w hw 72 rfl)) (Or.inl (own_w hw 76 rfl)) (by decide) (t := .int) (t' := .boolean) (by decide) (by decide)))
          have F_counted_r0_28 := F_counted_r0_23.other W28 (Or.inr (slot_ne (Or.inl (own_w hw 74 rfl)) (Or.inl (own_w hw 76 rfl)) (by decide) (t := .int) (t' := .boolean) (by decide) (by decide)))
          have V_gb_28 := V_gb_23.other W28 hne
          have F_afterCarriageReturn_r0_28 := F_afterCarriageReturn_r0_23.same W28
          have Z28 : n0 ≤ h28.size := Nat.le_trans Z23 (Keep.of_wr W28).1
          have KK28 := KK23.wr W28 (Or.inl (List.mem_of_getElem? (i := 0) rfl))
          have N28 := Fr.snoc X28 N27 g_r0
          refine own_step (U' := T28.setTop (mkF m 129 #[rv r0, iv (2 : Int32), iv (4 : Int32), rv gb, iv v89_20, iv w3, iv (4 : Int32), iv w3] [])) st28 ?_
          refine own_step (U' := T28.setTop (mkF m 131 #[rv r0, iv (2 : Int32), iv (4 : Int32), rv gb, iv v89_20, iv w3, iv (4 : Int32), iv w3] [(.ref r0), (.ref r0)])) (fun t k => XS.aloadN X28.here hx rfl (hb hby d9_129) rfl rfl (XS.aloadN X28.here hx rfl (hb hby d9_130) rfl rfl k)) ?_
          obtain ⟨T29, X29, e29, st29⟩ := getF X28 hx hZ hown (host := "") (Or.inl (own_w hw 75 rfl)) Via.refl e28 F_afterCarriageReturn_r0_28 (g := (mkF m 131 #[rv r0, iv (2 : Int32), iv (4 : Int32), rv gb, iv v89_20, iv w3, iv (4 : Int32), iv w3] [(.ref r0), (.ref r0)])) rfl rfl (hb hby d9_131)
          refine own_step (U' := T29.setTop (mkF m 134 #[rv r0, iv (2 : Int32), iv (4 : Int32), rv gb, iv v89_20, iv w3, iv (4 : Int32), iv w3] [(.int (nar .boolean v126_26)), (.ref r0)])) st29 ?_
          obtain ⟨v152_33, hv152_33⟩ : ∃ v : Int32, v = (if (nar .boolean v126_26) = (0 : Int32) then (if w3 = (10 : Int32) then (1 : Int32) else (0 : Int32)) else (1 : Int32)) := ⟨_, rfl⟩
          have K152_34 : ∀ (T' : State) (locs' : List Loc) (X' : Stand p l e ({ frames := 0, cells := 0, slots := 0, locals := 0 } : Room) s m #[(.ref r0)] below meth c T' locs' 0 0) (N' : Fr n0 locs') (e' : T'.heap = h28), own_Go p.tables e below s 0 0 (Q9c2p4 Z r0 gb wl wr w0 w1 w2 w3 k_gb h0 n0) (T'.setTop (mkF m 152 #[rv r0, iv (2 : Int32), iv (4 : Int32), rv gb, iv v89_20, iv w3, iv (4 : Int32), iv w3] [(.int v152_33), (.ref r0)])) := by
            intro T34 L34 X34 N34 e34
            obtain ⟨u35, Fu35⟩ := own_anyF (O := own_XC) (n := "afterLineEnd") (d := "Z") E_r0_28 F_bytes_r0_28 (own_w hw 11 rfl) (Or.inl (own_w hw 78 rfl))
            obtain ⟨T35, h35, X35, e35, W35, st35⟩ := putFN X34 hx hZ hown (own_w hw 77 rfl) Via.refl e34 Fu35 E_r0_28 (Or.inl (own_w hw 78 rfl)) (own_w hw 11 rfl) (ty := .boolean) (v' := (.int (nar .boolean v152_33))) (by decide) rfl (fits_nar_bool _) (g := (mkF m 152 #[rv r0, iv (2 : Int32), iv (4 : Int32), rv gb, iv v89_20, iv w3, iv (4 : Int32), iv w3] [(.int v152_33), (.ref r0)])) rfl rfl (hb hby d9_152)
            have E_r0_35 := E_r0_28.wr W35
            have F_bytes_r0_35 := F_bytes_r0_28.other W35 (Or.inr (slot_ne (Or.inl (own_w hw 41 rfl)) (Or.inl (own_w hw 78 rfl)) (by decide) (t := (.array .byte)) (t' := .boolean) (by decide) (by decide)))
            have F_position_r0_35 := F_position_r0_28.other W35 (Or.inr (slot_ne (Or.inl (own_w hw 58 rfl)) (Or.inl (own_w hw 78 rfl)) (by decide) (t := .int) (t' := .boolean) (by decide) (by decide)))
            have F_line_r0_35 := F_line_r0_28.other W35 (Or.inr (slot_ne (Or.inl (own_w hw 72 rfl)) (Or.inl (own_w hw 78 rfl)) (by decide) (t := .int) (t' := .boolean) (by decide) (by decide)))
            have F_counted_r0_35 := F_counted_r0_28.other W35 (Or.inr (slot_ne (Or.inl (own_w hw 74 rfl)) (Or.inl (own_w hw 78 rfl)) (by decide) (t := .int) (t' := .boolean) (by decide) (by decide)))
            have F_afterCarriageReturn_r0_35 := F_afterCarriageReturn_r0_28.other W35 (Or.inr (slot_ne (Or.inl (own_w hw 76 rfl)) (Or.inl (own_w hw 78 rfl)) (by decide) (t := .boolean) (t' := .boolean) (by decide) (by decide)))
            have V_gb_35 := V_gb_28.other W35 hne
            have Z35 : n0 ≤ h35.size := Nat.le_trans Z28 (Keep.of_wr W35).1
            have KK35 := KK28.wr W35 (Or.inl (List.mem_of_getElem? (i := 0) rfl))
            have N35 := Fr.snoc X35 N34 g_r0
            refine own_step (U' := T35.setTop (mkF m 155 #[rv r0, iv (2 : Int32), iv (4 : Int32), rv gb, iv v89_20, iv w3, iv (4 : Int32), iv w3] [])) st35 ?_
            refine own_step (U' := T35.setTop (mkF m 157 #[rv r0, iv (2 : Int32), iv (4 : Int32), rv gb, iv v89_20, iv w3, iv (4 : Int32), iv w3] [(.int (4 : Int32)), (.ref r0)])) (fun t k => XS.aloadN X35.here hx rfl (hb hby d9_155) rfl rfl (XS.iloadN X35.here hx rfl (hb hby d9_156) rfl k)) ?_
            obtain ⟨T36, h36, X36, e36, W36, st36⟩ := putF X35 hx hZ hown (host := "") (Or.inl (own_w hw 73 rfl)) Via.refl e35 F_counted_r0_35 E_r0_35 (Or.inl (own_w hw 74 rfl)) (own_w hw 11 rfl) (ty := .int) (by decide) rfl rfl (g := (mkF m 157 #[rv r0, iv (2 : Int32), iv (4 : Int32), rv gb, iv v89_20, iv w3, iv (4 : Int32), iv w3] [(.int (4 : Int32)), (.ref r0)])) rfl rfl (hb hby d9_157)
            have E_r0_36 := E_r0_35.wr W36
            have F_bytes_r0_36 := F_bytes_r0_35.other W36 (Or.inr (slot_ne (Or.inl (own_w hw 41 rfl)) (Or.inl (own_w hw 74 rfl)) (by decide) (t := (.array .byte)) (t' := .int) (by decide) (by decide)))
            have F_position_r0_36 := F_position_r0_35.other W36 (Or.inr (slot_ne (Or.inl (own_w hw 58 rfl)) (Or.inl (own_w hw 74 rfl)) (by decide) (t := .int) (t' := .int) (by decide) (by decide)))
            have F_line_r0_36 := F_line_r0_35.other W36 (Or.inr (slot_ne (Or.inl (own_w hw 72 rfl)) (Or.inl (own_w hw 74 rfl)) (by decide) (t := .int) (t' := .int) (by decide) (by decide)))
            have F_afterCarriageReturn_r0_36 := F_afterCarriageReturn_r0_35.other W36 (Or.inr (slot_ne (Or.inl (own_w hw 76 rfl)) (Or.inl (own_w hw 74 rfl)) (by decide) (t := .boolean) (t' := .int) (by decide) (by decide)))
            have V_gb_36 := V_gb_35.other W36 hne
            have F_counted_r0_36 := F_counted_r0_35.same W36
            have Z36 : n0 ≤ h36.size := Nat.le_trans Z35 (Keep.of_wr W36).1
            have KK36 := KK35.wr W36 (Or.inl (List.mem_of_getElem? (i := 0) rfl))
            have N36 := Fr.snoc X36 N35 g_r0
            refine own_step (U' := T36.setTop (mkF m 160 #[rv r0, iv (2 : Int32), iv (4 : Int32), rv gb, iv v89_20, iv w3, iv (4 : Int32), iv w3] [])) st36 ?_
            refine own_step (U' := T36.setTop (mkF m 161 #[rv r0, iv (2 : Int32), iv (4 : Int32), rv gb, iv v89_20, iv w3, iv (4 : Int32), iv w3] [(.ref r0)])) (fun t k => XS.aloadN X36.here hx rfl (hb hby d9_160) rfl rfl k) ?_
            obtain ⟨T37, X37, e37, st37⟩ := getF X36 hx hZ hown (host := "") (Or.inl (own_w hw 71 rfl)) Via.refl e36 F_line_r0_36 (g := (mkF m 161 #[rv r0, iv (2 : Int32), iv (4 : Int32), rv gb, iv v89_20, iv w3, iv (4 : Int32), iv w3] [(.ref r0)])) rfl rfl (hb hby d9_161)
            refine own_step (U' := T37.setTop (mkF m 164 #[rv r0, iv (2 : Int32), iv (4 : Int32), rv gb, iv v89_20, iv w3, iv (4 : Int32), iv w3] [(.int (wl + v89_20))])) st37 ?_
            exact own_out X37 (v := (some (.int (wl + v89_20)))) hlk (own_nv Bd.returns) (by rw [e37]; exact (by subst hv41_6 hv89_13 hv89_20 hv126_26 hv152_33; exact ⟨rfl, N36, KK36, E_r0_36, F_bytes_r0_36, F_position_r0_36, F_line_r0_36, F_counted_r0_36, F_afterCarriageReturn_r0_36⟩)) (by decide) (by decide) (fun fs hr => retI X37 hx Bd.returns (hb hby d9_164) hr)
          by_cases hc134_38 : (nar .boolean v126_26) = (0 : Int32)
          · refine own_step (U' := T29.setTop (mkF m 141 #[rv r0, iv (2 : Int32), iv (4 : Int32), rv gb, iv v89_20, iv w3, iv (4 : Int32), iv w3] [(.int (3 : Int32)), (.ref gb), (.ref r0)])) (fun t k => XS.ifNo X29.here hx rfl (hb hby d9_134) rfl ((if0 _ _).trans (teq hc134_38).2) (XS.aloadN X29.here hx rfl (hb hby d9_137) rfl rfl (XS.iloadN X29.here hx rfl (hb hby d9_138) rfl (XS.iconst X29.here hx rfl (hb hby d9_139) (XS.isub X29.here hx rfl (hb hby d9_140) rfl k))))) ?_
            obtain ⟨cl39, Ar39, aq39, aS39, aN39, aH39, aG39⟩ := id V_gb_28
            have hin39 : ¬ ((3 : Int32) < 0 ∨ cl39.slots.size ≤ ((3 : Int32)).toNatClampNeg) := inb_of aS39 ⟨by decide, by decide⟩
            have hat39 : cl39.slots[((3 : Int32)).toNatClampNeg]? = some (.int w3) := aH39.at hin39 rfl
            refine own_step (U' := T29.setTop (mkF m 144 #[rv r0, iv (2 : Int32), iv (4 : Int32), rv gb, iv v89_20, iv w3, iv (4 : Int32), iv w3] [(.int (10 : Int32)), (.int w3), (.ref r0)])) (fun t k => X29.baloadBytes hx (j := (3 : Int32)) (v := (.int w3)) (by rw [e29]; exact Ar39.1) (State.isArrayOf_alike hZ.alike Ar39.2.1) Ar39.2.2 hin39 hat39 (g := (mkF m 141 #[rv r0, iv (2 : Int32), iv (4 : Int32), rv gb, iv v89_20, iv w3, iv (4 : Int32), iv w3] [(.int (3 : Int32)), (.ref gb), (.ref r0)])) rfl rfl (hb hby d9_141) t (XS.bipush X29.here hx rfl (hb hby d9_142) k)) ?_
            by_cases hc144_40 : w3 = (10 : Int32)
            · refine own_step (U' := T29.setTop (mkF m 152 #[rv r0, iv (2 : Int32), iv (4 : Int32), rv gb, iv v89_20, iv w3, iv (4 : Int32), iv w3] [(.int (1 : Int32)), (.ref r0)])) (fun t k => XS.icmpNo X29.here hx rfl (hb hby d9_144) rfl (teq hc144_40).2 (XS.iconst X29.here hx rfl (hb hby d9_147) (XS.goto X29.here hx rfl (pc0 := 148) (pc' := 152) rfl (hb hby d9_148) (by decide) (by decide) k))) ?_
              have q_v152_33 : v152_33 = (1 : Int32) := by rw [hv152_33, if_pos hc134_38, if_pos hc144_40]
              rw [q_v152_33] at K152_34
              exact K152_34 _ _ X29 N28 e29
            · refine own_step (U' := T29.setTop (mkF m 152 #[rv r0, iv (2 : Int32), iv (4 : Int32), rv gb, iv v89_20, iv w3, iv (4 : Int32), iv w3] [(.int (0 : Int32)), (.ref r0)])) (fun t k => XS.icmpYes X29.here hx rfl (pc0 := 144) (pc' := 151) rfl (hb hby d9_144) rfl (feq hc144_40).2 (by decide) (by decide) (XS.iconst X29.here hx rfl (hb hby d9_151) k)) ?_
              have q_v152_33 : v152_33 = (0 : Int32) := by rw [hv152_33, if_pos hc134_38, if_neg hc144_40]
              rw [q_v152_33] at K152_34
              exact K152_34 _ _ X29 N28 e29
          · refine own_step (U' := T29.setTop (mkF m 152 #[rv r0, iv (2 : Int32), iv (4 : Int32), rv gb, iv v89_20, iv w3, iv (4 : Int32), iv w3] [(.int (1 : Int32)), (.ref r0)])) (fun t k => XS.ifYes X29.here hx rfl (pc0 := 134) (pc' := 147) rfl (hb hby d9_134) rfl ((if0 _ _).trans (feq hc134_38).2) (by decide) (by decide) (XS.iconst X29.here hx rfl (hb hby d9_147) (XS.goto X29.here hx rfl (pc0 := 148) (pc' := 152) rfl (hb hby d9_148) (by decide) (by decide) k))) ?_
            have q_v152_33 : v152_33 = (1 : Int32) := by rw [hv152_33, if_neg hc134_38]
            rw [q_v152_33] at K152_34
            exact K152_34 _ _ X29 N28 e29
        by_cases hc118_41 : w3 = (13 : Int32)
        · refine own_step (U' := T23.setTop (mkF m 126 #[rv r0, iv (2 : Int32), iv (4 : Int32), rv gb, iv v89_20, iv w3, iv (4 : Int32), iv w3] [(.int (1 : Int32)), (.ref r0)])) (fun t k => XS.icmpNo X23.here hx rfl (hb hby d9_118) rfl (teq hc118_41).2 (XS.iconst X23.here hx rfl (hb hby d9_121) (XS.goto X23.here hx rfl (pc0 := 122) (pc' := 126) rfl (hb hby d9_122) (by decide) (by decide) k))) ?_
          have q_v126_26 : v126_26 = (1 : Int32) := by rw [hv126_26, if_pos hc118_41]
          rw [q_v126_26] at K126_27
          exact K126_27 _ _ X23 N23 e23
        · refine own_step (U' := T23.setTop (mkF m 126 #[rv r0, iv (2 : Int32), iv (4 : Int32), rv gb, iv v89_20, iv w3, iv (4 : Int32), iv w3] [(.int (0 : Int32)), (.ref r0)])) (fun t k => XS.icmpYes X23.here hx rfl (pc0 := 118) (pc' := 125) rfl (hb hby d9_118) rfl (feq hc118_41).2 (by decide) (by decide) (XS.iconst X23.here hx rfl (hb hby d9_125) k)) ?_
          have q_v126_26 : v126_26 = (0 : Int32) := by rw [hv126_26, if_neg hc118_41]
          rw [q_v126_26] at K126_27
          exact K126_27 _ _ X23 N23 e23
      by_cases hc62_42 : (13 : Int32) < w3
      · refine own_step (U' := T14.setTop (mkF m 89 #[rv r0, iv (2 : Int32), iv (4 : Int32), rv gb, iv v89_13, iv w2, iv (3 : Int32), iv w3] [])) (fun t k => XS.icmpYes X14.here hx rfl (pc0 := 62) (pc' := 89) rfl (hb hby d9_62) rfl (tlt hc62_42).2.2.1 (by decide) (by decide) k) ?_
        have q_v89_20 : v89_20 = v89_13 := by rw [hv89_20, if_pos hc62_42]
        rw [q_v89_20] at K89_21
        exact K89_21 _ _ X14 N14 e14
      · refine own_step (U' := T14.setTop (mkF m 69 #[rv r0, iv (2 : Int32), iv (4 : Int32), rv gb, iv v89_13, iv w2, iv (3 : Int32), iv w3] [(.int (13 : Int32)), (.int w3)])) (fun t k => XS.icmpNo X14.here hx rfl (hb hby d9_62) rfl (flt hc62_42).2.2.1 (XS.iload X14.here hx rfl (hb hby d9_65) rfl (XS.bipush X14.here hx rfl (hb hby d9_67) k))) ?_
        by_cases hc69_43 : w3 = (13 : Int32)
        · refine own_step (U' := T14.setTop (mkF m 89 #[rv r0, iv (2 : Int32), iv (4 : Int32), rv gb, iv (v89_13 + (1 : Int32)), iv w2, iv (3 : Int32), iv w3] [])) (fun t k => XS.icmpYes X14.here hx rfl (pc0 := 69) (pc' := 86) rfl (hb hby d9_69) rfl (teq hc69_43).1 (by decide) (by decide) (XS.iinc X14.here hx rfl (hb hby d9_86) rfl (l' := #[rv r0, iv (2 : Int32), iv (4 : Int32), rv gb, iv (v89_13 + (1 : Int32)), iv w2, iv (3 : Int32), iv w3]) rfl k)) ?_
          have q_v89_20 : v89_20 = (v89_13 + (1 : Int32)) := by rw [hv89_20, if_neg hc62_42, if_pos hc69_43]
          rw [q_v89_20] at K89_21
          exact K89_21 _ _ X14 N14 e14
        · refine own_step (U' := T14.setTop (mkF m 76 #[rv r0, iv (2 : Int32), iv (4 : Int32), rv gb, iv v89_13, iv w2, iv (3 : Int32), iv w3] [(.int (10 : Int32)), (.int w3)])) (fun t k => XS.icmpNo X14.here hx rfl (hb hby d9_69) rfl (feq hc69_43).1 (XS.iload X14.here hx rfl (hb hby d9_72) rfl (XS.bipush X14.here hx rfl (hb hby d9_74) k))) ?_
          by_cases hc76_44 : w3 = (10 : Int32)
          · refine own_step (U' := T14.setTop (mkF m 83 #[rv r0, iv (2 : Int32), iv (4 : Int32), rv gb, iv v89_13, iv w2, iv (3 : Int32), iv w3] [(.int (13 : Int32)), (.int w2)])) (fun t k => XS.icmpNo X14.here hx rfl (hb hby d9_76) rfl (teq hc76_44).2 (XS.iload X14.here hx rfl (hb hby d9_79) rfl (XS.bipush X14.here hx rfl (hb hby d9_81) k))) ?_
            by_cases hc83_45 : w2 = (13 : Int32)
            · refine own_step (U' := T14.setTop (mkF m 89 #[rv r0, iv (2 : Int32), iv (4 : Int32), rv gb, iv v89_13, iv w2, iv (3 : Int32), iv w3] [])) (fun t k => XS.icmpYes X14.here hx rfl (pc0 := 83) (pc' := 89) rfl (hb hby d9_83) rfl (teq hc83_45).1 (by decide) (by decide) k) ?_
              have q_v89_20 : v89_20 = v89_13 := by rw [hv89_20, if_neg hc62_42, if_neg hc69_43, if_pos hc76_44, if_pos hc83_45]
              rw [q_v89_20] at K89_21
              exact K89_21 _ _ X14 N14 e14
            · refine own_step (U' := T14.setTop (mkF m 89 #[rv r0, iv (2 : Int32), iv (4 : Int32), rv gb, iv (v89_13 + (1 : Int32)), iv w2, iv (3 : Int32), iv w3] [])) (fun t k => XS.icmpNo X14.here hx rfl (hb hby d9_83) rfl (feq hc83_45).1 (XS.iinc X14.here hx rfl (hb hby d9_86) rfl (l' := #[rv r0, iv (2 : Int32), iv (4 : Int32), rv gb, iv (v89_13 + (1 : Int32)), iv w2, iv (3 : Int32), iv w3]) rfl k)) ?_
              have q_v89_20 : v89_20 = (v89_13 + (1 : Int32)) := by rw [hv89_20, if_neg hc62_42, if_neg hc69_43, if_pos hc76_44, if_neg hc83_45]
              rw [q_v89_20] at K89_21
              exact K89_21 _ _ X14 N14 e14
          · refine own_step (U' := T14.setTop (mkF m 89 #[rv r0, iv (2 : Int32), iv (4 : Int32), rv gb, iv v89_13, iv w2, iv (3 : Int32), iv w3] [])) (fun t k => XS.icmpYes X14.here hx rfl (pc0 := 76) (pc' := 89) rfl (hb hby d9_76) rfl (feq hc76_44).2 (by decide) (by decide) k) ?_
            have q_v89_20 : v89_20 = v89_13 := by rw [hv89_20, if_neg hc62_42, if_neg hc69_43, if_neg hc76_44]
            rw [q_v89_20] at K89_21
            exact K89_21 _ _ X14 N14 e14
    by_cases hc62_46 : (13 : Int32) < w2
    · refine own_step (U' := T7.setTop (mkF m 89 #[rv r0, iv (2 : Int32), iv (4 : Int32), rv gb, iv (0 : Int32), iv v41_6, iv (2 : Int32), iv w2] [])) (fun t k => XS.icmpYes X7.here hx rfl (pc0 := 62) (pc' := 89) rfl (hb hby d9_62) rfl (tlt hc62_46).2.2.1 (by decide) (by decide) k) ?_
      have q_v89_13 : v89_13 = (0 : Int32) := by rw [hv89_13, if_pos hc62_46]
      rw [q_v89_13] at K89_14
      exact K89_14 _ _ X7 N7 e7
    · refine own_step (U' := T7.setTop (mkF m 69 #[rv r0, iv (2 : Int32), iv (4 : Int32), rv gb, iv (0 : Int32), iv v41_6, iv (2 : Int32), iv w2] [(.int (13 : Int32)), (.int w2)])) (fun t k => XS.icmpNo X7.here hx rfl (hb hby d9_62) rfl (flt hc62_46).2.2.1 (XS.iload X7.here hx rfl (hb hby d9_65) rfl (XS.bipush X7.here hx rfl (hb hby d9_67) k))) ?_
      by_cases hc69_47 : w2 = (13 : Int32)
      · refine own_step (U' := T7.setTop (mkF m 89 #[rv r0, iv (2 : Int32), iv (4 : Int32), rv gb, iv (1 : Int32), iv v41_6, iv (2 : Int32), iv w2] [])) (fun t k => XS.icmpYes X7.here hx rfl (pc0 := 69) (pc' := 86) rfl (hb hby d9_69) rfl (teq hc69_47).1 (by decide) (by decide) (XS.iinc X7.here hx rfl (hb hby d9_86) rfl (l' := #[rv r0, iv (2 : Int32), iv (4 : Int32), rv gb, iv (1 : Int32), iv v41_6, iv (2 : Int32), iv w2]) rfl k)) ?_
        have q_v89_13 : v89_13 = (1 : Int32) := by rw [hv89_13, if_neg hc62_46, if_pos hc69_47]
        rw [q_v89_13] at K89_14
        exact K89_14 _ _ X7 N7 e7
      · refine own_step (U' := T7.setTop (mkF m 76 #[rv r0, iv (2 : Int32), iv (4 : Int32), rv gb, iv (0 : Int32), iv v41_6, iv (2 : Int32), iv w2] [(.int (10 : Int32)), (.int w2)])) (fun t k => XS.icmpNo X7.here hx rfl (hb hby d9_69) rfl (feq hc69_47).1 (XS.iload X7.here hx rfl (hb hby d9_72) rfl (XS.bipush X7.here hx rfl (hb hby d9_74) k))) ?_
        by_cases hc76_48 : w2 = (10 : Int32)
        · refine own_step (U' := T7.setTop (mkF m 83 #[rv r0, iv (2 : Int32), iv (4 : Int32), rv gb, iv (0 : Int32), iv v41_6, iv (2 : Int32), iv w2] [(.int (13 : Int32)), (.int v41_6)])) (fun t k => XS.icmpNo X7.here hx rfl (hb hby d9_76) rfl (teq hc76_48).2 (XS.iload X7.here hx rfl (hb hby d9_79) rfl (XS.bipush X7.here hx rfl (hb hby d9_81) k))) ?_
          by_cases hc83_49 : v41_6 = (13 : Int32)
          · refine own_step (U' := T7.setTop (mkF m 89 #[rv r0, iv (2 : Int32), iv (4 : Int32), rv gb, iv (0 : Int32), iv v41_6, iv (2 : Int32), iv w2] [])) (fun t k => XS.icmpYes X7.here hx rfl (pc0 := 83) (pc' := 89) rfl (hb hby d9_83) rfl (teq hc83_49).1 (by decide) (by decide) k) ?_
            have q_v89_13 : v89_13 = (0 : Int32) := by rw [hv89_13, if_neg hc62_46, if_neg hc69_47, if_pos hc76_48, if_pos hc83_49]
            rw [q_v89_13] at K89_14
            exact K89_14 _ _ X7 N7 e7
          · refine own_step (U' := T7.setTop (mkF m 89 #[rv r0, iv (2 : Int32), iv (4 : Int32), rv gb, iv (1 : Int32), iv v41_6, iv (2 : Int32), iv w2] [])) (fun t k => XS.icmpNo X7.here hx rfl (hb hby d9_83) rfl (feq hc83_49).1 (XS.iinc X7.here hx rfl (hb hby d9_86) rfl (l' := #[rv r0, iv (2 : Int32), iv (4 : Int32), rv gb, iv (1 : Int32), iv v41_6, iv (2 : Int32), iv w2]) rfl k)) ?_
            have q_v89_13 : v89_13 = (1 : Int32) := by rw [hv89_13, if_neg hc62_46, if_neg hc69_47, if_pos hc76_48, if_neg hc83_49]
            rw [q_v89_13] at K89_14
            exact K89_14 _ _ X7 N7 e7
        · refine own_step (U' := T7.setTop (mkF m 89 #[rv r0, iv (2 : Int32), iv (4 : Int32), rv gb, iv (0 : Int32), iv v41_6, iv (2 : Int32), iv w2] [])) (fun t k => XS.icmpYes X7.here hx rfl (pc0 := 76) (pc' := 89) rfl (hb hby d9_76) rfl (feq hc76_48).2 (by decide) (by decide) k) ?_
          have q_v89_13 : v89_13 = (0 : Int32) := by rw [hv89_13, if_neg hc62_46, if_neg hc69_47, if_neg hc76_48]
          rw [q_v89_13] at K89_14
          exact K89_14 _ _ X7 N7 e7
  by_cases hc32_50 : wr = (0 : Int32)
  · refine own_step (U' := T4.setTop (mkF m 41 #[rv r0, iv (2 : Int32), iv (4 : Int32), rv gb, iv (0 : Int32), .unset, .unset, .unset] [(.int (0 : Int32))])) (fun t k => XS.ifYes X4.here hx rfl (pc0 := 32) (pc' := 40) rfl (hb hby d9_32) rfl ((if0 _ _).trans (teq hc32_50).1) (by decide) (by decide) (XS.iconst X4.here hx rfl (hb hby d9_40) k)) ?_
    have q_v41_6 : v41_6 = (0 : Int32) := by rw [hv41_6, if_pos hc32_50]
    rw [q_v41_6] at K41_7
    exact K41_7 _ _ X4 N0 e4
  · refine own_step (U' := T4.setTop (mkF m 41 #[rv r0, iv (2 : Int32), iv (4 : Int32), rv gb, iv (0 : Int32), .unset, .unset, .unset] [(.int (13 : Int32))])) (fun t k => XS.ifNo X4.here hx rfl (hb hby d9_32) rfl ((if0 _ _).trans (feq hc32_50).1) (XS.bipush X4.here hx rfl (hb hby d9_35) (XS.goto X4.here hx rfl (pc0 := 37) (pc' := 41) rfl (hb hby d9_37) (by decide) (by decide) k))) ?_
    have q_v41_6 : v41_6 = (13 : Int32) := by rw [hv41_6, if_neg hc32_50]
    rw [q_v41_6] at K41_7
    exact K41_7 _ _ X4 N0 e4
theorem ef_9c3p4 (m : MethodId) (r0 : Addr) : entryFrame m #[(.ref r0)] 8 = mkF m 0 #[rv r0, .unset, .unset, .unset, .unset, .unset, .unset, .unset] [] := by first | (simp [entryFrame, mkF, argsToLocals, Value.category]; done) | rfl
def F9c3p4 (wl : Int32) (wr : Int32) (w0 : Int32) (w1 : Int32) (w2 : Int32) (w3 : Int32) : Int32 :=
  let v41_6 : Int32 := (if wr = (0 : Int32) then (0 : Int32) else (13 : Int32))
  let v89_13 : Int32 := (if (13 : Int32) < w3 then (0 : Int32) else (if w3 = (13 : Int32) then (1 : Int32) else (if w3 = (10 : Int32) then (if v41_6 = (13 : Int32) then (0 : Int32) else (1 : Int32)) else (0 : Int32))))
  let v126_19 : Int32 := (if w3 = (13 : Int32) then (1 : Int32) else (0 : Int32))
  let v152_26 : Int32 := (if (nar .boolean v126_19) = (0 : Int32) then (if w3 = (10 : Int32) then (1 : Int32) else (0 : Int32)) else (1 : Int32))
  (wl + v89_13)
def Q9c3p4 (Z : State) (r0 : Addr) (gb : Addr) (wl : Int32) (wr : Int32) (w0 : Int32) (w1 : Int32) (w2 : Int32) (w3 : Int32) (k_gb : ClassId) (h0 : Heap) (n0 : Nat) (v : Option Value) (h : Heap) (L : List Loc) : Prop := v = some (.int (F9c3p4 wl wr w0 w1 w2 w3)) ∧ Fr n0 L ∧ Keep h0 h [r0] ∧ Exa Z h r0 own_XC ∧ Fld Z h r0 own_XC "bytes" "[B" (.ref gb) ∧ Fld Z h r0 own_XC "position" "I" (.int (4 : Int32)) ∧ Fld Z h r0 own_XC "line" "I" (.int (F9c3p4 wl wr w0 w1 w2 w3)) ∧ Fld Z h r0 own_XC "counted" "I" (.int (4 : Int32)) ∧ Fld Z h r0 own_XC "afterCarriageReturn" "Z" (.int (nar .boolean (if w3 = (13 : Int32) then (1 : Int32) else (0 : Int32))))
set_option maxRecDepth 65536 in
set_option maxHeartbeats 40000000 in
theorem rm9c3p4 (l : Launch) (Z : State) (a0 : Array Value) (hw : ∀ d ∈ tables_1, d.before a0 Z = true) (ws : List Jvm.Cond) (r0 : Addr) (gb : Addr) (wl : Int32) (wr : Int32) (w0 : Int32) (w1 : Int32) (w2 : Int32) (w3 : Int32) (k_gb : ClassId) (h0 : Heap) (n0 : Nat) (Z0 : n0 ≤ h0.size) (E_r0 : Exa Z h0 r0 own_XC) (F_bytes_r0 : Fld Z h0 r0 own_XC "bytes" "[B" (.ref gb)) (F_position_r0 : Fld Z h0 r0 own_XC "position" "I" (.int (4 : Int32))) (F_line_r0 : Fld Z h0 r0 own_XC "line" "I" (.int wl)) (F_counted_r0 : Fld Z h0 r0 own_XC "counted" "I" (.int (3 : Int32))) (F_afterCarriageReturn_r0 : Fld Z h0 r0 own_XC "afterCarriageReturn" "Z" (.int wr)) (g_r0 : n0 ≤ r0) (V_gb : Arv Z h0 gb k_gb .byte (65536 : Int32) [(.int w0), (.int w1), (.int w2), (.int w3)] (.int (0 : Int32))) (hne : gb ≠ r0) :
    MetFree l (⟨own_XC, "line", "()I"⟩ : MethodName) (head1 (Jvm.Cond.code (⟨own_XC, "line", "()I"⟩ : MethodName) prog_148_method_16_code 8 (some .int) :: ws) ({ frames := 0, cells := 0, slots := 0, locals := 0 } : Room)) (fun a U => a = #[(.ref r0)] ∧ Z.Warmed39 U.vm ∧ U.heap = h0) (fun _ _ _ _ _ => True) (fun _ U o U' => ∃ v L, o = .returned v ∧ Q9c3p4 Z r0 gb wl wr w0 w1 w2 w3 k_gb h0 n0 v U'.heap L ∧ FrameEnd U o U' L ({ frames := 0, cells := 0, slots := 0, locals := 0 } : Room).cells ({ frames := 0, cells := 0, slots := 0, locals := 0 } : Room).slots) := by
  refine MetFree.of_bodySF (plainFor_of_name pn_9) hisR ?_
  intro p e s m args below meth c s₁ Bd hml0 hP hK
  obtain ⟨rfl, hZ, hh⟩ := hP
  have hx := Bd.exec
  have hby := Bd.bytes
  have hml : c.maxLocals = 8 := hml0
  have hown : s.vm.findClass own_XC = some m.cls := findClass_of_methodNamed Bd.named
  have hnm := (name_of_methodNamed Bd.named Bd.method).1
  have hlk : meth.locks = false := Bd.notSynchronized
  have X0 : Stand p l e ({ frames := 0, cells := 0, slots := 0, locals := 0 } : Room) s m #[(.ref r0)] below meth c s₁ [] 0 0 := Stand.of_body Bd
  have e0 : s₁.heap = h0 := by rw [← hh, Bd.state]; rfl
  have N0 := Fr.nil n0
  have KK0 := Keep.refl h0 [r0]
  show own_Go p.tables e below s 0 0 (Q9c3p4 Z r0 gb wl wr w0 w1 w2 w3 k_gb h0 n0) (s₁.setTop (entryFrame m #[(.ref r0)] 8))
  rw [ef_9c3p4]
  refine own_step (U' := s₁.setTop (mkF m 1 #[rv r0, .unset, .unset, .unset, .unset, .unset, .unset, .unset] [(.ref r0)])) (fun t k => XS.aloadN X0.here hx rfl (hb hby d9_0) rfl rfl k) ?_
  obtain ⟨T1, X1, e1, st1⟩ := getF X0 hx hZ hown (host := "") (Or.inl (own_w hw 73 rfl)) Via.refl e0 F_counted_r0 (g := (mkF m 1 #[rv r0, .unset, .unset, .unset, .unset, .unset, .unset, .unset] [(.ref r0)])) rfl rfl (hb hby d9_1)
  refine own_step (U' := T1.setTop (mkF m 4 #[rv r0, .unset, .unset, .unset, .unset, .unset, .unset, .unset] [(.int (3 : Int32))])) st1 ?_
  refine own_step (U' := T1.setTop (mkF m 6 #[rv r0, iv (3 : Int32), .unset, .unset, .unset, .unset, .unset, .unset] [(.ref r0)])) (fun t k => XS.istoreN X1.here hx rfl (hb hby d9_4) rfl (l' := #[rv r0, iv (3 : Int32), .unset, .unset, .unset, .unset, .unset, .unset]) rfl (XS.aloadN X1.here hx rfl (hb hby d9_5) rfl rfl k)) ?_
  obtain ⟨T2, X2, e2, st2⟩ := getF X1 hx hZ hown (host := "") (Or.inl (own_w hw 57 rfl)) Via.refl e1 F_position_r0 (g := (mkF m 6 #[rv r0, iv (3 : Int32), .unset, .unset, .unset, .unset, .unset, .unset] [(.ref r0)])) rfl rfl (hb hby d9_6)
  refine own_step (U' := T2.setTop (mkF m 9 #[rv r0, iv (3 : Int32), .unset, .unset, .unset, .unset, .unset, .unset] [(.int (4 : Int32))])) st2 ?_
  refine own_step (U' := T2.setTop (mkF m 21 #[rv r0, iv (3 : Int32), iv (4 : Int32), .unset, .unset, .unset, .unset, .unset] [(.ref r0)])) (fun t k => XS.istoreN X2.here hx rfl (hb hby d9_9) rfl (l' := #[rv r0, iv (3 : Int32), iv (4 : Int32), .unset, .unset, .unset, .unset, .unset]) rfl (XS.iloadN X2.here hx rfl (hb hby d9_10) rfl (XS.iloadN X2.here hx rfl (hb hby d9_11) rfl (XS.icmpYes X2.here hx rfl (pc0 := 12) (pc' := 20) rfl (hb hby d9_12) rfl (by decide) (by decide) (by decide) (XS.aloadN X2.here hx rfl (hb hby d9_20) rfl rfl k))))) ?_
  obtain ⟨T3, X3, e3, st3⟩ := getF X2 hx hZ hown (host := "") (Or.inl (own_w hw 40 rfl)) Via.refl e2 F_bytes_r0 (g := (mkF m 21 #[rv r0, iv (3 : Int32), iv (4 : Int32), .unset, .unset, .unset, .unset, .unset] [(.ref r0)])) rfl rfl (hb hby d9_21)
  refine own_step (U' := T3.setTop (mkF m 24 #[rv r0, iv (3 : Int32), iv (4 : Int32), .unset, .unset, .unset, .unset, .unset] [(.ref gb)])) st3 ?_
  refine own_step (U' := T3.setTop (mkF m 29 #[rv r0, iv (3 : Int32), iv (4 : Int32), rv gb, iv (0 : Int32), .unset, .unset, .unset] [(.ref r0)])) (fun t k => XS.astoreN X3.here hx rfl (hb hby d9_24) rfl rfl (l' := #[rv r0, iv (3 : Int32), iv (4 : Int32), rv gb, .unset, .unset, .unset, .unset]) rfl (XS.iconst X3.here hx rfl (hb hby d9_25) (XS.istore X3.here hx rfl (hb hby d9_26) rfl (l' := #[rv r0, iv (3 : Int32), iv (4 : Int32), rv gb, iv (0 : Int32), .unset, .unset, .unset]) rfl (XS.aloadN X3.here hx rfl (hb hby d9_28) rfl rfl k)))) ?_
  obtain ⟨T4, X4, e4, st4⟩ := getF X3 hx hZ hown (host := "") (Or.inl (own_w hw 75 rfl)) Via.refl e3 F_afterCarriageReturn_r0 (g := (mkF m 29 #[rv r0, iv (3 : Int32), iv (4 : Int32), rv gb, iv (0 : Int32), .unset, .unset, .unset] [(.ref r0)])) rfl rfl (hb hby d9_29)
  refine own_step (U' := T4.setTop (mkF m 32 #[rv r0, iv (3 : Int32), iv (4 : Int32), rv gb, iv (0 : Int32), .unset, .unset, .unset] [(.int wr)])) st4 ?_
  obtain ⟨v41_6, hv41_6⟩ : ∃ v : Int32, v = (if wr = (0 : Int32) then (0 : Int32) else (13 : Int32)) := ⟨_, rfl⟩
  have K41_7 : ∀ (T' : State) (locs' : List Loc) (X' : Stand p l e ({ frames := 0, cells := 0, slots := 0, locals := 0 } : Room) s m #[(.ref r0)] below meth c T' locs' 0 0) (N' : Fr n0 locs') (e' : T'.heap = h0), own_Go p.tables e below s 0 0 (Q9c3p4 Z r0 gb wl wr w0 w1 w2 w3 k_gb h0 n0) (T'.setTop (mkF m 41 #[rv r0, iv (3 : Int32), iv (4 : Int32), rv gb, iv (0 : Int32), .unset, .unset, .unset] [(.int v41_6)])) := by
    intro T7 L7 X7 N7 e7
    refine own_step (U' := T7.setTop (mkF m 55 #[rv r0, iv (3 : Int32), iv (4 : Int32), rv gb, iv (0 : Int32), iv v41_6, iv (3 : Int32), .unset] [(.int (3 : Int32)), (.ref gb)])) (fun t k => XS.istore X7.here hx rfl (hb hby d9_41) rfl (l' := #[rv r0, iv (3 : Int32), iv (4 : Int32), rv gb, iv (0 : Int32), iv v41_6, .unset, .unset]) rfl (XS.iloadN X7.here hx rfl (hb hby d9_43) rfl (XS.istore X7.here hx rfl (hb hby d9_44) rfl (l' := #[rv r0, iv (3 : Int32), iv (4 : Int32), rv gb, iv (0 : Int32), iv v41_6, iv (3 : Int32), .unset]) rfl (XS.iload X7.here hx rfl (hb hby d9_46) rfl (XS.iloadN X7.here hx rfl (hb hby d9_48) rfl (XS.icmpNo X7.here hx rfl (hb hby d9_49) rfl (by decide) (XS.aloadN X7.here hx rfl (hb hby d9_52) rfl rfl (XS.iload X7.here hx rfl (hb hby d9_53) rfl k)))))))) ?_
    obtain ⟨cl8, Ar8, aq8, aS8, aN8, aH8, aG8⟩ := id V_gb
    have hin8 : ¬ ((3 : Int32) < 0 ∨ cl8.slots.size ≤ ((3 : Int32)).toNatClampNeg) := inb_of aS8 ⟨by decide, by decide⟩
    have hat8 : cl8.slots[((3 : Int32)).toNatClampNeg]? = some (.int w3) := aH8.at hin8 rfl
    refine own_step (U' := T7.setTop (mkF m 62 #[rv r0, iv (3 : Int32), iv (4 : Int32), rv gb, iv (0 : Int32), iv v41_6, iv (3 : Int32), iv w3] [(.int (13 : Int32)), (.int w3)])) (fun t k => X7.baloadBytes hx (j := (3 : Int32)) (v := (.int w3)) (by rw [e7]; exact Ar8.1) (State.isArrayOf_alike hZ.alike Ar8.2.1) Ar8.2.2 hin8 hat8 (g := (mkF m 55 #[rv r0, iv (3 : Int32), iv (4 : Int32), rv gb, iv (0 : Int32), iv v41_6, iv (3 : Int32), .unset] [(.int (3 : Int32)), (.ref gb)])) rfl rfl (hb hby d9_55) t (XS.istore X7.here hx rfl (hb hby d9_56) rfl (l' := #[rv r0, iv (3 : Int32), iv (4 : Int32), rv gb, iv (0 : Int32), iv v41_6, iv (3 : Int32), iv w3]) rfl (XS.iload X7.here hx rfl (hb hby d9_58) rfl (XS.bipush X7.here hx rfl (hb hby d9_60) k)))) ?_
    obtain ⟨v89_13, hv89_13⟩ : ∃ v : Int32, v = (if (13 : Int32) < w3 then (0 : Int32) else (if w3 = (13 : Int32) then (1 : Int32) else (if w3 = (10 : Int32) then (if v41_6 = (13 : Int32) then (0 : Int32) else (1 : Int32)) else (0 : Int32)))) := ⟨_, rfl⟩
    have K89_14 : ∀ (T' : State) (locs' : List Loc) (X' : Stand p l e ({ frames := 0, cells := 0, slots := 0, locals := 0 } : Room) s m #[(.ref r0)] below meth c T' locs' 0 0) (N' : Fr n0 locs') (e' : T'.heap = h0), own_Go p.tables e below s 0 0 (Q9c3p4 Z r0 gb wl wr w0 w1 w2 w3 k_gb h0 n0) (T'.setTop (mkF m 89 #[rv r0, iv (3 : Int32), iv (4 : Int32), rv gb, iv v89_13, iv v41_6, iv (3 : Int32), iv w3] [])) := by
      intro T14 L14 X14 N14 e14
      refine own_step (U' := T14.setTop (mkF m 100 #[rv r0, iv (3 : Int32), iv (4 : Int32), rv gb, iv v89_13, iv w3, iv (4 : Int32), iv w3] [(.ref r0)])) (fun t k => XS.iload X14.here hx rfl (hb hby d9_89) rfl (XS.istore X14.here hx rfl (hb hby d9_91) rfl (l' := #[rv r0, iv (3 : Int32), iv (4 : Int32), rv gb, iv v89_13, iv w3, iv (3 : Int32), iv w3]) rfl (XS.iinc X14.here hx rfl (hb hby d9_93) rfl (l' := #[rv r0, iv (3 : Int32), iv (4 : Int32), rv gb, iv v89_13, iv w3, iv (4 : Int32), iv w3]) rfl (XS.goto X14.here hx rfl (pc0 := 96) (pc' := 46) rfl (hb hby d9_96) (by decide) (by decide) (XS.iload X14.here hx rfl (hb hby d9_46) rfl (XS.iloadN X14.here hx rfl (hb hby d9_48) rfl (XS.icmpYes X14.here hx rfl (pc0 := 49) (pc' := 99) rfl (hb hby d9_49) rfl (by decide) (by decide) (by decide) (XS.aloadN X14.here hx rfl (hb hby d9_99) rfl rfl k)))))))) ?_
      refine own_step (U' := T14.setTop (mkF m 101 #[rv r0, iv (3 : Int32), iv (4 : Int32), rv gb, iv v89_13, iv w3, iv (4 : Int32), iv w3] [(.ref r0), (.ref r0)])) (fun t k => XS.dup X14.here hx rfl (hb hby d9_100) rfl rfl k) ?_
      obtain ⟨T15, X15, e15, st15⟩ := getF X14 hx hZ hown (host := "") (Or.inl (own_w hw 71 rfl)) Via.refl e14 F_line_r0 (g := (mkF m 101 #[rv r0, iv (3 : Int32), iv (4 : Int32), rv gb, iv v89_13, iv w3, iv (4 : Int32), iv w3] [(.ref r0), (.ref r0)])) rfl rfl (hb hby d9_101)
      refine own_step (U' := T15.setTop (mkF m 104 #[rv r0, iv (3 : Int32), iv (4 : Int32), rv gb, iv v89_13, iv w3, iv (4 : Int32), iv w3] [(.int wl), (.ref r0)])) st15 ?_
      refine own_step (U' := T15.setTop (mkF m 107 #[rv r0, iv (3 : Int32), iv (4 : Int32), rv gb, iv v89_13, iv w3, iv (4 : Int32), iv w3] [(.int (wl + v89_13)), (.ref r0)])) (fun t k => XS.iload X15.here hx rfl (hb hby d9_104) rfl (XS.iadd X15.here hx rfl (hb hby d9_106) rfl k)) ?_
      obtain ⟨T16, h16, X16, e16, W16, st16⟩ := putF X15 hx hZ hown (host := "") (Or.inl (own_w hw 71 rfl)) Via.refl e15 F_line_r0 E_r0 (Or.inl (own_w hw 72 rfl)) (own_w hw 11 rfl) (ty := .int) (by decide) rfl rfl (g := (mkF m 107 #[rv r0, iv (3 : Int32), iv (4 : Int32), rv gb, iv v89_13, iv w3, iv (4 : Int32), iv w3] [(.int (wl + v89_13)), (.ref r0)])) rfl rfl (hb hby d9_107)
      have E_r0_16 := E_r0.wr W16
      have F_bytes_r0_16 := F_bytes_r0.other W16 (Or.inr (slot_ne (Or.inl (own_w hw 41 rfl)) (Or.inl (own_w hw 72 rfl)) (by decide) (t := (.array .byte)) (t' := .int) (by decide) (by decide)))
      have F_position_r0_16 := F_position_r0.other W16 (Or.inr (slot_ne (Or.inl (own_w hw 58 rfl)) (Or.inl (own_w hw 72 rfl)) (by decide) (t := .int) (t' := .int) (by decide) (by decide)))
      have F_counted_r0_16 := F_counted_r0.other W16 (Or.inr (slot_ne (Or.inl (own_w hw 74 rfl)) (Or.inl (own_w hw 72 rfl)) (by decide) (t := .int) (t' := .int) (by decide) (by decide)))
      have F_afterCarriageReturn_r0_16 := F_afterCarriageReturn_r0.other W16 (Or.inr (slot_ne (Or.inl (own_w hw 76 rfl)) (Or.inl (own_w hw 72 rfl)) (by decide) (t := .boolean) (t' := .int) (by decide) (by decide)))
      have V_gb_16 := V_gb.other W16 hne
      have F_line_r0_16 := F_line_r0.same W16
      have Z16 : n0 ≤ h16.size := Nat.le_trans Z0 (Keep.of_wr W16).1
      have KK16 := KK0.wr W16 (Or.inl (List.mem_of_getElem? (i := 0) rfl))
      have N16 := Fr.snoc X16 N14 g_r0
      refine own_step (U' := T16.setTop (mkF m 110 #[rv r0, iv (3 : Int32), iv (4 : Int32), rv gb, iv v89_13, iv w3, iv (4 : Int32), iv w3] [])) st16 ?_
      refine own_step (U' := T16.setTop (mkF m 115 #[rv r0, iv (3 : Int32), iv (4 : Int32), rv gb, iv v89_13, iv w3, iv (4 : Int32), iv w3] [(.int (3 : Int32)), (.ref gb), (.ref r0)])) (fun t k => XS.aloadN X16.here hx rfl (hb hby d9_110) rfl rfl (XS.aloadN X16.here hx rfl (hb hby d9_111) rfl rfl (XS.iloadN X16.here hx rfl (hb hby d9_112) rfl (XS.iconst X16.here hx rfl (hb hby d9_113) (XS.isub X16.here hx rfl (hb hby d9_114) rfl k))))) ?_
      obtain ⟨cl17, Ar17, aq17, aS17, aN17, aH17, aG17⟩ := id V_gb_16
      have hin17 : ¬ ((3 : Int32) < 0 ∨ cl17.slots.size ≤ ((3 : Int32)).toNatClampNeg) := inb_of aS17 ⟨by decide, by decide⟩
      have hat17 : cl17.slots[((3 : Int32)).toNatClampNeg]? = some (.int w3) := aH17.at hin17 rfl
      refine own_step (U' := T16.setTop (mkF m 118 #[rv r0, iv (3 : Int32), iv (4 : Int32), rv gb, iv v89_13, iv w3, iv (4 : Int32), iv w3] [(.int (13 : Int32)), (.int w3), (.ref r0)])) (fun t k => X16.baloadBytes hx (j := (3 : Int32)) (v := (.int w3)) (by rw [e16]; exact Ar17.1) (State.isArrayOf_alike hZ.alike Ar17.2.1) Ar17.2.2 hin17 hat17 (g := (mkF m 115 #[rv r0, iv (3 : Int32), iv (4 : Int32), rv gb, iv v89_13, iv w3, iv (4 : Int32), iv w3] [(.int (3 : Int32)), (.ref gb), (.ref r0)])) rfl rfl (hb hby d9_115) t (XS.bipush X16.here hx rfl (hb hby d9_116) k)) ?_
      obtain ⟨v126_19, hv126_19⟩ : ∃ v : Int32, v = (if w3 = (13 : Int32) then (1 : Int32) else (0 : Int32)) := ⟨_, rfl⟩
      have K126_20 : ∀ (T' : State) (locs' : List Loc) (X' : Stand p l e ({ frames := 0, cells := 0, slots := 0, locals := 0 } : Room) s m #[(.ref r0)] below meth c T' locs' 0 0) (N' : Fr n0 locs') (e' : T'.heap = h16), own_Go p.tables e below s 0 0 (Q9c3p4 Z r0 gb wl wr w0 w1 w2 w3 k_gb h0 n0) (T'.setTop (mkF m 126 #[rv r0, iv (3 : Int32), iv (4 : Int32), rv gb, iv v89_13, iv w3, iv (4 : Int32), iv w3] [(.int v126_19), (.ref r0)])) := by
        intro T20 L20 X20 N20 e20
        obtain ⟨T21, h21, X21, e21, W21, st21⟩ := putFN X20 hx hZ hown (own_w hw 75 rfl) Via.refl e20 F_afterCarriageReturn_r0_16 E_r0_16 (Or.inl (own_w hw 76 rfl)) (own_w hw 11 rfl) (ty := .boolean) (v' := (.int (nar .boolean v126_19))) (by decide) rfl (fits_nar_bool _) (g := (mkF m 126 #[rv r0, iv (3 : Int32), iv (4 : Int32), rv gb, iv v89_13, iv w3, iv (4 : Int32), iv w3] [(.int v126_19), (.ref r0)])) rfl rfl (hb hby d9_126)
        have E_r0_21 := E_r0_16.wr W21
        have F_bytes_r0_21 := F_bytes_r0_16.other W21 (Or.inr (slot_ne (Or.inl (own_w hw 41 rfl)) (Or.inl (own_w hw 76 rfl)) (by decide) (t := (.array .byte)) (t' := .boolean) (by decide) (by decide)))
        have F_position_r0_21 := F_position_r0_16.other W21 (Or.inr (slot_ne (Or.inl (own_w hw 58 rfl)) (Or.inl (own_w hw 76 rfl)) (by decide) (t := .int) (t' := .boolean) (by decide) (by decide)))
        have F_line_r0_21 := F_line_r0_16.other W21 (Or.inr (slot_ne (Or.inl (own_w hw 72 rfl)) (Or.inl (own_w hw 76 rfl)) (by decide) (t := .int) (t' := .boolean) (by decide) (by decide)))
        have F_counted_r0_21 := F_counted_r0_16.other W21 (Or.inr (slot_ne (Or.inl (own_w hw 74 rfl)) (Or.inl (own_w hw 76 rfl)) (by decide) (t := .int) (t' := .boolean) (by decide) (by decide)))
        have V_gb_21 := V_gb_16.other W21 hne
        have F_afterCarriageReturn_r0_21 := F_afterCarriageReturn_r0_16.same W21
        have Z21 : n0 ≤ h21.size := Nat.le_trans Z16 (Keep.of_wr W21).1
        have KK21 := KK16.wr W21 (Or.inl (List.mem_of_getElem? (i := 0) rfl))
        have N21 := Fr.snoc X21 N20 g_r0
        refine own_step (U' := T21.setTop (mkF m 129 #[rv r0, iv (3 : Int32), iv (4 : Int32), rv gb, iv v89_13, iv w3, iv (4 : Int32), iv w3] [])) st21 ?_
        refine own_step (U' := T21.setTop (mkF m 131 #[rv r0, iv (3 : Int32), iv (4 : Int32), rv gb, iv v89_13, iv w3, iv (4 : Int32), iv w3] [(.ref r0), (.ref r0)])) (fun t k => XS.aloadN X21.here hx rfl (hb hby d9_129) rfl rfl (XS.aloadN X21.here hx rfl (hb hby d9_130) rfl rfl k)) ?_
        obtain ⟨T22, X22, e22, st22⟩ := getF X21 hx hZ hown (host := "") (Or.inl (own_w hw 75 rfl)) Via.refl e21 F_afterCarriageReturn_r0_21 (g := (mkF m 131 #[rv r0, iv (3 : Int32), iv (4 : Int32), rv gb, iv v89_13, iv w3, iv (4 : Int32), iv w3] [(.ref r0), (.ref r0)])) rfl rfl (hb hby d9_131)
        refine own_step (U' := T22.setTop (mkF m 134 #[rv r0, iv (3 : Int32), iv (4 : Int32), rv gb, iv v89_13, iv w3, iv (4 : Int32), iv w3] [(.int (nar .boolean v126_19)), (.ref r0)])) st22 ?_
        obtain ⟨v152_26, hv152_26⟩ : ∃ v : Int32, v = (if (nar .boolean v126_19) = (0 : Int32) then (if w3 = (10 : Int32) then (1 : Int32) else (0 : Int32)) else (1 : Int32)) := ⟨_, rfl⟩
        have K152_27 : ∀ (T' : State) (locs' : List Loc) (X' : Stand p l e ({ frames := 0, cells := 0, slots := 0, locals := 0 } : Room) s m #[(.ref r0)] below meth c T' locs' 0 0) (N' : Fr n0 locs') (e' : T'.heap = h21), own_Go p.tables e below s 0 0 (Q9c3p4 Z r0 gb wl wr w0 w1 w2 w3 k_gb h0 n0) (T'.setTop (mkF m 152 #[rv r0, iv (3 : Int32), iv (4 : Int32), rv gb, iv v89_13, iv w3, iv (4 : Int32), iv w3] [(.int v152_26), (.ref r0)])) := by
          intro T27 L27 X27 N27 e27
          obtain ⟨u28, Fu28⟩ := own_anyF (O := own_XC) (n := "afterLineEnd") (d := "Z") E_r0_21 F_bytes_r0_21 (own_w hw 11 rfl) (Or.inl (own_w hw 78 rfl))
          obtain ⟨T28, h28, X28, e28, W28, st28⟩ := putFN X27 hx hZ hown (own_w hw 77 rfl) Via.refl e27 Fu28 E_r0_21 (Or.inl (own_w hw 78 rfl)) (own_w hw 11 rfl) (ty := .boolean) (v' := (.int (nar .boolean v152_26))) (by decide) rfl (fits_nar_bool _) (g := (mkF m 152 #[rv r0, iv (3 : Int32), iv (4 : Int32), rv gb, iv v89_13, iv w3, iv (4 : Int32), iv w3] [(.int v152_26), (.ref r0)])) rfl rfl (hb hby d9_152)
          have E_r0_28 := E_r0_21.wr W28
          have F_bytes_r0_28 := F_bytes_r0_21.other W28 (Or.inr (slot_ne (Or.inl (own_w hw 41 rfl)) (Or.inl (own_w hw 78 rfl)) (by decide) (t := (.array .byte)) (t' := .boolean) (by decide) (by decide)))
          have F_position_r0_28 := F_position_r0_21.other W28 (Or.inr (slot_ne (Or.inl (own_w hw 58 rfl)) (Or.inl (own_w hw 78 rfl)) (by decide) (t := .int) (t' := .boolean) (by decide) (by decide)))
          have F_line_r0_28 := F_line_r0_21.other W28 (Or.inr (slot_ne (Or.inl (own_w hw 72 rfl)) (Or.inl (own_w hw 78 rfl)) (by decide) (t := .int) (t' := .boolean) (by decide) (by decide)))
          have F_counted_r0_28 := F_counted_r0_21.other W28 (Or.inr (slot_ne (Or.inl (own_w hw 74 rfl)) (Or.inl (own_w hw 78 rfl)) (by decide) (t := .int) (t' := .boolean) (by decide) (by decide)))
          have F_afterCarriageReturn_r0_28 := F_afterCarriageReturn_r0_21.other W28 (Or.inr (slot_ne (Or.inl (own_w hw 76 rfl)) (Or.inl (own_w hw 78 rfl)) (by decide) (t := .boolean) (t' := .boolean) (by decide) (by decide)))
          have V_gb_28 := V_gb_21.other W28 hne
          have Z28 : n0 ≤ h28.size := Nat.le_trans Z21 (Keep.of_wr W28).1
          have KK28 := KK21.wr W28 (Or.inl (List.mem_of_getElem? (i := 0) rfl))
          have N28 := Fr.snoc X28 N27 g_r0
          refine own_step (U' := T28.setTop (mkF m 155 #[rv r0, iv (3 : Int32), iv (4 : Int32), rv gb, iv v89_13, iv w3, iv (4 : Int32), iv w3] [])) st28 ?_
          refine own_step (U' := T28.setTop (mkF m 157 #[rv r0, iv (3 : Int32), iv (4 : Int32), rv gb, iv v89_13, iv w3, iv (4 : Int32), iv w3] [(.int (4 : Int32)), (.ref r0)])) (fun t k => XS.aloadN X28.here hx rfl (hb hby d9_155) rfl rfl (XS.iloadN X28.here hx rfl (hb hby d9_156) rfl k)) ?_
          obtain ⟨T29, h29, X29, e29, W29, st29⟩ := putF X28 hx hZ hown (host := "") (Or.inl (own_w hw 73 rfl)) Via.refl e28 F_counted_r0_28 E_r0_28 (Or.inl (own_w hw 74 rfl)) (own_w hw 11 rfl) (ty := .int) (by decide) rfl rfl (g := (mkF m 157 #[rv r0, iv (3 : Int32), iv (4 : Int32), rv gb, iv v89_13, iv w3, iv (4 : Int32), iv w3] [(.int (4 : Int32)), (.ref r0)])) rfl rfl (hb hby d9_157)
          have E_r0_29 := E_r0_28.wr W29
          have F_bytes_r0_29 := F_bytes_r0_28.other W29 (Or.inr (slot_ne (Or.inl (own_w hw 41 rfl)) (Or.inl (own_w hw 74 rfl)) (by decide) (t := (.array .byte)) (t' := .int) (by decide) (by decide)))
          have F_position_r0_29 := F_position_r0_28.other W29 (Or.inr (slot_ne (Or.inl (own_w hw 58 rfl)) (Or.inl (own_w hw 74 rfl)) (by decide) (t := .int) (t' := .int) (by decide) (by decide)))
          have F_line_r0_29 := F_line_r0_28.other W29 (Or.inr (slot_ne (Or.inl (own_w hw 72 rfl)) (Or.inl (own_w hw 74 rfl)) (by decide) (t := .int) (t' := .int) (by decide) (by decide)))
          have F_afterCarriageReturn_r0_29 := F_afterCarriageReturn_r0_28.other W29 (Or.inr (slot_ne (Or.inl (own_w hw 76 rfl)) (Or.inl (own_w hw 74 rfl)) (by decide) (t := .boolean) (t' := .int) (by decide) (by decide)))
          have V_gb_29 := V_gb_28.other W29 hne
          have F_counted_r0_29 := F_counted_r0_28.same W29
          have Z29 : n0 ≤ h29.size := Nat.le_trans Z28 (Keep.of_wr W29).1
          have KK29 := KK28.wr W29 (Or.inl (List.mem_of_getElem? (i := 0) rfl))
          have N29 := Fr.snoc X29 N28 g_r0
          refine own_step (U' := T29.setTop (mkF m 160 #[rv r0, iv (3 : Int32), iv (4 : Int32), rv gb, iv v89_13, iv w3, iv (4 : Int32), iv w3] [])) st29 ?_
          refine own_step (U' := T29.setTop (mkF m 161 #[rv r0, iv (3 : Int32), iv (4 : Int32), rv gb, iv v89_13, iv w3, iv (4 : Int32), iv w3] [(.ref r0)])) (fun t k => XS.aloadN X29.here hx rfl (hb hby d9_160) rfl rfl k) ?_
          obtain ⟨T30, X30, e30, st30⟩ := getF X29 hx hZ hown (host := "") (Or.inl (own_w hw 71 rfl)) Via.refl e29 F_line_r0_29 (g := (mkF m 161 #[rv r0, iv (3 : Int32), iv (4 : Int32), rv gb, iv v89_13, iv w3, iv (4 : Int32), iv w3] [(.ref r0)])) rfl rfl (hb hby d9_161)
          refine own_step (U' := T30.setTop (mkF m 164 #[rv r0, iv (3 : Int32), iv (4 : Int32), rv gb, iv v89_13, iv w3, iv (4 : Int32), iv w3] [(.int (wl + v89_13))])) st30 ?_
          exact own_out X30 (v := (some (.int (wl + v89_13)))) hlk (own_nv Bd.returns) (by rw [e30]; exact (by subst hv41_6 hv89_13 hv126_19 hv152_26; exact ⟨rfl, N29, KK29, E_r0_29, F_bytes_r0_29, F_position_r0_29, F_line_r0_29, F_counted_r0_29, F_afterCarriageReturn_r0_29⟩)) (by decide) (by decide) (fun fs hr => retI X30 hx Bd.returns (hb hby d9_164) hr)
        by_cases hc134_31 : (nar .boolean v126_19) = (0 : Int32)
        · refine own_step (U' := T22.setTop (mkF m 141 #[rv r0, iv (3 : Int32), iv (4 : Int32), rv gb, iv v89_13, iv w3, iv (4 : Int32), iv w3] [(.int (3 : Int32)), (.ref gb), (.ref r0)])) (fun t k => XS.ifNo X22.here hx rfl (hb hby d9_134) rfl ((if0 _ _).trans (teq hc134_31).2) (XS.aloadN X22.here hx rfl (hb hby d9_137) rfl rfl (XS.iloadN X22.here hx rfl (hb hby d9_138) rfl (XS.iconst X22.here hx rfl (hb hby d9_139) (XS.isub X22.here hx rfl (hb hby d9_140) rfl k))))) ?_
          obtain ⟨cl32, Ar32, aq32, aS32, aN32, aH32, aG32⟩ := id V_gb_21
          have hin32 : ¬ ((3 : Int32) < 0 ∨ cl32.slots.size ≤ ((3 : Int32)).toNatClampNeg) := inb_of aS32 ⟨by decide, by decide⟩
          have hat32 : cl32.slots[((3 : Int32)).toNatClampNeg]? = some (.int w3) := aH32.at hin32 rfl
          refine own_step (U' := T22.setTop (mkF m 144 #[rv r0, iv (3 : Int32), iv (4 : Int32), rv gb, iv v89_13, iv w3, iv (4 : Int32), iv w3] [(.int (10 : Int32)), (.int w3), (.ref r0)])) (fun t k => X22.baloadBytes hx (j := (3 : Int32)) (v := (.int w3)) (by rw [e22]; exact Ar32.1) (State.isArrayOf_alike hZ.alike Ar32.2.1) Ar32.2.2 hin32 hat32 (g := (mkF m 141 #[rv r0, iv (3 : Int32), iv (4 : Int32), rv gb, iv v89_13, iv w3, iv (4 : Int32), iv w3] [(.int (3 : Int32)), (.ref gb), (.ref r0)])) rfl rfl (hb hby d9_141) t (XS.bipush X22.here hx rfl (hb hby d9_142) k)) ?_
          by_cases hc144_33 : w3 = (10 : Int32)
          · refine own_step (U' := T22.setTop (mkF m 152 #[rv r0, iv (3 : Int32), iv (4 : Int32), rv gb, iv v89_13, iv w3, iv (4 : Int32), iv w3] [(.int (1 : Int32)), (.ref r0)])) (fun t k => XS.icmpNo X22.here hx rfl (hb hby d9_144) rfl (teq hc144_33).2 (XS.iconst X22.here hx rfl (hb hby d9_147) (XS.goto X22.here hx rfl (pc0 := 148) (pc' := 152) rfl (hb hby d9_148) (by decide) (by decide) k))) ?_
            have q_v152_26 : v152_26 = (1 : Int32) := by rw [hv152_26, if_pos hc134_31, if_pos hc144_33]
            rw [q_v152_26] at K152_27
            exact K152_27 _ _ X22 N21 e22
          · refine own_step (U' := T22.setTop (mkF m 152 #[rv r0, iv (3 : Int32), iv (4 : Int32), rv gb, iv v89_13, iv w3, iv (4 : Int32), iv w3] [(.int (0 : Int32)), (.ref r0)])) (fun t k => XS.icmpYes X22.here hx rfl (pc0 := 144) (pc' := 151) rfl (hb hby d9_144) rfl (feq hc144_33).2 (by decide) (by decide) (XS.iconst X22.here hx rfl (hb hby d9_151) k)) ?_
            have q_v152_26 : v152_26 = (0 : Int32) := by rw [hv152_26, if_pos hc134_31, if_neg hc144_33]
            rw [q_v152_26] at K152_27
            exact K152_27 _ _ X22 N21 e22
        · refine own_step (U' := T22.setTop (mkF m 152 #[rv r0, iv (3 : Int32), iv (4 : Int32), rv gb, iv v89_13, iv w3, iv (4 : Int32), iv w3] [(.int (1 : Int32)), (.ref r0)])) (fun t k => XS.ifYes X22.here hx rfl (pc0 := 134) (pc' := 147) rfl (hb hby d9_134) rfl ((if0 _ _).trans (feq hc134_31).2) (by decide) (by decide) (XS.iconst X22.here hx rfl (hb hby d9_147) (XS.goto X22.here hx rfl (pc0 := 148) (pc' := 152) rfl (hb hby d9_148) (by decide) (by decide) k))) ?_
          have q_v152_26 : v152_26 = (1 : Int32) := by rw [hv152_26, if_neg hc134_31]
          rw [q_v152_26] at K152_27
          exact K152_27 _ _ X22 N21 e22
      by_cases hc118_34 : w3 = (13 : Int32)
      · refine own_step (U' := T16.setTop (mkF m 126 #[rv r0, iv (3 : Int32), iv (4 : Int32), rv gb, iv v89_13, iv w3, iv (4 : Int32), iv w3] [(.int (1 : Int32)), (.ref r0)])) (fun t k => XS.icmpNo X16.here hx rfl (hb hby d9_118) rfl (teq hc118_34).2 (XS.iconst X16.here hx rfl (hb hby d9_121) (XS.goto X16.here hx rfl (pc0 := 122) (pc' := 126) rfl (hb hby d9_122) (by decide) (by decide) k))) ?_
        have q_v126_19 : v126_19 = (1 : Int32) := by rw [hv126_19, if_pos hc118_34]
        rw [q_v126_19] at K126_20
        exact K126_20 _ _ X16 N16 e16
      · refine own_step (U' := T16.setTop (mkF m 126 #[rv r0, iv (3 : Int32), iv (4 : Int32), rv gb, iv v89_13, iv w3, iv (4 : Int32), iv w3] [(.int (0 : Int32)), (.ref r0)])) (fun t k => XS.icmpYes X16.here hx rfl (pc0 := 118) (pc' := 125) rfl (hb hby d9_118) rfl (feq hc118_34).2 (by decide) (by decide) (XS.iconst X16.here hx rfl (hb hby d9_125) k)) ?_
        have q_v126_19 : v126_19 = (0 : Int32) := by rw [hv126_19, if_neg hc118_34]
        rw [q_v126_19] at K126_20
        exact K126_20 _ _ X16 N16 e16
    by_cases hc62_35 : (13 : Int32) < w3
    · refine own_step (U' := T7.setTop (mkF m 89 #[rv r0, iv (3 : Int32), iv (4 : Int32), rv gb, iv (0 : Int32), iv v41_6, iv (3 : Int32), iv w3] [])) (fun t k => XS.icmpYes X7.here hx rfl (pc0 := 62) (pc' := 89) rfl (hb hby d9_62) rfl (tlt hc62_35).2.2.1 (by decide) (by decide) k) ?_
      have q_v89_13 : v89_13 = (0 : Int32) := by rw [hv89_13, if_pos hc62_35]
      rw [q_v89_13] at K89_14
      exact K89_14 _ _ X7 N7 e7
    · refine own_step (U' := T7.setTop (mkF m 69 #[rv r0, iv (3 : Int32), iv (4 : Int32), rv gb, iv (0 : Int32), iv v41_6, iv (3 : Int32), iv w3] [(.int (13 : Int32)), (.int w3)])) (fun t k => XS.icmpNo X7.here hx rfl (hb hby d9_62) rfl (flt hc62_35).2.2.1 (XS.iload X7.here hx rfl (hb hby d9_65) rfl (XS.bipush X7.here hx rfl (hb hby d9_67) k))) ?_
      by_cases hc69_36 : w3 = (13 : Int32)
      · refine own_step (U' := T7.setTop (mkF m 89 #[rv r0, iv (3 : Int32), iv (4 : Int32), rv gb, iv (1 : Int32), iv v41_6, iv (3 : Int32), iv w3] [])) (fun t k => XS.icmpYes X7.here hx rfl (pc0 := 69) (pc' := 86) rfl (hb hby d9_69) rfl (teq hc69_36).1 (by decide) (by decide) (XS.iinc X7.here hx rfl (hb hby d9_86) rfl (l' := #[rv r0, iv (3 : Int32), iv (4 : Int32), rv gb, iv (1 : Int32), iv v41_6, iv (3 : Int32), iv w3]) rfl k)) ?_
        have q_v89_13 : v89_13 = (1 : Int32) := by rw [hv89_13, if_neg hc62_35, if_pos hc69_36]
        rw [q_v89_13] at K89_14
        exact K89_14 _ _ X7 N7 e7
      · refine own_step (U' := T7.setTop (mkF m 76 #[rv r0, iv (3 : Int32), iv (4 : Int32), rv gb, iv (0 : Int32), iv v41_6, iv (3 : Int32), iv w3] [(.int (10 : Int32)), (.int w3)])) (fun t k => XS.icmpNo X7.here hx rfl (hb hby d9_69) rfl (feq hc69_36).1 (XS.iload X7.here hx rfl (hb hby d9_72) rfl (XS.bipush X7.here hx rfl (hb hby d9_74) k))) ?_
        by_cases hc76_37 : w3 = (10 : Int32)
        · refine own_step (U' := T7.setTop (mkF m 83 #[rv r0, iv (3 : Int32), iv (4 : Int32), rv gb, iv (0 : Int32), iv v41_6, iv (3 : Int32), iv w3] [(.int (13 : Int32)), (.int v41_6)])) (fun t k => XS.icmpNo X7.here hx rfl (hb hby d9_76) rfl (teq hc76_37).2 (XS.iload X7.here hx rfl (hb hby d9_79) rfl (XS.bipush X7.here hx rfl (hb hby d9_81) k))) ?_
          by_cases hc83_38 : v41_6 = (13 : Int32)
          · refine own_step (U' := T7.setTop (mkF m 89 #[rv r0, iv (3 : Int32), iv (4 : Int32), rv gb, iv (0 : Int32), iv v41_6, iv (3 : Int32), iv w3] [])) (fun t k => XS.icmpYes X7.here hx rfl (pc0 := 83) (pc' := 89) rfl (hb hby d9_83) rfl (teq hc83_38).1 (by decide) (by decide) k) ?_
            have q_v89_13 : v89_13 = (0 : Int32) := by rw [hv89_13, if_neg hc62_35, if_neg hc69_36, if_pos hc76_37, if_pos hc83_38]
            rw [q_v89_13] at K89_14
            exact K89_14 _ _ X7 N7 e7
          · refine own_step (U' := T7.setTop (mkF m 89 #[rv r0, iv (3 : Int32), iv (4 : Int32), rv gb, iv (1 : Int32), iv v41_6, iv (3 : Int32), iv w3] [])) (fun t k => XS.icmpNo X7.here hx rfl (hb hby d9_83) rfl (feq hc83_38).1 (XS.iinc X7.here hx rfl (hb hby d9_86) rfl (l' := #[rv r0, iv (3 : Int32), iv (4 : Int32), rv gb, iv (1 : Int32), iv v41_6, iv (3 : Int32), iv w3]) rfl k)) ?_
            have q_v89_13 : v89_13 = (1 : Int32) := by rw [hv89_13, if_neg hc62_35, if_neg hc69_36, if_pos hc76_37, if_neg hc83_38]
            rw [q_v89_13] at K89_14
            exact K89_14 _ _ X7 N7 e7
        · refine own_step (U' := T7.setTop (mkF m 89 #[rv r0, iv (3 : Int32), iv (4 : Int32), rv gb, iv (0 : Int32), iv v41_6, iv (3 : Int32), iv w3] [])) (fun t k => XS.icmpYes X7.here hx rfl (pc0 := 76) (pc' := 89) rfl (hb hby d9_76) rfl (feq hc76_37).2 (by decide) (by decide) k) ?_
          have q_v89_13 : v89_13 = (0 : Int32) := by rw [hv89_13, if_neg hc62_35, if_neg hc69_36, if_neg hc76_37]
          rw [q_v89_13] at K89_14
          exact K89_14 _ _ X7 N7 e7
  by_cases hc32_39 : wr = (0 : Int32)
  · refine own_step (U' := T4.setTop (mkF m 41 #[rv r0, iv (3 : Int32), iv (4 : Int32), rv gb, iv (0 : Int32), .unset, .unset, .unset] [(.int (0 : Int32))])) (fun t k => XS.ifYes X4.here hx rfl (pc0 := 32) (pc' := 40) rfl (hb hby d9_32) rfl ((if0 _ _).trans (teq hc32_39).1) (by decide) (by decide) (XS.iconst X4.here hx rfl (hb hby d9_40) k)) ?_
    have q_v41_6 : v41_6 = (0 : Int32) := by rw [hv41_6, if_pos hc32_39]
    rw [q_v41_6] at K41_7
    exact K41_7 _ _ X4 N0 e4
  · refine own_step (U' := T4.setTop (mkF m 41 #[rv r0, iv (3 : Int32), iv (4 : Int32), rv gb, iv (0 : Int32), .unset, .unset, .unset] [(.int (13 : Int32))])) (fun t k => XS.ifNo X4.here hx rfl (hb hby d9_32) rfl ((if0 _ _).trans (feq hc32_39).1) (XS.bipush X4.here hx rfl (hb hby d9_35) (XS.goto X4.here hx rfl (pc0 := 37) (pc' := 41) rfl (hb hby d9_37) (by decide) (by decide) k))) ?_
    have q_v41_6 : v41_6 = (13 : Int32) := by rw [hv41_6, if_neg hc32_39]
    rw [q_v41_6] at K41_7
    exact K41_7 _ _ X4 N0 e4
theorem ef_9c4p4 (m : MethodId) (r0 : Addr) : entryFrame m #[(.ref r0)] 8 = mkF m 0 #[rv r0, .unset, .unset, .unset, .unset, .unset, .unset, .unset] [] := by first | (simp [entryFrame, mkF, argsToLocals, Value.category]; done) | rfl
def F9c4p4 (wl : Int32) (wr : Int32) (w0 : Int32) (w1 : Int32) (w2 : Int32) (w3 : Int32) : Int32 :=
  wl
def Q9c4p4 (Z : State) (r0 : Addr) (gb : Addr) (wl : Int32) (wr : Int32) (w0 : Int32) (w1 : Int32) (w2 : Int32) (w3 : Int32) (k_gb : ClassId) (h0 : Heap) (n0 : Nat) (v : Option Value) (h : Heap) (L : List Loc) : Prop := v = some (.int (F9c4p4 wl wr w0 w1 w2 w3)) ∧ Fr n0 L ∧ Keep h0 h [r0] ∧ Exa Z h r0 own_XC ∧ Fld Z h r0 own_XC "bytes" "[B" (.ref gb) ∧ Fld Z h r0 own_XC "position" "I" (.int (4 : Int32)) ∧ Fld Z h r0 own_XC "line" "I" (.int wl) ∧ Fld Z h r0 own_XC "counted" "I" (.int (4 : Int32)) ∧ Fld Z h r0 own_XC "afterCarriageReturn" "Z" (.int wr)
set_option maxRecDepth 65536 in
set_option maxHeartbeats 40000000 in
theorem rm9c4p4 (l : Launch) (Z : State) (a0 : Array Value) (hw : ∀ d ∈ tables_1, d.before a0 Z = true) (ws : List Jvm.Cond) (r0 : Addr) (gb : Addr) (wl : Int32) (wr : Int32) (w0 : Int32) (w1 : Int32) (w2 : Int32) (w3 : Int32) (k_gb : ClassId) (h0 : Heap) (n0 : Nat) (Z0 : n0 ≤ h0.size) (E_r0 : Exa Z h0 r0 own_XC) (F_bytes_r0 : Fld Z h0 r0 own_XC "bytes" "[B" (.ref gb)) (F_position_r0 : Fld Z h0 r0 own_XC "position" "I" (.int (4 : Int32))) (F_line_r0 : Fld Z h0 r0 own_XC "line" "I" (.int wl)) (F_counted_r0 : Fld Z h0 r0 own_XC "counted" "I" (.int (4 : Int32))) (F_afterCarriageReturn_r0 : Fld Z h0 r0 own_XC "afterCarriageReturn" "Z" (.int wr)) (g_r0 : n0 ≤ r0) (V_gb : Arv Z h0 gb k_gb .byte (65536 : Int32) [(.int w0), (.int w1), (.int w2), (.int w3)] (.int (0 : Int32))) (hne : gb ≠ r0) :
    MetFree l (⟨own_XC, "line", "()I"⟩ : MethodName) (head1 (Jvm.Cond.code (⟨own_XC, "line", "()I"⟩ : MethodName) prog_148_method_16_code 8 (some .int) :: ws) ({ frames := 0, cells := 0, slots := 0, locals := 0 } : Room)) (fun a U => a = #[(.ref r0)] ∧ Z.Warmed39 U.vm ∧ U.heap = h0) (fun _ _ _ _ _ => True) (fun _ U o U' => ∃ v L, o = .returned v ∧ Q9c4p4 Z r0 gb wl wr w0 w1 w2 w3 k_gb h0 n0 v U'.heap L ∧ FrameEnd U o U' L ({ frames := 0, cells := 0, slots := 0, locals := 0 } : Room).cells ({ frames := 0, cells := 0, slots := 0, locals := 0 } : Room).slots) := by
  refine MetFree.of_bodySF (plainFor_of_name pn_9) hisR ?_
  intro p e s m args below meth c s₁ Bd hml0 hP hK
  obtain ⟨rfl, hZ, hh⟩ := hP
  have hx := Bd.exec
  have hby := Bd.bytes
  have hml : c.maxLocals = 8 := hml0
  have hown : s.vm.findClass own_XC = some m.cls := findClass_of_methodNamed Bd.named
  have hnm := (name_of_methodNamed Bd.named Bd.method).1
  have hlk : meth.locks = false := Bd.notSynchronized
  have X0 : Stand p l e ({ frames := 0, cells := 0, slots := 0, locals := 0 } : Room) s m #[(.ref r0)] below meth c s₁ [] 0 0 := Stand.of_body Bd
  have e0 : s₁.heap = h0 := by rw [← hh, Bd.state]; rfl
  have N0 := Fr.nil n0
  have KK0 := Keep.refl h0 [r0]
  show own_Go p.tables e below s 0 0 (Q9c4p4 Z r0 gb wl wr w0 w1 w2 w3 k_gb h0 n0) (s₁.setTop (entryFrame m #[(.ref r0)] 8))
  rw [ef_9c4p4]
  refine own_step (U' := s₁.setTop (mkF m 1 #[rv r0, .unset, .unset, .unset, .unset, .unset, .unset, .unset] [(.ref r0)])) (fun t k => XS.aloadN X0.here hx rfl (hb hby d9_0) rfl rfl k) ?_
  obtain ⟨T1, X1, e1, st1⟩ := getF X0 hx hZ hown (host := "") (Or.inl (own_w hw 73 rfl)) Via.refl e0 F_counted_r0 (g := (mkF m 1 #[rv r0, .unset, .unset, .unset, .unset, .unset, .unset, .unset] [(.ref r0)])) rfl rfl (hb hby d9_1)
  refine own_step (U' := T1.setTop (mkF m 4 #[rv r0, .unset, .unset, .unset, .unset, .unset, .unset, .unset] [(.int (4 : Int32))])) st1 ?_
  refine own_step (U' := T1.setTop (mkF m 6 #[rv r0, iv (4 : Int32), .unset, .unset, .unset, .unset, .unset, .unset] [(.ref r0)])) (fun t k => XS.istoreN X1.here hx rfl (hb hby d9_4) rfl (l' := #[rv r0, iv (4 : Int32), .unset, .unset, .unset, .unset, .unset, .unset]) rfl (XS.aloadN X1.here hx rfl (hb hby d9_5) rfl rfl k)) ?_
  obtain ⟨T2, X2, e2, st2⟩ := getF X1 hx hZ hown (host := "") (Or.inl (own_w hw 57 rfl)) Via.refl e1 F_position_r0 (g := (mkF m 6 #[rv r0, iv (4 : Int32), .unset, .unset, .unset, .unset, .unset, .unset] [(.ref r0)])) rfl rfl (hb hby d9_6)
  refine own_step (U' := T2.setTop (mkF m 9 #[rv r0, iv (4 : Int32), .unset, .unset, .unset, .unset, .unset, .unset] [(.int (4 : Int32))])) st2 ?_
  refine own_step (U' := T2.setTop (mkF m 16 #[rv r0, iv (4 : Int32), iv (4 : Int32), .unset, .unset, .unset, .unset, .unset] [(.ref r0)])) (fun t k => XS.istoreN X2.here hx rfl (hb hby d9_9) rfl (l' := #[rv r0, iv (4 : Int32), iv (4 : Int32), .unset, .unset, .unset, .unset, .unset]) rfl (XS.iloadN X2.here hx rfl (hb hby d9_10) rfl (XS.iloadN X2.here hx rfl (hb hby d9_11) rfl (XS.icmpNo X2.here hx rfl (hb hby d9_12) rfl (by decide) (XS.aloadN X2.here hx rfl (hb hby d9_15) rfl rfl k))))) ?_
  obtain ⟨T3, X3, e3, st3⟩ := getF X2 hx hZ hown (host := "") (Or.inl (own_w hw 71 rfl)) Via.refl e2 F_line_r0 (g := (mkF m 16 #[rv r0, iv (4 : Int32), iv (4 : Int32), .unset, .unset, .unset, .unset, .unset] [(.ref r0)])) rfl rfl (hb hby d9_16)
  refine own_step (U' := T3.setTop (mkF m 19 #[rv r0, iv (4 : Int32), iv (4 : Int32), .unset, .unset, .unset, .unset, .unset] [(.int wl)])) st3 ?_
  exact own_out X3 (v := (some (.int wl))) hlk (own_nv Bd.returns) (by rw [e3]; exact ⟨by rw [show (F9c4p4 wl wr w0 w1 w2 w3) = wl from (by simp only [F9c4p4])], N0, KK0, E_r0, F_bytes_r0, F_position_r0, F_line_r0, F_counted_r0, F_afterCarriageReturn_r0⟩) (by decide) (by decide) (fun fs hr => retI X3 hx Bd.returns (hb hby d9_19) hr)
theorem ef_9c0p3 (m : MethodId) (r0 : Addr) : entryFrame m #[(.ref r0)] 8 = mkF m 0 #[rv r0, .unset, .unset, .unset, .unset, .unset, .unset, .unset] [] := by first | (simp [entryFrame, mkF, argsToLocals, Value.category]; done) | rfl
def F9c0p3 (wl : Int32) (wr : Int32) (w0 : Int32) (w1 : Int32) (w2 : Int32) (w3 : Int32) : Int32 :=
  let v41_6 : Int32 := (if wr = (0 : Int32) then (0 : Int32) else (13 : Int32))
  let v89_13 : Int32 := (if (13 : Int32) < w0 then (0 : Int32) else (if w0 = (13 : Int32) then (1 : Int32) else (if w0 = (10 : Int32) then (if v41_6 = (13 : Int32) then (0 : Int32) else (1 : Int32)) else (0 : Int32))))
  let v89_20 : Int32 := (if (13 : Int32) < w1 then v89_13 else (if w1 = (13 : Int32) then (v89_13 + (1 : Int32)) else (if w1 = (10 : Int32) then (if w0 = (13 : Int32) then v89_13 else (v89_13 + (1 : Int32))) else v89_13)))
  let v89_27 : Int32 := (if (13 : Int32) < w2 then v89_20 else (if w2 = (13 : Int32) then (v89_20 + (1 : Int32)) else (if w2 = (10 : Int32) then (if w1 = (13 : Int32) then v89_20 else (v89_20 + (1 : Int32))) else v89_20)))
  let v126_33 : Int32 := (if w2 = (13 : Int32) then (1 : Int32) else (0 : Int32))
  let v152_40 : Int32 := (if (nar .boolean v126_33) = (0 : Int32) then (if w2 = (10 : Int32) then (1 : Int32) else (0 : Int32)) else (1 : Int32))
  (wl + v89_27)
def Q9c0p3 (Z : State) (r0 : Addr) (gb : Addr) (wl : Int32) (wr : Int32) (w0 : Int32) (w1 : Int32) (w2 : Int32) (w3 : Int32) (k_gb : ClassId) (h0 : Heap) (n0 : Nat) (v : Option Value) (h : Heap) (L : List Loc) : Prop := v = some (.int (F9c0p3 wl wr w0 w1 w2 w3)) ∧ Fr n0 L ∧ Keep h0 h [r0] ∧ Exa Z h r0 own_XC ∧ Fld Z h r0 own_XC "bytes" "[B" (.ref gb) ∧ Fld Z h r0 own_XC "position" "I" (.int (3 : Int32)) ∧ Fld Z h r0 own_XC "line" "I" (.int (F9c0p3 wl wr w0 w1 w2 w3)) ∧ Fld Z h r0 own_XC "counted" "I" (.int (3 : Int32)) ∧ Fld Z h r0 own_XC "afterCarriageReturn" "Z" (.int (nar .boolean (if w2 = (13 : Int32) then (1 : Int32) else (0 : Int32))))
set_option maxRecDepth 65536 in
set_option maxHeartbeats 40000000 in
theorem rm9c0p3 (l : Launch) (Z : State) (a0 : Array Value) (hw : ∀ d ∈ tables_1, d.before a0 Z = true) (ws : List Jvm.Cond) (r0 : Addr) (gb : Addr) (wl : Int32) (wr : Int32) (w0 : Int32) (w1 : Int32) (w2 : Int32) (w3 : Int32) (k_gb : ClassId) (h0 : Heap) (n0 : Nat) (Z0 : n0 ≤ h0.size) (E_r0 : Exa Z h0 r0 own_XC) (F_bytes_r0 : Fld Z h0 r0 own_XC "bytes" "[B" (.ref gb)) (F_position_r0 : Fld Z h0 r0 own_XC "position" "I" (.int (3 : Int32))) (F_line_r0 : Fld Z h0 r0 own_XC "line" "I" (.int wl)) (F_counted_r0 : Fld Z h0 r0 own_XC "counted" "I" (.int (0 : Int32))) (F_afterCarriageReturn_r0 : Fld Z h0 r0 own_XC "afterCarriageReturn" "Z" (.int wr)) (g_r0 : n0 ≤ r0) (V_gb : Arv Z h0 gb k_gb .byte (65536 : Int32) [(.int w0), (.int w1), (.int w2), (.int w3)] (.int (0 : Int32))) (hne : gb ≠ r0) :
    MetFree l (⟨own_XC, "line", "()I"⟩ : MethodName) (head1 (Jvm.Cond.code (⟨own_XC, "line", "()I"⟩ : MethodName) prog_148_method_16_code 8 (some .int) :: ws) ({ frames := 0, cells := 0, slots := 0, locals := 0 } : Room)) (fun a U => a = #[(.ref r0)] ∧ Z.Warmed39 U.vm ∧ U.heap = h0) (fun _ _ _ _ _ => True) (fun _ U o U' => ∃ v L, o = .returned v ∧ Q9c0p3 Z r0 gb wl wr w0 w1 w2 w3 k_gb h0 n0 v U'.heap L ∧ FrameEnd U o U' L ({ frames := 0, cells := 0, slots := 0, locals := 0 } : Room).cells ({ frames := 0, cells := 0, slots := 0, locals := 0 } : Room).slots) := by
  refine MetFree.of_bodySF (plainFor_of_name pn_9) hisR ?_
  intro p e s m args below meth c s₁ Bd hml0 hP hK
  obtain ⟨rfl, hZ, hh⟩ := hP
  have hx := Bd.exec
  have hby := Bd.bytes
  have hml : c.maxLocals = 8 := hml0
  have hown : s.vm.findClass own_XC = some m.cls := findClass_of_methodNamed Bd.named
  have hnm := (name_of_methodNamed Bd.named Bd.method).1
  have hlk : meth.locks = false := Bd.notSynchronized
  have X0 : Stand p l e ({ frames := 0, cells := 0, slots := 0, locals := 0 } : Room) s m #[(.ref r0)] below meth c s₁ [] 0 0 := Stand.of_body Bd
  have e0 : s₁.heap = h0 := by rw [← hh, Bd.state]; rfl
  have N0 := Fr.nil n0
  have KK0 := Keep.refl h0 [r0]
  show own_Go p.tables e below s 0 0 (Q9c0p3 Z r0 gb wl wr w0 w1 w2 w3 k_gb h0 n0) (s₁.setTop (entryFrame m #[(.ref r0)] 8))
  rw [ef_9c0p3]
  refine own_step (U' := s₁.setTop (mkF m 1 #[rv r0, .unset, .unset, .unset, .unset, .unset, .unset, .unset] [(.ref r0)])) (fun t k => XS.aloadN X0.here hx rfl (hb hby d9_0) rfl rfl k) ?_
  obtain ⟨T1, X1, e1, st1⟩ := getF X0 hx hZ hown (host := "") (Or.inl (own_w hw 73 rfl)) Via.refl e0 F_counted_r0 (g := (mkF m 1 #[rv r0, .unset, .unset, .unset, .unset, .unset, .unset, .unset] [(.ref r0)])) rfl rfl (hb hby d9_1)
  refine own_step (U' := T1.setTop (mkF m 4 #[rv r0, .unset, .unset, .unset, .unset, .unset, .unset, .unset] [(.int (0 : Int32))])) st1 ?_
  refine own_step (U' := T1.setTop (mkF m 6 #[rv r0, iv (0 : Int32), .unset, .unset, .unset, .unset, .unset, .unset] [(.ref r0)])) (fun t k => XS.istoreN X1.here hx rfl (hb hby d9_4) rfl (l' := #[rv r0, iv (0 : Int32), .unset, .unset, .unset, .unset, .unset, .unset]) rfl (XS.aloadN X1.here hx rfl (hb hby d9_5) rfl rfl k)) ?_
  obtain ⟨T2, X2, e2, st2⟩ := getF X1 hx hZ hown (host := "") (Or.inl (own_w hw 57 rfl)) Via.refl e1 F_position_r0 (g := (mkF m 6 #[rv r0, iv (0 : Int32), .unset, .unset, .unset, .unset, .unset, .unset] [(.ref r0)])) rfl rfl (hb hby d9_6)
  refine own_step (U' := T2.setTop (mkF m 9 #[rv r0, iv (0 : Int32), .unset, .unset, .unset, .unset, .unset, .unset] [(.int (3 : Int32))])) st2 ?_
  refine own_step (U' := T2.setTop (mkF m 21 #[rv r0, iv (0 : Int32), iv (3 : Int32), .unset, .unset, .unset, .unset, .unset] [(.ref r0)])) (fun t k => XS.istoreN X2.here hx rfl (hb hby d9_9) rfl (l' := #[rv r0, iv (0 : Int32), iv (3 : Int32), .unset, .unset, .unset, .unset, .unset]) rfl (XS.iloadN X2.here hx rfl (hb hby d9_10) rfl (XS.iloadN X2.here hx rfl (hb hby d9_11) rfl (XS.icmpYes X2.here hx rfl (pc0 := 12) (pc' := 20) rfl (hb hby d9_12) rfl (by decide) (by decide) (by decide) (XS.aloadN X2.here hx rfl (hb hby d9_20) rfl rfl k))))) ?_
  obtain ⟨T3, X3, e3, st3⟩ := getF X2 hx hZ hown (host := "") (Or.inl (own_w hw 40 rfl)) Via.refl e2 F_bytes_r0 (g := (mkF m 21 #[rv r0, iv (0 : Int32), iv (3 : Int32), .unset, .unset, .unset, .unset, .unset] [(.ref r0)])) rfl rfl (hb hby d9_21)
  refine own_step (U' := T3.setTop (mkF m 24 #[rv r0, iv (0 : Int32), iv (3 : Int32), .unset, .unset, .unset, .unset, .unset] [(.ref gb)])) st3 ?_
  refine own_step (U' := T3.setTop (mkF m 29 #[rv r0, iv (0 : Int32), iv (3 : Int32), rv gb, iv (0 : Int32), .unset, .unset, .unset] [(.ref r0)])) (fun t k => XS.astoreN X3.here hx rfl (hb hby d9_24) rfl rfl (l' := #[rv r0, iv (0 : Int32), iv (3 : Int32), rv gb, .unset, .unset, .unset, .unset]) rfl (XS.iconst X3.here hx rfl (hb hby d9_25) (XS.istore X3.here hx rfl (hb hby d9_26) rfl (l' := #[rv r0, iv (0 : Int32), iv (3 : Int32), rv gb, iv (0 : Int32), .unset, .unset, .unset]) rfl (XS.aloadN X3.here hx rfl (hb hby d9_28) rfl rfl k)))) ?_
  obtain ⟨T4, X4, e4, st4⟩ := getF X3 hx hZ hown (host := "") (Or.inl (own_w hw 75 rfl)) Via.refl e3 F_afterCarriageReturn_r0 (g := (mkF m 29 #[rv r0, iv (0 : Int32), iv (3 : Int32), rv gb, iv (0 : Int32), .unset, .unset, .unset] [(.ref r0)])) rfl rfl (hb hby d9_29)
  refine own_step (U' := T4.setTop (mkF m 32 #[rv r0, iv (0 : Int32), iv (3 : Int32), rv gb, iv (0 : Int32), .unset, .unset, .unset] [(.int wr)])) st4 ?_
  obtain ⟨v41_6, hv41_6⟩ : ∃ v : Int32, v = (if wr = (0 : Int32) then (0 : Int32) else (13 : Int32)) := ⟨_, rfl⟩
  have K41_7 : ∀ (T' : State) (locs' : List Loc) (X' : Stand p l e ({ frames := 0, cells := 0, slots := 0, locals := 0 } : Room) s m #[(.ref r0)] below meth c T' locs' 0 0) (N' : Fr n0 locs') (e' : T'.heap = h0), own_Go p.tables e below s 0 0 (Q9c0p3 Z r0 gb wl wr w0 w1 w2 w3 k_gb h0 n0) (T'.setTop (mkF m 41 #[rv r0, iv (0 : Int32), iv (3 : Int32), rv gb, iv (0 : Int32), .unset, .unset, .unset] [(.int v41_6)])) := by
    intro T7 L7 X7 N7 e7
    refine own_step (U' := T7.setTop (mkF m 55 #[rv r0, iv (0 : Int32), iv (3 : Int32), rv gb, iv (0 : Int32), iv v41_6, iv (0 : Int32), .unset] [(.int (0 : Int32)), (.ref gb)])) (fun t k => XS.istore X7.here hx rfl (hb hby d9_41) rfl (l' := #[rv r0, iv (0 : Int32), iv (3 : Int32), rv gb, iv (0 : Int32), iv v41_6, .unset, .unset]) rfl (XS.iloadN X7.here hx rfl (hb hby d9_43) rfl (XS.istore X7.here hx rfl (hb hby d9_44) rfl (l' := #[rv r0, iv (0 : Int32), iv (3 : Int32), rv gb, iv (0 : Int32), iv v41_6, iv (0 : Int32), .unset]) rfl (XS.iload X7.here hx rfl (hb hby d9_46) rfl (XS.iloadN X7.here hx rfl (hb hby d9_48) rfl (XS.icmpNo X7.here hx rfl (hb hby d9_49) rfl (by decide) (XS.aloadN X7.here hx rfl (hb hby d9_52) rfl rfl (XS.iload X7.here hx rfl (hb hby d9_53) rfl k)))))))) ?_
    obtain ⟨cl8, Ar8, aq8, aS8, aN8, aH8, aG8⟩ := id V_gb
    have hin8 : ¬ ((0 : Int32) < 0 ∨ cl8.slots.size ≤ ((0 : Int32)).toNatClampNeg) := inb_of aS8 ⟨by decide, by decide⟩
    have hat8 : cl8.slots[((0 : Int32)).toNatClampNeg]? = some (.int w0) := aH8.at hin8 rfl
    refine own_step (U' := T7.setTop (mkF m 62 #[rv r0, iv (0 : Int32), iv (3 : Int32), rv gb, iv (0 : Int32), iv v41_6, iv (0 : Int32), iv w0] [(.int (13 : Int32)), (.int w0)])) (fun t k => X7.baloadBytes hx (j := (0 : Int32)) (v := (.int w0)) (by rw [e7]; exact Ar8.1) (State.isArrayOf_alike hZ.alike Ar8.2.1) Ar8.2.2 hin8 hat8 (g := (mkF m 55 #[rv r0, iv (0 : Int32), iv (3 : Int32), rv gb, iv (0 : Int32), iv v41_6, iv (0 : Int32), .unset] [(.int (0 : Int32)), (.ref gb)])) rfl rfl (hb hby d9_55) t (XS.istore X7.here hx rfl (hb hby d9_56) rfl (l' := #[rv r0, iv (0 : Int32), iv (3 : Int32), rv gb, iv (0 : Int32), iv v41_6, iv (0 : Int32), iv w0]) rfl (XS.iload X7.here hx rfl (hb hby d9_58) rfl (XS.bipush X7.here hx rfl (hb hby d9_60) k)))) ?_
    obtain ⟨v89_13, hv89_13⟩ : ∃ v : Int32, v = (if (13 : Int32) < w0 then (0 : Int32) else (if w0 = (13 : Int32) then (1 : Int32) else (if w0 = (10 : Int32) then (if v41_6 = (13 : Int32) then (0 : Int32) else (1 : Int32)) else (0 : Int32)))) := ⟨_, rfl⟩
    have K89_14 : ∀ (T' : State) (locs' : List Loc) (X' : Stand p l e ({ frames := 0, cells := 0, slots := 0, locals := 0 } : Room) s m #[(.ref r0)] below meth c T' locs' 0 0) (N' : Fr n0 locs') (e' : T'.heap = h0), own_Go p.tables e below s 0 0 (Q9c0p3 Z r0 gb wl wr w0 w1 w2 w3 k_gb h0 n0) (T'.setTop (mkF m 89 #[rv r0, iv (0 : Int32), iv (3 : Int32), rv gb, iv v89_13, iv v41_6, iv (0 : Int32), iv w0] [])) := by
      intro T14 L14 X14 N14 e14
      refine own_step (U' := T14.setTop (mkF m 53 #[rv r0, iv (0 : Int32), iv (3 : Int32), rv gb, iv v89_13, iv w0, iv (1 : Int32), iv w0] [(.ref gb)])) (fun t k => XS.iload X14.here hx rfl (hb hby d9_89) rfl (XS.istore X14.here hx rfl (hb hby d9_91) rfl (l' := #[rv r0, iv (0 : Int32), iv (3 : Int32), rv gb, iv v89_13, iv w0, iv (0 : Int32), iv w0]) rfl (XS.iinc X14.here hx rfl (hb hby d9_93) rfl (l' := #[rv r0, iv (0 : Int32), iv (3 : Int32), rv gb, iv v89_13, iv w0, iv (1 : Int32), iv w0]) rfl (XS.goto X14.here hx rfl (pc0 := 96) (pc' := 46) rfl (hb hby d9_96) (by decide) (by decide) (XS.iload X14.here hx rfl (hb hby d9_46) rfl (XS.iloadN X14.here hx rfl (hb hby d9_48) rfl (XS.icmpNo X14.here hx rfl (hb hby d9_49) rfl (by decide) (XS.aloadN X14.here hx rfl (hb hby d9_52) rfl rfl k)))))))) ?_
      refine own_step (U' := T14.setTop (mkF m 55 #[rv r0, iv (0 : Int32), iv (3 : Int32), rv gb, iv v89_13, iv w0, iv (1 : Int32), iv w0] [(.int (1 : Int32)), (.ref gb)])) (fun t k => XS.iload X14.here hx rfl (hb hby d9_53) rfl k) ?_
      obtain ⟨cl15, Ar15, aq15, aS15, aN15, aH15, aG15⟩ := id V_gb
      have hin15 : ¬ ((1 : Int32) < 0 ∨ cl15.slots.size ≤ ((1 : Int32)).toNatClampNeg) := inb_of aS15 ⟨by decide, by decide⟩
      have hat15 : cl15.slots[((1 : Int32)).toNatClampNeg]? = some (.int w1) := aH15.at hin15 rfl
      refine own_step (U' := T14.setTop (mkF m 62 #[rv r0, iv (0 : Int32), iv (3 : Int32), rv gb, iv v89_13, iv w0, iv (1 : Int32), iv w1] [(.int (13 : Int32)), (.int w1)])) (fun t k => X14.baloadBytes hx (j := (1 : Int32)) (v := (.int w1)) (by rw [e14]; exact Ar15.1) (State.isArrayOf_alike hZ.alike Ar15.2.1) Ar15.2.2 hin15 hat15 (g := (mkF m 55 #[rv r0, iv (0 : Int32), iv (3 : Int32), rv gb, iv v89_13, iv w0, iv (1 : Int32), iv w0] [(.int (1 : Int32)), (.ref gb)])) rfl rfl (hb hby d9_55) t (XS.istore X14.here hx rfl (hb hby d9_56) rfl (l' := #[rv r0, iv (0 : Int32), iv (3 : Int32), rv gb, iv v89_13, iv w0, iv (1 : Int32), iv w1]) rfl (XS.iload X14.here hx rfl (hb hby d9_58) rfl (XS.bipush X14.here hx rfl (hb hby d9_60) k)))) ?_
      obtain ⟨v89_20, hv89_20⟩ : ∃ v : Int32, v = (if (13 : Int32) < w1 then v89_13 else (if w1 = (13 : Int32) then (v89_13 + (1 : Int32)) else (if w1 = (10 : Int32) then (if w0 = (13 : Int32) then v89_13 else (v89_13 + (1 : Int32))) else v89_13))) := ⟨_, rfl⟩
      have K89_21 : ∀ (T' : State) (locs' : List Loc) (X' : Stand p l e ({ frames := 0, cells := 0, slots := 0, locals := 0 } : Room) s m #[(.ref r0)] below meth c T' locs' 0 0) (N' : Fr n0 locs') (e' : T'.heap = h0), own_Go p.tables e below s 0 0 (Q9c0p3 Z r0 gb wl wr w0 w1 w2 w3 k_gb h0 n0) (T'.setTop (mkF m 89 #[rv r0, iv (0 : Int32), iv (3 : Int32), rv gb, iv v89_20, iv w0, iv (1 : Int32), iv w1] [])) := by
        intro T21 L21 X21 N21 e21
        refine own_step (U' := T21.setTop (mkF m 53 #[rv r0, iv (0 : Int32), iv (3 : Int32), rv gb, iv v89_20, iv w1, iv (2 : Int32), iv w1] [(.ref gb)])) (fun t k => XS.iload X21.here hx rfl (hb hby d9_89) rfl (XS.istore X21.here hx rfl (hb hby d9_91) rfl (l' := #[rv r0, iv (0 : Int32), iv (3 : Int32), rv gb, iv v89_20, iv w1, iv (1 : Int32), iv w1]) rfl (XS.iinc X21.here hx rfl (hb hby d9_93) rfl (l' := #[rv r0, iv (0 : Int32), iv (3 : Int32), rv gb, iv v89_20, iv w1, iv (2 : Int32), iv w1]) rfl (XS.goto X21.here hx rfl (pc0 := 96) (pc' := 46) rfl (hb hby d9_96) (by decide) (by decide) (XS.iload X21.here hx rfl (hb hby d9_46) rfl (XS.iloadN X21.here hx rfl (hb hby d9_48) rfl (XS.icmpNo X21.here hx rfl (hb hby d9_49) rfl (by decide) (XS.aloadN X21.here hx rfl (hb hby d9_52) rfl rfl k)))))))) ?_
        refine own_step (U' := T21.setTop (mkF m 55 #[rv r0, iv (0 : Int32), iv (3 : Int32), rv gb, iv v89_20, iv w1, iv (2 : Int32), iv w1] [(.int (2 : Int32)), (.ref gb)])) (fun t k => XS.iload X21.here hx rfl (hb hby d9_53) rfl k) ?_
        obtain ⟨cl22, Ar22, aq22, aS22, aN22, aH22, aG22⟩ := id V_gb
        have hin22 : ¬ ((2 : Int32) < 0 ∨ cl22.slots.size ≤ ((2 : Int32)).toNatClampNeg) := inb_of aS22 ⟨by decide, by decide⟩
        have hat22 : cl22.slots[((2 : Int32)).toNatClampNeg]? = some (.int w2) := aH22.at hin22 rfl
        refine own_step (U' := T21.setTop (mkF m 62 #[rv r0, iv (0 : Int32), iv (3 : Int32), rv gb, iv v89_20, iv w1, iv (2 : Int32), iv w2] [(.int (13 : Int32)), (.int w2)])) (fun t k => X21.baloadBytes hx (j := (2 : Int32)) (v := (.int w2)) (by rw [e21]; exact Ar22.1) (State.isArrayOf_alike hZ.alike Ar22.2.1) Ar22.2.2 hin22 hat22 (g := (mkF m 55 #[rv r0, iv (0 : Int32), iv (3 : Int32), rv gb, iv v89_20, iv w1, iv (2 : Int32), iv w1] [(.int (2 : Int32)), (.ref gb)])) rfl rfl (hb hby d9_55) t (XS.istore X21.here hx rfl (hb hby d9_56) rfl (l' := #[rv r0, iv (0 : Int32), iv (3 : Int32), rv gb, iv v89_20, iv w1, iv (2 : Int32), iv w2]) rfl (XS.iload X21.here hx rfl (hb hby d9_58) rfl (XS.bipush X21.here hx rfl (hb hby d9_60) k)))) ?_
        obtain ⟨v89_27, hv89_27⟩ : ∃ v : Int32, v = (if (13 : Int32) < w2 then v89_20 else (if w2 = (13 : Int32) then (v89_20 + (1 : Int32)) else (if w2 = (10 : Int32) then (if w1 = (13 : Int32) then v89_20 else (v89_20 + (1 : Int32))) else v89_20))) := ⟨_, rfl⟩
        have K89_28 : ∀ (T' : State) (locs' : List Loc) (X' : Stand p l e ({ frames := 0, cells := 0, slots := 0, locals := 0 } : Room) s m #[(.ref r0)] below meth c T' locs' 0 0) (N' : Fr n0 locs') (e' : T'.heap = h0), own_Go p.tables e below s 0 0 (Q9c0p3 Z r0 gb wl wr w0 w1 w2 w3 k_gb h0 n0) (T'.setTop (mkF m 89 #[rv r0, iv (0 : Int32), iv (3 : Int32), rv gb, iv v89_27, iv w1, iv (2 : Int32), iv w2] [])) := by
          intro T28 L28 X28 N28 e28
          refine own_step (U' := T28.setTop (mkF m 100 #[rv r0, iv (0 : Int32), iv (3 : Int32), rv gb, iv v89_27, iv w2, iv (3 : Int32), iv w2] [(.ref r0)])) (fun t k => XS.iload X28.here hx rfl (hb hby d9_89) rfl (XS.istore X28.here hx rfl (hb hby d9_91) rfl (l' := #[rv r0, iv (0 : Int32), iv (3 : Int32), rv gb, iv v89_27, iv w2, iv (2 : Int32), iv w2]) rfl (XS.iinc X28.here hx rfl (hb hby d9_93) rfl (l' := #[rv r0, iv (0 : Int32), iv (3 : Int32), rv gb, iv v89_27, iv w2, iv (3 : Int32), iv w2]) rfl (XS.goto X28.here hx rfl (pc0 := 96) (pc' := 46) rfl (hb hby d9_96) (by decide) (by decide) (XS.iload X28.here hx rfl (hb hby d9_46) rfl (XS.iloadN X28.here hx rfl (hb hby d9_48) rfl (XS.icmpYes X28.here hx rfl (pc0 := 49) (pc' := 99) rfl (hb hby d9_49) rfl (by decide) (by decide) (by decide) (XS.aloadN X28.here hx rfl (hb hby d9_99) rfl rfl k)))))))) ?_
          refine own_step (U' := T28.setTop (mkF m 101 #[rv r0, iv (0 : Int32), iv (3 : Int32), rv gb, iv v89_27, iv w2, iv (3 : Int32), iv w2] [(.ref r0), (.ref r0)])) (fun t k => XS.dup X28.here hx rfl (hb hby d9_100) rfl rfl k) ?_
          obtain ⟨T29, X29, e29, st29⟩ := getF X28 hx hZ hown (host := "") (Or.inl (own_w hw 71 rfl)) Via.refl e28 F_line_r0 (g := (mkF m 101 #[rv r0, iv (0 : Int32), iv (3 : Int32), rv gb, iv v89_27, iv w2, iv (3 : Int32), iv w2] [(.ref r0), (.ref r0)])) rfl rfl (hb hby d9_101)
          refine own_step (U' := T29.setTop (mkF m 104 #[rv r0, iv (0 : Int32), iv (3 : Int32), rv gb, iv v89_27, iv w2, iv (3 : Int32), iv w2] [(.int wl), (.ref r0)])) st29 ?_
          refine own_step (U' := T29.setTop (mkF m 107 #[rv r0, iv (0 : Int32), iv (3 : Int32), rv gb, iv v89_27, iv w2, iv (3 : Int32), iv w2] [(.int (wl + v89_27)), (.ref r0)])) (fun t k => XS.iload X29.here hx rfl (hb hby d9_104) rfl (XS.iadd X29.here hx rfl (hb hby d9_106) rfl k)) ?_
          obtain ⟨T30, h30, X30, e30, W30, st30⟩ := putF X29 hx hZ hown (host := "") (Or.inl (own_w hw 71 rfl)) Via.refl e29 F_line_r0 E_r0 (Or.inl (own_w hw 72 rfl)) (own_w hw 11 rfl) (ty := .int) (by decide) rfl rfl (g := (mkF m 107 #[rv r0, iv (0 : Int32), iv (3 : Int32), rv gb, iv v89_27, iv w2, iv (3 : Int32), iv w2] [(.int (wl + v89_27)), (.ref r0)])) rfl rfl (hb hby d9_107)
          have E_r0_30 := E_r0.wr W30
          have F_bytes_r0_30 := F_bytes_r0.other W30 (Or.inr (slot_ne (Or.inl (own_w hw 41 rfl)) (Or.inl (own_w hw 72 rfl)) (by decide) (t := (.array .byte)) (t' := .int) (by decide) (by decide)))
          have F_position_r0_30 := F_position_r0.other W30 (Or.inr (slot_ne (Or.inl (own_w hw 58 rfl)) (Or.inl (own_w hw 72 rfl)) (by decide) (t := .int) (t' := .int) (by decide) (by decide)))
          have F_counted_r0_30 := F_counted_r0.other W30 (Or.inr (slot_ne (Or.inl (own_w hw 74 rfl)) (Or.inl (own_w hw 72 rfl)) (by decide) (t := .int) (t' := .int) (by decide) (by decide)))
          have F_afterCarriageReturn_r0_30 := F_afterCarriageReturn_r0.other W30 (Or.inr (slot_ne (Or.inl (own_w hw 76 rfl)) (Or.inl (own_w hw 72 rfl)) (by decide) (t := .boolean) (t' := .int) (by decide) (by decide)))
          have V_gb_30 := V_gb.other W30 hne
          have F_line_r0_30 := F_line_r0.same W30
          have Z30 : n0 ≤ h30.size := Nat.le_trans Z0 (Keep.of_wr W30).1
          have KK30 := KK0.wr W30 (Or.inl (List.mem_of_getElem? (i := 0) rfl))
          have N30 := Fr.snoc X30 N28 g_r0
          refine own_step (U' := T30.setTop (mkF m 110 #[rv r0, iv (0 : Int32), iv (3 : Int32), rv gb, iv v89_27, iv w2, iv (3 : Int32), iv w2] [])) st30 ?_
          refine own_step (U' := T30.setTop (mkF m 115 #[rv r0, iv (0 : Int32), iv (3 : Int32), rv gb, iv v89_27, iv w2, iv (3 : Int32), iv w2] [(.int (2 : Int32)), (.ref gb), (.ref r0)])) (fun t k => XS.aloadN X30.here hx rfl (hb hby d9_110) rfl rfl (XS.aloadN X30.here hx rfl (hb hby d9_111) rfl rfl (XS.iloadN X30.here hx rfl (hb hby d9_112) rfl (XS.iconst X30.here hx rfl (hb hby d9_113) (XS.isub X30.here hx rfl (hb hby d9_114) rfl k))))) ?_
          obtain ⟨cl31, Ar31, aq31, aS31, aN31, aH31, aG31⟩ := id V_gb_30
          have hin31 : ¬ ((2 : Int32) < 0 ∨ cl31.slots.size ≤ ((2 : Int32)).toNatClampNeg) := inb_of aS31 ⟨by decide, by decide⟩
          have hat31 : cl31.slots[((2 : Int32)).toNatClampNeg]? = some (.int w2) := aH31.at hin31 rfl
          refine own_step (U' := T30.setTop (mkF m 118 #[rv r0, iv (0 : Int32), iv (3 : Int32), rv gb, iv v89_27, iv w2, iv (3 : Int32), iv w2] [(.int (13 : Int32)), (.int w2), (.ref r0)])) (fun t k => X30.baloadBytes hx (j := (2 : Int32)) (v := (.int w2)) (by rw [e30]; exact Ar31.1) (State.isArrayOf_alike hZ.alike Ar31.2.1) Ar31.2.2 hin31 hat31 (g := (mkF m 115 #[rv r0, iv (0 : Int32), iv (3 : Int32), rv gb, iv v89_27, iv w2, iv (3 : Int32), iv w2] [(.int (2 : Int32)), (.ref gb), (.ref r0)])) rfl rfl (hb hby d9_115) t (XS.bipush X30.here hx rfl (hb hby d9_116) k)) ?_
          obtain ⟨v126_33, hv126_33⟩ : ∃ v : Int32, v = (if w2 = (13 : Int32) then (1 : Int32) else (0 : Int32)) := ⟨_, rfl⟩
          have K126_34 : ∀ (T' : State) (locs' : List Loc) (X' : Stand p l e ({ frames := 0, cells := 0, slots := 0, locals := 0 } : Room) s m #[(.ref r0)] below meth c T' locs' 0 0) (N' : Fr n0 locs') (e' : T'.heap = h30), own_Go p.tables e below s 0 0 (Q9c0p3 Z r0 gb wl wr w0 w1 w2 w3 k_gb h0 n0) (T'.setTop (mkF m 126 #[rv r0, iv (0 : Int32), iv (3 : Int32), rv gb, iv v89_27, iv w2, iv (3 : Int32), iv w2] [(.int v126_33), (.ref r0)])) := by
            intro T34 L34 X34 N34 e34
            obtain ⟨T35, h35, X35, e35, W35, st35⟩ := putFN X34 hx hZ hown (own_w hw 75 rfl) Via.refl e34 F_afterCarriageReturn_r0_30 E_r0_30 (Or.inl (own_w hw 76 rfl)) (own_w hw 11 rfl) (ty := .boolean) (v' := (.int (nar .boolean v126_33))) (by decide) rfl (fits_nar_bool _) (g := (mkF m 126 #[rv r0, iv (0 : Int32), iv (3 : Int32), rv gb, iv v89_27, iv w2, iv (3 : Int32), iv w2] [(.int v126_33), (.ref r0)])) rfl rfl (hb hby d9_126)
            have E_r0_35 := E_r0_30.wr W35
            have F_bytes_r0_35 := F_bytes_r0_30.other W35 (Or.inr (slot_ne (Or.inl (own_w hw 41 rfl)) (Or.inl (own_w hw 76 rfl)) (by decide) (t := (.array .byte)) (t' := .boolean) (by decide) (by decide)))
            have F_position_r0_35 := F_position_r0_30.other W35 (Or.inr (slot_ne (Or.inl (own_w hw 58 rfl)) (Or.inl (own_w hw 76 rfl)) (by decide) (t := .int) (t' := .boolean) (by decide) (by decide)))
            have F_line_r0_35 := F_line_r0_30.other W35 (Or.inr (slot_ne (Or.inl (own_w hw 72 rfl)) (Or.inl (own_w hw 76 rfl)) (by decide) (t := .int) (t' := .boolean) (by decide) (by decide)))
            have F_counted_r0_35 := F_counted_r0_30.other W35 (Or.inr (slot_ne (Or.inl (own_w hw 74 rfl)) (Or.inl (own_w hw 76 rfl)) (by decide) (t := .int) (t' := .boolean) (by decide) (by decide)))
            have V_gb_35 := V_gb_30.other W35 hne
            have F_afterCarriageReturn_r0_35 := F_afterCarriageReturn_r0_30.same W35
            have Z35 : n0 ≤ h35.size := Nat.le_trans Z30 (Keep.of_wr W35).1
            have KK35 := KK30.wr W35 (Or.inl (List.mem_of_getElem? (i := 0) rfl))
            have N35 := Fr.snoc X35 N34 g_r0
            refine own_step (U' := T35.setTop (mkF m 129 #[rv r0, iv (0 : Int32), iv (3 : Int32), rv gb, iv v89_27, iv w2, iv (3 : Int32), iv w2] [])) st35 ?_
            refine own_step (U' := T35.setTop (mkF m 131 #[rv r0, iv (0 : Int32), iv (3 : Int32), rv gb, iv v89_27, iv w2, iv (3 : Int32), iv w2] [(.ref r0), (.ref r0)])) (fun t k => XS.aloadN X35.here hx rfl (hb hby d9_129) rfl rfl (XS.aloadN X35.here hx rfl (hb hby d9_130) rfl rfl k)) ?_
            obtain ⟨T36, X36, e36, st36⟩ := getF X35 hx hZ hown (host := "") (Or.inl (own_w hw 75 rfl)) Via.refl e35 F_afterCarriageReturn_r0_35 (g := (mkF m 131 #[rv r0, iv (0 : Int32), iv (3 : Int32), rv gb, iv v89_27, iv w2, iv (3 : Int32), iv w2] [(.ref r0), (.ref r0)])) rfl rfl (hb hby d9_131)
            refine own_step (U' := T36.setTop (mkF m 134 #[rv r0, iv (0 : Int32), iv (3 : Int32), rv gb, iv v89_27, iv w2, iv (3 : Int32), iv w2] [(.int (nar .boolean v126_33)), (.ref r0)])) st36 ?_
            obtain ⟨v152_40, hv152_40⟩ : ∃ v : Int32, v = (if (nar .boolean v126_33) = (0 : Int32) then (if w2 = (10 : Int32) then (1 : Int32) else (0 : Int32)) else (1 : Int32)) := ⟨_, rfl⟩
            have K152_41 : ∀ (T' : State) (locs' : List Loc) (X' : Stand p l e ({ frames := 0, cells := 0, slots := 0, locals := 0 } : Room) s m #[(.ref r0)] below meth c T' locs' 0 0) (N' : Fr n0 locs') (e' : T'.heap = h35), own_Go p.tables e below s 0 0 (Q9c0p3 Z r0 gb wl wr w0 w1 w2 w3 k_gb h0 n0) (T'.setTop (mkF m 152 #[rv r0, iv (0 : Int32), iv (3 : Int32), rv gb, iv v89_27, iv w2, iv (3 : Int32), iv w2] [(.int v152_40), (.ref r0)])) := by
              intro T41 L41 X41 N41 e41
              obtain ⟨u42, Fu42⟩ := own_anyF (O := own_XC) (n := "afterLineEnd") (d := "Z") E_r0_35 F_bytes_r0_35 (own_w hw 11 rfl) (Or.inl (own_w hw 78 rfl))
              obtain ⟨T42, h42, X42, e42, W42, st42⟩ := putFN X41 hx hZ hown (own_w hw 77 rfl) Via.refl e41 Fu42 E_r0_35 (Or.inl (own_w hw 78 rfl)) (own_w hw 11 rfl) (ty := .boolean) (v' := (.int (nar .boolean v152_40))) (by decide) rfl (fits_nar_bool _) (g := (mkF m 152 #[rv r0, iv (0 : Int32), iv (3 : Int32), rv gb, iv v89_27, iv w2, iv (3 : Int32), iv w2] [(.int v152_40), (.ref r0)])) rfl rfl (hb hby d9_152)
              have E_r0_42 := E_r0_35.wr W42
              have F_bytes_r0_42 := F_bytes_r0_35.other W42 (Or.inr (slot_ne (Or.inl (own_w hw 41 rfl)) (Or.inl (own_w hw 78 rfl)) (by decide) (t := (.array .byte)) (t' := .boolean) (by decide) (by decide)))
              have F_position_r0_42 := F_position_r0_35.other W42 (Or.inr (slot_ne (Or.inl (own_w hw 58 rfl)) (Or.inl (own_w hw 78 rfl)) (by decide) (t := .int) (t' := .boolean) (by decide) (by decide)))
              have F_line_r0_42 := F_line_r0_35.other W42 (Or.inr (slot_ne (Or.inl (own_w hw 72 rfl)) (Or.inl (own_w hw 78 rfl)) (by decide) (t := .int) (t' := .boolean) (by decide) (by decide)))
              have F_counted_r0_42 := F_counted_r0_35.other W42 (Or.inr (slot_ne (Or.inl (own_w hw 74 rfl)) (Or.inl (own_w hw 78 rfl)) (by decide) (t := .int) (t' := .boolean) (by decide) (by decide)))
              have F_afterCarriageReturn_r0_42 := F_afterCarriageReturn_r0_35.other W42 (Or.inr (slot_ne (Or.inl (own_w hw 76 rfl)) (Or.inl (own_w hw 78 rfl)) (by decide) (t := .boolean) (t' := .boolean) (by decide) (by decide)))
              have V_gb_42 := V_gb_35.other W42 hne
              have Z42 : n0 ≤ h42.size := Nat.le_trans Z35 (Keep.of_wr W42).1
              have KK42 := KK35.wr W42 (Or.inl (List.mem_of_getElem? (i := 0) rfl))
              have N42 := Fr.snoc X42 N41 g_r0
              refine own_step (U' := T42.setTop (mkF m 155 #[rv r0, iv (0 : Int32), iv (3 : Int32), rv gb, iv v89_27, iv w2, iv (3 : Int32), iv w2] [])) st42 ?_
              refine own_step (U' := T42.setTop (mkF m 157 #[rv r0, iv (0 : Int32), iv (3 : Int32), rv gb, iv v89_27, iv w2, iv (3 : Int32), iv w2] [(.int (3 : Int32)), (.ref r0)])) (fun t k => XS.aloadN X42.here hx rfl (hb hby d9_155) rfl rfl (XS.iloadN X42.here hx rfl (hb hby d9_156) rfl k)) ?_
              obtain ⟨T43, h43, X43, e43, W43, st43⟩ := putF X42 hx hZ hown (host := "") (Or.inl (own_w hw 73 rfl)) Via.refl e42 F_counted_r0_42 E_r0_42 (Or.inl (own_w hw 74 rfl)) (own_w hw 11 rfl) (ty := .int) (by decide) rfl rfl (g := (mkF m 157 #[rv r0, iv (0 : Int32), iv (3 : Int32), rv gb, iv v89_27, iv w2, iv (3 : Int32), iv w2] [(.int (3 : Int32)), (.ref r0)])) rfl rfl (hb hby d9_157)
              have E_r0_43 := E_r0_42.wr W43
              have F_bytes_r0_43 := F_bytes_r0_42.other W43 (Or.inr (slot_ne (Or.inl (own_w hw 41 rfl)) (Or.inl (own_w hw 74 rfl)) (by decide) (t := (.array .byte)) (t' := .int) (by decide) (by decide)))
              have F_position_r0_43 := F_position_r0_42.other W43 (Or.inr (slot_ne (Or.inl (own_w hw 58 rfl)) (Or.inl (own_w hw 74 rfl)) (by decide) (t := .int) (t' := .int) (by decide) (by decide)))
              have F_line_r0_43 := F_line_r0_42.other W43 (Or.inr (slot_ne (Or.inl (own_w hw 72 rfl)) (Or.inl (own_w hw 74 rfl)) (by decide) (t := .int) (t' := .int) (by decide) (by decide)))
              have F_afterCarriageReturn_r0_43 := F_afterCarriageReturn_r0_42.other W43 (Or.inr (slot_ne (Or.inl (own_w hw 76 rfl)) (Or.inl (own_w hw 74 rfl)) (by decide) (t := .boolean) (t' := .int) (by decide) (by decide)))
              have V_gb_43 := V_gb_42.other W43 hne
              have F_counted_r0_43 := F_counted_r0_42.same W43
              have Z43 : n0 ≤ h43.size := Nat.le_trans Z42 (Keep.of_wr W43).1
              have KK43 := KK42.wr W43 (Or.inl (List.mem_of_getElem? (i := 0) rfl))
              have N43 := Fr.snoc X43 N42 g_r0
              refine own_step (U' := T43.setTop (mkF m 160 #[rv r0, iv (0 : Int32), iv (3 : Int32), rv gb, iv v89_27, iv w2, iv (3 : Int32), iv w2] [])) st43 ?_
              refine own_step (U' := T43.setTop (mkF m 161 #[rv r0, iv (0 : Int32), iv (3 : Int32), rv gb, iv v89_27, iv w2, iv (3 : Int32), iv w2] [(.ref r0)])) (fun t k => XS.aloadN X43.here hx rfl (hb hby d9_160) rfl rfl k) ?_
              obtain ⟨T44, X44, e44, st44⟩ := getF X43 hx hZ hown (host := "") (Or.inl (own_w hw 71 rfl)) Via.refl e43 F_line_r0_43 (g := (mkF m 161 #[rv r0, iv (0 : Int32), iv (3 : Int32), rv gb, iv v89_27, iv w2, iv (3 : Int32), iv w2] [(.ref r0)])) rfl rfl (hb hby d9_161)
              refine own_step (U' := T44.setTop (mkF m 164 #[rv r0, iv (0 : Int32), iv (3 : Int32), rv gb, iv v89_27, iv w2, iv (3 : Int32), iv w2] [(.int (wl + v89_27))])) st44 ?_
              exact own_out X44 (v := (some (.int (wl + v89_27)))) hlk (own_nv Bd.returns) (by rw [e44]; exact (by subst hv41_6 hv89_13 hv89_20 hv89_27 hv126_33 hv152_40; exact ⟨rfl, N43, KK43, E_r0_43, F_bytes_r0_43, F_position_r0_43, F_line_r0_43, F_counted_r0_43, F_afterCarriageReturn_r0_43⟩)) (by decide) (by decide) (fun fs hr => retI X44 hx Bd.returns (hb hby d9_164) hr)
            by_cases hc134_45 : (nar .boolean v126_33) = (0 : Int32)
            · refine own_step (U' := T36.setTop (mkF m 141 #[rv r0, iv (0 : Int32), iv (3 : Int32), rv gb, iv v89_27, iv w2, iv (3 : Int32), iv w2] [(.int (2 : Int32)), (.ref gb), (.ref r0)])) (fun t k => XS.ifNo X36.here hx rfl (hb hby d9_134) rfl ((if0 _ _).trans (teq hc134_45).2) (XS.aloadN X36.here hx rfl (hb hby d9_137) rfl rfl (XS.iloadN X36.here hx rfl (hb hby d9_138) rfl (XS.iconst X36.here hx rfl (hb hby d9_139) (XS.isub X36.here hx rfl (hb hby d9_140) rfl k))))) ?_
              obtain ⟨cl46, Ar46, aq46, aS46, aN46, aH46, aG46⟩ := id V_gb_35
              have hin46 : ¬ ((2 : Int32) < 0 ∨ cl46.slots.size ≤ ((2 : Int32)).toNatClampNeg) := inb_of aS46 ⟨by decide, by decide⟩
              have hat46 : cl46.slots[((2 : Int32)).toNatClampNeg]? = some (.int w2) := aH46.at hin46 rfl
              refine own_step (U' := T36.setTop (mkF m 144 #[rv r0, iv (0 : Int32), iv (3 : Int32), rv gb, iv v89_27, iv w2, iv (3 : Int32), iv w2] [(.int (10 : Int32)), (.int w2), (.ref r0)])) (fun t k => X36.baloadBytes hx (j := (2 : Int32)) (v := (.int w2)) (by rw [e36]; exact Ar46.1) (State.isArrayOf_alike hZ.alike Ar46.2.1) Ar46.2.2 hin46 hat46 (g := (mkF m 141 #[rv r0, iv (0 : Int32), iv (3 : Int32), rv gb, iv v89_27, iv w2, iv (3 : Int32), iv w2] [(.int (2 : Int32)), (.ref gb), (.ref r0)])) rfl rfl (hb hby d9_141) t (XS.bipush X36.here hx rfl (hb hby d9_142) k)) ?_
              by_cases hc144_47 : w2 = (10 : Int32)
              · refine own_step (U' := T36.setTop (mkF m 152 #[rv r0, iv (0 : Int32), iv (3 : Int32), rv gb, iv v89_27, iv w2, iv (3 : Int32), iv w2] [(.int (1 : Int32)), (.ref r0)])) (fun t k => XS.icmpNo X36.here hx rfl (hb hby d9_144) rfl (teq hc144_47).2 (XS.iconst X36.here hx rfl (hb hby d9_147) (XS.goto X36.here hx rfl (pc0 := 148) (pc' := 152) rfl (hb hby d9_148) (by decide) (by decide) k))) ?_
                have q_v152_40 : v152_40 = (1 : Int32) := by rw [hv152_40, if_pos hc134_45, if_pos hc144_47]
                rw [q_v152_40] at K152_41
                exact K152_41 _ _ X36 N35 e36
              · refine own_step (U' := T36.setTop (mkF m 152 #[rv r0, iv (0 : Int32), iv (3 : Int32), rv gb, iv v89_27, iv w2, iv (3 : Int32), iv w2] [(.int (0 : Int32)), (.ref r0)])) (fun t k => XS.icmpYes X36.here hx rfl (pc0 := 144) (pc' := 151) rfl (hb hby d9_144) rfl (feq hc144_47).2 (by decide) (by decide) (XS.iconst X36.here hx rfl (hb hby d9_151) k)) ?_
                have q_v152_40 : v152_40 = (0 : Int32) := by rw [hv152_40, if_pos hc134_45, if_neg hc144_47]
                rw [q_v152_40] at K152_41
                exact K152_41 _ _ X36 N35 e36
            · refine own_step (U' := T36.setTop (mkF m 152 #[rv r0, iv (0 : Int32), iv (3 : Int32), rv gb, iv v89_27, iv w2, iv (3 : Int32), iv w2] [(.int (1 : Int32)), (.ref r0)])) (fun t k => XS.ifYes X36.here hx rfl (pc0 := 134) (pc' := 147) rfl (hb hby d9_134) rfl ((if0 _ _).trans (feq hc134_45).2) (by decide) (by decide) (XS.iconst X36.here hx rfl (hb hby d9_147) (XS.goto X36.here hx rfl (pc0 := 148) (pc' := 152) rfl (hb hby d9_148) (by decide) (by decide) k))) ?_
              have q_v152_40 : v152_40 = (1 : Int32) := by rw [hv152_40, if_neg hc134_45]
              rw [q_v152_40] at K152_41
              exact K152_41 _ _ X36 N35 e36
          by_cases hc118_48 : w2 = (13 : Int32)
          · refine own_step (U' := T30.setTop (mkF m 126 #[rv r0, iv (0 : Int32), iv (3 : Int32), rv gb, iv v89_27, iv w2, iv (3 : Int32), iv w2] [(.int (1 : Int32)), (.ref r0)])) (fun t k => XS.icmpNo X30.here hx rfl (hb hby d9_118) rfl (teq hc118_48).2 (XS.iconst X30.here hx rfl (hb hby d9_121) (XS.goto X30.here hx rfl (pc0 := 122) (pc' := 126) rfl (hb hby d9_122) (by decide) (by decide) k))) ?_
            have q_v126_33 : v126_33 = (1 : Int32) := by rw [hv126_33, if_pos hc118_48]
            rw [q_v126_33] at K126_34
            exact K126_34 _ _ X30 N30 e30
          · refine own_step (U' := T30.setTop (mkF m 126 #[rv r0, iv (0 : Int32), iv (3 : Int32), rv gb, iv v89_27, iv w2, iv (3 : Int32), iv w2] [(.int (0 : Int32)), (.ref r0)])) (fun t k => XS.icmpYes X30.here hx rfl (pc0 := 118) (pc' := 125) rfl (hb hby d9_118) rfl (feq hc118_48).2 (by decide) (by decide) (XS.iconst X30.here hx rfl (hb hby d9_125) k)) ?_
            have q_v126_33 : v126_33 = (0 : Int32) := by rw [hv126_33, if_neg hc118_48]
            rw [q_v126_33] at K126_34
            exact K126_34 _ _ X30 N30 e30
        by_cases hc62_49 : (13 : Int32) < w2
        · refine own_step (U' := T21.setTop (mkF m 89 #[rv r0, iv (0 : Int32), iv (3 : Int32), rv gb, iv v89_20, iv w1, iv (2 : Int32), iv w2] [])) (fun t k => XS.icmpYes X21.here hx rfl (pc0 := 62) (pc' := 89) rfl (hb hby d9_62) rfl (tlt hc62_49).2.2.1 (by decide) (by decide) k) ?_
          have q_v89_27 : v89_27 = v89_20 := by rw [hv89_27, if_pos hc62_49]
          rw [q_v89_27] at K89_28
          exact K89_28 _ _ X21 N21 e21
        · refine own_step (U' := T21.setTop (mkF m 69 #[rv r0, iv (0 : Int32), iv (3 : Int32), rv gb, iv v89_20, iv w1, iv (2 : Int32), iv w2] [(.int (13 : Int32)), (.int w2)])) (fun t k => XS.icmpNo X21.here hx rfl (hb hby d9_62) rfl (flt hc62_49).2.2.1 (XS.iload X21.here hx rfl (hb hby d9_65) rfl (XS.bipush X21.here hx rfl (hb hby d9_67) k))) ?_
          by_cases hc69_50 : w2 = (13 : Int32)
          · refine own_step (U' := T21.setTop (mkF m 89 #[rv r0, iv (0 : Int32), iv (3 : Int32), rv gb, iv (v89_20 + (1 : Int32)), iv w1, iv (2 : Int32), iv w2] [])) (fun t k => XS.icmpYes X21.here hx rfl (pc0 := 69) (pc' := 86) rfl (hb hby d9_69) rfl (teq hc69_50).1 (by decide) (by decide) (XS.iinc X21.here hx rfl (hb hby d9_86) rfl (l' := #[rv r0, iv (0 : Int32), iv (3 : Int32), rv gb, iv (v89_20 + (1 : Int32)), iv w1, iv (2 : Int32), iv w2]) rfl k)) ?_
            have q_v89_27 : v89_27 = (v89_20 + (1 : Int32)) := by rw [hv89_27, if_neg hc62_49, if_pos hc69_50]
            rw [q_v89_27] at K89_28
            exact K89_28 _ _ X21 N21 e21
          · refine own_step (U' := T21.setTop (mkF m 76 #[rv r0, iv (0 : Int32), iv (3 : Int32), rv gb, iv v89_20, iv w1, iv (2 : Int32), iv w2] [(.int (10 : Int32)), (.int w2)])) (fun t k => XS.icmpNo X21.here hx rfl (hb hby d9_69) rfl (feq hc69_50).1 (XS.iload X21.here hx rfl (hb hby d9_72) rfl (XS.bipush X21.here hx rfl (hb hby d9_74) k))) ?_
            by_cases hc76_51 : w2 = (10 : Int32)
            · refine own_step (U' := T21.setTop (mkF m 83 #[rv r0, iv (0 : Int32), iv (3 : Int32), rv gb, iv v89_20, iv w1, iv (2 : Int32), iv w2] [(.int (13 : Int32)), (.int w1)])) (fun t k => XS.icmpNo X21.here hx rfl (hb hby d9_76) rfl (teq hc76_51).2 (XS.iload X21.here hx rfl (hb hby d9_79) rfl (XS.bipush X21.here hx rfl (hb hby d9_81) k))) ?_
              by_cases hc83_52 : w1 = (13 : Int32)
              · refine own_step (U' := T21.setTop (mkF m 89 #[rv r0, iv (0 : Int32), iv (3 : Int32), rv gb, iv v89_20, iv w1, iv (2 : Int32), iv w2] [])) (fun t k => XS.icmpYes X21.here hx rfl (pc0 := 83) (pc' := 89) rfl (hb hby d9_83) rfl (teq hc83_52).1 (by decide) (by decide) k) ?_
                have q_v89_27 : v89_27 = v89_20 := by rw [hv89_27, if_neg hc62_49, if_neg hc69_50, if_pos hc76_51, if_pos hc83_52]
                rw [q_v89_27] at K89_28
                exact K89_28 _ _ X21 N21 e21
              · refine own_step (U' := T21.setTop (mkF m 89 #[rv r0, iv (0 : Int32), iv (3 : Int32), rv gb, iv (v89_20 + (1 : Int32)), iv w1, iv (2 : Int32), iv w2] [])) (fun t k => XS.icmpNo X21.here hx rfl (hb hby d9_83) rfl (feq hc83_52).1 (XS.iinc X21.here hx rfl (hb hby d9_86) rfl (l' := #[rv r0, iv (0 : Int32), iv (3 : Int32), rv gb, iv (v89_20 + (1 : Int32)), iv w1, iv (2 : Int32), iv w2]) rfl k)) ?_
                have q_v89_27 : v89_27 = (v89_20 + (1 : Int32)) := by rw [hv89_27, if_neg hc62_49, if_neg hc69_50, if_pos hc76_51, if_neg hc83_52]
                rw [q_v89_27] at K89_28
                exact K89_28 _ _ X21 N21 e21
            · refine own_step (U' := T21.setTop (mkF m 89 #[rv r0, iv (0 : Int32), iv (3 : Int32), rv gb, iv v89_20, iv w1, iv (2 : Int32), iv w2] [])) (fun t k => XS.icmpYes X21.here hx rfl (pc0 := 76) (pc' := 89) rfl (hb hby d9_76) rfl (feq hc76_51).2 (by decide) (by decide) k) ?_
              have q_v89_27 : v89_27 = v89_20 := by rw [hv89_27, if_neg hc62_49, if_neg hc69_50, if_neg hc76_51]
              rw [q_v89_27] at K89_28
              exact K89_28 _ _ X21 N21 e21
      by_cases hc62_53 : (13 : Int32) < w1
      · refine own_step (U' := T14.setTop (mkF m 89 #[rv r0, iv (0 : Int32), iv (3 : Int32), rv gb, iv v89_13, iv w0, iv (1 : Int32), iv w1] [])) (fun t k => XS.icmpYes X14.here hx rfl (pc0 := 62) (pc' := 89) rfl (hb hby d9_62) rfl (tlt hc62_53).2.2.1 (by decide) (by decide) k) ?_
        have q_v89_20 : v89_20 = v89_13 := by rw [hv89_20, if_pos hc62_53]
        rw [q_v89_20] at K89_21
        exact K89_21 _ _ X14 N14 e14
      · refine own_step (U' := T14.setTop (mkF m 69 #[rv r0, iv (0 : Int32), iv (3 : Int32), rv gb, iv v89_13, iv w0, iv (1 : Int32), iv w1] [(.int (13 : Int32)), (.int w1)])) (fun t k => XS.icmpNo X14.here hx rfl (hb hby d9_62) rfl (flt hc62_53).2.2.1 (XS.iload X14.here hx rfl (hb hby d9_65) rfl (XS.bipush X14.here hx rfl (hb hby d9_67) k))) ?_
        by_cases hc69_54 : w1 = (13 : Int32)
        · refine own_step (U' := T14.setTop (mkF m 89 #[rv r0, iv (0 : Int32), iv (3 : Int32), rv gb, iv (v89_13 + (1 : Int32)), iv w0, iv (1 : Int32), iv w1] [])) (fun t k => XS.icmpYes X14.here hx rfl (pc0 := 69) (pc' := 86) rfl (hb hby d9_69) rfl (teq hc69_54).1 (by decide) (by decide) (XS.iinc X14.here hx rfl (hb hby d9_86) rfl (l' := #[rv r0, iv (0 : Int32), iv (3 : Int32), rv gb, iv (v89_13 + (1 : Int32)), iv w0, iv (1 : Int32), iv w1]) rfl k)) ?_
          have q_v89_20 : v89_20 = (v89_13 + (1 : Int32)) := by rw [hv89_20, if_neg hc62_53, if_pos hc69_54]
          rw [q_v89_20] at K89_21
          exact K89_21 _ _ X14 N14 e14
        · refine own_step (U' := T14.setTop (mkF m 76 #[rv r0, iv (0 : Int32), iv (3 : Int32), rv gb, iv v89_13, iv w0, iv (1 : Int32), iv w1] [(.int (10 : Int32)), (.int w1)])) (fun t k => XS.icmpNo X14.here hx rfl (hb hby d9_69) rfl (feq hc69_54).1 (XS.iload X14.here hx rfl (hb hby d9_72) rfl (XS.bipush X14.here hx rfl (hb hby d9_74) k))) ?_
          by_cases hc76_55 : w1 = (10 : Int32)
          · refine own_step (U' := T14.setTop (mkF m 83 #[rv r0, iv (0 : Int32), iv (3 : Int32), rv gb, iv v89_13, iv w0, iv (1 : Int32), iv w1] [(.int (13 : Int32)), (.int w0)])) (fun t k => XS.icmpNo X14.here hx rfl (hb hby d9_76) rfl (teq hc76_55).2 (XS.iload X14.here hx rfl (hb hby d9_79) rfl (XS.bipush X14.here hx rfl (hb hby d9_81) k))) ?_
            by_cases hc83_56 : w0 = (13 : Int32)
            · refine own_step (U' := T14.setTop (mkF m 89 #[rv r0, iv (0 : Int32), iv (3 : Int32), rv gb, iv v89_13, iv w0, iv (1 : Int32), iv w1] [])) (fun t k => XS.icmpYes X14.here hx rfl (pc0 := 83) (pc' := 89) rfl (hb hby d9_83) rfl (teq hc83_56).1 (by decide) (by decide) k) ?_
              have q_v89_20 : v89_20 = v89_13 := by rw [hv89_20, if_neg hc62_53, if_neg hc69_54, if_pos hc76_55, if_pos hc83_56]
              rw [q_v89_20] at K89_21
              exact K89_21 _ _ X14 N14 e14
            · refine own_step (U' := T14.setTop (mkF m 89 #[rv r0, iv (0 : Int32), iv (3 : Int32), rv gb, iv (v89_13 + (1 : Int32)), iv w0, iv (1 : Int32), iv w1] [])) (fun t k => XS.icmpNo X14.here hx rfl (hb hby d9_83) rfl (feq hc83_56).1 (XS.iinc X14.here hx rfl (hb hby d9_86) rfl (l' := #[rv r0, iv (0 : Int32), iv (3 : Int32), rv gb, iv (v89_13 + (1 : Int32)), iv w0, iv (1 : Int32), iv w1]) rfl k)) ?_
              have q_v89_20 : v89_20 = (v89_13 + (1 : Int32)) := by rw [hv89_20, if_neg hc62_53, if_neg hc69_54, if_pos hc76_55, if_neg hc83_56]
              rw [q_v89_20] at K89_21
              exact K89_21 _ _ X14 N14 e14
          · refine own_step (U' := T14.setTop (mkF m 89 #[rv r0, iv (0 : Int32), iv (3 : Int32), rv gb, iv v89_13, iv w0, iv (1 : Int32), iv w1] [])) (fun t k => XS.icmpYes X14.here hx rfl (pc0 := 76) (pc' := 89) rfl (hb hby d9_76) rfl (feq hc76_55).2 (by decide) (by decide) k) ?_
            have q_v89_20 : v89_20 = v89_13 := by rw [hv89_20, if_neg hc62_53, if_neg hc69_54, if_neg hc76_55]
            rw [q_v89_20] at K89_21
            exact K89_21 _ _ X14 N14 e14
    by_cases hc62_57 : (13 : Int32) < w0
    · refine own_step (U' := T7.setTop (mkF m 89 #[rv r0, iv (0 : Int32), iv (3 : Int32), rv gb, iv (0 : Int32), iv v41_6, iv (0 : Int32), iv w0] [])) (fun t k => XS.icmpYes X7.here hx rfl (pc0 := 62) (pc' := 89) rfl (hb hby d9_62) rfl (tlt hc62_57).2.2.1 (by decide) (by decide) k) ?_
      have q_v89_13 : v89_13 = (0 : Int32) := by rw [hv89_13, if_pos hc62_57]
      rw [q_v89_13] at K89_14
      exact K89_14 _ _ X7 N7 e7
    · refine own_step (U' := T7.setTop (mkF m 69 #[rv r0, iv (0 : Int32), iv (3 : Int32), rv gb, iv (0 : Int32), iv v41_6, iv (0 : Int32), iv w0] [(.int (13 : Int32)), (.int w0)])) (fun t k => XS.icmpNo X7.here hx rfl (hb hby d9_62) rfl (flt hc62_57).2.2.1 (XS.iload X7.here hx rfl (hb hby d9_65) rfl (XS.bipush X7.here hx rfl (hb hby d9_67) k))) ?_
      by_cases hc69_58 : w0 = (13 : Int32)
      · refine own_step (U' := T7.setTop (mkF m 89 #[rv r0, iv (0 : Int32), iv (3 : Int32), rv gb, iv (1 : Int32), iv v41_6, iv (0 : Int32), iv w0] [])) (fun t k => XS.icmpYes X7.here hx rfl (pc0 := 69) (pc' := 86) rfl (hb hby d9_69) rfl (teq hc69_58).1 (by decide) (by decide) (XS.iinc X7.here hx rfl (hb hby d9_86) rfl (l' := #[rv r0, iv (0 : Int32), iv (3 : Int32), rv gb, iv (1 : Int32), iv v41_6, iv (0 : Int32), iv w0]) rfl k)) ?_
        have q_v89_13 : v89_13 = (1 : Int32) := by rw [hv89_13, if_neg hc62_57, if_pos hc69_58]
        rw [q_v89_13] at K89_14
        exact K89_14 _ _ X7 N7 e7
      · refine own_step (U' := T7.setTop (mkF m 76 #[rv r0, iv (0 : Int32), iv (3 : Int32), rv gb, iv (0 : Int32), iv v41_6, iv (0 : Int32), iv w0] [(.int (10 : Int32)), (.int w0)])) (fun t k => XS.icmpNo X7.here hx rfl (hb hby d9_69) rfl (feq hc69_58).1 (XS.iload X7.here hx rfl (hb hby d9_72) rfl (XS.bipush X7.here hx rfl (hb hby d9_74) k))) ?_
        by_cases hc76_59 : w0 = (10 : Int32)
        · refine own_step (U' := T7.setTop (mkF m 83 #[rv r0, iv (0 : Int32), iv (3 : Int32), rv gb, iv (0 : Int32), iv v41_6, iv (0 : Int32), iv w0] [(.int (13 : Int32)), (.int v41_6)])) (fun t k => XS.icmpNo X7.here hx rfl (hb hby d9_76) rfl (teq hc76_59).2 (XS.iload X7.here hx rfl (hb hby d9_79) rfl (XS.bipush X7.here hx rfl (hb hby d9_81) k))) ?_
          by_cases hc83_60 : v41_6 = (13 : Int32)
          · refine own_step (U' := T7.setTop (mkF m 89 #[rv r0, iv (0 : Int32), iv (3 : Int32), rv gb, iv (0 : Int32), iv v41_6, iv (0 : Int32), iv w0] [])) (fun t k => XS.icmpYes X7.here hx rfl (pc0 := 83) (pc' := 89) rfl (hb hby d9_83) rfl (teq hc83_60).1 (by decide) (by decide) k) ?_
            have q_v89_13 : v89_13 = (0 : Int32) := by rw [hv89_13, if_neg hc62_57, if_neg hc69_58, if_pos hc76_59, if_pos hc83_60]
            rw [q_v89_13] at K89_14
            exact K89_14 _ _ X7 N7 e7
          · refine own_step (U' := T7.setTop (mkF m 89 #[rv r0, iv (0 : Int32), iv (3 : Int32), rv gb, iv (1 : Int32), iv v41_6, iv (0 : Int32), iv w0] [])) (fun t k => XS.icmpNo X7.here hx rfl (hb hby d9_83) rfl (feq hc83_60).1 (XS.iinc X7.here hx rfl (hb hby d9_86) rfl (l' := #[rv r0, iv (0 : Int32), iv (3 : Int32), rv gb, iv (1 : Int32), iv v41_6, iv (0 : Int32), iv w0]) rfl k)) ?_
            have q_v89_13 : v89_13 = (1 : Int32) := by rw [hv89_13, if_neg hc62_57, if_neg hc69_58, if_pos hc76_59, if_neg hc83_60]
            rw [q_v89_13] at K89_14
            exact K89_14 _ _ X7 N7 e7
        · refine own_step (U' := T7.setTop (mkF m 89 #[rv r0, iv (0 : Int32), iv (3 : Int32), rv gb, iv (0 : Int32), iv v41_6, iv (0 : Int32), iv w0] [])) (fun t k => XS.icmpYes X7.here hx rfl (pc0 := 76) (pc' := 89) rfl (hb hby d9_76) rfl (feq hc76_59).2 (by decide) (by decide) k) ?_
          have q_v89_13 : v89_13 = (0 : Int32) := by rw [hv89_13, if_neg hc62_57, if_neg hc69_58, if_neg hc76_59]
          rw [q_v89_13] at K89_14
          exact K89_14 _ _ X7 N7 e7
  by_cases hc32_61 : wr = (0 : Int32)
  · refine own_step (U' := T4.setTop (mkF m 41 #[rv r0, iv (0 : Int32), iv (3 : Int32), rv gb, iv (0 : Int32), .unset, .unset, .unset] [(.int (0 : Int32))])) (fun t k => XS.ifYes X4.here hx rfl (pc0 := 32) (pc' := 40) rfl (hb hby d9_32) rfl ((if0 _ _).trans (teq hc32_61).1) (by decide) (by decide) (XS.iconst X4.here hx rfl (hb hby d9_40) k)) ?_
    have q_v41_6 : v41_6 = (0 : Int32) := by rw [hv41_6, if_pos hc32_61]
    rw [q_v41_6] at K41_7
    exact K41_7 _ _ X4 N0 e4
  · refine own_step (U' := T4.setTop (mkF m 41 #[rv r0, iv (0 : Int32), iv (3 : Int32), rv gb, iv (0 : Int32), .unset, .unset, .unset] [(.int (13 : Int32))])) (fun t k => XS.ifNo X4.here hx rfl (hb hby d9_32) rfl ((if0 _ _).trans (feq hc32_61).1) (XS.bipush X4.here hx rfl (hb hby d9_35) (XS.goto X4.here hx rfl (pc0 := 37) (pc' := 41) rfl (hb hby d9_37) (by decide) (by decide) k))) ?_
    have q_v41_6 : v41_6 = (13 : Int32) := by rw [hv41_6, if_neg hc32_61]
    rw [q_v41_6] at K41_7
    exact K41_7 _ _ X4 N0 e4
theorem ef_9c1p3 (m : MethodId) (r0 : Addr) : entryFrame m #[(.ref r0)] 8 = mkF m 0 #[rv r0, .unset, .unset, .unset, .unset, .unset, .unset, .unset] [] := by first | (simp [entryFrame, mkF, argsToLocals, Value.category]; done) | rfl
def F9c1p3 (wl : Int32) (wr : Int32) (w0 : Int32) (w1 : Int32) (w2 : Int32) (w3 : Int32) : Int32 :=
  let v41_6 : Int32 := (if wr = (0 : Int32) then (0 : Int32) else (13 : Int32))
  let v89_13 : Int32 := (if (13 : Int32) < w1 then (0 : Int32) else (if w1 = (13 : Int32) then (1 : Int32) else (if w1 = (10 : Int32) then (if v41_6 = (13 : Int32) then (0 : Int32) else (1 : Int32)) else (0 : Int32))))
  let v89_20 : Int32 := (if (13 : Int32) < w2 then v89_13 else (if w2 = (13 : Int32) then (v89_13 + (1 : Int32)) else (if w2 = (10 : Int32) then (if w1 = (13 : Int32) then v89_13 else (v89_13 + (1 : Int32))) else v89_13)))
  let v126_26 : Int32 := (if w2 = (13 : Int32) then (1 : Int32) else (0 : Int32))
  let v152_33 : Int32 := (if (nar .boolean v126_26) = (0 : Int32) then (if w2 = (10 : Int32) then (1 : Int32) else (0 : Int32)) else (1 : Int32))
  (wl + v89_20)
def Q9c1p3 (Z : State) (r0 : Addr) (gb : Addr) (wl : Int32) (wr : Int32) (w0 : Int32) (w1 : Int32) (w2 : Int32) (w3 : Int32) (k_gb : ClassId) (h0 : Heap) (n0 : Nat) (v : Option Value) (h : Heap) (L : List Loc) : Prop := v = some (.int (F9c1p3 wl wr w0 w1 w2 w3)) ∧ Fr n0 L ∧ Keep h0 h [r0] ∧ Exa Z h r0 own_XC ∧ Fld Z h r0 own_XC "bytes" "[B" (.ref gb) ∧ Fld Z h r0 own_XC "position" "I" (.int (3 : Int32)) ∧ Fld Z h r0 own_XC "line" "I" (.int (F9c1p3 wl wr w0 w1 w2 w3)) ∧ Fld Z h r0 own_XC "counted" "I" (.int (3 : Int32)) ∧ Fld Z h r0 own_XC "afterCarriageReturn" "Z" (.int (nar .boolean (if w2 = (13 : Int32) then (1 : Int32) else (0 : Int32))))
set_option maxRecDepth 65536 in
set_option maxHeartbeats 40000000 in
theorem rm9c1p3 (l : Launch) (Z : State) (a0 : Array Value) (hw : ∀ d ∈ tables_1, d.before a0 Z = true) (ws : List Jvm.Cond) (r0 : Addr) (gb : Addr) (wl : Int32) (wr : Int32) (w0 : Int32) (w1 : Int32) (w2 : Int32) (w3 : Int32) (k_gb : ClassId) (h0 : Heap) (n0 : Nat) (Z0 : n0 ≤ h0.size) (E_r0 : Exa Z h0 r0 own_XC) (F_bytes_r0 : Fld Z h0 r0 own_XC "bytes" "[B" (.ref gb)) (F_position_r0 : Fld Z h0 r0 own_XC "position" "I" (.int (3 : Int32))) (F_line_r0 : Fld Z h0 r0 own_XC "line" "I" (.int wl)) (F_counted_r0 : Fld Z h0 r0 own_XC "counted" "I" (.int (1 : Int32))) (F_afterCarriageReturn_r0 : Fld Z h0 r0 own_XC "afterCarriageReturn" "Z" (.int wr)) (g_r0 : n0 ≤ r0) (V_gb : Arv Z h0 gb k_gb .byte (65536 : Int32) [(.int w0), (.int w1), (.int w2), (.int w3)] (.int (0 : Int32))) (hne : gb ≠ r0) :
    MetFree l (⟨own_XC, "line", "()I"⟩ : MethodName) (head1 (Jvm.Cond.code (⟨own_XC, "line", "()I"⟩ : MethodName) prog_148_method_16_code 8 (some .int) :: ws) ({ frames := 0, cells := 0, slots := 0, locals := 0 } : Room)) (fun a U => a = #[(.ref r0)] ∧ Z.Warmed39 U.vm ∧ U.heap = h0) (fun _ _ _ _ _ => True) (fun _ U o U' => ∃ v L, o = .returned v ∧ Q9c1p3 Z r0 gb wl wr w0 w1 w2 w3 k_gb h0 n0 v U'.heap L ∧ FrameEnd U o U' L ({ frames := 0, cells := 0, slots := 0, locals := 0 } : Room).cells ({ frames := 0, cells := 0, slots := 0, locals := 0 } : Room).slots) := by
  refine MetFree.of_bodySF (plainFor_of_name pn_9) hisR ?_
  intro p e s m args below meth c s₁ Bd hml0 hP hK
  obtain ⟨rfl, hZ, hh⟩ := hP
  have hx := Bd.exec
  have hby := Bd.bytes
  have hml : c.maxLocals = 8 := hml0
  have hown : s.vm.findClass own_XC = some m.cls := findClass_of_methodNamed Bd.named
  have hnm := (name_of_methodNamed Bd.named Bd.method).1
  have hlk : meth.locks = false := Bd.notSynchronized
  have X0 : Stand p l e ({ frames := 0, cells := 0, slots := 0, locals := 0 } : Room) s m #[(.ref r0)] below meth c s₁ [] 0 0 := Stand.of_body Bd
  have e0 : s₁.heap = h0 := by rw [← hh, Bd.state]; rfl
  have N0 := Fr.nil n0
  have KK0 := Keep.refl h0 [r0]
  show own_Go p.tables e below s 0 0 (Q9c1p3 Z r0 gb wl wr w0 w1 w2 w3 k_gb h0 n0) (s₁.setTop (entryFrame m #[(.ref r0)] 8))
  rw [ef_9c1p3]
  refine own_step (U' := s₁.setTop (mkF m 1 #[rv r0, .unset, .unset, .unset, .unset, .unset, .unset, .unset] [(.ref r0)])) (fun t k => XS.aloadN X0.here hx rfl (hb hby d9_0) rfl rfl k) ?_
  obtain ⟨T1, X1, e1, st1⟩ := getF X0 hx hZ hown (host := "") (Or.inl (own_w hw 73 rfl)) Via.refl e0 F_counted_r0 (g := (mkF m 1 #[rv r0, .unset, .unset, .unset, .unset, .unset, .unset, .unset] [(.ref r0)])) rfl rfl (hb hby d9_1)
  refine own_step (U' := T1.setTop (mkF m 4 #[rv r0, .unset, .unset, .unset, .unset, .unset, .unset, .unset] [(.int (1 : Int32))])) st1 ?_
  refine own_step (U' := T1.setTop (mkF m 6 #[rv r0, iv (1 : Int32), .unset, .unset, .unset, .unset, .unset, .unset] [(.ref r0)])) (fun t k => XS.istoreN X1.here hx rfl (hb hby d9_4) rfl (l' := #[rv r0, iv (1 : Int32), .unset, .unset, .unset, .unset, .unset, .unset]) rfl (XS.aloadN X1.here hx rfl (hb hby d9_5) rfl rfl k)) ?_
  obtain ⟨T2, X2, e2, st2⟩ := getF X1 hx hZ hown (host := "") (Or.inl (own_w hw 57 rfl)) Via.refl e1 F_position_r0 (g := (mkF m 6 #[rv r0, iv (1 : Int32), .unset, .unset, .unset, .unset, .unset, .unset] [(.ref r0)])) rfl rfl (hb hby d9_6)
  refine own_step (U' := T2.setTop (mkF m 9 #[rv r0, iv (1 : Int32), .unset, .unset, .unset, .unset, .unset, .unset] [(.int (3 : Int32))])) st2 ?_
  refine own_step (U' := T2.setTop (mkF m 21 #[rv r0, iv (1 : Int32), iv (3 : Int32), .unset, .unset, .unset, .unset, .unset] [(.ref r0)])) (fun t k => XS.istoreN X2.here hx rfl (hb hby d9_9) rfl (l' := #[rv r0, iv (1 : Int32), iv (3 : Int32), .unset, .unset, .unset, .unset, .unset]) rfl (XS.iloadN X2.here hx rfl (hb hby d9_10) rfl (XS.iloadN X2.here hx rfl (hb hby d9_11) rfl (XS.icmpYes X2.here hx rfl (pc0 := 12) (pc' := 20) rfl (hb hby d9_12) rfl (by decide) (by decide) (by decide) (XS.aloadN X2.here hx rfl (hb hby d9_20) rfl rfl k))))) ?_
  obtain ⟨T3, X3, e3, st3⟩ := getF X2 hx hZ hown (host := "") (Or.inl (own_w hw 40 rfl)) Via.refl e2 F_bytes_r0 (g := (mkF m 21 #[rv r0, iv (1 : Int32), iv (3 : Int32), .unset, .unset, .unset, .unset, .unset] [(.ref r0)])) rfl rfl (hb hby d9_21)
  refine own_step (U' := T3.setTop (mkF m 24 #[rv r0, iv (1 : Int32), iv (3 : Int32), .unset, .unset, .unset, .unset, .unset] [(.ref gb)])) st3 ?_
  refine own_step (U' := T3.setTop (mkF m 29 #[rv r0, iv (1 : Int32), iv (3 : Int32), rv gb, iv (0 : Int32), .unset, .unset, .unset] [(.ref r0)])) (fun t k => XS.astoreN X3.here hx rfl (hb hby d9_24) rfl rfl (l' := #[rv r0, iv (1 : Int32), iv (3 : Int32), rv gb, .unset, .unset, .unset, .unset]) rfl (XS.iconst X3.here hx rfl (hb hby d9_25) (XS.istore X3.here hx rfl (hb hby d9_26) rfl (l' := #[rv r0, iv (1 : Int32), iv (3 : Int32), rv gb, iv (0 : Int32), .unset, .unset, .unset]) rfl (XS.aloadN X3.here hx rfl (hb hby d9_28) rfl rfl k)))) ?_
  obtain ⟨T4, X4, e4, st4⟩ := getF X3 hx hZ hown (host := "") (Or.inl (own_w hw 75 rfl)) Via.refl e3 F_afterCarriageReturn_r0 (g := (mkF m 29 #[rv r0, iv (1 : Int32), iv (3 : Int32), rv gb, iv (0 : Int32), .unset, .unset, .unset] [(.ref r0)])) rfl rfl (hb hby d9_29)
  refine own_step (U' := T4.setTop (mkF m 32 #[rv r0, iv (1 : Int32), iv (3 : Int32), rv gb, iv (0 : Int32), .unset, .unset, .unset] [(.int wr)])) st4 ?_
  obtain ⟨v41_6, hv41_6⟩ : ∃ v : Int32, v = (if wr = (0 : Int32) then (0 : Int32) else (13 : Int32)) := ⟨_, rfl⟩
  have K41_7 : ∀ (T' : State) (locs' : List Loc) (X' : Stand p l e ({ frames := 0, cells := 0, slots := 0, locals := 0 } : Room) s m #[(.ref r0)] below meth c T' locs' 0 0) (N' : Fr n0 locs') (e' : T'.heap = h0), own_Go p.tables e below s 0 0 (Q9c1p3 Z r0 gb wl wr w0 w1 w2 w3 k_gb h0 n0) (T'.setTop (mkF m 41 #[rv r0, iv (1 : Int32), iv (3 : Int32), rv gb, iv (0 : Int32), .unset, .unset, .unset] [(.int v41_6)])) := by
    intro T7 L7 X7 N7 e7
    refine own_step (U' := T7.setTop (mkF m 55 #[rv r0, iv (1 : Int32), iv (3 : Int32), rv gb, iv (0 : Int32), iv v41_6, iv (1 : Int32), .unset] [(.int (1 : Int32)), (.ref gb)])) (fun t k => XS.istore X7.here hx rfl (hb hby d9_41) rfl (l' := #[rv r0, iv (1 : Int32), iv (3 : Int32), rv gb, iv (0 : Int32), iv v41_6, .unset, .unset]) rfl (XS.iloadN X7.here hx rfl (hb hby d9_43) rfl (XS.istore X7.here hx rfl (hb hby d9_44) rfl (l' := #[rv r0, iv (1 : Int32), iv (3 : Int32), rv gb, iv (0 : Int32), iv v41_6, iv (1 : Int32), .unset]) rfl (XS.iload X7.here hx rfl (hb hby d9_46) rfl (XS.iloadN X7.here hx rfl (hb hby d9_48) rfl (XS.icmpNo X7.here hx rfl (hb hby d9_49) rfl (by decide) (XS.aloadN X7.here hx rfl (hb hby d9_52) rfl rfl (XS.iload X7.here hx rfl (hb hby d9_53) rfl k)))))))) ?_
    obtain ⟨cl8, Ar8, aq8, aS8, aN8, aH8, aG8⟩ := id V_gb
    have hin8 : ¬ ((1 : Int32) < 0 ∨ cl8.slots.size ≤ ((1 : Int32)).toNatClampNeg) := inb_of aS8 ⟨by decide, by decide⟩
    have hat8 : cl8.slots[((1 : Int32)).toNatClampNeg]? = some (.int w1) := aH8.at hin8 rfl
    refine own_step (U' := T7.setTop (mkF m 62 #[rv r0, iv (1 : Int32), iv (3 : Int32), rv gb, iv (0 : Int32), iv v41_6, iv (1 : Int32), iv w1] [(.int (13 : Int32)), (.int w1)])) (fun t k => X7.baloadBytes hx (j := (1 : Int32)) (v := (.int w1)) (by rw [e7]; exact Ar8.1) (State.isArrayOf_alike hZ.alike Ar8.2.1) Ar8.2.2 hin8 hat8 (g := (mkF m 55 #[rv r0, iv (1 : Int32), iv (3 : Int32), rv gb, iv (0 : Int32), iv v41_6, iv (1 : Int32), .unset] [(.int (1 : Int32)), (.ref gb)])) rfl rfl (hb hby d9_55) t (XS.istore X7.here hx rfl (hb hby d9_56) rfl (l' := #[rv r0, iv (1 : Int32), iv (3 : Int32), rv gb, iv (0 : Int32), iv v41_6, iv (1 : Int32), iv w1]) rfl (XS.iload X7.here hx rfl (hb hby d9_58) rfl (XS.bipush X7.here hx rfl (hb hby d9_60) k)))) ?_
    obtain ⟨v89_13, hv89_13⟩ : ∃ v : Int32, v = (if (13 : Int32) < w1 then (0 : Int32) else (if w1 = (13 : Int32) then (1 : Int32) else (if w1 = (10 : Int32) then (if v41_6 = (13 : Int32) then (0 : Int32) else (1 : Int32)) else (0 : Int32)))) := ⟨_, rfl⟩
    have K89_14 : ∀ (T' : State) (locs' : List Loc) (X' : Stand p l e ({ frames := 0, cells := 0, slots := 0, locals := 0 } : Room) s m #[(.ref r0)] below meth c T' locs' 0 0) (N' : Fr n0 locs') (e' : T'.heap = h0), own_Go p.tables e below s 0 0 (Q9c1p3 Z r0 gb wl wr w0 w1 w2 w3 k_gb h0 n0) (T'.setTop (mkF m 89 #[rv r0, iv (1 : Int32), iv (3 : Int32), rv gb, iv v89_13, iv v41_6, iv (1 : Int32), iv w1] [])) := by
      intro T14 L14 X14 N14 e14
      refine own_step (U' := T14.setTop (mkF m 53 #[rv r0, iv (1 : Int32), iv (3 : Int32), rv gb, iv v89_13, iv w1, iv (2 : Int32), iv w1] [(.ref gb)])) (fun t k => XS.iload X14.here hx rfl (hb hby d9_89) rfl (XS.istore X14.here hx rfl (hb hby d9_91) rfl (l' := #[rv r0, iv (1 : Int32), iv (3 : Int32), rv gb, iv v89_13, iv w1, iv (1 : Int32), iv w1]) rfl (XS.iinc X14.here hx rfl (hb hby d9_93) rfl (l' := #[rv r0, iv (1 : Int32), iv (3 : Int32), rv gb, iv v89_13, iv w1, iv (2 : Int32), iv w1]) rfl (XS.goto X14.here hx rfl (pc0 := 96) (pc' := 46) rfl (hb hby d9_96) (by decide) (by decide) (XS.iload X14.here hx rfl (hb hby d9_46) rfl (XS.iloadN X14.here hx rfl (hb hby d9_48) rfl (XS.icmpNo X14.here hx rfl (hb hby d9_49) rfl (by decide) (XS.aloadN X14.here hx rfl (hb hby d9_52) rfl rfl k)))))))) ?_
      refine own_step (U' := T14.setTop (mkF m 55 #[rv r0, iv (1 : Int32), iv (3 : Int32), rv gb, iv v89_13, iv w1, iv (2 : Int32), iv w1] [(.int (2 : Int32)), (.ref gb)])) (fun t k => XS.iload X14.here hx rfl (hb hby d9_53) rfl k) ?_
      obtain ⟨cl15, Ar15, aq15, aS15, aN15, aH15, aG15⟩ := id V_gb
      have hin15 : ¬ ((2 : Int32) < 0 ∨ cl15.slots.size ≤ ((2 : Int32)).toNatClampNeg) := inb_of aS15 ⟨by decide, by decide⟩
      have hat15 : cl15.slots[((2 : Int32)).toNatClampNeg]? = some (.int w2) := aH15.at hin15 rfl
      refine own_step (U' := T14.setTop (mkF m 62 #[rv r0, iv (1 : Int32), iv (3 : Int32), rv gb, iv v89_13, iv w1, iv (2 : Int32), iv w2] [(.int (13 : Int32)), (.int w2)])) (fun t k => X14.baloadBytes hx (j := (2 : Int32)) (v := (.int w2)) (by rw [e14]; exact Ar15.1) (State.isArrayOf_alike hZ.alike Ar15.2.1) Ar15.2.2 hin15 hat15 (g := (mkF m 55 #[rv r0, iv (1 : Int32), iv (3 : Int32), rv gb, iv v89_13, iv w1, iv (2 : Int32), iv w1] [(.int (2 : Int32)), (.ref gb)])) rfl rfl (hb hby d9_55) t (XS.istore X14.here hx rfl (hb hby d9_56) rfl (l' := #[rv r0, iv (1 : Int32), iv (3 : Int32), rv gb, iv v89_13, iv w1, iv (2 : Int32), iv w2]) rfl (XS.iload X14.here hx rfl (hb hby d9_58) rfl (XS.bipush X14.here hx rfl (hb hby d9_60) k)))) ?_
      obtain ⟨v89_20, hv89_20⟩ : ∃ v : Int32, v = (if (13 : Int32) < w2 then v89_13 else (if w2 = (13 : Int32) then (v89_13 + (1 : Int32)) else (if w2 = (10 : Int32) then (if w1 = (13 : Int32) then v89_13 else (v89_13 + (1 : Int32))) else v89_13))) := ⟨_, rfl⟩
      have K89_21 : ∀ (T' : State) (locs' : List Loc) (X' : Stand p l e ({ frames := 0, cells := 0, slots := 0, locals := 0 } : Room) s m #[(.ref r0)] below meth c T' locs' 0 0) (N' : Fr n0 locs') (e' : T'.heap = h0), own_Go p.tables e below s 0 0 (Q9c1p3 Z r0 gb wl wr w0 w1 w2 w3 k_gb h0 n0) (T'.setTop (mkF m 89 #[rv r0, iv (1 : Int32), iv (3 : Int32), rv gb, iv v89_20, iv w1, iv (2 : Int32), iv w2] [])) := by
        intro T21 L21 X21 N21 e21
        refine own_step (U' := T21.setTop (mkF m 100 #[rv r0, iv (1 : Int32), iv (3 : Int32), rv gb, iv v89_20, iv w2, iv (3 : Int32), iv w2] [(.ref r0)])) (fun t k => XS.iload X21.here hx rfl (hb hby d9_89) rfl (XS.istore X21.here hx rfl (hb hby d9_91) rfl (l' := #[rv r0, iv (1 : Int32), iv (3 : Int32), rv gb, iv v89_20, iv w2, iv (2 : Int32), iv w2]) rfl (XS.iinc X21.here hx rfl (hb hby d9_93) rfl (l' := #[rv r0, iv (1 : Int32), iv (3 : Int32), rv gb, iv v89_20, iv w2, iv (3 : Int32), iv w2]) rfl (XS.goto X21.here hx rfl (pc0 := 96) (pc' := 46) rfl (hb hby d9_96) (by decide) (by decide) (XS.iload X21.here hx rfl (hb hby d9_46) rfl (XS.iloadN X21.here hx rfl (hb hby d9_48) rfl (XS.icmpYes X21.here hx rfl (pc0 := 49) (pc' := 99) rfl (hb hby d9_49) rfl (by decide) (by decide) (by decide) (XS.aloadN X21.here hx rfl (hb hby d9_99) rfl rfl k)))))))) ?_
        refine own_step (U' := T21.setTop (mkF m 101 #[rv r0, iv (1 : Int32), iv (3 : Int32), rv gb, iv v89_20, iv w2, iv (3 : Int32), iv w2] [(.ref r0), (.ref r0)])) (fun t k => XS.dup X21.here hx rfl (hb hby d9_100) rfl rfl k) ?_
        obtain ⟨T22, X22, e22, st22⟩ := getF X21 hx hZ hown (host := "") (Or.inl (own_w hw 71 rfl)) Via.refl e21 F_line_r0 (g := (mkF m 101 #[rv r0, iv (1 : Int32), iv (3 : Int32), rv gb, iv v89_20, iv w2, iv (3 : Int32), iv w2] [(.ref r0), (.ref r0)])) rfl rfl (hb hby d9_101)
        refine own_step (U' := T22.setTop (mkF m 104 #[rv r0, iv (1 : Int32), iv (3 : Int32), rv gb, iv v89_20, iv w2, iv (3 : Int32), iv w2] [(.int wl), (.ref r0)])) st22 ?_
        refine own_step (U' := T22.setTop (mkF m 107 #[rv r0, iv (1 : Int32), iv (3 : Int32), rv gb, iv v89_20, iv w2, iv (3 : Int32), iv w2] [(.int (wl + v89_20)), (.ref r0)])) (fun t k => XS.iload X22.here hx rfl (hb hby d9_104) rfl (XS.iadd X22.here hx rfl (hb hby d9_106) rfl k)) ?_
        obtain ⟨T23, h23, X23, e23, W23, st23⟩ := putF X22 hx hZ hown (host := "") (Or.inl (own_w hw 71 rfl)) Via.refl e22 F_line_r0 E_r0 (Or.inl (own_w hw 72 rfl)) (own_w hw 11 rfl) (ty := .int) (by decide) rfl rfl (g := (mkF m 107 #[rv r0, iv (1 : Int32), iv (3 : Int32), rv gb, iv v89_20, iv w2, iv (3 : Int32), iv w2] [(.int (wl + v89_20)), (.ref r0)])) rfl rfl (hb hby d9_107)
        have E_r0_23 := E_r0.wr W23
        have F_bytes_r0_23 := F_bytes_r0.other W23 (Or.inr (slot_ne (Or.inl (own_w hw 41 rfl)) (Or.inl (own_w hw 72 rfl)) (by decide) (t := (.array .byte)) (t' := .int) (by decide) (by decide)))
        have F_position_r0_23 := F_position_r0.other W23 (Or.inr (slot_ne (Or.inl (own_w hw 58 rfl)) (Or.inl (own_w hw 72 rfl)) (by decide) (t := .int) (t' := .int) (by decide) (by decide)))
        have F_counted_r0_23 := F_counted_r0.other W23 (Or.inr (slot_ne (Or.inl (own_w hw 74 rfl)) (Or.inl (own_w hw 72 rfl)) (by decide) (t := .int) (t' := .int) (by decide) (by decide)))
        have F_afterCarriageReturn_r0_23 := F_afterCarriageReturn_r0.other W23 (Or.inr (slot_ne (Or.inl (own_w hw 76 rfl)) (Or.inl (own_w hw 72 rfl)) (by decide) (t := .boolean) (t' := .int) (by decide) (by decide)))
        have V_gb_23 := V_gb.other W23 hne
        have F_line_r0_23 := F_line_r0.same W23
        have Z23 : n0 ≤ h23.size := Nat.le_trans Z0 (Keep.of_wr W23).1
        have KK23 := KK0.wr W23 (Or.inl (List.mem_of_getElem? (i := 0) rfl))
        have N23 := Fr.snoc X23 N21 g_r0
        refine own_step (U' := T23.setTop (mkF m 110 #[rv r0, iv (1 : Int32), iv (3 : Int32), rv gb, iv v89_20, iv w2, iv (3 : Int32), iv w2] [])) st23 ?_
        refine own_step (U' := T23.setTop (mkF m 115 #[rv r0, iv (1 : Int32), iv (3 : Int32), rv gb, iv v89_20, iv w2, iv (3 : Int32), iv w2] [(.int (2 : Int32)), (.ref gb), (.ref r0)])) (fun t k => XS.aloadN X23.here hx rfl (hb hby d9_110) rfl rfl (XS.aloadN X23.here hx rfl (hb hby d9_111) rfl rfl (XS.iloadN X23.here hx rfl (hb hby d9_112) rfl (XS.iconst X23.here hx rfl (hb hby d9_113) (XS.isub X23.here hx rfl (hb hby d9_114) rfl k))))) ?_
        obtain ⟨cl24, Ar24, aq24, aS24, aN24, aH24, aG24⟩ := id V_gb_23
        have hin24 : ¬ ((2 : Int32) < 0 ∨ cl24.slots.size ≤ ((2 : Int32)).toNatClampNeg) := inb_of aS24 ⟨by decide, by decide⟩
        have hat24 : cl24.slots[((2 : Int32)).toNatClampNeg]? = some (.int w2) := aH24.at hin24 rfl
        refine own_step (U' := T23.setTop (mkF m 118 #[rv r0, iv (1 : Int32), iv (3 : Int32), rv gb, iv v89_20, iv w2, iv (3 : Int32), iv w2] [(.int (13 : Int32)), (.int w2), (.ref r0)])) (fun t k => X23.baloadBytes hx (j := (2 : Int32)) (v := (.int w2)) (by rw [e23]; exact Ar24.1) (State.isArrayOf_alike hZ.alike Ar24.2.1) Ar24.2.2 hin24 hat24 (g := (mkF m 115 #[rv r0, iv (1 : Int32), iv (3 : Int32), rv gb, iv v89_20, iv w2, iv (3 : Int32), iv w2] [(.int (2 : Int32)), (.ref gb), (.ref r0)])) rfl rfl (hb hby d9_115) t (XS.bipush X23.here hx rfl (hb hby d9_116) k)) ?_
        obtain ⟨v126_26, hv126_26⟩ : ∃ v : Int32, v = (if w2 = (13 : Int32) then (1 : Int32) else (0 : Int32)) := ⟨_, rfl⟩
        have K126_27 : ∀ (T' : State) (locs' : List Loc) (X' : Stand p l e ({ frames := 0, cells := 0, slots := 0, locals := 0 } : Room) s m #[(.ref r0)] below meth c T' locs' 0 0) (N' : Fr n0 locs') (e' : T'.heap = h23), own_Go p.tables e below s 0 0 (Q9c1p3 Z r0 gb wl wr w0 w1 w2 w3 k_gb h0 n0) (T'.setTop (mkF m 126 #[rv r0, iv (1 : Int32), iv (3 : Int32), rv gb, iv v89_20, iv w2, iv (3 : Int32), iv w2] [(.int v126_26), (.ref r0)])) := by
          intro T27 L27 X27 N27 e27
          obtain ⟨T28, h28, X28, e28, W28, st28⟩ := putFN X27 hx hZ hown (own_w hw 75 rfl) Via.refl e27 F_afterCarriageReturn_r0_23 E_r0_23 (Or.inl (own_w hw 76 rfl)) (own_w hw 11 rfl) (ty := .boolean) (v' := (.int (nar .boolean v126_26))) (by decide) rfl (fits_nar_bool _) (g := (mkF m 126 #[rv r0, iv (1 : Int32), iv (3 : Int32), rv gb, iv v89_20, iv w2, iv (3 : Int32), iv w2] [(.int v126_26), (.ref r0)])) rfl rfl (hb hby d9_126)
          have E_r0_28 := E_r0_23.wr W28
          have F_bytes_r0_28 := F_bytes_r0_23.other W28 (Or.inr (slot_ne (Or.inl (own_w hw 41 rfl)) (Or.inl (own_w hw 76 rfl)) (by decide) (t := (.array .byte)) (t' := .boolean) (by decide) (by decide)))
          have F_position_r0_28 := F_position_r0_23.other W28 (Or.inr (slot_ne (Or.inl (own_w hw 58 rfl)) (Or.inl (own_w hw 76 rfl)) (by decide) (t := .int) (t' := .boolean) (by decide) (by decide)))
          have F_line_r0_28 := F_line_r0_23.other W28 (Or.inr (slot_ne (Or.inl (own_w hw 72 rfl)) (Or.inl (own_w hw 76 rfl)) (by decide) (t := .int) (t' := .boolean) (by decide) (by decide)))
          have F_counted_r0_28 := F_counted_r0_23.other W28 (Or.inr (slot_ne (Or.inl (own_w hw 74 rfl)) (Or.inl (own_w hw 76 rfl)) (by decide) (t := .int) (t' := .boolean) (by decide) (by decide)))
          have V_gb_28 := V_gb_23.other W28 hne
          have F_afterCarriageReturn_r0_28 := F_afterCarriageReturn_r0_23.same W28
          have Z28 : n0 ≤ h28.size := Nat.le_trans Z23 (Keep.of_wr W28).1
          have KK28 := KK23.wr W28 (Or.inl (List.mem_of_getElem? (i := 0) rfl))
          have N28 := Fr.snoc X28 N27 g_r0
          refine own_step (U' := T28.setTop (mkF m 129 #[rv r0, iv (1 : Int32), iv (3 : Int32), rv gb, iv v89_20, iv w2, iv (3 : Int32), iv w2] [])) st28 ?_
          refine own_step (U' := T28.setTop (mkF m 131 #[rv r0, iv (1 : Int32), iv (3 : Int32), rv gb, iv v89_20, iv w2, iv (3 : Int32), iv w2] [(.ref r0), (.ref r0)])) (fun t k => XS.aloadN X28.here hx rfl (hb hby d9_129) rfl rfl (XS.aloadN X28.here hx rfl (hb hby d9_130) rfl rfl k)) ?_
          obtain ⟨T29, X29, e29, st29⟩ := getF X28 hx hZ hown (host := "") (Or.inl (own_w hw 75 rfl)) Via.refl e28 F_afterCarriageReturn_r0_28 (g := (mkF m 131 #[rv r0, iv (1 : Int32), iv (3 : Int32), rv gb, iv v89_20, iv w2, iv (3 : Int32), iv w2] [(.ref r0), (.ref r0)])) rfl rfl (hb hby d9_131)
          refine own_step (U' := T29.setTop (mkF m 134 #[rv r0, iv (1 : Int32), iv (3 : Int32), rv gb, iv v89_20, iv w2, iv (3 : Int32), iv w2] [(.int (nar .boolean v126_26)), (.ref r0)])) st29 ?_
          obtain ⟨v152_33, hv152_33⟩ : ∃ v : Int32, v = (if (nar .boolean v126_26) = (0 : Int32) then (if w2 = (10 : Int32) then (1 : Int32) else (0 : Int32)) else (1 : Int32)) := ⟨_, rfl⟩
          have K152_34 : ∀ (T' : State) (locs' : List Loc) (X' : Stand p l e ({ frames := 0, cells := 0, slots := 0, locals := 0 } : Room) s m #[(.ref r0)] below meth c T' locs' 0 0) (N' : Fr n0 locs') (e' : T'.heap = h28), own_Go p.tables e below s 0 0 (Q9c1p3 Z r0 gb wl wr w0 w1 w2 w3 k_gb h0 n0) (T'.setTop (mkF m 152 #[rv r0, iv (1 : Int32), iv (3 : Int32), rv gb, iv v89_20, iv w2, iv (3 : Int32), iv w2] [(.int v152_33), (.ref r0)])) := by
            intro T34 L34 X34 N34 e34
            obtain ⟨u35, Fu35⟩ := own_anyF (O := own_XC) (n := "afterLineEnd") (d := "Z") E_r0_28 F_bytes_r0_28 (own_w hw 11 rfl) (Or.inl (own_w hw 78 rfl))
            obtain ⟨T35, h35, X35, e35, W35, st35⟩ := putFN X34 hx hZ hown (own_w hw 77 rfl) Via.refl e34 Fu35 E_r0_28 (Or.inl (own_w hw 78 rfl)) (own_w hw 11 rfl) (ty := .boolean) (v' := (.int (nar .boolean v152_33))) (by decide) rfl (fits_nar_bool _) (g := (mkF m 152 #[rv r0, iv (1 : Int32), iv (3 : Int32), rv gb, iv v89_20, iv w2, iv (3 : Int32), iv w2] [(.int v152_33), (.ref r0)])) rfl rfl (hb hby d9_152)
            have E_r0_35 := E_r0_28.wr W35
            have F_bytes_r0_35 := F_bytes_r0_28.other W35 (Or.inr (slot_ne (Or.inl (own_w hw 41 rfl)) (Or.inl (own_w hw 78 rfl)) (by decide) (t := (.array .byte)) (t' := .boolean) (by decide) (by decide)))
            have F_position_r0_35 := F_position_r0_28.other W35 (Or.inr (slot_ne (Or.inl (own_w hw 58 rfl)) (Or.inl (own_w hw 78 rfl)) (by decide) (t := .int) (t' := .boolean) (by decide) (by decide)))
            have F_line_r0_35 := F_line_r0_28.other W35 (Or.inr (slot_ne (Or.inl (own_w hw 72 rfl)) (Or.inl (own_w hw 78 rfl)) (by decide) (t := .int) (t' := .boolean) (by decide) (by decide)))
            have F_counted_r0_35 := F_counted_r0_28.other W35 (Or.inr (slot_ne (Or.inl (own_w hw 74 rfl)) (Or.inl (own_w hw 78 rfl)) (by decide) (t := .int) (t' := .boolean) (by decide) (by decide)))
            have F_afterCarriageReturn_r0_35 := F_afterCarriageReturn_r0_28.other W35 (Or.inr (slot_ne (Or.inl (own_w hw 76 rfl)) (Or.inl (own_w hw 78 rfl)) (by decide) (t := .boolean) (t' := .boolean) (by decide) (by decide)))
            have V_gb_35 := V_gb_28.other W35 hne
            have Z35 : n0 ≤ h35.size := Nat.le_trans Z28 (Keep.of_wr W35).1
            have KK35 := KK28.wr W35 (Or.inl (List.mem_of_getElem? (i := 0) rfl))
            have N35 := Fr.snoc X35 N34 g_r0
            refine own_step (U' := T35.setTop (mkF m 155 #[rv r0, iv (1 : Int32), iv (3 : Int32), rv gb, iv v89_20, iv w2, iv (3 : Int32), iv w2] [])) st35 ?_
            refine own_step (U' := T35.setTop (mkF m 157 #[rv r0, iv (1 : Int32), iv (3 : Int32), rv gb, iv v89_20, iv w2, iv (3 : Int32), iv w2] [(.int (3 : Int32)), (.ref r0)])) (fun t k => XS.aloadN X35.here hx rfl (hb hby d9_155) rfl rfl (XS.iloadN X35.here hx rfl (hb hby d9_156) rfl k)) ?_
            obtain ⟨T36, h36, X36, e36, W36, st36⟩ := putF X35 hx hZ hown (host := "") (Or.inl (own_w hw 73 rfl)) Via.refl e35 F_counted_r0_35 E_r0_35 (Or.inl (own_w hw 74 rfl)) (own_w hw 11 rfl) (ty := .int) (by decide) rfl rfl (g := (mkF m 157 #[rv r0, iv (1 : Int32), iv (3 : Int32), rv gb, iv v89_20, iv w2, iv (3 : Int32), iv w2] [(.int (3 : Int32)), (.ref r0)])) rfl rfl (hb hby d9_157)
            have E_r0_36 := E_r0_35.wr W36
            have F_bytes_r0_36 := F_bytes_r0_35.other W36 (Or.inr (slot_ne (Or.inl (own_w hw 41 rfl)) (Or.inl (own_w hw 74 rfl)) (by decide) (t := (.array .byte)) (t' := .int) (by decide) (by decide)))
            have F_position_r0_36 := F_position_r0_35.other W36 (Or.inr (slot_ne (Or.inl (own_w hw 58 rfl)) (Or.inl (own_w hw 74 rfl)) (by decide) (t := .int) (t' := .int) (by decide) (by decide)))
            have F_line_r0_36 := F_line_r0_35.other W36 (Or.inr (slot_ne (Or.inl (own_w hw 72 rfl)) (Or.inl (own_w hw 74 rfl)) (by decide) (t := .int) (t' := .int) (by decide) (by decide)))
            have F_afterCarriageReturn_r0_36 := F_afterCarriageReturn_r0_35.other W36 (Or.inr (slot_ne (Or.inl (own_w hw 76 rfl)) (Or.inl (own_w hw 74 rfl)) (by decide) (t := .boolean) (t' := .int) (by decide) (by decide)))
            have V_gb_36 := V_gb_35.other W36 hne
            have F_counted_r0_36 := F_counted_r0_35.same W36
            have Z36 : n0 ≤ h36.size := Nat.le_trans Z35 (Keep.of_wr W36).1
            have KK36 := KK35.wr W36 (Or.inl (List.mem_of_getElem? (i := 0) rfl))
            have N36 := Fr.snoc X36 N35 g_r0
            refine own_step (U' := T36.setTop (mkF m 160 #[rv r0, iv (1 : Int32), iv (3 : Int32), rv gb, iv v89_20, iv w2, iv (3 : Int32), iv w2] [])) st36 ?_
            refine own_step (U' := T36.setTop (mkF m 161 #[rv r0, iv (1 : Int32), iv (3 : Int32), rv gb, iv v89_20, iv w2, iv (3 : Int32), iv w2] [(.ref r0)])) (fun t k => XS.aloadN X36.here hx rfl (hb hby d9_160) rfl rfl k) ?_
            obtain ⟨T37, X37, e37, st37⟩ := getF X36 hx hZ hown (host := "") (Or.inl (own_w hw 71 rfl)) Via.refl e36 F_line_r0_36 (g := (mkF m 161 #[rv r0, iv (1 : Int32), iv (3 : Int32), rv gb, iv v89_20, iv w2, iv (3 : Int32), iv w2] [(.ref r0)])) rfl rfl (hb hby d9_161)
            refine own_step (U' := T37.setTop (mkF m 164 #[rv r0, iv (1 : Int32), iv (3 : Int32), rv gb, iv v89_20, iv w2, iv (3 : Int32), iv w2] [(.int (wl + v89_20))])) st37 ?_
            exact own_out X37 (v := (some (.int (wl + v89_20)))) hlk (own_nv Bd.returns) (by rw [e37]; exact (by subst hv41_6 hv89_13 hv89_20 hv126_26 hv152_33; exact ⟨rfl, N36, KK36, E_r0_36, F_bytes_r0_36, F_position_r0_36, F_line_r0_36, F_counted_r0_36, F_afterCarriageReturn_r0_36⟩)) (by decide) (by decide) (fun fs hr => retI X37 hx Bd.returns (hb hby d9_164) hr)
          by_cases hc134_38 : (nar .boolean v126_26) = (0 : Int32)
          · refine own_step (U' := T29.setTop (mkF m 141 #[rv r0, iv (1 : Int32), iv (3 : Int32), rv gb, iv v89_20, iv w2, iv (3 : Int32), iv w2] [(.int (2 : Int32)), (.ref gb), (.ref r0)])) (fun t k => XS.ifNo X29.here hx rfl (hb hby d9_134) rfl ((if0 _ _).trans (teq hc134_38).2) (XS.aloadN X29.here hx rfl (hb hby d9_137) rfl rfl (XS.iloadN X29.here hx rfl (hb hby d9_138) rfl (XS.iconst X29.here hx rfl (hb hby d9_139) (XS.isub X29.here hx rfl (hb hby d9_140) rfl k))))) ?_
            obtain ⟨cl39, Ar39, aq39, aS39, aN39, aH39, aG39⟩ := id V_gb_28
            have hin39 : ¬ ((2 : Int32) < 0 ∨ cl39.slots.size ≤ ((2 : Int32)).toNatClampNeg) := inb_of aS39 ⟨by decide, by decide⟩
            have hat39 : cl39.slots[((2 : Int32)).toNatClampNeg]? = some (.int w2) := aH39.at hin39 rfl
            refine own_step (U' := T29.setTop (mkF m 144 #[rv r0, iv (1 : Int32), iv (3 : Int32), rv gb, iv v89_20, iv w2, iv (3 : Int32), iv w2] [(.int (10 : Int32)), (.int w2), (.ref r0)])) (fun t k => X29.baloadBytes hx (j := (2 : Int32)) (v := (.int w2)) (by rw [e29]; exact Ar39.1) (State.isArrayOf_alike hZ.alike Ar39.2.1) Ar39.2.2 hin39 hat39 (g := (mkF m 141 #[rv r0, iv (1 : Int32), iv (3 : Int32), rv gb, iv v89_20, iv w2, iv (3 : Int32), iv w2] [(.int (2 : Int32)), (.ref gb), (.ref r0)])) rfl rfl (hb hby d9_141) t (XS.bipush X29.here hx rfl (hb hby d9_142) k)) ?_
            by_cases hc144_40 : w2 = (10 : Int32)
            · refine own_step (U' := T29.setTop (mkF m 152 #[rv r0, iv (1 : Int32), iv (3 : Int32), rv gb, iv v89_20, iv w2, iv (3 : Int32), iv w2] [(.int (1 : Int32)), (.ref r0)])) (fun t k => XS.icmpNo X29.here hx rfl (hb hby d9_144) rfl (teq hc144_40).2 (XS.iconst X29.here hx rfl (hb hby d9_147) (XS.goto X29.here hx rfl (pc0 := 148) (pc' := 152) rfl (hb hby d9_148) (by decide) (by decide) k))) ?_
              have q_v152_33 : v152_33 = (1 : Int32) := by rw [hv152_33, if_pos hc134_38, if_pos hc144_40]
              rw [q_v152_33] at K152_34
              exact K152_34 _ _ X29 N28 e29
            · refine own_step (U' := T29.setTop (mkF m 152 #[rv r0, iv (1 : Int32), iv (3 : Int32), rv gb, iv v89_20, iv w2, iv (3 : Int32), iv w2] [(.int (0 : Int32)), (.ref r0)])) (fun t k => XS.icmpYes X29.here hx rfl (pc0 := 144) (pc' := 151) rfl (hb hby d9_144) rfl (feq hc144_40).2 (by decide) (by decide) (XS.iconst X29.here hx rfl (hb hby d9_151) k)) ?_
              have q_v152_33 : v152_33 = (0 : Int32) := by rw [hv152_33, if_pos hc134_38, if_neg hc144_40]
              rw [q_v152_33] at K152_34
              exact K152_34 _ _ X29 N28 e29
          · refine own_step (U' := T29.setTop (mkF m 152 #[rv r0, iv (1 : Int32), iv (3 : Int32), rv gb, iv v89_20, iv w2, iv (3 : Int32), iv w2] [(.int (1 : Int32)), (.ref r0)])) (fun t k => XS.ifYes X29.here hx rfl (pc0 := 134) (pc' := 147) rfl (hb hby d9_134) rfl ((if0 _ _).trans (feq hc134_38).2) (by decide) (by decide) (XS.iconst X29.here hx rfl (hb hby d9_147) (XS.goto X29.here hx rfl (pc0 := 148) (pc' := 152) rfl (hb hby d9_148) (by decide) (by decide) k))) ?_
            have q_v152_33 : v152_33 = (1 : Int32) := by rw [hv152_33, if_neg hc134_38]
            rw [q_v152_33] at K152_34
            exact K152_34 _ _ X29 N28 e29
        by_cases hc118_41 : w2 = (13 : Int32)
        · refine own_step (U' := T23.setTop (mkF m 126 #[rv r0, iv (1 : Int32), iv (3 : Int32), rv gb, iv v89_20, iv w2, iv (3 : Int32), iv w2] [(.int (1 : Int32)), (.ref r0)])) (fun t k => XS.icmpNo X23.here hx rfl (hb hby d9_118) rfl (teq hc118_41).2 (XS.iconst X23.here hx rfl (hb hby d9_121) (XS.goto X23.here hx rfl (pc0 := 122) (pc' := 126) rfl (hb hby d9_122) (by decide) (by decide) k))) ?_
          have q_v126_26 : v126_26 = (1 : Int32) := by rw [hv126_26, if_pos hc118_41]
          rw [q_v126_26] at K126_27
          exact K126_27 _ _ X23 N23 e23
        · refine own_step (U' := T23.setTop (mkF m 126 #[rv r0, iv (1 : Int32), iv (3 : Int32), rv gb, iv v89_20, iv w2, iv (3 : Int32), iv w2] [(.int (0 : Int32)), (.ref r0)])) (fun t k => XS.icmpYes X23.here hx rfl (pc0 := 118) (pc' := 125) rfl (hb hby d9_118) rfl (feq hc118_41).2 (by decide) (by decide) (XS.iconst X23.here hx rfl (hb hby d9_125) k)) ?_
          have q_v126_26 : v126_26 = (0 : Int32) := by rw [hv126_26, if_neg hc118_41]
          rw [q_v126_26] at K126_27
          exact K126_27 _ _ X23 N23 e23
      by_cases hc62_42 : (13 : Int32) < w2
      · refine own_step (U' := T14.setTop (mkF m 89 #[rv r0, iv (1 : Int32), iv (3 : Int32), rv gb, iv v89_13, iv w1, iv (2 : Int32), iv w2] [])) (fun t k => XS.icmpYes X14.here hx rfl (pc0 := 62) (pc' := 89) rfl (hb hby d9_62) rfl (tlt hc62_42).2.2.1 (by decide) (by decide) k) ?_
        have q_v89_20 : v89_20 = v89_13 := by rw [hv89_20, if_pos hc62_42]
        rw [q_v89_20] at K89_21
        exact K89_21 _ _ X14 N14 e14
      · refine own_step (U' := T14.setTop (mkF m 69 #[rv r0, iv (1 : Int32), iv (3 : Int32), rv gb, iv v89_13, iv w1, iv (2 : Int32), iv w2] [(.int (13 : Int32)), (.int w2)])) (fun t k => XS.icmpNo X14.here hx rfl (hb hby d9_62) rfl (flt hc62_42).2.2.1 (XS.iload X14.here hx rfl (hb hby d9_65) rfl (XS.bipush X14.here hx rfl (hb hby d9_67) k))) ?_
        by_cases hc69_43 : w2 = (13 : Int32)
        · refine own_step (U' := T14.setTop (mkF m 89 #[rv r0, iv (1 : Int32), iv (3 : Int32), rv gb, iv (v89_13 + (1 : Int32)), iv w1, iv (2 : Int32), iv w2] [])) (fun t k => XS.icmpYes X14.here hx rfl (pc0 := 69) (pc' := 86) rfl (hb hby d9_69) rfl (teq hc69_43).1 (by decide) (by decide) (XS.iinc X14.here hx rfl (hb hby d9_86) rfl (l' := #[rv r0, iv (1 : Int32), iv (3 : Int32), rv gb, iv (v89_13 + (1 : Int32)), iv w1, iv (2 : Int32), iv w2]) rfl k)) ?_
          have q_v89_20 : v89_20 = (v89_13 + (1 : Int32)) := by rw [hv89_20, if_neg hc62_42, if_pos hc69_43]
          rw [q_v89_20] at K89_21
          exact K89_21 _ _ X14 N14 e14
        · refine own_step (U' := T14.setTop (mkF m 76 #[rv r0, iv (1 : Int32), iv (3 : Int32), rv gb, iv v89_13, iv w1, iv (2 : Int32), iv w2] [(.int (10 : Int32)), (.int w2)])) (fun t k => XS.icmpNo X14.here hx rfl (hb hby d9_69) rfl (feq hc69_43).1 (XS.iload X14.here hx rfl (hb hby d9_72) rfl (XS.bipush X14.here hx rfl (hb hby d9_74) k))) ?_
          by_cases hc76_44 : w2 = (10 : Int32)
          · refine own_step (U' := T14.setTop (mkF m 83 #[rv r0, iv (1 : Int32), iv (3 : Int32), rv gb, iv v89_13, iv w1, iv (2 : Int32), iv w2] [(.int (13 : Int32)), (.int w1)])) (fun t k => XS.icmpNo X14.here hx rfl (hb hby d9_76) rfl (teq hc76_44).2 (XS.iload X14.here hx rfl (hb hby d9_79) rfl (XS.bipush X14.here hx rfl (hb hby d9_81) k))) ?_
            by_cases hc83_45 : w1 = (13 : Int32)
            · refine own_step (U' := T14.setTop (mkF m 89 #[rv r0, iv (1 : Int32), iv (3 : Int32), rv gb, iv v89_13, iv w1, iv (2 : Int32), iv w2] [])) (fun t k => XS.icmpYes X14.here hx rfl (pc0 := 83) (pc' := 89) rfl (hb hby d9_83) rfl (teq hc83_45).1 (by decide) (by decide) k) ?_
              have q_v89_20 : v89_20 = v89_13 := by rw [hv89_20, if_neg hc62_42, if_neg hc69_43, if_pos hc76_44, if_pos hc83_45]
              rw [q_v89_20] at K89_21
              exact K89_21 _ _ X14 N14 e14
            · refine own_step (U' := T14.setTop (mkF m 89 #[rv r0, iv (1 : Int32), iv (3 : Int32), rv gb, iv (v89_13 + (1 : Int32)), iv w1, iv (2 : Int32), iv w2] [])) (fun t k => XS.icmpNo X14.here hx rfl (hb hby d9_83) rfl (feq hc83_45).1 (XS.iinc X14.here hx rfl (hb hby d9_86) rfl (l' := #[rv r0, iv (1 : Int32), iv (3 : Int32), rv gb, iv (v89_13 + (1 : Int32)), iv w1, iv (2 : Int32), iv w2]) rfl k)) ?_
              have q_v89_20 : v89_20 = (v89_13 + (1 : Int32)) := by rw [hv89_20, if_neg hc62_42, if_neg hc69_43, if_pos hc76_44, if_neg hc83_45]
              rw [q_v89_20] at K89_21
              exact K89_21 _ _ X14 N14 e14
          · refine own_step (U' := T14.setTop (mkF m 89 #[rv r0, iv (1 : Int32), iv (3 : Int32), rv gb, iv v89_13, iv w1, iv (2 : Int32), iv w2] [])) (fun t k => XS.icmpYes X14.here hx rfl (pc0 := 76) (pc' := 89) rfl (hb hby d9_76) rfl (feq hc76_44).2 (by decide) (by decide) k) ?_
            have q_v89_20 : v89_20 = v89_13 := by rw [hv89_20, if_neg hc62_42, if_neg hc69_43, if_neg hc76_44]
            rw [q_v89_20] at K89_21
            exact K89_21 _ _ X14 N14 e14
    by_cases hc62_46 : (13 : Int32) < w1
    · refine own_step (U' := T7.setTop (mkF m 89 #[rv r0, iv (1 : Int32), iv (3 : Int32), rv gb, iv (0 : Int32), iv v41_6, iv (1 : Int32), iv w1] [])) (fun t k => XS.icmpYes X7.here hx rfl (pc0 := 62) (pc' := 89) rfl (hb hby d9_62) rfl (tlt hc62_46).2.2.1 (by decide) (by decide) k) ?_
      have q_v89_13 : v89_13 = (0 : Int32) := by rw [hv89_13, if_pos hc62_46]
      rw [q_v89_13] at K89_14
      exact K89_14 _ _ X7 N7 e7
    · refine own_step (U' := T7.setTop (mkF m 69 #[rv r0, iv (1 : Int32), iv (3 : Int32), rv gb, iv (0 : Int32), iv v41_6, iv (1 : Int32), iv w1] [(.int (13 : Int32)), (.int w1)])) (fun t k => XS.icmpNo X7.here hx rfl (hb hby d9_62) rfl (flt hc62_46).2.2.1 (XS.iload X7.here hx rfl (hb hby d9_65) rfl (XS.bipush X7.here hx rfl (hb hby d9_67) k))) ?_
      by_cases hc69_47 : w1 = (13 : Int32)
      · refine own_step (U' := T7.setTop (mkF m 89 #[rv r0, iv (1 : Int32), iv (3 : Int32), rv gb, iv (1 : Int32), iv v41_6, iv (1 : Int32), iv w1] [])) (fun t k => XS.icmpYes X7.here hx rfl (pc0 := 69) (pc' := 86) rfl (hb hby d9_69) rfl (teq hc69_47).1 (by decide) (by decide) (XS.iinc X7.here hx rfl (hb hby d9_86) rfl (l' := #[rv r0, iv (1 : Int32), iv (3 : Int32), rv gb, iv (1 : Int32), iv v41_6, iv (1 : Int32), iv w1]) rfl k)) ?_
        have q_v89_13 : v89_13 = (1 : Int32) := by rw [hv89_13, if_neg hc62_46, if_pos hc69_47]
        rw [q_v89_13] at K89_14
        exact K89_14 _ _ X7 N7 e7
      · refine own_step (U' := T7.setTop (mkF m 76 #[rv r0, iv (1 : Int32), iv (3 : Int32), rv gb, iv (0 : Int32), iv v41_6, iv (1 : Int32), iv w1] [(.int (10 : Int32)), (.int w1)])) (fun t k => XS.icmpNo X7.here hx rfl (hb hby d9_69) rfl (feq hc69_47).1 (XS.iload X7.here hx rfl (hb hby d9_72) rfl (XS.bipush X7.here hx rfl (hb hby d9_74) k))) ?_
        by_cases hc76_48 : w1 = (10 : Int32)
        · refine own_step (U' := T7.setTop (mkF m 83 #[rv r0, iv (1 : Int32), iv (3 : Int32), rv gb, iv (0 : Int32), iv v41_6, iv (1 : Int32), iv w1] [(.int (13 : Int32)), (.int v41_6)])) (fun t k => XS.icmpNo X7.here hx rfl (hb hby d9_76) rfl (teq hc76_48).2 (XS.iload X7.here hx rfl (hb hby d9_79) rfl (XS.bipush X7.here hx rfl (hb hby d9_81) k))) ?_
          by_cases hc83_49 : v41_6 = (13 : Int32)
          · refine own_step (U' := T7.setTop (mkF m 89 #[rv r0, iv (1 : Int32), iv (3 : Int32), rv gb, iv (0 : Int32), iv v41_6, iv (1 : Int32), iv w1] [])) (fun t k => XS.icmpYes X7.here hx rfl (pc0 := 83) (pc' := 89) rfl (hb hby d9_83) rfl (teq hc83_49).1 (by decide) (by decide) k) ?_
            have q_v89_13 : v89_13 = (0 : Int32) := by rw [hv89_13, if_neg hc62_46, if_neg hc69_47, if_pos hc76_48, if_pos hc83_49]
            rw [q_v89_13] at K89_14
            exact K89_14 _ _ X7 N7 e7
          · refine own_step (U' := T7.setTop (mkF m 89 #[rv r0, iv (1 : Int32), iv (3 : Int32), rv gb, iv (1 : Int32), iv v41_6, iv (1 : Int32), iv w1] [])) (fun t k => XS.icmpNo X7.here hx rfl (hb hby d9_83) rfl (feq hc83_49).1 (XS.iinc X7.here hx rfl (hb hby d9_86) rfl (l' := #[rv r0, iv (1 : Int32), iv (3 : Int32), rv gb, iv (1 : Int32), iv v41_6, iv (1 : Int32), iv w1]) rfl k)) ?_
            have q_v89_13 : v89_13 = (1 : Int32) := by rw [hv89_13, if_neg hc62_46, if_neg hc69_47, if_pos hc76_48, if_neg hc83_49]
            rw [q_v89_13] at K89_14
            exact K89_14 _ _ X7 N7 e7
        · refine own_step (U' := T7.setTop (mkF m 89 #[rv r0, iv (1 : Int32), iv (3 : Int32), rv gb, iv (0 : Int32), iv v41_6, iv (1 : Int32), iv w1] [])) (fun t k => XS.icmpYes X7.here hx rfl (pc0 := 76) (pc' := 89) rfl (hb hby d9_76) rfl (feq hc76_48).2 (by decide) (by decide) k) ?_
          have q_v89_13 : v89_13 = (0 : Int32) := by rw [hv89_13, if_neg hc62_46, if_neg hc69_47, if_neg hc76_48]
          rw [q_v89_13] at K89_14
          exact K89_14 _ _ X7 N7 e7
  by_cases hc32_50 : wr = (0 : Int32)
  · refine own_step (U' := T4.setTop (mkF m 41 #[rv r0, iv (1 : Int32), iv (3 : Int32), rv gb, iv (0 : Int32), .unset, .unset, .unset] [(.int (0 : Int32))])) (fun t k => XS.ifYes X4.here hx rfl (pc0 := 32) (pc' := 40) rfl (hb hby d9_32) rfl ((if0 _ _).trans (teq hc32_50).1) (by decide) (by decide) (XS.iconst X4.here hx rfl (hb hby d9_40) k)) ?_
    have q_v41_6 : v41_6 = (0 : Int32) := by rw [hv41_6, if_pos hc32_50]
    rw [q_v41_6] at K41_7
    exact K41_7 _ _ X4 N0 e4
  · refine own_step (U' := T4.setTop (mkF m 41 #[rv r0, iv (1 : Int32), iv (3 : Int32), rv gb, iv (0 : Int32), .unset, .unset, .unset] [(.int (13 : Int32))])) (fun t k => XS.ifNo X4.here hx rfl (hb hby d9_32) rfl ((if0 _ _).trans (feq hc32_50).1) (XS.bipush X4.here hx rfl (hb hby d9_35) (XS.goto X4.here hx rfl (pc0 := 37) (pc' := 41) rfl (hb hby d9_37) (by decide) (by decide) k))) ?_
    have q_v41_6 : v41_6 = (13 : Int32) := by rw [hv41_6, if_neg hc32_50]
    rw [q_v41_6] at K41_7
    exact K41_7 _ _ X4 N0 e4
theorem ef_9c2p3 (m : MethodId) (r0 : Addr) : entryFrame m #[(.ref r0)] 8 = mkF m 0 #[rv r0, .unset, .unset, .unset, .unset, .unset, .unset, .unset] [] := by first | (simp [entryFrame, mkF, argsToLocals, Value.category]; done) | rfl
def F9c2p3 (wl : Int32) (wr : Int32) (w0 : Int32) (w1 : Int32) (w2 : Int32) (w3 : Int32) : Int32 :=
  let v41_6 : Int32 := (if wr = (0 : Int32) then (0 : Int32) else (13 : Int32))
  let v89_13 : Int32 := (if (13 : Int32) < w2 then (0 : Int32) else (if w2 = (13 : Int32) then (1 : Int32) else (if w2 = (10 : Int32) then (if v41_6 = (13 : Int32) then (0 : Int32) else (1 : Int32)) else (0 : Int32))))
  let v126_19 : Int32 := (if w2 = (13 : Int32) then (1 : Int32) else (0 : Int32))
  let v152_26 : Int32 := (if (nar .boolean v126_19) = (0 : Int32) then (if w2 = (10 : Int32) then (1 : Int32) else (0 : Int32)) else (1 : Int32))
  (wl + v89_13)
def Q9c2p3 (Z : State) (r0 : Addr) (gb : Addr) (wl : Int32) (wr : Int32) (w0 : Int32) (w1 : Int32) (w2 : Int32) (w3 : Int32) (k_gb : ClassId) (h0 : Heap) (n0 : Nat) (v : Option Value) (h : Heap) (L : List Loc) : Prop := v = some (.int (F9c2p3 wl wr w0 w1 w2 w3)) ∧ Fr n0 L ∧ Keep h0 h [r0] ∧ Exa Z h r0 own_XC ∧ Fld Z h r0 own_XC "bytes" "[B" (.ref gb) ∧ Fld Z h r0 own_XC "position" "I" (.int (3 : Int32)) ∧ Fld Z h r0 own_XC "line" "I" (.int (F9c2p3 wl wr w0 w1 w2 w3)) ∧ Fld Z h r0 own_XC "counted" "I" (.int (3 : Int32)) ∧ Fld Z h r0 own_XC "afterCarriageReturn" "Z" (.int (nar .boolean (if w2 = (13 : Int32) then (1 : Int32) else (0 : Int32))))
set_option maxRecDepth 65536 in
set_option maxHeartbeats 40000000 in
theorem rm9c2p3 (l : Launch) (Z : State) (a0 : Array Value) (hw : ∀ d ∈ tables_1, d.before a0 Z = true) (ws : List Jvm.Cond) (r0 : Addr) (gb : Addr) (wl : Int32) (wr : Int32) (w0 : Int32) (w1 : Int32) (w2 : Int32) (w3 : Int32) (k_gb : ClassId) (h0 : Heap) (n0 : Nat) (Z0 : n0 ≤ h0.size) (E_r0 : Exa Z h0 r0 own_XC) (F_bytes_r0 : Fld Z h0 r0 own_XC "bytes" "[B" (.ref gb)) (F_position_r0 : Fld Z h0 r0 own_XC "position" "I" (.int (3 : Int32))) (F_line_r0 : Fld Z h0 r0 own_XC "line" "I" (.int wl)) (F_counted_r0 : Fld Z h0 r0 own_XC "counted" "I" (.int (2 : Int32))) (F_afterCarriageReturn_r0 : Fld Z h0 r0 own_XC "afterCarriageReturn" "Z" (.int wr)) (g_r0 : n0 ≤ r0) (V_gb : Arv Z h0 gb k_gb .byte (65536 : Int32) [(.int w0), (.int w1), (.int w2), (.int w3)] (.int (0 : Int32))) (hne : gb ≠ r0) :
    MetFree l (⟨own_XC, "line", "()I"⟩ : MethodName) (head1 (Jvm.Cond.code (⟨own_XC, "line", "()I"⟩ : MethodName) prog_148_method_16_code 8 (some .int) :: ws) ({ frames := 0, cells := 0, slots := 0, locals := 0 } : Room)) (fun a U => a = #[(.ref r0)] ∧ Z.Warmed39 U.vm ∧ U.heap = h0) (fun _ _ _ _ _ => True) (fun _ U o U' => ∃ v L, o = .returned v ∧ Q9c2p3 Z r0 gb wl wr w0 w1 w2 w3 k_gb h0 n0 v U'.heap L ∧ FrameEnd U o U' L ({ frames := 0, cells := 0, slots := 0, locals := 0 } : Room).cells ({ frames := 0, cells := 0, slots := 0, locals := 0 } : Room).slots) := by
  refine MetFree.of_bodySF (plainFor_of_name pn_9) hisR ?_
  intro p e s m args below meth c s₁ Bd hml0 hP hK
  obtain ⟨rfl, hZ, hh⟩ := hP
  have hx := Bd.exec
  have hby := Bd.bytes
  have hml : c.maxLocals = 8 := hml0
  have hown : s.vm.findClass own_XC = some m.cls := findClass_of_methodNamed Bd.named
  have hnm := (name_of_methodNamed Bd.named Bd.method).1
  have hlk : meth.locks = false := Bd.notSynchronized
  have X0 : Stand p l e ({ frames := 0, cells := 0, slots := 0, locals := 0 } : Room) s m #[(.ref r0)] below meth c s₁ [] 0 0 := Stand.of_body Bd
  have e0 : s₁.heap = h0 := by rw [← hh, Bd.state]; rfl
  have N0 := Fr.nil n0
  have KK0 := Keep.refl h0 [r0]
  show own_Go p.tables e below s 0 0 (Q9c2p3 Z r0 gb wl wr w0 w1 w2 w3 k_gb h0 n0) (s₁.setTop (entryFrame m #[(.ref r0)] 8))
  rw [ef_9c2p3]
  refine own_step (U' := s₁.setTop (mkF m 1 #[rv r0, .unset, .unset, .unset, .unset, .unset, .unset, .unset] [(.ref r0)])) (fun t k => XS.aloadN X0.here hx rfl (hb hby d9_0) rfl rfl k) ?_
  obtain ⟨T1, X1, e1, st1⟩ := getF X0 hx hZ hown (host := "") (Or.inl (own_w hw 73 rfl)) Via.refl e0 F_counted_r0 (g := (mkF m 1 #[rv r0, .unset, .unset, .unset, .unset, .unset, .unset, .unset] [(.ref r0)])) rfl rfl (hb hby d9_1)
  refine own_step (U' := T1.setTop (mkF m 4 #[rv r0, .unset, .unset, .unset, .unset, .unset, .unset, .unset] [(.int (2 : Int32))])) st1 ?_
  refine own_step (U' := T1.setTop (mkF m 6 #[rv r0, iv (2 : Int32), .unset, .unset, .unset, .unset, .unset, .unset] [(.ref r0)])) (fun t k => XS.istoreN X1.here hx rfl (hb hby d9_4) rfl (l' := #[rv r0, iv (2 : Int32), .unset, .unset, .unset, .unset, .unset, .unset]) rfl (XS.aloadN X1.here hx rfl (hb hby d9_5) rfl rfl k)) ?_
  obtain ⟨T2, X2, e2, st2⟩ := getF X1 hx hZ hown (host := "") (Or.inl (own_w hw 57 rfl)) Via.refl e1 F_position_r0 (g := (mkF m 6 #[rv r0, iv (2 : Int32), .unset, .unset, .unset, .unset, .unset, .unset] [(.ref r0)])) rfl rfl (hb hby d9_6)
  refine own_step (U' := T2.setTop (mkF m 9 #[rv r0, iv (2 : Int32), .unset, .unset, .unset, .unset, .unset, .unset] [(.int (3 : Int32))])) st2 ?_
  refine own_step (U' := T2.setTop (mkF m 21 #[rv r0, iv (2 : Int32), iv (3 : Int32), .unset, .unset, .unset, .unset, .unset] [(.ref r0)])) (fun t k => XS.istoreN X2.here hx rfl (hb hby d9_9) rfl (l' := #[rv r0, iv (2 : Int32), iv (3 : Int32), .unset, .unset, .unset, .unset, .unset]) rfl (XS.iloadN X2.here hx rfl (hb hby d9_10) rfl (XS.iloadN X2.here hx rfl (hb hby d9_11) rfl (XS.icmpYes X2.here hx rfl (pc0 := 12) (pc' := 20) rfl (hb hby d9_12) rfl (by decide) (by decide) (by decide) (XS.aloadN X2.here hx rfl (hb hby d9_20) rfl rfl k))))) ?_
  obtain ⟨T3, X3, e3, st3⟩ := getF X2 hx hZ hown (host := "") (Or.inl (own_w hw 40 rfl)) Via.refl e2 F_bytes_r0 (g := (mkF m 21 #[rv r0, iv (2 : Int32), iv (3 : Int32), .unset, .unset, .unset, .unset, .unset] [(.ref r0)])) rfl rfl (hb hby d9_21)
  refine own_step (U' := T3.setTop (mkF m 24 #[rv r0, iv (2 : Int32), iv (3 : Int32), .unset, .unset, .unset, .unset, .unset] [(.ref gb)])) st3 ?_
  refine own_step (U' := T3.setTop (mkF m 29 #[rv r0, iv (2 : Int32), iv (3 : Int32), rv gb, iv (0 : Int32), .unset, .unset, .unset] [(.ref r0)])) (fun t k => XS.astoreN X3.here hx rfl (hb hby d9_24) rfl rfl (l' := #[rv r0, iv (2 : Int32), iv (3 : Int32), rv gb, .unset, .unset, .unset, .unset]) rfl (XS.iconst X3.here hx rfl (hb hby d9_25) (XS.istore X3.here hx rfl (hb hby d9_26) rfl (l' := #[rv r0, iv (2 : Int32), iv (3 : Int32), rv gb, iv (0 : Int32), .unset, .unset, .unset]) rfl (XS.aloadN X3.here hx rfl (hb hby d9_28) rfl rfl k)))) ?_
  obtain ⟨T4, X4, e4, st4⟩ := getF X3 hx hZ hown (host := "") (Or.inl (own_w hw 75 rfl)) Via.refl e3 F_afterCarriageReturn_r0 (g := (mkF m 29 #[rv r0, iv (2 : Int32), iv (3 : Int32), rv gb, iv (0 : Int32), .unset, .unset, .unset] [(.ref r0)])) rfl rfl (hb hby d9_29)
  refine own_step (U' := T4.setTop (mkF m 32 #[rv r0, iv (2 : Int32), iv (3 : Int32), rv gb, iv (0 : Int32), .unset, .unset, .unset] [(.int wr)])) st4 ?_
  obtain ⟨v41_6, hv41_6⟩ : ∃ v : Int32, v = (if wr = (0 : Int32) then (0 : Int32) else (13 : Int32)) := ⟨_, rfl⟩
  have K41_7 : ∀ (T' : State) (locs' : List Loc) (X' : Stand p l e ({ frames := 0, cells := 0, slots := 0, locals := 0 } : Room) s m #[(.ref r0)] below meth c T' locs' 0 0) (N' : Fr n0 locs') (e' : T'.heap = h0), own_Go p.tables e below s 0 0 (Q9c2p3 Z r0 gb wl wr w0 w1 w2 w3 k_gb h0 n0) (T'.setTop (mkF m 41 #[rv r0, iv (2 : Int32), iv (3 : Int32), rv gb, iv (0 : Int32), .unset, .unset, .unset] [(.int v41_6)])) := by
    intro T7 L7 X7 N7 e7
    refine own_step (U' := T7.setTop (mkF m 55 #[rv r0, iv (2 : Int32), iv (3 : Int32), rv gb, iv (0 : Int32), iv v41_6, iv (2 : Int32), .unset] [(.int (2 : Int32)), (.ref gb)])) (fun t k => XS.istore X7.here hx rfl (hb hby d9_41) rfl (l' := #[rv r0, iv (2 : Int32), iv (3 : Int32), rv gb, iv (0 : Int32), iv v41_6, .unset, .unset]) rfl (XS.iloadN X7.here hx rfl (hb hby d9_43) rfl (XS.istore X7.here hx rfl (hb hby d9_44) rfl (l' := #[rv r0, iv (2 : Int32), iv (3 : Int32), rv gb, iv (0 : Int32), iv v41_6, iv (2 : Int32), .unset]) rfl (XS.iload X7.here hx rfl (hb hby d9_46) rfl (XS.iloadN X7.here hx rfl (hb hby d9_48) rfl (XS.icmpNo X7.here hx rfl (hb hby d9_49) rfl (by decide) (XS.aloadN X7.here hx rfl (hb hby d9_52) rfl rfl (XS.iload X7.here hx rfl (hb hby d9_53) rfl k)))))))) ?_
    obtain ⟨cl8, Ar8, aq8, aS8, aN8, aH8, aG8⟩ := id V_gb
    have hin8 : ¬ ((2 : Int32) < 0 ∨ cl8.slots.size ≤ ((2 : Int32)).toNatClampNeg) := inb_of aS8 ⟨by decide, by decide⟩
    have hat8 : cl8.slots[((2 : Int32)).toNatClampNeg]? = some (.int w2) := aH8.at hin8 rfl
    refine own_step (U' := T7.setTop (mkF m 62 #[rv r0, iv (2 : Int32), iv (3 : Int32), rv gb, iv (0 : Int32), iv v41_6, iv (2 : Int32), iv w2] [(.int (13 : Int32)), (.int w2)])) (fun t k => X7.baloadBytes hx (j := (2 : Int32)) (v := (.int w2)) (by rw [e7]; exact Ar8.1) (State.isArrayOf_alike hZ.alike Ar8.2.1) Ar8.2.2 hin8 hat8 (g := (mkF m 55 #[rv r0, iv (2 : Int32), iv (3 : Int32), rv gb, iv (0 : Int32), iv v41_6, iv (2 : Int32), .unset] [(.int (2 : Int32)), (.ref gb)])) rfl rfl (hb hby d9_55) t (XS.istore X7.here hx rfl (hb hby d9_56) rfl (l' := #[rv r0, iv (2 : Int32), iv (3 : Int32), rv gb, iv (0 : Int32), iv v41_6, iv (2 : Int32), iv w2]) rfl (XS.iload X7.here hx rfl (hb hby d9_58) rfl (XS.bipush X7.here hx rfl (hb hby d9_60) k)))) ?_
    obtain ⟨v89_13, hv89_13⟩ : ∃ v : Int32, v = (if (13 : Int32) < w2 then (0 : Int32) else (if w2 = (13 : Int32) then (1 : Int32) else (if w2 = (10 : Int32) then (if v41_6 = (13 : Int32) then (0 : Int32) else (1 : Int32)) else (0 : Int32)))) := ⟨_, rfl⟩
    have K89_14 : ∀ (T' : State) (locs' : List Loc) (X' : Stand p l e ({ frames := 0, cells := 0, slots := 0, locals := 0 } : Room) s m #[(.ref r0)] below meth c T' locs' 0 0) (N' : Fr n0 locs') (e' : T'.heap = h0), own_Go p.tables e below s 0 0 (Q9c2p3 Z r0 gb wl wr w0 w1 w2 w3 k_gb h0 n0) (T'.setTop (mkF m 89 #[rv r0, iv (2 : Int32), iv (3 : Int32), rv gb, iv v89_13, iv v41_6, iv (2 : Int32), iv w2] [])) := by
      intro T14 L14 X14 N14 e14
      refine own_step (U' := T14.setTop (mkF m 100 #[rv r0, iv (2 : Int32), iv (3 : Int32), rv gb, iv v89_13, iv w2, iv (3 : Int32), iv w2] [(.ref r0)])) (fun t k => XS.iload X14.here hx rfl (hb hby d9_89) rfl (XS.istore X14.here hx rfl (hb hby d9_91) rfl (l' := #[rv r0, iv (2 : Int32), iv (3 : Int32), rv gb, iv v89_13, iv w2, iv (2 : Int32), iv w2]) rfl (XS.iinc X14.here hx rfl (hb hby d9_93) rfl (l' := #[rv r0, iv (2 : Int32), iv (3 : Int32), rv gb, iv v89_13, iv w2, iv (3 : Int32), iv w2]) rfl (XS.goto X14.here hx rfl (pc0 := 96) (pc' := 46) rfl (hb hby d9_96) (by decide) (by decide) (XS.iload X14.here hx rfl (hb hby d9_46) rfl (XS.iloadN X14.here hx rfl (hb hby d9_48) rfl (XS.icmpYes X14.here hx rfl (pc0 := 49) (pc' := 99) rfl (hb hby d9_49) rfl (by decide) (by decide) (by decide) (XS.aloadN X14.here hx rfl (hb hby d9_99) rfl rfl k)))))))) ?_
      refine own_step (U' := T14.setTop (mkF m 101 #[rv r0, iv (2 : Int32), iv (3 : Int32), rv gb, iv v89_13, iv w2, iv (3 : Int32), iv w2] [(.ref r0), (.ref r0)])) (fun t k => XS.dup X14.here hx rfl (hb hby d9_100) rfl rfl k) ?_
      obtain ⟨T15, X15, e15, st15⟩ := getF X14 hx hZ hown (host := "") (Or.inl (own_w hw 71 rfl)) Via.refl e14 F_line_r0 (g := (mkF m 101 #[rv r0, iv (2 : Int32), iv (3 : Int32), rv gb, iv v89_13, iv w2, iv (3 : Int32), iv w2] [(.ref r0), (.ref r0)])) rfl rfl (hb hby d9_101)
      refine own_step (U' := T15.setTop (mkF m 104 #[rv r0, iv (2 : Int32), iv (3 : Int32), rv gb, iv v89_13, iv w2, iv (3 : Int32), iv w2] [(.int wl), (.ref r0)])) st15 ?_
      refine own_step (U' := T15.setTop (mkF m 107 #[rv r0, iv (2 : Int32), iv (3 : Int32), rv gb, iv v89_13, iv w2, iv (3 : Int32), iv w2] [(.int (wl + v89_13)), (.ref r0)])) (fun t k => XS.iload X15.here hx rfl (hb hby d9_104) rfl (XS.iadd X15.here hx rfl (hb hby d9_106) rfl k)) ?_
      obtain ⟨T16, h16, X16, e16, W16, st16⟩ := putF X15 hx hZ hown (host := "") (Or.inl (own_w hw 71 rfl)) Via.refl e15 F_line_r0 E_r0 (Or.inl (own_w hw 72 rfl)) (own_w hw 11 rfl) (ty := .int) (by decide) rfl rfl (g := (mkF m 107 #[rv r0, iv (2 : Int32), iv (3 : Int32), rv gb, iv v89_13, iv w2, iv (3 : Int32), iv w2] [(.int (wl + v89_13)), (.ref r0)])) rfl rfl (hb hby d9_107)
      have E_r0_16 := E_r0.wr W16
      have F_bytes_r0_16 := F_bytes_r0.other W16 (Or.inr (slot_ne (Or.inl (own_w hw 41 rfl)) (Or.inl (own_w hw 72 rfl)) (by decide) (t := (.array .byte)) (t' := .int) (by decide) (by decide)))
      have F_position_r0_16 := F_position_r0.other W16 (Or.inr (slot_ne (Or.inl (own_w hw 58 rfl)) (Or.inl (own_w hw 72 rfl)) (by decide) (t := .int) (t' := .int) (by decide) (by decide)))
      have F_counted_r0_16 := F_counted_r0.other W16 (Or.inr (slot_ne (Or.inl (own_w hw 74 rfl)) (Or.inl (own_w hw 72 rfl)) (by decide) (t := .int) (t' := .int) (by decide) (by decide)))
      have F_afterCarriageReturn_r0_16 := F_afterCarriageReturn_r0.other W16 (Or.inr (slot_ne (Or.inl (own_w hw 76 rfl)) (Or.inl (own_w hw 72 rfl)) (by decide) (t := .boolean) (t' := .int) (by decide) (by decide)))
      have V_gb_16 := V_gb.other W16 hne
      have F_line_r0_16 := F_line_r0.same W16
      have Z16 : n0 ≤ h16.size := Nat.le_trans Z0 (Keep.of_wr W16).1
      have KK16 := KK0.wr W16 (Or.inl (List.mem_of_getElem? (i := 0) rfl))
      have N16 := Fr.snoc X16 N14 g_r0
      refine own_step (U' := T16.setTop (mkF m 110 #[rv r0, iv (2 : Int32), iv (3 : Int32), rv gb, iv v89_13, iv w2, iv (3 : Int32), iv w2] [])) st16 ?_
      refine own_step (U' := T16.setTop (mkF m 115 #[rv r0, iv (2 : Int32), iv (3 : Int32), rv gb, iv v89_13, iv w2, iv (3 : Int32), iv w2] [(.int (2 : Int32)), (.ref gb), (.ref r0)])) (fun t k => XS.aloadN X16.here hx rfl (hb hby d9_110) rfl rfl (XS.aloadN X16.here hx rfl (hb hby d9_111) rfl rfl (XS.iloadN X16.here hx rfl (hb hby d9_112) rfl (XS.iconst X16.here hx rfl (hb hby d9_113) (XS.isub X16.here hx rfl (hb hby d9_114) rfl k))))) ?_
      obtain ⟨cl17, Ar17, aq17, aS17, aN17, aH17, aG17⟩ := id V_gb_16
      have hin17 : ¬ ((2 : Int32) < 0 ∨ cl17.slots.size ≤ ((2 : Int32)).toNatClampNeg) := inb_of aS17 ⟨by decide, by decide⟩
      have hat17 : cl17.slots[((2 : Int32)).toNatClampNeg]? = some (.int w2) := aH17.at hin17 rfl
      refine own_step (U' := T16.setTop (mkF m 118 #[rv r0, iv (2 : Int32), iv (3 : Int32), rv gb, iv v89_13, iv w2, iv (3 : Int32), iv w2] [(.int (13 : Int32)), (.int w2), (.ref r0)])) (fun t k => X16.baloadBytes hx (j := (2 : Int32)) (v := (.int w2)) (by rw [e16]; exact Ar17.1) (State.isArrayOf_alike hZ.alike Ar17.2.1) Ar17.2.2 hin17 hat17 (g := (mkF m 115 #[rv r0, iv (2 : Int32), iv (3 : Int32), rv gb, iv v89_13, iv w2, iv (3 : Int32), iv w2] [(.int (2 : Int32)), (.ref gb), (.ref r0)])) rfl rfl (hb hby d9_115) t (XS.bipush X16.here hx rfl (hb hby d9_116) k)) ?_
      obtain ⟨v126_19, hv126_19⟩ : ∃ v : Int32, v = (if w2 = (13 : Int32) then (1 : Int32) else (0 : Int32)) := ⟨_, rfl⟩
      have K126_20 : ∀ (T' : State) (locs' : List Loc) (X' : Stand p l e ({ frames := 0, cells := 0, slots := 0, locals := 0 } : Room) s m #[(.ref r0)] below meth c T' locs' 0 0) (N' : Fr n0 locs') (e' : T'.heap = h16), own_Go p.tables e below s 0 0 (Q9c2p3 Z r0 gb wl wr w0 w1 w2 w3 k_gb h0 n0) (T'.setTop (mkF m 126 #[rv r0, iv (2 : Int32), iv (3 : Int32), rv gb, iv v89_13, iv w2, iv (3 : Int32), iv w2] [(.int v126_19), (.ref r0)])) := by
        intro T20 L20 X20 N20 e20
        obtain ⟨T21, h21, X21, e21, W21, st21⟩ := putFN X20 hx hZ hown (own_w hw 75 rfl) Via.refl e20 F_afterCarriageReturn_r0_16 E_r0_16 (Or.inl (own_w hw 76 rfl)) (own_w hw 11 rfl) (ty := .boolean) (v' := (.int (nar .boolean v126_19))) (by decide) rfl (fits_nar_bool _) (g := (mkF m 126 #[rv r0, iv (2 : Int32), iv (3 : Int32), rv gb, iv v89_13, iv w2, iv (3 : Int32), iv w2] [(.int v126_19), (.ref r0)])) rfl rfl (hb hby d9_126)
        have E_r0_21 := E_r0_16.wr W21
        have F_bytes_r0_21 := F_bytes_r0_16.other W21 (Or.inr (slot_ne (Or.inl (own_w hw 41 rfl)) (Or.inl (own_w hw 76 rfl)) (by decide) (t := (.array .byte)) (t' := .boolean) (by decide) (by decide)))
        have F_position_r0_21 := F_position_r0_16.other W21 (Or.inr (slot_ne (Or.inl (own_w hw 58 rfl)) (Or.inl (own_w hw 76 rfl)) (by decide) (t := .int) (t' := .boolean) (by decide) (by decide)))
        have F_line_r0_21 := F_line_r0_16.other W21 (Or.inr (slot_ne (Or.inl (own_w hw 72 rfl)) (Or.inl (own_w hw 76 rfl)) (by decide) (t := .int) (t' := .boolean) (by decide) (by decide)))
        have F_counted_r0_21 := F_counted_r0_16.other W21 (Or.inr (slot_ne (Or.inl (own_w hw 74 rfl)) (Or.inl (own_w hw 76 rfl)) (by decide) (t := .int) (t' := .boolean) (by decide) (by decide)))
        have V_gb_21 := V_gb_16.other W21 hne
        have F_afterCarriageReturn_r0_21 := F_afterCarriageReturn_r0_16.same W21
        have Z21 : n0 ≤ h21.size := Nat.le_trans Z16 (Keep.of_wr W21).1
        have KK21 := KK16.wr W21 (Or.inl (List.mem_of_getElem? (i := 0) rfl))
        have N21 := Fr.snoc X21 N20 g_r0
        refine own_step (U' := T21.setTop (mkF m 129 #[rv r0, iv (2 : Int32), iv (3 : Int32), rv gb, iv v89_13, iv w2, iv (3 : Int32), iv w2] [])) st21 ?_
        refine own_step (U' := T21.setTop (mkF m 131 #[rv r0, iv (2 : Int32), iv (3 : Int32), rv gb, iv v89_13, iv w2, iv (3 : Int32), iv w2] [(.ref r0), (.ref r0)])) (fun t k => XS.aloadN X21.here hx rfl (hb hby d9_129) rfl rfl (XS.aloadN X21.here hx rfl (hb hby d9_130) rfl rfl k)) ?_
        obtain ⟨T22, X22, e22, st22⟩ := getF X21 hx hZ hown (host := "") (Or.inl (own_w hw 75 rfl)) Via.refl e21 F_afterCarriageReturn_r0_21 (g := (mkF m 131 #[rv r0, iv (2 : Int32), iv (3 : Int32), rv gb, iv v89_13, iv w2, iv (3 : Int32), iv w2] [(.ref r0), (.ref r0)])) rfl rfl (hb hby d9_131)
        refine own_step (U' := T22.setTop (mkF m 134 #[rv r0, iv (2 : Int32), iv (3 : Int32), rv gb, iv v89_13, iv w2, iv (3 : Int32), iv w2] [(.int (nar .boolean v126_19)), (.ref r0)])) st22 ?_
        obtain ⟨v152_26, hv152_26⟩ : ∃ v : Int32, v = (if (nar .boolean v126_19) = (0 : Int32) then (if w2 = (10 : Int32) then (1 : Int32) else (0 : Int32)) else (1 : Int32)) := ⟨_, rfl⟩
        have K152_27 : ∀ (T' : State) (locs' : List Loc) (X' : Stand p l e ({ frames := 0, cells := 0, slots := 0, locals := 0 } : Room) s m #[(.ref r0)] below meth c T' locs' 0 0) (N' : Fr n0 locs') (e' : T'.heap = h21), own_Go p.tables e below s 0 0 (Q9c2p3 Z r0 gb wl wr w0 w1 w2 w3 k_gb h0 n0) (T'.setTop (mkF m 152 #[rv r0, iv (2 : Int32), iv (3 : Int32), rv gb, iv v89_13, iv w2, iv (3 : Int32), iv w2] [(.int v152_26), (.ref r0)])) := by
          intro T27 L27 X27 N27 e27
          obtain ⟨u28, Fu28⟩ := own_anyF (O := own_XC) (n := "afterLineEnd") (d := "Z") E_r0_21 F_bytes_r0_21 (own_w hw 11 rfl) (Or.inl (own_w hw 78 rfl))
          obtain ⟨T28, h28, X28, e28, W28, st28⟩ := putFN X27 hx hZ hown (own_w hw 77 rfl) Via.refl e27 Fu28 E_r0_21 (Or.inl (own_w hw 78 rfl)) (own_w hw 11 rfl) (ty := .boolean) (v' := (.int (nar .boolean v152_26))) (by decide) rfl (fits_nar_bool _) (g := (mkF m 152 #[rv r0, iv (2 : Int32), iv (3 : Int32), rv gb, iv v89_13, iv w2, iv (3 : Int32), iv w2] [(.int v152_26), (.ref r0)])) rfl rfl (hb hby d9_152)
          have E_r0_28 := E_r0_21.wr W28
          have F_bytes_r0_28 := F_bytes_r0_21.other W28 (Or.inr (slot_ne (Or.inl (own_w hw 41 rfl)) (Or.inl (own_w hw 78 rfl)) (by decide) (t := (.array .byte)) (t' := .boolean) (by decide) (by decide)))
          have F_position_r0_28 := F_position_r0_21.other W28 (Or.inr (slot_ne (Or.inl (own_w hw 58 rfl)) (Or.inl (own_w hw 78 rfl)) (by decide) (t := .int) (t' := .boolean) (by decide) (by decide)))
          have F_line_r0_28 := F_line_r0_21.other W28 (Or.inr (slot_ne (Or.inl (own_w hw 72 rfl)) (Or.inl (own_w hw 78 rfl)) (by decide) (t := .int) (t' := .boolean) (by decide) (by decide)))
          have F_counted_r0_28 := F_counted_r0_21.other W28 (Or.inr (slot_ne (Or.inl (own_w hw 74 rfl)) (Or.inl (own_w hw 78 rfl)) (by decide) (t := .int) (t' := .boolean) (by decide) (by decide)))
          have F_afterCarriageReturn_r0_28 := F_afterCarriageReturn_r0_21.other W28 (Or.inr (slot_ne (Or.inl (own_w hw 76 rfl)) (Or.inl (own_w hw 78 rfl)) (by decide) (t := .boolean) (t' := .boolean) (by decide) (by decide)))
          have V_gb_28 := V_gb_21.other W28 hne
          have Z28 : n0 ≤ h28.size := Nat.le_trans Z21 (Keep.of_wr W28).1
          have KK28 := KK21.wr W28 (Or.inl (List.mem_of_getElem? (i := 0) rfl))
          have N28 := Fr.snoc X28 N27 g_r0
          refine own_step (U' := T28.setTop (mkF m 155 #[rv r0, iv (2 : Int32), iv (3 : Int32), rv gb, iv v89_13, iv w2, iv (3 : Int32), iv w2] [])) st28 ?_
          refine own_step (U' := T28.setTop (mkF m 157 #[rv r0, iv (2 : Int32), iv (3 : Int32), rv gb, iv v89_13, iv w2, iv (3 : Int32), iv w2] [(.int (3 : Int32)), (.ref r0)])) (fun t k => XS.aloadN X28.here hx rfl (hb hby d9_155) rfl rfl (XS.iloadN X28.here hx rfl (hb hby d9_156) rfl k)) ?_
          obtain ⟨T29, h29, X29, e29, W29, st29⟩ := putF X28 hx hZ hown (host := "") (Or.inl (own_w hw 73 rfl)) Via.refl e28 F_counted_r0_28 E_r0_28 (Or.inl (own_w hw 74 rfl)) (own_w hw 11 rfl) (ty := .int) (by decide) rfl rfl (g := (mkF m 157 #[rv r0, iv (2 : Int32), iv (3 : Int32), rv gb, iv v89_13, iv w2, iv (3 : Int32), iv w2] [(.int (3 : Int32)), (.ref r0)])) rfl rfl (hb hby d9_157)
          have E_r0_29 := E_r0_28.wr W29
          have F_bytes_r0_29 := F_bytes_r0_28.other W29 (Or.inr (slot_ne (Or.inl (own_w hw 41 rfl)) (Or.inl (own_w hw 74 rfl)) (by decide) (t := (.array .byte)) (t' := .int) (by decide) (by decide)))
          have F_position_r0_29 := F_position_r0_28.other W29 (Or.inr (slot_ne (Or.inl (own_w hw 58 rfl)) (Or.inl (own_w hw 74 rfl)) (by decide) (t := .int) (t' := .int) (by decide) (by decide)))
          have F_line_r0_29 := F_line_r0_28.other W29 (Or.inr (slot_ne (Or.inl (own_w hw 72 rfl)) (Or.inl (own_w hw 74 rfl)) (by decide) (t := .int) (t' := .int) (by decide) (by decide)))
          have F_afterCarriageReturn_r0_29 := F_afterCarriageReturn_r0_28.other W29 (Or.inr (slot_ne (Or.inl (own_w hw 76 rfl)) (Or.inl (own_w hw 74 rfl)) (by decide) (t := .boolean) (t' := .int) (by decide) (by decide)))
          have V_gb_29 := V_gb_28.other W29 hne
          have F_counted_r0_29 := F_counted_r0_28.same W29
          have Z29 : n0 ≤ h29.size := Nat.le_trans Z28 (Keep.of_wr W29).1
          have KK29 := KK28.wr W29 (Or.inl (List.mem_of_getElem? (i := 0) rfl))
          have N29 := Fr.snoc X29 N28 g_r0
          refine own_step (U' := T29.setTop (mkF m 160 #[rv r0, iv (2 : Int32), iv (3 : Int32), rv gb, iv v89_13, iv w2, iv (3 : Int32), iv w2] [])) st29 ?_
          refine own_step (U' := T29.setTop (mkF m 161 #[rv r0, iv (2 : Int32), iv (3 : Int32), rv gb, iv v89_13, iv w2, iv (3 : Int32), iv w2] [(.ref r0)])) (fun t k => XS.aloadN X29.here hx rfl (hb hby d9_160) rfl rfl k) ?_
          obtain ⟨T30, X30, e30, st30⟩ := getF X29 hx hZ hown (host := "") (Or.inl (own_w hw 71 rfl)) Via.refl e29 F_line_r0_29 (g := (mkF m 161 #[rv r0, iv (2 : Int32), iv (3 : Int32), rv gb, iv v89_13, iv w2, iv (3 : Int32), iv w2] [(.ref r0)])) rfl rfl (hb hby d9_161)
          refine own_step (U' := T30.setTop (mkF m 164 #[rv r0, iv (2 : Int32), iv (3 : Int32), rv gb, iv v89_13, iv w2, iv (3 : Int32), iv w2] [(.int (wl + v89_13))])) st30 ?_
          exact own_out X30 (v := (some (.int (wl + v89_13)))) hlk (own_nv Bd.returns) (by rw [e30]; exact (by subst hv41_6 hv89_13 hv126_19 hv152_26; exact ⟨rfl, N29, KK29, E_r0_29, F_bytes_r0_29, F_position_r0_29, F_line_r0_29, F_counted_r0_29, F_afterCarriageReturn_r0_29⟩)) (by decide) (by decide) (fun fs hr => retI X30 hx Bd.returns (hb hby d9_164) hr)
        by_cases hc134_31 : (nar .boolean v126_19) = (0 : Int32)
        · refine own_step (U' := T22.setTop (mkF m 141 #[rv r0, iv (2 : Int32), iv (3 : Int32), rv gb, iv v89_13, iv w2, iv (3 : Int32), iv w2] [(.int (2 : Int32)), (.ref gb), (.ref r0)])) (fun t k => XS.ifNo X22.here hx rfl (hb hby d9_134) rfl ((if0 _ _).trans (teq hc134_31).2) (XS.aloadN X22.here hx rfl (hb hby d9_137) rfl rfl (XS.iloadN X22.here hx rfl (hb hby d9_138) rfl (XS.iconst X22.here hx rfl (hb hby d9_139) (XS.isub X22.here hx rfl (hb hby d9_140) rfl k))))) ?_
          obtain ⟨cl32, Ar32, aq32, aS32, aN32, aH32, aG32⟩ := id V_gb_21
          have hin32 : ¬ ((2 : Int32) < 0 ∨ cl32.slots.size ≤ ((2 : Int32)).toNatClampNeg) := inb_of aS32 ⟨by decide, by decide⟩
          have hat32 : cl32.slots[((2 : Int32)).toNatClampNeg]? = some (.int w2) := aH32.at hin32 rfl
          refine own_step (U' := T22.setTop (mkF m 144 #[rv r0, iv (2 : Int32), iv (3 : Int32), rv gb, iv v89_13, iv w2, iv (3 : Int32), iv w2] [(.int (10 : Int32)), (.int w2), (.ref r0)])) (fun t k => X22.baloadBytes hx (j := (2 : Int32)) (v := (.int w2)) (by rw [e22]; exact Ar32.1) (State.isArrayOf_alike hZ.alike Ar32.2.1) Ar32.2.2 hin32 hat32 (g := (mkF m 141 #[rv r0, iv (2 : Int32), iv (3 : Int32), rv gb, iv v89_13, iv w2, iv (3 : Int32), iv w2] [(.int (2 : Int32)), (.ref gb), (.ref r0)])) rfl rfl (hb hby d9_141) t (XS.bipush X22.here hx rfl (hb hby d9_142) k)) ?_
          by_cases hc144_33 : w2 = (10 : Int32)
          · refine own_step (U' := T22.setTop (mkF m 152 #[rv r0, iv (2 : Int32), iv (3 : Int32), rv gb, iv v89_13, iv w2, iv (3 : Int32), iv w2] [(.int (1 : Int32)), (.ref r0)])) (fun t k => XS.icmpNo X22.here hx rfl (hb hby d9_144) rfl (teq hc144_33).2 (XS.iconst X22.here hx rfl (hb hby d9_147) (XS.goto X22.here hx rfl (pc0 := 148) (pc' := 152) rfl (hb hby d9_148) (by decide) (by decide) k))) ?_
            have q_v152_26 : v152_26 = (1 : Int32) := by rw [hv152_26, if_pos hc134_31, if_pos hc144_33]
            rw [q_v152_26] at K152_27
            exact K152_27 _ _ X22 N21 e22
          · refine own_step (U' := T22.setTop (mkF m 152 #[rv r0, iv (2 : Int32), iv (3 : Int32), rv gb, iv v89_13, iv w2, iv (3 : Int32), iv w2] [(.int (0 : Int32)), (.ref r0)])) (fun t k => XS.icmpYes X22.here hx rfl (pc0 := 144) (pc' := 151) rfl (hb hby d9_144) rfl (feq hc144_33).2 (by decide) (by decide) (XS.iconst X22.here hx rfl (hb hby d9_151) k)) ?_
            have q_v152_26 : v152_26 = (0 : Int32) := by rw [hv152_26, if_pos hc134_31, if_neg hc144_33]
            rw [q_v152_26] at K152_27
            exact K152_27 _ _ X22 N21 e22
        · refine own_step (U' := T22.setTop (mkF m 152 #[rv r0, iv (2 : Int32), iv (3 : Int32), rv gb, iv v89_13, iv w2, iv (3 : Int32), iv w2] [(.int (1 : Int32)), (.ref r0)])) (fun t k => XS.ifYes X22.here hx rfl (pc0 := 134) (pc' := 147) rfl (hb hby d9_134) rfl ((if0 _ _).trans (feq hc134_31).2) (by decide) (by decide) (XS.iconst X22.here hx rfl (hb hby d9_147) (XS.goto X22.here hx rfl (pc0 := 148) (pc' := 152) rfl (hb hby d9_148) (by decide) (by decide) k))) ?_
          have q_v152_26 : v152_26 = (1 : Int32) := by rw [hv152_26, if_neg hc134_31]
          rw [q_v152_26] at K152_27
          exact K152_27 _ _ X22 N21 e22
      by_cases hc118_34 : w2 = (13 : Int32)
      · refine own_step (U' := T16.setTop (mkF m 126 #[rv r0, iv (2 : Int32), iv (3 : Int32), rv gb, iv v89_13, iv w2, iv (3 : Int32), iv w2] [(.int (1 : Int32)), (.ref r0)])) (fun t k => XS.icmpNo X16.here hx rfl (hb hby d9_118) rfl (teq hc118_34).2 (XS.iconst X16.here hx rfl (hb hby d9_121) (XS.goto X16.here hx rfl (pc0 := 122) (pc' := 126) rfl (hb hby d9_122) (by decide) (by decide) k))) ?_
        have q_v126_19 : v126_19 = (1 : Int32) := by rw [hv126_19, if_pos hc118_34]
        rw [q_v126_19] at K126_20
        exact K126_20 _ _ X16 N16 e16
      · refine own_step (U' := T16.setTop (mkF m 126 #[rv r0, iv (2 : Int32), iv (3 : Int32), rv gb, iv v89_13, iv w2, iv (3 : Int32), iv w2] [(.int (0 : Int32)), (.ref r0)])) (fun t k => XS.icmpYes X16.here hx rfl (pc0 := 118) (pc' := 125) rfl (hb hby d9_118) rfl (feq hc118_34).2 (by decide) (by decide) (XS.iconst X16.here hx rfl (hb hby d9_125) k)) ?_
        have q_v126_19 : v126_19 = (0 : Int32) := by rw [hv126_19, if_neg hc118_34]
        rw [q_v126_19] at K126_20
        exact K126_20 _ _ X16 N16 e16
    by_cases hc62_35 : (13 : Int32) < w2
    · refine own_step (U' := T7.setTop (mkF m 89 #[rv r0, iv (2 : Int32), iv (3 : Int32), rv gb, iv (0 : Int32), iv v41_6, iv (2 : Int32), iv w2] [])) (fun t k => XS.icmpYes X7.here hx rfl (pc0 := 62) (pc' := 89) rfl (hb hby d9_62) rfl (tlt hc62_35).2.2.1 (by decide) (by decide) k) ?_
      have q_v89_13 : v89_13 = (0 : Int32) := by rw [hv89_13, if_pos hc62_35]
      rw [q_v89_13] at K89_14
      exact K89_14 _ _ X7 N7 e7
    · refine own_step (U' := T7.setTop (mkF m 69 #[rv r0, iv (2 : Int32), iv (3 : Int32), rv gb, iv (0 : Int32), iv v41_6, iv (2 : Int32), iv w2] [(.int (13 : Int32)), (.int w2)])) (fun t k => XS.icmpNo X7.here hx rfl (hb hby d9_62) rfl (flt hc62_35).2.2.1 (XS.iload X7.here hx rfl (hb hby d9_65) rfl (XS.bipush X7.here hx rfl (hb hby d9_67) k))) ?_
      by_cases hc69_36 : w2 = (13 : Int32)
      · refine own_step (U' := T7.setTop (mkF m 89 #[rv r0, iv (2 : Int32), iv (3 : Int32), rv gb, iv (1 : Int32), iv v41_6, iv (2 : Int32), iv w2] [])) (fun t k => XS.icmpYes X7.here hx rfl (pc0 := 69) (pc' := 86) rfl (hb hby d9_69) rfl (teq hc69_36).1 (by decide) (by decide) (XS.iinc X7.here hx rfl (hb hby d9_86) rfl (l' := #[rv r0, iv (2 : Int32), iv (3 : Int32), rv gb, iv (1 : Int32), iv v41_6, iv (2 : Int32), iv w2]) rfl k)) ?_
        have q_v89_13 : v89_13 = (1 : Int32) := by rw [hv89_13, if_neg hc62_35, if_pos hc69_36]
        rw [q_v89_13] at K89_14
        exact K89_14 _ _ X7 N7 e7
      · refine own_step (U' := T7.setTop (mkF m 76 #[rv r0, iv (2 : Int32), iv (3 : Int32), rv gb, iv (0 : Int32), iv v41_6, iv (2 : Int32), iv w2] [(.int (10 : Int32)), (.int w2)])) (fun t k => XS.icmpNo X7.here hx rfl (hb hby d9_69) rfl (feq hc69_36).1 (XS.iload X7.here hx rfl (hb hby d9_72) rfl (XS.bipush X7.here hx rfl (hb hby d9_74) k))) ?_
        by_cases hc76_37 : w2 = (10 : Int32)
        · refine own_step (U' := T7.setTop (mkF m 83 #[rv r0, iv (2 : Int32), iv (3 : Int32), rv gb, iv (0 : Int32), iv v41_6, iv (2 : Int32), iv w2] [(.int (13 : Int32)), (.int v41_6)])) (fun t k => XS.icmpNo X7.here hx rfl (hb hby d9_76) rfl (teq hc76_37).2 (XS.iload X7.here hx rfl (hb hby d9_79) rfl (XS.bipush X7.here hx rfl (hb hby d9_81) k))) ?_
          by_cases hc83_38 : v41_6 = (13 : Int32)
          · refine own_step (U' := T7.setTop (mkF m 89 #[rv r0, iv (2 : Int32), iv (3 : Int32), rv gb, iv (0 : Int32), iv v41_6, iv (2 : Int32), iv w2] [])) (fun t k => XS.icmpYes X7.here hx rfl (pc0 := 83) (pc' := 89) rfl (hb hby d9_83) rfl (teq hc83_38).1 (by decide) (by decide) k) ?_
            have q_v89_13 : v89_13 = (0 : Int32) := by rw [hv89_13, if_neg hc62_35, if_neg hc69_36, if_pos hc76_37, if_pos hc83_38]
            rw [q_v89_13] at K89_14
            exact K89_14 _ _ X7 N7 e7
          · refine own_step (U' := T7.setTop (mkF m 89 #[rv r0, iv (2 : Int32), iv (3 : Int32), rv gb, iv (1 : Int32), iv v41_6, iv (2 : Int32), iv w2] [])) (fun t k => XS.icmpNo X7.here hx rfl (hb hby d9_83) rfl (feq hc83_38).1 (XS.iinc X7.here hx rfl (hb hby d9_86) rfl (l' := #[rv r0, iv (2 : Int32), iv (3 : Int32), rv gb, iv (1 : Int32), iv v41_6, iv (2 : Int32), iv w2]) rfl k)) ?_
            have q_v89_13 : v89_13 = (1 : Int32) := by rw [hv89_13, if_neg hc62_35, if_neg hc69_36, if_pos hc76_37, if_neg hc83_38]
            rw [q_v89_13] at K89_14
            exact K89_14 _ _ X7 N7 e7
        · refine own_step (U' := T7.setTop (mkF m 89 #[rv r0, iv (2 : Int32), iv (3 : Int32), rv gb, iv (0 : Int32), iv v41_6, iv (2 : Int32), iv w2] [])) (fun t k => XS.icmpYes X7.here hx rfl (pc0 := 76) (pc' := 89) rfl (hb hby d9_76) rfl (feq hc76_37).2 (by decide) (by decide) k) ?_
          have q_v89_13 : v89_13 = (0 : Int32) := by rw [hv89_13, if_neg hc62_35, if_neg hc69_36, if_neg hc76_37]
          rw [q_v89_13] at K89_14
          exact K89_14 _ _ X7 N7 e7
  by_cases hc32_39 : wr = (0 : Int32)
  · refine own_step (U' := T4.setTop (mkF m 41 #[rv r0, iv (2 : Int32), iv (3 : Int32), rv gb, iv (0 : Int32), .unset, .unset, .unset] [(.int (0 : Int32))])) (fun t k => XS.ifYes X4.here hx rfl (pc0 := 32) (pc' := 40) rfl (hb hby d9_32) rfl ((if0 _ _).trans (teq hc32_39).1) (by decide) (by decide) (XS.iconst X4.here hx rfl (hb hby d9_40) k)) ?_
    have q_v41_6 : v41_6 = (0 : Int32) := by rw [hv41_6, if_pos hc32_39]
    rw [q_v41_6] at K41_7
    exact K41_7 _ _ X4 N0 e4
  · refine own_step (U' := T4.setTop (mkF m 41 #[rv r0, iv (2 : Int32), iv (3 : Int32), rv gb, iv (0 : Int32), .unset, .unset, .unset] [(.int (13 : Int32))])) (fun t k => XS.ifNo X4.here hx rfl (hb hby d9_32) rfl ((if0 _ _).trans (feq hc32_39).1) (XS.bipush X4.here hx rfl (hb hby d9_35) (XS.goto X4.here hx rfl (pc0 := 37) (pc' := 41) rfl (hb hby d9_37) (by decide) (by decide) k))) ?_
    have q_v41_6 : v41_6 = (13 : Int32) := by rw [hv41_6, if_neg hc32_39]
    rw [q_v41_6] at K41_7
    exact K41_7 _ _ X4 N0 e4
theorem ef_9c3p3 (m : MethodId) (r0 : Addr) : entryFrame m #[(.ref r0)] 8 = mkF m 0 #[rv r0, .unset, .unset, .unset, .unset, .unset, .unset, .unset] [] := by first | (simp [entryFrame, mkF, argsToLocals, Value.category]; done) | rfl
def F9c3p3 (wl : Int32) (wr : Int32) (w0 : Int32) (w1 : Int32) (w2 : Int32) (w3 : Int32) : Int32 :=
  wl
def Q9c3p3 (Z : State) (r0 : Addr) (gb : Addr) (wl : Int32) (wr : Int32) (w0 : Int32) (w1 : Int32) (w2 : Int32) (w3 : Int32) (k_gb : ClassId) (h0 : Heap) (n0 : Nat) (v : Option Value) (h : Heap) (L : List Loc) : Prop := v = some (.int (F9c3p3 wl wr w0 w1 w2 w3)) ∧ Fr n0 L ∧ Keep h0 h [r0] ∧ Exa Z h r0 own_XC ∧ Fld Z h r0 own_XC "bytes" "[B" (.ref gb) ∧ Fld Z h r0 own_XC "position" "I" (.int (3 : Int32)) ∧ Fld Z h r0 own_XC "line" "I" (.int wl) ∧ Fld Z h r0 own_XC "counted" "I" (.int (3 : Int32)) ∧ Fld Z h r0 own_XC "afterCarriageReturn" "Z" (.int wr)
set_option maxRecDepth 65536 in
set_option maxHeartbeats 40000000 in
theorem rm9c3p3 (l : Launch) (Z : State) (a0 : Array Value) (hw : ∀ d ∈ tables_1, d.before a0 Z = true) (ws : List Jvm.Cond) (r0 : Addr) (gb : Addr) (wl : Int32) (wr : Int32) (w0 : Int32) (w1 : Int32) (w2 : Int32) (w3 : Int32) (k_gb : ClassId) (h0 : Heap) (n0 : Nat) (Z0 : n0 ≤ h0.size) (E_r0 : Exa Z h0 r0 own_XC) (F_bytes_r0 : Fld Z h0 r0 own_XC "bytes" "[B" (.ref gb)) (F_position_r0 : Fld Z h0 r0 own_XC "position" "I" (.int (3 : Int32))) (F_line_r0 : Fld Z h0 r0 own_XC "line" "I" (.int wl)) (F_counted_r0 : Fld Z h0 r0 own_XC "counted" "I" (.int (3 : Int32))) (F_afterCarriageReturn_r0 : Fld Z h0 r0 own_XC "afterCarriageReturn" "Z" (.int wr)) (g_r0 : n0 ≤ r0) (V_gb : Arv Z h0 gb k_gb .byte (65536 : Int32) [(.int w0), (.int w1), (.int w2), (.int w3)] (.int (0 : Int32))) (hne : gb ≠ r0) :
    MetFree l (⟨own_XC, "line", "()I"⟩ : MethodName) (head1 (Jvm.Cond.code (⟨own_XC, "line", "()I"⟩ : MethodName) prog_148_method_16_code 8 (some .int) :: ws) ({ frames := 0, cells := 0, slots := 0, locals := 0 } : Room)) (fun a U => a = #[(.ref r0)] ∧ Z.Warmed39 U.vm ∧ U.heap = h0) (fun _ _ _ _ _ => True) (fun _ U o U' => ∃ v L, o = .returned v ∧ Q9c3p3 Z r0 gb wl wr w0 w1 w2 w3 k_gb h0 n0 v U'.heap L ∧ FrameEnd U o U' L ({ frames := 0, cells := 0, slots := 0, locals := 0 } : Room).cells ({ frames := 0, cells := 0, slots := 0, locals := 0 } : Room).slots) := by
  refine MetFree.of_bodySF (plainFor_of_name pn_9) hisR ?_
  intro p e s m args below meth c s₁ Bd hml0 hP hK
  obtain ⟨rfl, hZ, hh⟩ := hP
  have hx := Bd.exec
  have hby := Bd.bytes
  have hml : c.maxLocals = 8 := hml0
  have hown : s.vm.findClass own_XC = some m.cls := findClass_of_methodNamed Bd.named
  have hnm := (name_of_methodNamed Bd.named Bd.method).1
  have hlk : meth.locks = false := Bd.notSynchronized
  have X0 : Stand p l e ({ frames := 0, cells := 0, slots := 0, locals := 0 } : Room) s m #[(.ref r0)] below meth c s₁ [] 0 0 := Stand.of_body Bd
  have e0 : s₁.heap = h0 := by rw [← hh, Bd.state]; rfl
  have N0 := Fr.nil n0
  have KK0 := Keep.refl h0 [r0]
  show own_Go p.tables e below s 0 0 (Q9c3p3 Z r0 gb wl wr w0 w1 w2 w3 k_gb h0 n0) (s₁.setTop (entryFrame m #[(.ref r0)] 8))
  rw [ef_9c3p3]
  refine own_step (U' := s₁.setTop (mkF m 1 #[rv r0, .unset, .unset, .unset, .unset, .unset, .unset, .unset] [(.ref r0)])) (fun t k => XS.aloadN X0.here hx rfl (hb hby d9_0) rfl rfl k) ?_
  obtain ⟨T1, X1, e1, st1⟩ := getF X0 hx hZ hown (host := "") (Or.inl (own_w hw 73 rfl)) Via.refl e0 F_counted_r0 (g := (mkF m 1 #[rv r0, .unset, .unset, .unset, .unset, .unset, .unset, .unset] [(.ref r0)])) rfl rfl (hb hby d9_1)
  refine own_step (U' := T1.setTop (mkF m 4 #[rv r0, .unset, .unset, .unset, .unset, .unset, .unset, .unset] [(.int (3 : Int32))])) st1 ?_
  refine own_step (U' := T1.setTop (mkF m 6 #[rv r0, iv (3 : Int32), .unset, .unset, .unset, .unset, .unset, .unset] [(.ref r0)])) (fun t k => XS.istoreN X1.here hx rfl (hb hby d9_4) rfl (l' := #[rv r0, iv (3 : Int32), .unset, .unset, .unset, .unset, .unset, .unset]) rfl (XS.aloadN X1.here hx rfl (hb hby d9_5) rfl rfl k)) ?_
  obtain ⟨T2, X2, e2, st2⟩ := getF X1 hx hZ hown (host := "") (Or.inl (own_w hw 57 rfl)) Via.refl e1 F_position_r0 (g := (mkF m 6 #[rv r0, iv (3 : Int32), .unset, .unset, .unset, .unset, .unset, .unset] [(.ref r0)])) rfl rfl (hb hby d9_6)
  refine own_step (U' := T2.setTop (mkF m 9 #[rv r0, iv (3 : Int32), .unset, .unset, .unset, .unset, .unset, .unset] [(.int (3 : Int32))])) st2 ?_
  refine own_step (U' := T2.setTop (mkF m 16 #[rv r0, iv (3 : Int32), iv (3 : Int32), .unset, .unset, .unset, .unset, .unset] [(.ref r0)])) (fun t k => XS.istoreN X2.here hx rfl (hb hby d9_9) rfl (l' := #[rv r0, iv (3 : Int32), iv (3 : Int32), .unset, .unset, .unset, .unset, .unset]) rfl (XS.iloadN X2.here hx rfl (hb hby d9_10) rfl (XS.iloadN X2.here hx rfl (hb hby d9_11) rfl (XS.icmpNo X2.here hx rfl (hb hby d9_12) rfl (by decide) (XS.aloadN X2.here hx rfl (hb hby d9_15) rfl rfl k))))) ?_
  obtain ⟨T3, X3, e3, st3⟩ := getF X2 hx hZ hown (host := "") (Or.inl (own_w hw 71 rfl)) Via.refl e2 F_line_r0 (g := (mkF m 16 #[rv r0, iv (3 : Int32), iv (3 : Int32), .unset, .unset, .unset, .unset, .unset] [(.ref r0)])) rfl rfl (hb hby d9_16)
  refine own_step (U' := T3.setTop (mkF m 19 #[rv r0, iv (3 : Int32), iv (3 : Int32), .unset, .unset, .unset, .unset, .unset] [(.int wl)])) st3 ?_
  exact own_out X3 (v := (some (.int wl))) hlk (own_nv Bd.returns) (by rw [e3]; exact ⟨by rw [show (F9c3p3 wl wr w0 w1 w2 w3) = wl from (by simp only [F9c3p3])], N0, KK0, E_r0, F_bytes_r0, F_position_r0, F_line_r0, F_counted_r0, F_afterCarriageReturn_r0⟩) (by decide) (by decide) (fun fs hr => retI X3 hx Bd.returns (hb hby d9_19) hr)
theorem ef_9c0p2 (m : MethodId) (r0 : Addr) : entryFrame m #[(.ref r0)] 8 = mkF m 0 #[rv r0, .unset, .unset, .unset, .unset, .unset, .unset, .unset] [] := by first | (simp [entryFrame, mkF, argsToLocals, Value.category]; done) | rfl
def F9c0p2 (wl : Int32) (wr : Int32) (w0 : Int32) (w1 : Int32) (w2 : Int32) (w3 : Int32) : Int32 :=
  let v41_6 : Int32 := (if wr = (0 : Int32) then (0 : Int32) else (13 : Int32))
  let v89_13 : Int32 := (if (13 : Int32) < w0 then (0 : Int32) else (if w0 = (13 : Int32) then (1 : Int32) else (if w0 = (10 : Int32) then (if v41_6 = (13 : Int32) then (0 : Int32) else (1 : Int32)) else (0 : Int32))))
  let v89_20 : Int32 := (if (13 : Int32) < w1 then v89_13 else (if w1 = (13 : Int32) then (v89_13 + (1 : Int32)) else (if w1 = (10 : Int32) then (if w0 = (13 : Int32) then v89_13 else (v89_13 + (1 : Int32))) else v89_13)))
  let v126_26 : Int32 := (if w1 = (13 : Int32) then (1 : Int32) else (0 : Int32))
  let v152_33 : Int32 := (if (nar .boolean v126_26) = (0 : Int32) then (if w1 = (10 : Int32) then (1 : Int32) else (0 : Int32)) else (1 : Int32))
  (wl + v89_20)
def Q9c0p2 (Z : State) (r0 : Addr) (gb : Addr) (wl : Int32) (wr : Int32) (w0 : Int32) (w1 : Int32) (w2 : Int32) (w3 : Int32) (k_gb : ClassId) (h0 : Heap) (n0 : Nat) (v : Option Value) (h : Heap) (L : List Loc) : Prop := v = some (.int (F9c0p2 wl wr w0 w1 w2 w3)) ∧ Fr n0 L ∧ Keep h0 h [r0] ∧ Exa Z h r0 own_XC ∧ Fld Z h r0 own_XC "bytes" "[B" (.ref gb) ∧ Fld Z h r0 own_XC "position" "I" (.int (2 : Int32)) ∧ Fld Z h r0 own_XC "line" "I" (.int (F9c0p2 wl wr w0 w1 w2 w3)) ∧ Fld Z h r0 own_XC "counted" "I" (.int (2 : Int32)) ∧ Fld Z h r0 own_XC "afterCarriageReturn" "Z" (.int (nar .boolean (if w1 = (13 : Int32) then (1 : Int32) else (0 : Int32))))
set_option maxRecDepth 65536 in
set_option maxHeartbeats 40000000 in
theorem rm9c0p2 (l : Launch) (Z : State) (a0 : Array Value) (hw : ∀ d ∈ tables_1, d.before a0 Z = true) (ws : List Jvm.Cond) (r0 : Addr) (gb : Addr) (wl : Int32) (wr : Int32) (w0 : Int32) (w1 : Int32) (w2 : Int32) (w3 : Int32) (k_gb : ClassId) (h0 : Heap) (n0 : Nat) (Z0 : n0 ≤ h0.size) (E_r0 : Exa Z h0 r0 own_XC) (F_bytes_r0 : Fld Z h0 r0 own_XC "bytes" "[B" (.ref gb)) (F_position_r0 : Fld Z h0 r0 own_XC "position" "I" (.int (2 : Int32))) (F_line_r0 : Fld Z h0 r0 own_XC "line" "I" (.int wl)) (F_counted_r0 : Fld Z h0 r0 own_XC "counted" "I" (.int (0 : Int32))) (F_afterCarriageReturn_r0 : Fld Z h0 r0 own_XC "afterCarriageReturn" "Z" (.int wr)) (g_r0 : n0 ≤ r0) (V_gb : Arv Z h0 gb k_gb .byte (65536 : Int32) [(.int w0), (.int w1), (.int w2), (.int w3)] (.int (0 : Int32))) (hne : gb ≠ r0) :
    MetFree l (⟨own_XC, "line", "()I"⟩ : MethodName) (head1 (Jvm.Cond.code (⟨own_XC, "line", "()I"⟩ : MethodName) prog_148_method_16_code 8 (some .int) :: ws) ({ frames := 0, cells := 0, slots := 0, locals := 0 } : Room)) (fun a U => a = #[(.ref r0)] ∧ Z.Warmed39 U.vm ∧ U.heap = h0) (fun _ _ _ _ _ => True) (fun _ U o U' => ∃ v L, o = .returned v ∧ Q9c0p2 Z r0 gb wl wr w0 w1 w2 w3 k_gb h0 n0 v U'.heap L ∧ FrameEnd U o U' L ({ frames := 0, cells := 0, slots := 0, locals := 0 } : Room).cells ({ frames := 0, cells := 0, slots := 0, locals := 0 } : Room).slots) := by
  refine MetFree.of_bodySF (plainFor_of_name pn_9) hisR ?_
  intro p e s m args below meth c s₁ Bd hml0 hP hK
  obtain ⟨rfl, hZ, hh⟩ := hP
  have hx := Bd.exec
  have hby := Bd.bytes
  have hml : c.maxLocals = 8 := hml0
  have hown : s.vm.findClass own_XC = some m.cls := findClass_of_methodNamed Bd.named
  have hnm := (name_of_methodNamed Bd.named Bd.method).1
  have hlk : meth.locks = false := Bd.notSynchronized
  have X0 : Stand p l e ({ frames := 0, cells := 0, slots := 0, locals := 0 } : Room) s m #[(.ref r0)] below meth c s₁ [] 0 0 := Stand.of_body Bd
  have e0 : s₁.heap = h0 := by rw [← hh, Bd.state]; rfl
  have N0 := Fr.nil n0
  have KK0 := Keep.refl h0 [r0]
  show own_Go p.tables e below s 0 0 (Q9c0p2 Z r0 gb wl wr w0 w1 w2 w3 k_gb h0 n0) (s₁.setTop (entryFrame m #[(.ref r0)] 8))
  rw [ef_9c0p2]
  refine own_step (U' := s₁.setTop (mkF m 1 #[rv r0, .unset, .unset, .unset, .unset, .unset, .unset, .unset] [(.ref r0)])) (fun t k => XS.aloadN X0.here hx rfl (hb hby d9_0) rfl rfl k) ?_
  obtain ⟨T1, X1, e1, st1⟩ := getF X0 hx hZ hown (host := "") (Or.inl (own_w hw 73 rfl)) Via.refl e0 F_counted_r0 (g := (mkF m 1 #[rv r0, .unset, .unset, .unset, .unset, .unset, .unset, .unset] [(.ref r0)])) rfl rfl (hb hby d9_1)
  refine own_step (U' := T1.setTop (mkF m 4 #[rv r0, .unset, .unset, .unset, .unset, .unset, .unset, .unset] [(.int (0 : Int32))])) st1 ?_
  refine own_step (U' := T1.setTop (mkF m 6 #[rv r0, iv (0 : Int32), .unset, .unset, .unset, .unset, .unset, .unset] [(.ref r0)])) (fun t k => XS.istoreN X1.here hx rfl (hb hby d9_4) rfl (l' := #[rv r0, iv (0 : Int32), .unset, .unset, .unset, .unset, .unset, .unset]) rfl (XS.aloadN X1.here hx rfl (hb hby d9_5) rfl rfl k)) ?_
  obtain ⟨T2, X2, e2, st2⟩ := getF X1 hx hZ hown (host := "") (Or.inl (own_w hw 57 rfl)) Via.refl e1 F_position_r0 (g := (mkF m 6 #[rv r0, iv (0 : Int32), .unset, .unset, .unset, .unset, .unset, .unset] [(.ref r0)])) rfl rfl (hb hby d9_6)
  refine own_step (U' := T2.setTop (mkF m 9 #[rv r0, iv (0 : Int32), .unset, .unset, .unset, .unset, .unset, .unset] [(.int (2 : Int32))])) st2 ?_
  refine own_step (U' := T2.setTop (mkF m 21 #[rv r0, iv (0 : Int32), iv (2 : Int32), .unset, .unset, .unset, .unset, .unset] [(.ref r0)])) (fun t k => XS.istoreN X2.here hx rfl (hb hby d9_9) rfl (l' := #[rv r0, iv (0 : Int32), iv (2 : Int32), .unset, .unset, .unset, .unset, .unset]) rfl (XS.iloadN X2.here hx rfl (hb hby d9_10) rfl (XS.iloadN X2.here hx rfl (hb hby d9_11) rfl (XS.icmpYes X2.here hx rfl (pc0 := 12) (pc' := 20) rfl (hb hby d9_12) rfl (by decide) (by decide) (by decide) (XS.aloadN X2.here hx rfl (hb hby d9_20) rfl rfl k))))) ?_
  obtain ⟨T3, X3, e3, st3⟩ := getF X2 hx hZ hown (host := "") (Or.inl (own_w hw 40 rfl)) Via.refl e2 F_bytes_r0 (g := (mkF m 21 #[rv r0, iv (0 : Int32), iv (2 : Int32), .unset, .unset, .unset, .unset, .unset] [(.ref r0)])) rfl rfl (hb hby d9_21)
  refine own_step (U' := T3.setTop (mkF m 24 #[rv r0, iv (0 : Int32), iv (2 : Int32), .unset, .unset, .unset, .unset, .unset] [(.ref gb)])) st3 ?_
  refine own_step (U' := T3.setTop (mkF m 29 #[rv r0, iv (0 : Int32), iv (2 : Int32), rv gb, iv (0 : Int32), .unset, .unset, .unset] [(.ref r0)])) (fun t k => XS.astoreN X3.here hx rfl (hb hby d9_24) rfl rfl (l' := #[rv r0, iv (0 : Int32), iv (2 : Int32), rv gb, .unset, .unset, .unset, .unset]) rfl (XS.iconst X3.here hx rfl (hb hby d9_25) (XS.istore X3.here hx rfl (hb hby d9_26) rfl (l' := #[rv r0, iv (0 : Int32), iv (2 : Int32), rv gb, iv (0 : Int32), .unset, .unset, .unset]) rfl (XS.aloadN X3.here hx rfl (hb hby d9_28) rfl rfl k)))) ?_
  obtain ⟨T4, X4, e4, st4⟩ := getF X3 hx hZ hown (host := "") (Or.inl (own_w hw 75 rfl)) Via.refl e3 F_afterCarriageReturn_r0 (g := (mkF m 29 #[rv r0, iv (0 : Int32), iv (2 : Int32), rv gb, iv (0 : Int32), .unset, .unset, .unset] [(.ref r0)])) rfl rfl (hb hby d9_29)
  refine own_step (U' := T4.setTop (mkF m 32 #[rv r0, iv (0 : Int32), iv (2 : Int32), rv gb, iv (0 : Int32), .unset, .unset, .unset] [(.int wr)])) st4 ?_
  obtain ⟨v41_6, hv41_6⟩ : ∃ v : Int32, v = (if wr = (0 : Int32) then (0 : Int32) else (13 : Int32)) := ⟨_, rfl⟩
  have K41_7 : ∀ (T' : State) (locs' : List Loc) (X' : Stand p l e ({ frames := 0, cells := 0, slots := 0, locals := 0 } : Room) s m #[(.ref r0)] below meth c T' locs' 0 0) (N' : Fr n0 locs') (e' : T'.heap = h0), own_Go p.tables e below s 0 0 (Q9c0p2 Z r0 gb wl wr w0 w1 w2 w3 k_gb h0 n0) (T'.setTop (mkF m 41 #[rv r0, iv (0 : Int32), iv (2 : Int32), rv gb, iv (0 : Int32), .unset, .unset, .unset] [(.int v41_6)])) := by
    intro T7 L7 X7 N7 e7
    refine own_step (U' := T7.setTop (mkF m 55 #[rv r0, iv (0 : Int32), iv (2 : Int32), rv gb, iv (0 : Int32), iv v41_6, iv (0 : Int32), .unset] [(.int (0 : Int32)), (.ref gb)])) (fun t k => XS.istore X7.here hx rfl (hb hby d9_41) rfl (l' := #[rv r0, iv (0 : Int32), iv (2 : Int32), rv gb, iv (0 : Int32), iv v41_6, .unset, .unset]) rfl (XS.iloadN X7.here hx rfl (hb hby d9_43) rfl (XS.istore X7.here hx rfl (hb hby d9_44) rfl (l' := #[rv r0, iv (0 : Int32), iv (2 : Int32), rv gb, iv (0 : Int32), iv v41_6, iv (0 : Int32), .unset]) rfl (XS.iload X7.here hx rfl (hb hby d9_46) rfl (XS.iloadN X7.here hx rfl (hb hby d9_48) rfl (XS.icmpNo X7.here hx rfl (hb hby d9_49) rfl (by decide) (XS.aloadN X7.here hx rfl (hb hby d9_52) rfl rfl (XS.iload X7.here hx rfl (hb hby d9_53) rfl k)))))))) ?_
    obtain ⟨cl8, Ar8, aq8, aS8, aN8, aH8, aG8⟩ := id V_gb
    have hin8 : ¬ ((0 : Int32) < 0 ∨ cl8.slots.size ≤ ((0 : Int32)).toNatClampNeg) := inb_of aS8 ⟨by decide, by decide⟩
    have hat8 : cl8.slots[((0 : Int32)).toNatClampNeg]? = some (.int w0) := aH8.at hin8 rfl
    refine own_step (U' := T7.setTop (mkF m 62 #[rv r0, iv (0 : Int32), iv (2 : Int32), rv gb, iv (0 : Int32), iv v41_6, iv (0 : Int32), iv w0] [(.int (13 : Int32)), (.int w0)])) (fun t k => X7.baloadBytes hx (j := (0 : Int32)) (v := (.int w0)) (by rw [e7]; exact Ar8.1) (State.isArrayOf_alike hZ.alike Ar8.2.1) Ar8.2.2 hin8 hat8 (g := (mkF m 55 #[rv r0, iv (0 : Int32), iv (2 : Int32), rv gb, iv (0 : Int32), iv v41_6, iv (0 : Int32), .unset] [(.int (0 : Int32)), (.ref gb)])) rfl rfl (hb hby d9_55) t (XS.istore X7.here hx rfl (hb hby d9_56) rfl (l' := #[rv r0, iv (0 : Int32), iv (2 : Int32), rv gb, iv (0 : Int32), iv v41_6, iv (0 : Int32), iv w0]) rfl (XS.iload X7.here hx rfl (hb hby d9_58) rfl (XS.bipush X7.here hx rfl (hb hby d9_60) k)))) ?_
    obtain ⟨v89_13, hv89_13⟩ : ∃ v : Int32, v = (if (13 : Int32) < w0 then (0 : Int32) else (if w0 = (13 : Int32) then (1 : Int32) else (if w0 = (10 : Int32) then (if v41_6 = (13 : Int32) then (0 : Int32) else (1 : Int32)) else (0 : Int32)))) := ⟨_, rfl⟩
    have K89_14 : ∀ (T' : State) (locs' : List Loc) (X' : Stand p l e ({ frames := 0, cells := 0, slots := 0, locals := 0 } : Room) s m #[(.ref r0)] below meth c T' locs' 0 0) (N' : Fr n0 locs') (e' : T'.heap = h0), own_Go p.tables e below s 0 0 (Q9c0p2 Z r0 gb wl wr w0 w1 w2 w3 k_gb h0 n0) (T'.setTop (mkF m 89 #[rv r0, iv (0 : Int32), iv (2 : Int32), rv gb, iv v89_13, iv v41_6, iv (0 : Int32), iv w0] [])) := by
      intro T14 L14 X14 N14 e14
      refine own_step (U' := T14.setTop (mkF m 53 #[rv r0, iv (0 : Int32), iv (2 : Int32), rv gb, iv v89_13, iv w0, iv (1 : Int32), iv w0] [(.ref gb)])) (fun t k => XS.iload X14.here hx rfl (hb hby d9_89) rfl (XS.istore X14.here hx rfl (hb hby d9_91) rfl (l' := #[rv r0, iv (0 : Int32), iv (2 : Int32), rv gb, iv v89_13, iv w0, iv (0 : Int32), iv w0]) rfl (XS.iinc X14.here hx rfl (hb hby d9_93) rfl (l' := #[rv r0, iv (0 : Int32), iv (2 : Int32), rv gb, iv v89_13, iv w0, iv (1 : Int32), iv w0]) rfl (XS.goto X14.here hx rfl (pc0 := 96) (pc' := 46) rfl (hb hby d9_96) (by decide) (by decide) (XS.iload X14.here hx rfl (hb hby d9_46) rfl (XS.iloadN X14.here hx rfl (hb hby d9_48) rfl (XS.icmpNo X14.here hx rfl (hb hby d9_49) rfl (by decide) (XS.aloadN X14.here hx rfl (hb hby d9_52) rfl rfl k)))))))) ?_
      refine own_step (U' := T14.setTop (mkF m 55 #[rv r0, iv (0 : Int32), iv (2 : Int32), rv gb, iv v89_13, iv w0, iv (1 : Int32), iv w0] [(.int (1 : Int32)), (.ref gb)])) (fun t k => XS.iload X14.here hx rfl (hb hby d9_53) rfl k) ?_
      obtain ⟨cl15, Ar15, aq15, aS15, aN15, aH15, aG15⟩ := id V_gb
      have hin15 : ¬ ((1 : Int32) < 0 ∨ cl15.slots.size ≤ ((1 : Int32)).toNatClampNeg) := inb_of aS15 ⟨by decide, by decide⟩
      have hat15 : cl15.slots[((1 : Int32)).toNatClampNeg]? = some (.int w1) := aH15.at hin15 rfl
      refine own_step (U' := T14.setTop (mkF m 62 #[rv r0, iv (0 : Int32), iv (2 : Int32), rv gb, iv v89_13, iv w0, iv (1 : Int32), iv w1] [(.int (13 : Int32)), (.int w1)])) (fun t k => X14.baloadBytes hx (j := (1 : Int32)) (v := (.int w1)) (by rw [e14]; exact Ar15.1) (State.isArrayOf_alike hZ.alike Ar15.2.1) Ar15.2.2 hin15 hat15 (g := (mkF m 55 #[rv r0, iv (0 : Int32), iv (2 : Int32), rv gb, iv v89_13, iv w0, iv (1 : Int32), iv w0] [(.int (1 : Int32)), (.ref gb)])) rfl rfl (hb hby d9_55) t (XS.istore X14.here hx rfl (hb hby d9_56) rfl (l' := #[rv r0, iv (0 : Int32), iv (2 : Int32), rv gb, iv v89_13, iv w0, iv (1 : Int32), iv w1]) rfl (XS.iload X14.here hx rfl (hb hby d9_58) rfl (XS.bipush X14.here hx rfl (hb hby d9_60) k)))) ?_
      obtain ⟨v89_20, hv89_20⟩ : ∃ v : Int32, v = (if (13 : Int32) < w1 then v89_13 else (if w1 = (13 : Int32) then (v89_13 + (1 : Int32)) else (if w1 = (10 : Int32) then (if w0 = (13 : Int32) then v89_13 else (v89_13 + (1 : Int32))) else v89_13))) := ⟨_, rfl⟩
      have K89_21 : ∀ (T' : State) (locs' : List Loc) (X' : Stand p l e ({ frames := 0, cells := 0, slots := 0, locals := 0 } : Room) s m #[(.ref r0)] below meth c T' locs' 0 0) (N' : Fr n0 locs') (e' : T'.heap = h0), own_Go p.tables e below s 0 0 (Q9c0p2 Z r0 gb wl wr w0 w1 w2 w3 k_gb h0 n0) (T'.setTop (mkF m 89 #[rv r0, iv (0 : Int32), iv (2 : Int32), rv gb, iv v89_20, iv w0, iv (1 : Int32), iv w1] [])) := by
        intro T21 L21 X21 N21 e21
        refine own_step (U' := T21.setTop (mkF m 100 #[rv r0, iv (0 : Int32), iv (2 : Int32), rv gb, iv v89_20, iv w1, iv (2 : Int32), iv w1] [(.ref r0)])) (fun t k => XS.iload X21.here hx rfl (hb hby d9_89) rfl (XS.istore X21.here hx rfl (hb hby d9_91) rfl (l' := #[rv r0, iv (0 : Int32), iv (2 : Int32), rv gb, iv v89_20, iv w1, iv (1 : Int32), iv w1]) rfl (XS.iinc X21.here hx rfl (hb hby d9_93) rfl (l' := #[rv r0, iv (0 : Int32), iv (2 : Int32), rv gb, iv v89_20, iv w1, iv (2 : Int32), iv w1]) rfl (XS.goto X21.here hx rfl (pc0 := 96) (pc' := 46) rfl (hb hby d9_96) (by decide) (by decide) (XS.iload X21.here hx rfl (hb hby d9_46) rfl (XS.iloadN X21.here hx rfl (hb hby d9_48) rfl (XS.icmpYes X21.here hx rfl (pc0 := 49) (pc' := 99) rfl (hb hby d9_49) rfl (by decide) (by decide) (by decide) (XS.aloadN X21.here hx rfl (hb hby d9_99) rfl rfl k)))))))) ?_
        refine own_step (U' := T21.setTop (mkF m 101 #[rv r0, iv (0 : Int32), iv (2 : Int32), rv gb, iv v89_20, iv w1, iv (2 : Int32), iv w1] [(.ref r0), (.ref r0)])) (fun t k => XS.dup X21.here hx rfl (hb hby d9_100) rfl rfl k) ?_
        obtain ⟨T22, X22, e22, st22⟩ := getF X21 hx hZ hown (host := "") (Or.inl (own_w hw 71 rfl)) Via.refl e21 F_line_r0 (g := (mkF m 101 #[rv r0, iv (0 : Int32), iv (2 : Int32), rv gb, iv v89_20, iv w1, iv (2 : Int32), iv w1] [(.ref r0), (.ref r0)])) rfl rfl (hb hby d9_101)
        refine own_step (U' := T22.setTop (mkF m 104 #[rv r0, iv (0 : Int32), iv (2 : Int32), rv gb, iv v89_20, iv w1, iv (2 : Int32), iv w1] [(.int wl), (.ref r0)])) st22 ?_
        refine own_step (U' := T22.setTop (mkF m 107 #[rv r0, iv (0 : Int32), iv (2 : Int32), rv gb, iv v89_20, iv w1, iv (2 : Int32), iv w1] [(.int (wl + v89_20)), (.ref r0)])) (fun t k => XS.iload X22.here hx rfl (hb hby d9_104) rfl (XS.iadd X22.here hx rfl (hb hby d9_106) rfl k)) ?_
        obtain ⟨T23, h23, X23, e23, W23, st23⟩ := putF X22 hx hZ hown (host := "") (Or.inl (own_w hw 71 rfl)) Via.refl e22 F_line_r0 E_r0 (Or.inl (own_w hw 72 rfl)) (own_w hw 11 rfl) (ty := .int) (by decide) rfl rfl (g := (mkF m 107 #[rv r0, iv (0 : Int32), iv (2 : Int32), rv gb, iv v89_20, iv w1, iv (2 : Int32), iv w1] [(.int (wl + v89_20)), (.ref r0)])) rfl rfl (hb hby d9_107)
        have E_r0_23 := E_r0.wr W23
        have F_bytes_r0_23 := F_bytes_r0.other W23 (Or.inr (slot_ne (Or.inl (own_w hw 41 rfl)) (Or.inl (own_w hw 72 rfl)) (by decide) (t := (.array .byte)) (t' := .int) (by decide) (by decide)))
        have F_position_r0_23 := F_position_r0.other W23 (Or.inr (slot_ne (Or.inl (own_w hw 58 rfl)) (Or.inl (own_w hw 72 rfl)) (by decide) (t := .int) (t' := .int) (by decide) (by decide)))
        have F_counted_r0_23 := F_counted_r0.other W23 (Or.inr (slot_ne (Or.inl (own_w hw 74 rfl)) (Or.inl (own_w hw 72 rfl)) (by decide) (t := .int) (t' := .int) (by decide) (by decide)))
        have F_afterCarriageReturn_r0_23 := F_afterCarriageReturn_r0.other W23 (Or.inr (slot_ne (Or.inl (own_w hw 76 rfl)) (Or.inl (own_w hw 72 rfl)) (by decide) (t := .boolean) (t' := .int) (by decide) (by decide)))
        have V_gb_23 := V_gb.other W23 hne
        have F_line_r0_23 := F_line_r0.same W23
        have Z23 : n0 ≤ h23.size := Nat.le_trans Z0 (Keep.of_wr W23).1
        have KK23 := KK0.wr W23 (Or.inl (List.mem_of_getElem? (i := 0) rfl))
        have N23 := Fr.snoc X23 N21 g_r0
        refine own_step (U' := T23.setTop (mkF m 110 #[rv r0, iv (0 : Int32), iv (2 : Int32), rv gb, iv v89_20, iv w1, iv (2 : Int32), iv w1] [])) st23 ?_
        refine own_step (U' := T23.setTop (mkF m 115 #[rv r0, iv (0 : Int32), iv (2 : Int32), rv gb, iv v89_20, iv w1, iv (2 : Int32), iv w1] [(.int (1 : Int32)), (.ref gb), (.ref r0)])) (fun t k => XS.aloadN X23.here hx rfl (hb hby d9_110) rfl rfl (XS.aloadN X23.here hx rfl (hb hby d9_111) rfl rfl (XS.iloadN X23.here hx rfl (hb hby d9_112) rfl (XS.iconst X23.here hx rfl (hb hby d9_113) (XS.isub X23.here hx rfl (hb hby d9_114) rfl k))))) ?_
        obtain ⟨cl24, Ar24, aq24, aS24, aN24, aH24, aG24⟩ := id V_gb_23
        have hin24 : ¬ ((1 : Int32) < 0 ∨ cl24.slots.size ≤ ((1 : Int32)).toNatClampNeg) := inb_of aS24 ⟨by decide, by decide⟩
        have hat24 : cl24.slots[((1 : Int32)).toNatClampNeg]? = some (.int w1) := aH24.at hin24 rfl
        refine own_step (U' := T23.setTop (mkF m 118 #[rv r0, iv (0 : Int32), iv (2 : Int32), rv gb, iv v89_20, iv w1, iv (2 : Int32), iv w1] [(.int (13 : Int32)), (.int w1), (.ref r0)])) (fun t k => X23.baloadBytes hx (j := (1 : Int32)) (v := (.int w1)) (by rw [e23]; exact Ar24.1) (State.isArrayOf_alike hZ.alike Ar24.2.1) Ar24.2.2 hin24 hat24 (g := (mkF m 115 #[rv r0, iv (0 : Int32), iv (2 : Int32), rv gb, iv v89_20, iv w1, iv (2 : Int32), iv w1] [(.int (1 : Int32)), (.ref gb), (.ref r0)])) rfl rfl (hb hby d9_115) t (XS.bipush X23.here hx rfl (hb hby d9_116) k)) ?_
        obtain ⟨v126_26, hv126_26⟩ : ∃ v : Int32, v = (if w1 = (13 : Int32) then (1 : Int32) else (0 : Int32)) := ⟨_, rfl⟩
        have K126_27 : ∀ (T' : State) (locs' : List Loc) (X' : Stand p l e ({ frames := 0, cells := 0, slots := 0, locals := 0 } : Room) s m #[(.ref r0)] below meth c T' locs' 0 0) (N' : Fr n0 locs') (e' : T'.heap = h23), own_Go p.tables e below s 0 0 (Q9c0p2 Z r0 gb wl wr w0 w1 w2 w3 k_gb h0 n0) (T'.setTop (mkF m 126 #[rv r0, iv (0 : Int32), iv (2 : Int32), rv gb, iv v89_20, iv w1, iv (2 : Int32), iv w1] [(.int v126_26), (.ref r0)])) := by
          intro T27 L27 X27 N27 e27
          obtain ⟨T28, h28, X28, e28, W28, st28⟩ := putFN X27 hx hZ hown (own_w hw 75 rfl) Via.refl e27 F_afterCarriageReturn_r0_23 E_r0_23 (Or.inl (own_w hw 76 rfl)) (own_w hw 11 rfl) (ty := .boolean) (v' := (.int (nar .boolean v126_26))) (by decide) rfl (fits_nar_bool _) (g := (mkF m 126 #[rv r0, iv (0 : Int32), iv (2 : Int32), rv gb, iv v89_20, iv w1, iv (2 : Int32), iv w1] [(.int v126_26), (.ref r0)])) rfl rfl (hb hby d9_126)
          have E_r0_28 := E_r0_23.wr W28
          have F_bytes_r0_28 := F_bytes_r0_23.other W28 (Or.inr (slot_ne (Or.inl (own_w hw 41 rfl)) (Or.inl (own_w hw 76 rfl)) (by decide) (t := (.array .byte)) (t' := .boolean) (by decide) (by decide)))
          have F_position_r0_28 := F_position_r0_23.other W28 (Or.inr (slot_ne (Or.inl (own_w hw 58 rfl)) (Or.inl (own_w hw 76 rfl)) (by decide) (t := .int) (t' := .boolean) (by decide) (by decide)))
          have F_line_r0_28 := F_line_r0_23.other W28 (Or.inr (slot_ne (Or.inl (own_w hw 72 rfl)) (Or.inl (own_w hw 76 rfl)) (by decide) (t := .int) (t' := .boolean) (by decide) (by decide)))
          have F_counted_r0_28 := F_counted_r0_23.other W28 (Or.inr (slot_ne (Or.inl (own_w hw 74 rfl)) (Or.inl (own_w hw 76 rfl)) (by decide) (t := .int) (t' := .boolean) (by decide) (by decide)))
          have V_gb_28 := V_gb_23.other W28 hne
          have F_afterCarriageReturn_r0_28 := F_afterCarriageReturn_r0_23.same W28
          have Z28 : n0 ≤ h28.size := Nat.le_trans Z23 (Keep.of_wr W28).1
          have KK28 := KK23.wr W28 (Or.inl (List.mem_of_getElem? (i := 0) rfl))
          have N28 := Fr.snoc X28 N27 g_r0
          refine own_step (U' := T28.setTop (mkF m 129 #[rv r0, iv (0 : Int32), iv (2 : Int32), rv gb, iv v89_20, iv w1, iv (2 : Int32), iv w1] [])) st28 ?_
          refine own_step (U' := T28.setTop (mkF m 131 #[rv r0, iv (0 : Int32), iv (2 : Int32), rv gb, iv v89_20, iv w1, iv (2 : Int32), iv w1] [(.ref r0), (.ref r0)])) (fun t k => XS.aloadN X28.here hx rfl (hb hby d9_129) rfl rfl (XS.aloadN X28.here hx rfl (hb hby d9_130) rfl rfl k)) ?_
          obtain ⟨T29, X29, e29, st29⟩ := getF X28 hx hZ hown (host := "") (Or.inl (own_w hw 75 rfl)) Via.refl e28 F_afterCarriageReturn_r0_28 (g := (mkF m 131 #[rv r0, iv (0 : Int32), iv (2 : Int32), rv gb, iv v89_20, iv w1, iv (2 : Int32), iv w1] [(.ref r0), (.ref r0)])) rfl rfl (hb hby d9_131)
          refine own_step (U' := T29.setTop (mkF m 134 #[rv r0, iv (0 : Int32), iv (2 : Int32), rv gb, iv v89_20, iv w1, iv (2 : Int32), iv w1] [(.int (nar .boolean v126_26)), (.ref r0)])) st29 ?_
          obtain ⟨v152_33, hv152_33⟩ : ∃ v : Int32, v = (if (nar .boolean v126_26) = (0 : Int32) then (if w1 = (10 : Int32) then (1 : Int32) else (0 : Int32)) else (1 : Int32)) := ⟨_, rfl⟩
          have K152_34 : ∀ (T' : State) (locs' : List Loc) (X' : Stand p l e ({ frames := 0, cells := 0, slots := 0, locals := 0 } : Room) s m #[(.ref r0)] below meth c T' locs' 0 0) (N' : Fr n0 locs') (e' : T'.heap = h28), own_Go p.tables e below s 0 0 (Q9c0p2 Z r0 gb wl wr w0 w1 w2 w3 k_gb h0 n0) (T'.setTop (mkF m 152 #[rv r0, iv (0 : Int32), iv (2 : Int32), rv gb, iv v89_20, iv w1, iv (2 : Int32), iv w1] [(.int v152_33), (.ref r0)])) := by
            intro T34 L34 X34 N34 e34
            obtain ⟨u35, Fu35⟩ := own_anyF (O := own_XC) (n := "afterLineEnd") (d := "Z") E_r0_28 F_bytes_r0_28 (own_w hw 11 rfl) (Or.inl (own_w hw 78 rfl))
            obtain ⟨T35, h35, X35, e35, W35, st35⟩ := putFN X34 hx hZ hown (own_w hw 77 rfl) Via.refl e34 Fu35 E_r0_28 (Or.inl (own_w hw 78 rfl)) (own_w hw 11 rfl) (ty := .boolean) (v' := (.int (nar .boolean v152_33))) (by decide) rfl (fits_nar_bool _) (g := (mkF m 152 #[rv r0, iv (0 : Int32), iv (2 : Int32), rv gb, iv v89_20, iv w1, iv (2 : Int32), iv w1] [(.int v152_33), (.ref r0)])) rfl rfl (hb hby d9_152)
            have E_r0_35 := E_r0_28.wr W35
            have F_bytes_r0_35 := F_bytes_r0_28.other W35 (Or.inr (slot_ne (Or.inl (own_w hw 41 rfl)) (Or.inl (own_w hw 78 rfl)) (by decide) (t := (.array .byte)) (t' := .boolean) (by decide) (by decide)))
            have F_position_r0_35 := F_position_r0_28.other W35 (Or.inr (slot_ne (Or.inl (own_w hw 58 rfl)) (Or.inl (own_w hw 78 rfl)) (by decide) (t := .int) (t' := .boolean) (by decide) (by decide)))
            have F_line_r0_35 := F_line_r0_28.other W35 (Or.inr (slot_ne (Or.inl (own_w hw 72 rfl)) (Or.inl (own_w hw 78 rfl)) (by decide) (t := .int) (t' := .boolean) (by decide) (by decide)))
            have F_counted_r0_35 := F_counted_r0_28.other W35 (Or.inr (slot_ne (Or.inl (own_w hw 74 rfl)) (Or.inl (own_w hw 78 rfl)) (by decide) (t := .int) (t' := .boolean) (by decide) (by decide)))
            have F_afterCarriageReturn_r0_35 := F_afterCarriageReturn_r0_28.other W35 (Or.inr (slot_ne (Or.inl (own_w hw 76 rfl)) (Or.inl (own_w hw 78 rfl)) (by decide) (t := .boolean) (t' := .boolean) (by decide) (by decide)))
            have V_gb_35 := V_gb_28.other W35 hne
            have Z35 : n0 ≤ h35.size := Nat.le_trans Z28 (Keep.of_wr W35).1
            have KK35 := KK28.wr W35 (Or.inl (List.mem_of_getElem? (i := 0) rfl))
            have N35 := Fr.snoc X35 N34 g_r0
            refine own_step (U' := T35.setTop (mkF m 155 #[rv r0, iv (0 : Int32), iv (2 : Int32), rv gb, iv v89_20, iv w1, iv (2 : Int32), iv w1] [])) st35 ?_
            refine own_step (U' := T35.setTop (mkF m 157 #[rv r0, iv (0 : Int32), iv (2 : Int32), rv gb, iv v89_20, iv w1, iv (2 : Int32), iv w1] [(.int (2 : Int32)), (.ref r0)])) (fun t k => XS.aloadN X35.here hx rfl (hb hby d9_155) rfl rfl (XS.iloadN X35.here hx rfl (hb hby d9_156) rfl k)) ?_
            obtain ⟨T36, h36, X36, e36, W36, st36⟩ := putF X35 hx hZ hown (host := "") (Or.inl (own_w hw 73 rfl)) Via.refl e35 F_counted_r0_35 E_r0_35 (Or.inl (own_w hw 74 rfl)) (own_w hw 11 rfl) (ty := .int) (by decide) rfl rfl (g := (mkF m 157 #[rv r0, iv (0 : Int32), iv (2 : Int32), rv gb, iv v89_20, iv w1, iv (2 : Int32), iv w1] [(.int (2 : Int32)), (.ref r0)])) rfl rfl (hb hby d9_157)
            have E_r0_36 := E_r0_35.wr W36
            have F_bytes_r0_36 := F_bytes_r0_35.other W36 (Or.inr (slot_ne (Or.inl (own_w hw 41 rfl)) (Or.inl (own_w hw 74 rfl)) (by decide) (t := (.array .byte)) (t' := .int) (by decide) (by decide)))
            have F_position_r0_36 := F_position_r0_35.other W36 (Or.inr (slot_ne (Or.inl (own_w hw 58 rfl)) (Or.inl (own_w hw 74 rfl)) (by decide) (t := .int) (t' := .int) (by decide) (by decide)))
            have F_line_r0_36 := F_line_r0_35.other W36 (Or.inr (slot_ne (Or.inl (own_w hw 72 rfl)) (Or.inl (own_w hw 74 rfl)) (by decide) (t := .int) (t' := .int) (by decide) (by decide)))
            have F_afterCarriageReturn_r0_36 := F_afterCarriageReturn_r0_35.other W36 (Or.inr (slot_ne (Or.inl (own_w hw 76 rfl)) (Or.inl (own_w hw 74 rfl)) (by decide) (t := .boolean) (t' := .int) (by decide) (by decide)))
            have V_gb_36 := V_gb_35.other W36 hne
            have F_counted_r0_36 := F_counted_r0_35.same W36
            have Z36 : n0 ≤ h36.size := Nat.le_trans Z35 (Keep.of_wr W36).1
            have KK36 := KK35.wr W36 (Or.inl (List.mem_of_getElem? (i := 0) rfl))
            have N36 := Fr.snoc X36 N35 g_r0
            refine own_step (U' := T36.setTop (mkF m 160 #[rv r0, iv (0 : Int32), iv (2 : Int32), rv gb, iv v89_20, iv w1, iv (2 : Int32), iv w1] [])) st36 ?_
            refine own_step (U' := T36.setTop (mkF m 161 #[rv r0, iv (0 : Int32), iv (2 : Int32), rv gb, iv v89_20, iv w1, iv (2 : Int32), iv w1] [(.ref r0)])) (fun t k => XS.aloadN X36.here hx rfl (hb hby d9_160) rfl rfl k) ?_
            obtain ⟨T37, X37, e37, st37⟩ := getF X36 hx hZ hown (host := "") (Or.inl (own_w hw 71 rfl)) Via.refl e36 F_line_r0_36 (g := (mkF m 161 #[rv r0, iv (0 : Int32), iv (2 : Int32), rv gb, iv v89_20, iv w1, iv (2 : Int32), iv w1] [(.ref r0)])) rfl rfl (hb hby d9_161)
            refine own_step (U' := T37.setTop (mkF m 164 #[rv r0, iv (0 : Int32), iv (2 : Int32), rv gb, iv v89_20, iv w1, iv (2 : Int32), iv w1] [(.int (wl + v89_20))])) st37 ?_
            exact own_out X37 (v := (some (.int (wl + v89_20)))) hlk (own_nv Bd.returns) (by rw [e37]; exact (by subst hv41_6 hv89_13 hv89_20 hv126_26 hv152_33; exact ⟨rfl, N36, KK36, E_r0_36, F_bytes_r0_36, F_position_r0_36, F_line_r0_36, F_counted_r0_36, F_afterCarriageReturn_r0_36⟩)) (by decide) (by decide) (fun fs hr => retI X37 hx Bd.returns (hb hby d9_164) hr)
          by_cases hc134_38 : (nar .boolean v126_26) = (0 : Int32)
          · refine own_step (U' := T29.setTop (mkF m 141 #[rv r0, iv (0 : Int32), iv (2 : Int32), rv gb, iv v89_20, iv w1, iv (2 : Int32), iv w1] [(.int (1 : Int32)), (.ref gb), (.ref r0)])) (fun t k => XS.ifNo X29.here hx rfl (hb hby d9_134) rfl ((if0 _ _).trans (teq hc134_38).2) (XS.aloadN X29.here hx rfl (hb hby d9_137) rfl rfl (XS.iloadN X29.here hx rfl (hb hby d9_138) rfl (XS.iconst X29.here hx rfl (hb hby d9_139) (XS.isub X29.here hx rfl (hb hby d9_140) rfl k))))) ?_
            obtain ⟨cl39, Ar39, aq39, aS39, aN39, aH39, aG39⟩ := id V_gb_28
            have hin39 : ¬ ((1 : Int32) < 0 ∨ cl39.slots.size ≤ ((1 : Int32)).toNatClampNeg) := inb_of aS39 ⟨by decide, by decide⟩
            have hat39 : cl39.slots[((1 : Int32)).toNatClampNeg]? = some (.int w1) := aH39.at hin39 rfl
            refine own_step (U' := T29.setTop (mkF m 144 #[rv r0, iv (0 : Int32), iv (2 : Int32), rv gb, iv v89_20, iv w1, iv (2 : Int32), iv w1] [(.int (10 : Int32)), (.int w1), (.ref r0)])) (fun t k => X29.baloadBytes hx (j := (1 : Int32)) (v := (.int w1)) (by rw [e29]; exact Ar39.1) (State.isArrayOf_alike hZ.alike Ar39.2.1) Ar39.2.2 hin39 hat39 (g := (mkF m 141 #[rv r0, iv (0 : Int32), iv (2 : Int32), rv gb, iv v89_20, iv w1, iv (2 : Int32), iv w1] [(.int (1 : Int32)), (.ref gb), (.ref r0)])) rfl rfl (hb hby d9_141) t (XS.bipush X29.here hx rfl (hb hby d9_142) k)) ?_
            by_cases hc144_40 : w1 = (10 : Int32)
            · refine own_step (U' := T29.setTop (mkF m 152 #[rv r0, iv (0 : Int32), iv (2 : Int32), rv gb, iv v89_20, iv w1, iv (2 : Int32), iv w1] [(.int (1 : Int32)), (.ref r0)])) (fun t k => XS.icmpNo X29.here hx rfl (hb hby d9_144) rfl (teq hc144_40).2 (XS.iconst X29.here hx rfl (hb hby d9_147) (XS.goto X29.here hx rfl (pc0 := 148) (pc' := 152) rfl (hb hby d9_148) (by decide) (by decide) k))) ?_
              have q_v152_33 : v152_33 = (1 : Int32) := by rw [hv152_33, if_pos hc134_38, if_pos hc144_40]
              rw [q_v152_33] at K152_34
              exact K152_34 _ _ X29 N28 e29
            · refine own_step (U' := T29.setTop (mkF m 152 #[rv r0, iv (0 : Int32), iv (2 : Int32), rv gb, iv v89_20, iv w1, iv (2 : Int32), iv w1] [(.int (0 : Int32)), (.ref r0)])) (fun t k => XS.icmpYes X29.here hx rfl (pc0 := 144) (pc' := 151) rfl (hb hby d9_144) rfl (feq hc144_40).2 (by decide) (by decide) (XS.iconst X29.here hx rfl (hb hby d9_151) k)) ?_
              have q_v152_33 : v152_33 = (0 : Int32) := by rw [hv152_33, if_pos hc134_38, if_neg hc144_40]
              rw [q_v152_33] at K152_34
              exact K152_34 _ _ X29 N28 e29
          · refine own_step (U' := T29.setTop (mkF m 152 #[rv r0, iv (0 : Int32), iv (2 : Int32), rv gb, iv v89_20, iv w1, iv (2 : Int32), iv w1] [(.int (1 : Int32)), (.ref r0)])) (fun t k => XS.ifYes X29.here hx rfl (pc0 := 134) (pc' := 147) rfl (hb hby d9_134) rfl ((if0 _ _).trans (feq hc134_38).2) (by decide) (by decide) (XS.iconst X29.here hx rfl (hb hby d9_147) (XS.goto X29.here hx rfl (pc0 := 148) (pc' := 152) rfl (hb hby d9_148) (by decide) (by decide) k))) ?_
            have q_v152_33 : v152_33 = (1 : Int32) := by rw [hv152_33, if_neg hc134_38]
            rw [q_v152_33] at K152_34
            exact K152_34 _ _ X29 N28 e29
        by_cases hc118_41 : w1 = (13 : Int32)
        · refine own_step (U' := T23.setTop (mkF m 126 #[rv r0, iv (0 : Int32), iv (2 : Int32), rv gb, iv v89_20, iv w1, iv (2 : Int32), iv w1] [(.int (1 : Int32)), (.ref r0)])) (fun t k => XS.icmpNo X23.here hx rfl (hb hby d9_118) rfl (teq hc118_41).2 (XS.iconst X23.here hx rfl (hb hby d9_121) (XS.goto X23.here hx rfl (pc0 := 122) (pc' := 126) rfl (hb hby d9_122) (by decide) (by decide) k))) ?_
          have q_v126_26 : v126_26 = (1 : Int32) := by rw [hv126_26, if_pos hc118_41]
          rw [q_v126_26] at K126_27
          exact K126_27 _ _ X23 N23 e23
        · refine own_step (U' := T23.setTop (mkF m 126 #[rv r0, iv (0 : Int32), iv (2 : Int32), rv gb, iv v89_20, iv w1, iv (2 : Int32), iv w1] [(.int (0 : Int32)), (.ref r0)])) (fun t k => XS.icmpYes X23.here hx rfl (pc0 := 118) (pc' := 125) rfl (hb hby d9_118) rfl (feq hc118_41).2 (by decide) (by decide) (XS.iconst X23.here hx rfl (hb hby d9_125) k)) ?_
          have q_v126_26 : v126_26 = (0 : Int32) := by rw [hv126_26, if_neg hc118_41]
          rw [q_v126_26] at K126_27
          exact K126_27 _ _ X23 N23 e23
      by_cases hc62_42 : (13 : Int32) < w1
      · refine own_step (U' := T14.setTop (mkF m 89 #[rv r0, iv (0 : Int32), iv (2 : Int32), rv gb, iv v89_13, iv w0, iv (1 : Int32), iv w1] [])) (fun t k => XS.icmpYes X14.here hx rfl (pc0 := 62) (pc' := 89) rfl (hb hby d9_62) rfl (tlt hc62_42).2.2.1 (by decide) (by decide) k) ?_
        have q_v89_20 : v89_20 = v89_13 := by rw [hv89_20, if_pos hc62_42]
        rw [q_v89_20] at K89_21
        exact K89_21 _ _ X14 N14 e14
      · refine own_step (U' := T14.setTop (mkF m 69 #[rv r0, iv (0 : Int32), iv (2 : Int32), rv gb, iv v89_13, iv w0, iv (1 : Int32), iv w1] [(.int (13 : Int32)), (.int w1)])) (fun t k => XS.icmpNo X14.here hx rfl (hb hby d9_62) rfl (flt hc62_42).2.2.1 (XS.iload X14.here hx rfl (hb hby d9_65) rfl (XS.bipush X14.here hx rfl (hb hby d9_67) k))) ?_
        by_cases hc69_43 : w1 = (13 : Int32)
        · refine own_step (U' := T14.setTop (mkF m 89 #[rv r0, iv (0 : Int32), iv (2 : Int32), rv gb, iv (v89_13 + (1 : Int32)), iv w0, iv (1 : Int32), iv w1] [])) (fun t k => XS.icmpYes X14.here hx rfl (pc0 := 69) (pc' := 86) rfl (hb hby d9_69) rfl (teq hc69_43).1 (by decide) (by decide) (XS.iinc X14.here hx rfl (hb hby d9_86) rfl (l' := #[rv r0, iv (0 : Int32), iv (2 : Int32), rv gb, iv (v89_13 + (1 : Int32)), iv w0, iv (1 : Int32), iv w1]) rfl k)) ?_
          have q_v89_20 : v89_20 = (v89_13 + (1 : Int32)) := by rw [hv89_20, if_neg hc62_42, if_pos hc69_43]
          rw [q_v89_20] at K89_21
          exact K89_21 _ _ X14 N14 e14
        · refine own_step (U' := T14.setTop (mkF m 76 #[rv r0, iv (0 : Int32), iv (2 : Int32), rv gb, iv v89_13, iv w0, iv (1 : Int32), iv w1] [(.int (10 : Int32)), (.int w1)])) (fun t k => XS.icmpNo X14.here hx rfl (hb hby d9_69) rfl (feq hc69_43).1 (XS.iload X14.here hx rfl (hb hby d9_72) rfl (XS.bipush X14.here hx rfl (hb hby d9_74) k))) ?_
          by_cases hc76_44 : w1 = (10 : Int32)
          · refine own_step (U' := T14.setTop (mkF m 83 #[rv r0, iv (0 : Int32), iv (2 : Int32), rv gb, iv v89_13, iv w0, iv (1 : Int32), iv w1] [(.int (13 : Int32)), (.int w0)])) (fun t k => XS.icmpNo X14.here hx rfl (hb hby d9_76) rfl (teq hc76_44).2 (XS.iload X14.here hx rfl (hb hby d9_79) rfl (XS.bipush X14.here hx rfl (hb hby d9_81) k))) ?_
            by_cases hc83_45 : w0 = (13 : Int32)
            · refine own_step (U' := T14.setTop (mkF m 89 #[rv r0, iv (0 : Int32), iv (2 : Int32), rv gb, iv v89_13, iv w0, iv (1 : Int32), iv w1] [])) (fun t k => XS.icmpYes X14.here hx rfl (pc0 := 83) (pc' := 89) rfl (hb hby d9_83) rfl (teq hc83_45).1 (by decide) (by decide) k) ?_
              have q_v89_20 : v89_20 = v89_13 := by rw [hv89_20, if_neg hc62_42, if_neg hc69_43, if_pos hc76_44, if_pos hc83_45]
              rw [q_v89_20] at K89_21
              exact K89_21 _ _ X14 N14 e14
            · refine own_step (U' := T14.setTop (mkF m 89 #[rv r0, iv (0 : Int32), iv (2 : Int32), rv gb, iv (v89_13 + (1 : Int32)), iv w0, iv (1 : Int32), iv w1] [])) (fun t k => XS.icmpNo X14.here hx rfl (hb hby d9_83) rfl (feq hc83_45).1 (XS.iinc X14.here hx rfl (hb hby d9_86) rfl (l' := #[rv r0, iv (0 : Int32), iv (2 : Int32), rv gb, iv (v89_13 + (1 : Int32)), iv w0, iv (1 : Int32), iv w1]) rfl k)) ?_
              have q_v89_20 : v89_20 = (v89_13 + (1 : Int32)) := by rw [hv89_20, if_neg hc62_42, if_neg hc69_43, if_pos hc76_44, if_neg hc83_45]
              rw [q_v89_20] at K89_21
              exact K89_21 _ _ X14 N14 e14
          · refine own_step (U' := T14.setTop (mkF m 89 #[rv r0, iv (0 : Int32), iv (2 : Int32), rv gb, iv v89_13, iv w0, iv (1 : Int32), iv w1] [])) (fun t k => XS.icmpYes X14.here hx rfl (pc0 := 76) (pc' := 89) rfl (hb hby d9_76) rfl (feq hc76_44).2 (by decide) (by decide) k) ?_
            have q_v89_20 : v89_20 = v89_13 := by rw [hv89_20, if_neg hc62_42, if_neg hc69_43, if_neg hc76_44]
            rw [q_v89_20] at K89_21
            exact K89_21 _ _ X14 N14 e14
    by_cases hc62_46 : (13 : Int32) < w0
    · refine own_step (U' := T7.setTop (mkF m 89 #[rv r0, iv (0 : Int32), iv (2 : Int32), rv gb, iv (0 : Int32), iv v41_6, iv (0 : Int32), iv w0] [])) (fun t k => XS.icmpYes X7.here hx rfl (pc0 := 62) (pc' := 89) rfl (hb hby d9_62) rfl (tlt hc62_46).2.2.1 (by decide) (by decide) k) ?_
      have q_v89_13 : v89_13 = (0 : Int32) := by rw [hv89_13, if_pos hc62_46]
      rw [q_v89_13] at K89_14
      exact K89_14 _ _ X7 N7 e7
    · refine own_step (U' := T7.setTop (mkF m 69 #[rv r0, iv (0 : Int32), iv (2 : Int32), rv gb, iv (0 : Int32), iv v41_6, iv (0 : Int32), iv w0] [(.int (13 : Int32)), (.int w0)])) (fun t k => XS.icmpNo X7.here hx rfl (hb hby d9_62) rfl (flt hc62_46).2.2.1 (XS.iload X7.here hx rfl (hb hby d9_65) rfl (XS.bipush X7.here hx rfl (hb hby d9_67) k))) ?_
      by_cases hc69_47 : w0 = (13 : Int32)
      · refine own_step (U' := T7.setTop (mkF m 89 #[rv r0, iv (0 : Int32), iv (2 : Int32), rv gb, iv (1 : Int32), iv v41_6, iv (0 : Int32), iv w0] [])) (fun t k => XS.icmpYes X7.here hx rfl (pc0 := 69) (pc' := 86) rfl (hb hby d9_69) rfl (teq hc69_47).1 (by decide) (by decide) (XS.iinc X7.here hx rfl (hb hby d9_86) rfl (l' := #[rv r0, iv (0 : Int32), iv (2 : Int32), rv gb, iv (1 : Int32), iv v41_6, iv (0 : Int32), iv w0]) rfl k)) ?_
        have q_v89_13 : v89_13 = (1 : Int32) := by rw [hv89_13, if_neg hc62_46, if_pos hc69_47]
        rw [q_v89_13] at K89_14
        exact K89_14 _ _ X7 N7 e7
      · refine own_step (U' := T7.setTop (mkF m 76 #[rv r0, iv (0 : Int32), iv (2 : Int32), rv gb, iv (0 : Int32), iv v41_6, iv (0 : Int32), iv w0] [(.int (10 : Int32)), (.int w0)])) (fun t k => XS.icmpNo X7.here hx rfl (hb hby d9_69) rfl (feq hc69_47).1 (XS.iload X7.here hx rfl (hb hby d9_72) rfl (XS.bipush X7.here hx rfl (hb hby d9_74) k))) ?_
        by_cases hc76_48 : w0 = (10 : Int32)
        · refine own_step (U' := T7.setTop (mkF m 83 #[rv r0, iv (0 : Int32), iv (2 : Int32), rv gb, iv (0 : Int32), iv v41_6, iv (0 : Int32), iv w0] [(.int (13 : Int32)), (.int v41_6)])) (fun t k => XS.icmpNo X7.here hx rfl (hb hby d9_76) rfl (teq hc76_48).2 (XS.iload X7.here hx rfl (hb hby d9_79) rfl (XS.bipush X7.here hx rfl (hb hby d9_81) k))) ?_
          by_cases hc83_49 : v41_6 = (13 : Int32)
          · refine own_step (U' := T7.setTop (mkF m 89 #[rv r0, iv (0 : Int32), iv (2 : Int32), rv gb, iv (0 : Int32), iv v41_6, iv (0 : Int32), iv w0] [])) (fun t k => XS.icmpYes X7.here hx rfl (pc0 := 83) (pc' := 89) rfl (hb hby d9_83) rfl (teq hc83_49).1 (by decide) (by decide) k) ?_
            have q_v89_13 : v89_13 = (0 : Int32) := by rw [hv89_13, if_neg hc62_46, if_neg hc69_47, if_pos hc76_48, if_pos hc83_49]
            rw [q_v89_13] at K89_14
            exact K89_14 _ _ X7 N7 e7
          · refine own_step (U' := T7.setTop (mkF m 89 #[rv r0, iv (0 : Int32), iv (2 : Int32), rv gb, iv (1 : Int32), iv v41_6, iv (0 : Int32), iv w0] [])) (fun t k => XS.icmpNo X7.here hx rfl (hb hby d9_83) rfl (feq hc83_49).1 (XS.iinc X7.here hx rfl (hb hby d9_86) rfl (l' := #[rv r0, iv (0 : Int32), iv (2 : Int32), rv gb, iv (1 : Int32), iv v41_6, iv (0 : Int32), iv w0]) rfl k)) ?_
            have q_v89_13 : v89_13 = (1 : Int32) := by rw [hv89_13, if_neg hc62_46, if_neg hc69_47, if_pos hc76_48, if_neg hc83_49]
            rw [q_v89_13] at K89_14
            exact K89_14 _ _ X7 N7 e7
        · refine own_step (U' := T7.setTop (mkF m 89 #[rv r0, iv (0 : Int32), iv (2 : Int32), rv gb, iv (0 : Int32), iv v41_6, iv (0 : Int32), iv w0] [])) (fun t k => XS.icmpYes X7.here hx rfl (pc0 := 76) (pc' := 89) rfl (hb hby d9_76) rfl (feq hc76_48).2 (by decide) (by decide) k) ?_
          have q_v89_13 : v89_13 = (0 : Int32) := by rw [hv89_13, if_neg hc62_46, if_neg hc69_47, if_neg hc76_48]
          rw [q_v89_13] at K89_14
          exact K89_14 _ _ X7 N7 e7
  by_cases hc32_50 : wr = (0 : Int32)
  · refine own_step (U' := T4.setTop (mkF m 41 #[rv r0, iv (0 : Int32), iv (2 : Int32), rv gb, iv (0 : Int32), .unset, .unset, .unset] [(.int (0 : Int32))])) (fun t k => XS.ifYes X4.here hx rfl (pc0 := 32) (pc' := 40) rfl (hb hby d9_32) rfl ((if0 _ _).trans (teq hc32_50).1) (by decide) (by decide) (XS.iconst X4.here hx rfl (hb hby d9_40) k)) ?_
    have q_v41_6 : v41_6 = (0 : Int32) := by rw [hv41_6, if_pos hc32_50]
    rw [q_v41_6] at K41_7
    exact K41_7 _ _ X4 N0 e4
  · refine own_step (U' := T4.setTop (mkF m 41 #[rv r0, iv (0 : Int32), iv (2 : Int32), rv gb, iv (0 : Int32), .unset, .unset, .unset] [(.int (13 : Int32))])) (fun t k => XS.ifNo X4.here hx rfl (hb hby d9_32) rfl ((if0 _ _).trans (feq hc32_50).1) (XS.bipush X4.here hx rfl (hb hby d9_35) (XS.goto X4.here hx rfl (pc0 := 37) (pc' := 41) rfl (hb hby d9_37) (by decide) (by decide) k))) ?_
    have q_v41_6 : v41_6 = (13 : Int32) := by rw [hv41_6, if_neg hc32_50]
    rw [q_v41_6] at K41_7
    exact K41_7 _ _ X4 N0 e4
theorem ef_9c1p2 (m : MethodId) (r0 : Addr) : entryFrame m #[(.ref r0)] 8 = mkF m 0 #[rv r0, .unset, .unset, .unset, .unset, .unset, .unset, .unset] [] := by first | (simp [entryFrame, mkF, argsToLocals, Value.category]; done) | rfl
def F9c1p2 (wl : Int32) (wr : Int32) (w0 : Int32) (w1 : Int32) (w2 : Int32) (w3 : Int32) : Int32 :=
  let v41_6 : Int32 := (if wr = (0 : Int32) then (0 : Int32) else (13 : Int32))
  let v89_13 : Int32 := (if (13 : Int32) < w1 then (0 : Int32) else (if w1 = (13 : Int32) then (1 : Int32) else (if w1 = (10 : Int32) then (if v41_6 = (13 : Int32) then (0 : Int32) else (1 : Int32)) else (0 : Int32))))
  let v126_19 : Int32 := (if w1 = (13 : Int32) then (1 : Int32) else (0 : Int32))
  let v152_26 : Int32 := (if (nar .boolean v126_19) = (0 : Int32) then (if w1 = (10 : Int32) then (1 : Int32) else (0 : Int32)) else (1 : Int32))
  (wl + v89_13)
def Q9c1p2 (Z : State) (r0 : Addr) (gb : Addr) (wl : Int32) (wr : Int32) (w0 : Int32) (w1 : Int32) (w2 : Int32) (w3 : Int32) (k_gb : ClassId) (h0 : Heap) (n0 : Nat) (v : Option Value) (h : Heap) (L : List Loc) : Prop := v = some (.int (F9c1p2 wl wr w0 w1 w2 w3)) ∧ Fr n0 L ∧ Keep h0 h [r0] ∧ Exa Z h r0 own_XC ∧ Fld Z h r0 own_XC "bytes" "[B" (.ref gb) ∧ Fld Z h r0 own_XC "position" "I" (.int (2 : Int32)) ∧ Fld Z h r0 own_XC "line" "I" (.int (F9c1p2 wl wr w0 w1 w2 w3)) ∧ Fld Z h r0 own_XC "counted" "I" (.int (2 : Int32)) ∧ Fld Z h r0 own_XC "afterCarriageReturn" "Z" (.int (nar .boolean (if w1 = (13 : Int32) then (1 : Int32) else (0 : Int32))))
set_option maxRecDepth 65536 in
set_option maxHeartbeats 40000000 in
theorem rm9c1p2 (l : Launch) (Z : State) (a0 : Array Value) (hw : ∀ d ∈ tables_1, d.before a0 Z = true) (ws : List Jvm.Cond) (r0 : Addr) (gb : Addr) (wl : Int32) (wr : Int32) (w0 : Int32) (w1 : Int32) (w2 : Int32) (w3 : Int32) (k_gb : ClassId) (h0 : Heap) (n0 : Nat) (Z0 : n0 ≤ h0.size) (E_r0 : Exa Z h0 r0 own_XC) (F_bytes_r0 : Fld Z h0 r0 own_XC "bytes" "[B" (.ref gb)) (F_position_r0 : Fld Z h0 r0 own_XC "position" "I" (.int (2 : Int32))) (F_line_r0 : Fld Z h0 r0 own_XC "line" "I" (.int wl)) (F_counted_r0 : Fld Z h0 r0 own_XC "counted" "I" (.int (1 : Int32))) (F_afterCarriageReturn_r0 : Fld Z h0 r0 own_XC "afterCarriageReturn" "Z" (.int wr)) (g_r0 : n0 ≤ r0) (V_gb : Arv Z h0 gb k_gb .byte (65536 : Int32) [(.int w0), (.int w1), (.int w2), (.int w3)] (.int (0 : Int32))) (hne : gb ≠ r0) :
    MetFree l (⟨own_XC, "line", "()I"⟩ : MethodName) (head1 (Jvm.Cond.code (⟨own_XC, "line", "()I"⟩ : MethodName) prog_148_method_16_code 8 (some .int) :: ws) ({ frames := 0, cells := 0, slots := 0, locals := 0 } : Room)) (fun a U => a = #[(.ref r0)] ∧ Z.Warmed39 U.vm ∧ U.heap = h0) (fun _ _ _ _ _ => True) (fun _ U o U' => ∃ v L, o = .returned v ∧ Q9c1p2 Z r0 gb wl wr w0 w1 w2 w3 k_gb h0 n0 v U'.heap L ∧ FrameEnd U o U' L ({ frames := 0, cells := 0, slots := 0, locals := 0 } : Room).cells ({ frames := 0, cells := 0, slots := 0, locals := 0 } : Room).slots) := by
  refine MetFree.of_bodySF (plainFor_of_name pn_9) hisR ?_
  intro p e s m args below meth c s₁ Bd hml0 hP hK
  obtain ⟨rfl, hZ, hh⟩ := hP
  have hx := Bd.exec
  have hby := Bd.bytes
  have hml : c.maxLocals = 8 := hml0
  have hown : s.vm.findClass own_XC = some m.cls := findClass_of_methodNamed Bd.named
  have hnm := (name_of_methodNamed Bd.named Bd.method).1
  have hlk : meth.locks = false := Bd.notSynchronized
  have X0 : Stand p l e ({ frames := 0, cells := 0, slots := 0, locals := 0 } : Room) s m #[(.ref r0)] below meth c s₁ [] 0 0 := Stand.of_body Bd
  have e0 : s₁.heap = h0 := by rw [← hh, Bd.state]; rfl
  have N0 := Fr.nil n0
  have KK0 := Keep.refl h0 [r0]
  show own_Go p.tables e below s 0 0 (Q9c1p2 Z r0 gb wl wr w0 w1 w2 w3 k_gb h0 n0) (s₁.setTop (entryFrame m #[(.ref r0)] 8))
  rw [ef_9c1p2]
  refine own_step (U' := s₁.setTop (mkF m 1 #[rv r0, .unset, .unset, .unset, .unset, .unset, .unset, .unset] [(.ref r0)])) (fun t k => XS.aloadN X0.here hx rfl (hb hby d9_0) rfl rfl k) ?_
  obtain ⟨T1, X1, e1, st1⟩ := getF X0 hx hZ hown (host := "") (Or.inl (own_w hw 73 rfl)) Via.refl e0 F_counted_r0 (g := (mkF m 1 #[rv r0, .unset, .unset, .unset, .unset, .unset, .unset, .unset] [(.ref r0)])) rfl rfl (hb hby d9_1)
  refine own_step (U' := T1.setTop (mkF m 4 #[rv r0, .unset, .unset, .unset, .unset, .unset, .unset, .unset] [(.int (1 : Int32))])) st1 ?_
  refine own_step (U' := T1.setTop (mkF m 6 #[rv r0, iv (1 : Int32), .unset, .unset, .unset, .unset, .unset, .unset] [(.ref r0)])) (fun t k => XS.istoreN X1.here hx rfl (hb hby d9_4) rfl (l' := #[rv r0, iv (1 : Int32), .unset, .unset, .unset, .unset, .unset, .unset]) rfl (XS.aloadN X1.here hx rfl (hb hby d9_5) rfl rfl k)) ?_
  obtain ⟨T2, X2, e2, st2⟩ := getF X1 hx hZ hown (host := "") (Or.inl (own_w hw 57 rfl)) Via.refl e1 F_position_r0 (g := (mkF m 6 #[rv r0, iv (1 : Int32), .unset, .unset, .unset, .unset, .unset, .unset] [(.ref r0)])) rfl rfl (hb hby d9_6)
  refine own_step (U' := T2.setTop (mkF m 9 #[rv r0, iv (1 : Int32), .unset, .unset, .unset, .unset, .unset, .unset] [(.int (2 : Int32))])) st2 ?_
  refine own_step (U' := T2.setTop (mkF m 21 #[rv r0, iv (1 : Int32), iv (2 : Int32), .unset, .unset, .unset, .unset, .unset] [(.ref r0)])) (fun t k => XS.istoreN X2.here hx rfl (hb hby d9_9) rfl (l' := #[rv r0, iv (1 : Int32), iv (2 : Int32), .unset, .unset, .unset, .unset, .unset]) rfl (XS.iloadN X2.here hx rfl (hb hby d9_10) rfl (XS.iloadN X2.here hx rfl (hb hby d9_11) rfl (XS.icmpYes X2.here hx rfl (pc0 := 12) (pc' := 20) rfl (hb hby d9_12) rfl (by decide) (by decide) (by decide) (XS.aloadN X2.here hx rfl (hb hby d9_20) rfl rfl k))))) ?_
  obtain ⟨T3, X3, e3, st3⟩ := getF X2 hx hZ hown (host := "") (Or.inl (own_w hw 40 rfl)) Via.refl e2 F_bytes_r0 (g := (mkF m 21 #[rv r0, iv (1 : Int32), iv (2 : Int32), .unset, .unset, .unset, .unset, .unset] [(.ref r0)])) rfl rfl (hb hby d9_21)
  refine own_step (U' := T3.setTop (mkF m 24 #[rv r0, iv (1 : Int32), iv (2 : Int32), .unset, .unset, .unset, .unset, .unset] [(.ref gb)])) st3 ?_
  refine own_step (U' := T3.setTop (mkF m 29 #[rv r0, iv (1 : Int32), iv (2 : Int32), rv gb, iv (0 : Int32), .unset, .unset, .unset] [(.ref r0)])) (fun t k => XS.astoreN X3.here hx rfl (hb hby d9_24) rfl rfl (l' := #[rv r0, iv (1 : Int32), iv (2 : Int32), rv gb, .unset, .unset, .unset, .unset]) rfl (XS.iconst X3.here hx rfl (hb hby d9_25) (XS.istore X3.here hx rfl (hb hby d9_26) rfl (l' := #[rv r0, iv (1 : Int32), iv (2 : Int32), rv gb, iv (0 : Int32), .unset, .unset, .unset]) rfl (XS.aloadN X3.here hx rfl (hb hby d9_28) rfl rfl k)))) ?_
  obtain ⟨T4, X4, e4, st4⟩ := getF X3 hx hZ hown (host := "") (Or.inl (own_w hw 75 rfl)) Via.refl e3 F_afterCarriageReturn_r0 (g := (mkF m 29 #[rv r0, iv (1 : Int32), iv (2 : Int32), rv gb, iv (0 : Int32), .unset, .unset, .unset] [(.ref r0)])) rfl rfl (hb hby d9_29)
  refine own_step (U' := T4.setTop (mkF m 32 #[rv r0, iv (1 : Int32), iv (2 : Int32), rv gb, iv (0 : Int32), .unset, .unset, .unset] [(.int wr)])) st4 ?_
  obtain ⟨v41_6, hv41_6⟩ : ∃ v : Int32, v = (if wr = (0 : Int32) then (0 : Int32) else (13 : Int32)) := ⟨_, rfl⟩
  have K41_7 : ∀ (T' : State) (locs' : List Loc) (X' : Stand p l e ({ frames := 0, cells := 0, slots := 0, locals := 0 } : Room) s m #[(.ref r0)] below meth c T' locs' 0 0) (N' : Fr n0 locs') (e' : T'.heap = h0), own_Go p.tables e below s 0 0 (Q9c1p2 Z r0 gb wl wr w0 w1 w2 w3 k_gb h0 n0) (T'.setTop (mkF m 41 #[rv r0, iv (1 : Int32), iv (2 : Int32), rv gb, iv (0 : Int32), .unset, .unset, .unset] [(.int v41_6)])) := by
    intro T7 L7 X7 N7 e7
    refine own_step (U' := T7.setTop (mkF m 55 #[rv r0, iv (1 : Int32), iv (2 : Int32), rv gb, iv (0 : Int32), iv v41_6, iv (1 : Int32), .unset] [(.int (1 : Int32)), (.ref gb)])) (fun t k => XS.istore X7.here hx rfl (hb hby d9_41) rfl (l' := #[rv r0, iv (1 : Int32), iv (2 : Int32), rv gb, iv (0 : Int32), iv v41_6, .unset, .unset]) rfl (XS.iloadN X7.here hx rfl (hb hby d9_43) rfl (XS.istore X7.here hx rfl (hb hby d9_44) rfl (l' := #[rv r0, iv (1 : Int32), iv (2 : Int32), rv gb, iv (0 : Int32), iv v41_6, iv (1 : Int32), .unset]) rfl (XS.iload X7.here hx rfl (hb hby d9_46) rfl (XS.iloadN X7.here hx rfl (hb hby d9_48) rfl (XS.icmpNo X7.here hx rfl (hb hby d9_49) rfl (by decide) (XS.aloadN X7.here hx rfl (hb hby d9_52) rfl rfl (XS.iload X7.here hx rfl (hb hby d9_53) rfl k)))))))) ?_
    obtain ⟨cl8, Ar8, aq8, aS8, aN8, aH8, aG8⟩ := id V_gb
    have hin8 : ¬ ((1 : Int32) < 0 ∨ cl8.slots.size ≤ ((1 : Int32)).toNatClampNeg) := inb_of aS8 ⟨by decide, by decide⟩
    have hat8 : cl8.slots[((1 : Int32)).toNatClampNeg]? = some (.int w1) := aH8.at hin8 rfl
    refine own_step (U' := T7.setTop (mkF m 62 #[rv r0, iv (1 : Int32), iv (2 : Int32), rv gb, iv (0 : Int32), iv v41_6, iv (1 : Int32), iv w1] [(.int (13 : Int32)), (.int w1)])) (fun t k => X7.baloadBytes hx (j := (1 : Int32)) (v := (.int w1)) (by rw [e7]; exact Ar8.1) (State.isArrayOf_alike hZ.alike Ar8.2.1) Ar8.2.2 hin8 hat8 (g := (mkF m 55 #[rv r0, iv (1 : Int32), iv (2 : Int32), rv gb, iv (0 : Int32), iv v41_6, iv (1 : Int32), .unset] [(.int (1 : Int32)), (.ref gb)])) rfl rfl (hb hby d9_55) t (XS.istore X7.here hx rfl (hb hby d9_56) rfl (l' := #[rv r0, iv (1 : Int32), iv (2 : Int32), rv gb, iv (0 : Int32), iv v41_6, iv (1 : Int32), iv w1]) rfl (XS.iload X7.here hx rfl (hb hby d9_58) rfl (XS.bipush X7.here hx rfl (hb hby d9_60) k)))) ?_
    obtain ⟨v89_13, hv89_13⟩ : ∃ v : Int32, v = (if (13 : Int32) < w1 then (0 : Int32) else (if w1 = (13 : Int32) then (1 : Int32) else (if w1 = (10 : Int32) then (if v41_6 = (13 : Int32) then (0 : Int32) else (1 : Int32)) else (0 : Int32)))) := ⟨_, rfl⟩
    have K89_14 : ∀ (T' : State) (locs' : List Loc) (X' : Stand p l e ({ frames := 0, cells := 0, slots := 0, locals := 0 } : Room) s m #[(.ref r0)] below meth c T' locs' 0 0) (N' : Fr n0 locs') (e' : T'.heap = h0), own_Go p.tables e below s 0 0 (Q9c1p2 Z r0 gb wl wr w0 w1 w2 w3 k_gb h0 n0) (T'.setTop (mkF m 89 #[rv r0, iv (1 : Int32), iv (2 : Int32), rv gb, iv v89_13, iv v41_6, iv (1 : Int32), iv w1] [])) := by
      intro T14 L14 X14 N14 e14
      refine own_step (U' := T14.setTop (mkF m 100 #[rv r0, iv (1 : Int32), iv (2 : Int32), rv gb, iv v89_13, iv w1, iv (2 : Int32), iv w1] [(.ref r0)])) (fun t k => XS.iload X14.here hx rfl (hb hby d9_89) rfl (XS.istore X14.here hx rfl (hb hby d9_91) rfl (l' := #[rv r0, iv (1 : Int32), iv (2 : Int32), rv gb, iv v89_13, iv w1, iv (1 : Int32), iv w1]) rfl (XS.iinc X14.here hx rfl (hb hby d9_93) rfl (l' := #[rv r0, iv (1 : Int32), iv (2 : Int32), rv gb, iv v89_13, iv w1, iv (2 : Int32), iv w1]) rfl (XS.goto X14.here hx rfl (pc0 := 96) (pc' := 46) rfl (hb hby d9_96) (by decide) (by decide) (XS.iload X14.here hx rfl (hb hby d9_46) rfl (XS.iloadN X14.here hx rfl (hb hby d9_48) rfl (XS.icmpYes X14.here hx rfl (pc0 := 49) (pc' := 99) rfl (hb hby d9_49) rfl (by decide) (by decide) (by decide) (XS.aloadN X14.here hx rfl (hb hby d9_99) rfl rfl k)))))))) ?_
      refine own_step (U' := T14.setTop (mkF m 101 #[rv r0, iv (1 : Int32), iv (2 : Int32), rv gb, iv v89_13, iv w1, iv (2 : Int32), iv w1] [(.ref r0), (.ref r0)])) (fun t k => XS.dup X14.here hx rfl (hb hby d9_100) rfl rfl k) ?_
      obtain ⟨T15, X15, e15, st15⟩ := getF X14 hx hZ hown (host := "") (Or.inl (own_w hw 71 rfl)) Via.refl e14 F_line_r0 (g := (mkF m 101 #[rv r0, iv (1 : Int32), iv (2 : Int32), rv gb, iv v89_13, iv w1, iv (2 : Int32), iv w1] [(.ref r0), (.ref r0)])) rfl rfl (hb hby d9_101)
      refine own_step (U' := T15.setTop (mkF m 104 #[rv r0, iv (1 : Int32), iv (2 : Int32), rv gb, iv v89_13, iv w1, iv (2 : Int32), iv w1] [(.int wl), (.ref r0)])) st15 ?_
      refine own_step (U' := T15.setTop (mkF m 107 #[rv r0, iv (1 : Int32), iv (2 : Int32), rv gb, iv v89_13, iv w1, iv (2 : Int32), iv w1] [(.int (wl + v89_13)), (.ref r0)])) (fun t k => XS.iload X15.here hx rfl (hb hby d9_104) rfl (XS.iadd X15.here hx rfl (hb hby d9_106) rfl k)) ?_
      obtain ⟨T16, h16, X16, e16, W16, st16⟩ := putF X15 hx hZ hown (host := "") (Or.inl (own_w hw 71 rfl)) Via.refl e15 F_line_r0 E_r0 (Or.inl (own_w hw 72 rfl)) (own_w hw 11 rfl) (ty := .int) (by decide) rfl rfl (g := (mkF m 107 #[rv r0, iv (1 : Int32), iv (2 : Int32), rv gb, iv v89_13, iv w1, iv (2 : Int32), iv w1] [(.int (wl + v89_13)), (.ref r0)])) rfl rfl (hb hby d9_107)
      have E_r0_16 := E_r0.wr W16
      have F_bytes_r0_16 := F_bytes_r0.other W16 (Or.inr (slot_ne (Or.inl (own_w hw 41 rfl)) (Or.inl (own_w hw 72 rfl)) (by decide) (t := (.array .byte)) (t' := .int) (by decide) (by decide)))
      have F_position_r0_16 := F_position_r0.other W16 (Or.inr (slot_ne (Or.inl (own_w hw 58 rfl)) (Or.inl (own_w hw 72 rfl)) (by decide) (t := .int) (t' := .int) (by decide) (by decide)))
      have F_counted_r0_16 := F_counted_r0.other W16 (Or.inr (slot_ne (Or.inl (own_w hw 74 rfl)) (Or.inl (own_w hw 72 rfl)) (by decide) (t := .int) (t' := .int) (by decide) (by decide)))
      have F_afterCarriageReturn_r0_16 := F_afterCarriageReturn_r0.other W16 (Or.inr (slot_ne (Or.inl (own_w hw 76 rfl)) (Or.inl (own_w hw 72 rfl)) (by decide) (t := .boolean) (t' := .int) (by decide) (by decide)))
      have V_gb_16 := V_gb.other W16 hne
      have F_line_r0_16 := F_line_r0.same W16
      have Z16 : n0 ≤ h16.size := Nat.le_trans Z0 (Keep.of_wr W16).1
      have KK16 := KK0.wr W16 (Or.inl (List.mem_of_getElem? (i := 0) rfl))
      have N16 := Fr.snoc X16 N14 g_r0
      refine own_step (U' := T16.setTop (mkF m 110 #[rv r0, iv (1 : Int32), iv (2 : Int32), rv gb, iv v89_13, iv w1, iv (2 : Int32), iv w1] [])) st16 ?_
      refine own_step (U' := T16.setTop (mkF m 115 #[rv r0, iv (1 : Int32), iv (2 : Int32), rv gb, iv v89_13, iv w1, iv (2 : Int32), iv w1] [(.int (1 : Int32)), (.ref gb), (.ref r0)])) (fun t k => XS.aloadN X16.here hx rfl (hb hby d9_110) rfl rfl (XS.aloadN X16.here hx rfl (hb hby d9_111) rfl rfl (XS.iloadN X16.here hx rfl (hb hby d9_112) rfl (XS.iconst X16.here hx rfl (hb hby d9_113) (XS.isub X16.here hx rfl (hb hby d9_114) rfl k))))) ?_
      obtain ⟨cl17, Ar17, aq17, aS17, aN17, aH17, aG17⟩ := id V_gb_16
      have hin17 : ¬ ((1 : Int32) < 0 ∨ cl17.slots.size ≤ ((1 : Int32)).toNatClampNeg) := inb_of aS17 ⟨by decide, by decide⟩
      have hat17 : cl17.slots[((1 : Int32)).toNatClampNeg]? = some (.int w1) := aH17.at hin17 rfl
      refine own_step (U' := T16.setTop (mkF m 118 #[rv r0, iv (1 : Int32), iv (2 : Int32), rv gb, iv v89_13, iv w1, iv (2 : Int32), iv w1] [(.int (13 : Int32)), (.int w1), (.ref r0)])) (fun t k => X16.baloadBytes hx (j := (1 : Int32)) (v := (.int w1)) (by rw [e16]; exact Ar17.1) (State.isArrayOf_alike hZ.alike Ar17.2.1) Ar17.2.2 hin17 hat17 (g := (mkF m 115 #[rv r0, iv (1 : Int32), iv (2 : Int32), rv gb, iv v89_13, iv w1, iv (2 : Int32), iv w1] [(.int (1 : Int32)), (.ref gb), (.ref r0)])) rfl rfl (hb hby d9_115) t (XS.bipush X16.here hx rfl (hb hby d9_116) k)) ?_
      obtain ⟨v126_19, hv126_19⟩ : ∃ v : Int32, v = (if w1 = (13 : Int32) then (1 : Int32) else (0 : Int32)) := ⟨_, rfl⟩
      have K126_20 : ∀ (T' : State) (locs' : List Loc) (X' : Stand p l e ({ frames := 0, cells := 0, slots := 0, locals := 0 } : Room) s m #[(.ref r0)] below meth c T' locs' 0 0) (N' : Fr n0 locs') (e' : T'.heap = h16), own_Go p.tables e below s 0 0 (Q9c1p2 Z r0 gb wl wr w0 w1 w2 w3 k_gb h0 n0) (T'.setTop (mkF m 126 #[rv r0, iv (1 : Int32), iv (2 : Int32), rv gb, iv v89_13, iv w1, iv (2 : Int32), iv w1] [(.int v126_19), (.ref r0)])) := by
        intro T20 L20 X20 N20 e20
        obtain ⟨T21, h21, X21, e21, W21, st21⟩ := putFN X20 hx hZ hown (own_w hw 75 rfl) Via.refl e20 F_afterCarriageReturn_r0_16 E_r0_16 (Or.inl (own_w hw 76 rfl)) (own_w hw 11 rfl) (ty := .boolean) (v' := (.int (nar .boolean v126_19))) (by decide) rfl (fits_nar_bool _) (g := (mkF m 126 #[rv r0, iv (1 : Int32), iv (2 : Int32), rv gb, iv v89_13, iv w1, iv (2 : Int32), iv w1] [(.int v126_19), (.ref r0)])) rfl rfl (hb hby d9_126)
        have E_r0_21 := E_r0_16.wr W21
        have F_bytes_r0_21 := F_bytes_r0_16.other W21 (Or.inr (slot_ne (Or.inl (own_w hw 41 rfl)) (Or.inl (own_w hw 76 rfl)) (by decide) (t := (.array .byte)) (t' := .boolean) (by decide) (by decide)))
        have F_position_r0_21 := F_position_r0_16.other W21 (Or.inr (slot_ne (Or.inl (own_w hw 58 rfl)) (Or.inl (own_w hw 76 rfl)) (by decide) (t := .int) (t' := .boolean) (by decide) (by decide)))
        have F_line_r0_21 := F_line_r0_16.other W21 (Or.inr (slot_ne (Or.inl (own_w hw 72 rfl)) (Or.inl (own_w hw 76 rfl)) (by decide) (t := .int) (t' := .boolean) (by decide) (by decide)))
        have F_counted_r0_21 := F_counted_r0_16.other W21 (Or.inr (slot_ne (Or.inl (own_w hw 74 rfl)) (Or.inl (own_w hw 76 rfl)) (by decide) (t := .int) (t' := .boolean) (by decide) (by decide)))
        have V_gb_21 := V_gb_16.other W21 hne
        have F_afterCarriageReturn_r0_21 := F_afterCarriageReturn_r0_16.same W21
        have Z21 : n0 ≤ h21.size := Nat.le_trans Z16 (Keep.of_wr W21).1
        have KK21 := KK16.wr W21 (Or.inl (List.mem_of_getElem? (i := 0) rfl))
        have N21 := Fr.snoc X21 N20 g_r0
        refine own_step (U' := T21.setTop (mkF m 129 #[rv r0, iv (1 : Int32), iv (2 : Int32), rv gb, iv v89_13, iv w1, iv (2 : Int32), iv w1] [])) st21 ?_
        refine own_step (U' := T21.setTop (mkF m 131 #[rv r0, iv (1 : Int32), iv (2 : Int32), rv gb, iv v89_13, iv w1, iv (2 : Int32), iv w1] [(.ref r0), (.ref r0)])) (fun t k => XS.aloadN X21.here hx rfl (hb hby d9_129) rfl rfl (XS.aloadN X21.here hx rfl (hb hby d9_130) rfl rfl k)) ?_
        obtain ⟨T22, X22, e22, st22⟩ := getF X21 hx hZ hown (host := "") (Or.inl (own_w hw 75 rfl)) Via.refl e21 F_afterCarriageReturn_r0_21 (g := (mkF m 131 #[rv r0, iv (1 : Int32), iv (2 : Int32), rv gb, iv v89_13, iv w1, iv (2 : Int32), iv w1] [(.ref r0), (.ref r0)])) rfl rfl (hb hby d9_131)
        refine own_step (U' := T22.setTop (mkF m 134 #[rv r0, iv (1 : Int32), iv (2 : Int32), rv gb, iv v89_13, iv w1, iv (2 : Int32), iv w1] [(.int (nar .boolean v126_19)), (.ref r0)])) st22 ?_
        obtain ⟨v152_26, hv152_26⟩ : ∃ v : Int32, v = (if (nar .boolean v126_19) = (0 : Int32) then (if w1 = (10 : Int32) then (1 : Int32) else (0 : Int32)) else (1 : Int32)) := ⟨_, rfl⟩
        have K152_27 : ∀ (T' : State) (locs' : List Loc) (X' : Stand p l e ({ frames := 0, cells := 0, slots := 0, locals := 0 } : Room) s m #[(.ref r0)] below meth c T' locs' 0 0) (N' : Fr n0 locs') (e' : T'.heap = h21), own_Go p.tables e below s 0 0 (Q9c1p2 Z r0 gb wl wr w0 w1 w2 w3 k_gb h0 n0) (T'.setTop (mkF m 152 #[rv r0, iv (1 : Int32), iv (2 : Int32), rv gb, iv v89_13, iv w1, iv (2 : Int32), iv w1] [(.int v152_26), (.ref r0)])) := by
          intro T27 L27 X27 N27 e27
          obtain ⟨u28, Fu28⟩ := own_anyF (O := own_XC) (n := "afterLineEnd") (d := "Z") E_r0_21 F_bytes_r0_21 (own_w hw 11 rfl) (Or.inl (own_w hw 78 rfl))
          obtain ⟨T28, h28, X28, e28, W28, st28⟩ := putFN X27 hx hZ hown (own_w hw 77 rfl) Via.refl e27 Fu28 E_r0_21 (Or.inl (own_w hw 78 rfl)) (own_w hw 11 rfl) (ty := .boolean) (v' := (.int (nar .boolean v152_26))) (by decide) rfl (fits_nar_bool _) (g := (mkF m 152 #[rv r0, iv (1 : Int32), iv (2 : Int32), rv gb, iv v89_13, iv w1, iv (2 : Int32), iv w1] [(.int v152_26), (.ref r0)])) rfl rfl (hb hby d9_152)
          have E_r0_28 := E_r0_21.wr W28
          have F_bytes_r0_28 := F_bytes_r0_21.other W28 (Or.inr (slot_ne (Or.inl (own_w hw 41 rfl)) (Or.inl (own_w hw 78 rfl)) (by decide) (t := (.array .byte)) (t' := .boolean) (by decide) (by decide)))
          have F_position_r0_28 := F_position_r0_21.other W28 (Or.inr (slot_ne (Or.inl (own_w hw 58 rfl)) (Or.inl (own_w hw 78 rfl)) (by decide) (t := .int) (t' := .boolean) (by decide) (by decide)))
          have F_line_r0_28 := F_line_r0_21.other W28 (Or.inr (slot_ne (Or.inl (own_w hw 72 rfl)) (Or.inl (own_w hw 78 rfl)) (by decide) (t := .int) (t' := .boolean) (by decide) (by decide)))
          have F_counted_r0_28 := F_counted_r0_21.other W28 (Or.inr (slot_ne (Or.inl (own_w hw 74 rfl)) (Or.inl (own_w hw 78 rfl)) (by decide) (t := .int) (t' := .boolean) (by decide) (by decide)))
          have F_afterCarriageReturn_r0_28 := F_afterCarriageReturn_r0_21.other W28 (Or.inr (slot_ne (Or.inl (own_w hw 76 rfl)) (Or.inl (own_w hw 78 rfl)) (by decide) (t := .boolean) (t' := .boolean) (by decide) (by decide)))
          have V_gb_28 := V_gb_21.other W28 hne
          have Z28 : n0 ≤ h28.size := Nat.le_trans Z21 (Keep.of_wr W28).1
          have KK28 := KK21.wr W28 (Or.inl (List.mem_of_getElem? (i := 0) rfl))
          have N28 := Fr.snoc X28 N27 g_r0
          refine own_step (U' := T28.setTop (mkF m 155 #[rv r0, iv (1 : Int32), iv (2 : Int32), rv gb, iv v89_13, iv w1, iv (2 : Int32), iv w1] [])) st28 ?_
          refine own_step (U' := T28.setTop (mkF m 157 #[rv r0, iv (1 : Int32), iv (2 : Int32), rv gb, iv v89_13, iv w1, iv (2 : Int32), iv w1] [(.int (2 : Int32)), (.ref r0)])) (fun t k => XS.aloadN X28.here hx rfl (hb hby d9_155) rfl rfl (XS.iloadN X28.here hx rfl (hb hby d9_156) rfl k)) ?_
          obtain ⟨T29, h29, X29, e29, W29, st29⟩ := putF X28 hx hZ hown (host := "") (Or.inl (own_w hw 73 rfl)) Via.refl e28 F_counted_r0_28 E_r0_28 (Or.inl (own_w hw 74 rfl)) (own_w hw 11 rfl) (ty := .int) (by decide) rfl rfl (g := (mkF m 157 #[rv r0, iv (1 : Int32), iv (2 : Int32), rv gb, iv v89_13, iv w1, iv (2 : Int32), iv w1] [(.int (2 : Int32)), (.ref r0)])) rfl rfl (hb hby d9_157)
          have E_r0_29 := E_r0_28.wr W29
          have F_bytes_r0_29 := F_bytes_r0_28.other W29 (Or.inr (slot_ne (Or.inl (own_w hw 41 rfl)) (Or.inl (own_w hw 74 rfl)) (by decide) (t := (.array .byte)) (t' := .int) (by decide) (by decide)))
          have F_position_r0_29 := F_position_r0_28.other W29 (Or.inr (slot_ne (Or.inl (own_w hw 58 rfl)) (Or.inl (own_w hw 74 rfl)) (by decide) (t := .int) (t' := .int) (by decide) (by decide)))
          have F_line_r0_29 := F_line_r0_28.other W29 (Or.inr (slot_ne (Or.inl (own_w hw 72 rfl)) (Or.inl (own_w hw 74 rfl)) (by decide) (t := .int) (t' := .int) (by decide) (by decide)))
          have F_afterCarriageReturn_r0_29 := F_afterCarriageReturn_r0_28.other W29 (Or.inr (slot_ne (Or.inl (own_w hw 76 rfl)) (Or.inl (own_w hw 74 rfl)) (by decide) (t := .boolean) (t' := .int) (by decide) (by decide)))
          have V_gb_29 := V_gb_28.other W29 hne
          have F_counted_r0_29 := F_counted_r0_28.same W29
          have Z29 : n0 ≤ h29.size := Nat.le_trans Z28 (Keep.of_wr W29).1
          have KK29 := KK28.wr W29 (Or.inl (List.mem_of_getElem? (i := 0) rfl))
          have N29 := Fr.snoc X29 N28 g_r0
          refine own_step (U' := T29.setTop (mkF m 160 #[rv r0, iv (1 : Int32), iv (2 : Int32), rv gb, iv v89_13, iv w1, iv (2 : Int32), iv w1] [])) st29 ?_
          refine own_step (U' := T29.setTop (mkF m 161 #[rv r0, iv (1 : Int32), iv (2 : Int32), rv gb, iv v89_13, iv w1, iv (2 : Int32), iv w1] [(.ref r0)])) (fun t k => XS.aloadN X29.here hx rfl (hb hby d9_160) rfl rfl k) ?_
          obtain ⟨T30, X30, e30, st30⟩ := getF X29 hx hZ hown (host := "") (Or.inl (own_w hw 71 rfl)) Via.refl e29 F_line_r0_29 (g := (mkF m 161 #[rv r0, iv (1 : Int32), iv (2 : Int32), rv gb, iv v89_13, iv w1, iv (2 : Int32), iv w1] [(.ref r0)])) rfl rfl (hb hby d9_161)
          refine own_step (U' := T30.setTop (mkF m 164 #[rv r0, iv (1 : Int32), iv (2 : Int32), rv gb, iv v89_13, iv w1, iv (2 : Int32), iv w1] [(.int (wl + v89_13))])) st30 ?_
          exact own_out X30 (v := (some (.int (wl + v89_13)))) hlk (own_nv Bd.returns) (by rw [e30]; exact (by subst hv41_6 hv89_13 hv126_19 hv152_26; exact ⟨rfl, N29, KK29, E_r0_29, F_bytes_r0_29, F_position_r0_29, F_line_r0_29, F_counted_r0_29, F_afterCarriageReturn_r0_29⟩)) (by decide) (by decide) (fun fs hr => retI X30 hx Bd.returns (hb hby d9_164) hr)
        by_cases hc134_31 : (nar .boolean v126_19) = (0 : Int32)
        · refine own_step (U' := T22.setTop (mkF m 141 #[rv r0, iv (1 : Int32), iv (2 : Int32), rv gb, iv v89_13, iv w1, iv (2 : Int32), iv w1] [(.int (1 : Int32)), (.ref gb), (.ref r0)])) (fun t k => XS.ifNo X22.here hx rfl (hb hby d9_134) rfl ((if0 _ _).trans (teq hc134_31).2) (XS.aloadN X22.here hx rfl (hb hby d9_137) rfl rfl (XS.iloadN X22.here hx rfl (hb hby d9_138) rfl (XS.iconst X22.here hx rfl (hb hby d9_139) (XS.isub X22.here hx rfl (hb hby d9_140) rfl k))))) ?_
          obtain ⟨cl32, Ar32, aq32, aS32, aN32, aH32, aG32⟩ := id V_gb_21
          have hin32 : ¬ ((1 : Int32) < 0 ∨ cl32.slots.size ≤ ((1 : Int32)).toNatClampNeg) := inb_of aS32 ⟨by decide, by decide⟩
          have hat32 : cl32.slots[((1 : Int32)).toNatClampNeg]? = some (.int w1) := aH32.at hin32 rfl
          refine own_step (U' := T22.setTop (mkF m 144 #[rv r0, iv (1 : Int32), iv (2 : Int32), rv gb, iv v89_13, iv w1, iv (2 : Int32), iv w1] [(.int (10 : Int32)), (.int w1), (.ref r0)])) (fun t k => X22.baloadBytes hx (j := (1 : Int32)) (v := (.int w1)) (by rw [e22]; exact Ar32.1) (State.isArrayOf_alike hZ.alike Ar32.2.1) Ar32.2.2 hin32 hat32 (g := (mkF m 141 #[rv r0, iv (1 : Int32), iv (2 : Int32), rv gb, iv v89_13, iv w1, iv (2 : Int32), iv w1] [(.int (1 : Int32)), (.ref gb), (.ref r0)])) rfl rfl (hb hby d9_141) t (XS.bipush X22.here hx rfl (hb hby d9_142) k)) ?_
          by_cases hc144_33 : w1 = (10 : Int32)
          · refine own_step (U' := T22.setTop (mkF m 152 #[rv r0, iv (1 : Int32), iv (2 : Int32), rv gb, iv v89_13, iv w1, iv (2 : Int32), iv w1] [(.int (1 : Int32)), (.ref r0)])) (fun t k => XS.icmpNo X22.here hx rfl (hb hby d9_144) rfl (teq hc144_33).2 (XS.iconst X22.here hx rfl (hb hby d9_147) (XS.goto X22.here hx rfl (pc0 := 148) (pc' := 152) rfl (hb hby d9_148) (by decide) (by decide) k))) ?_
            have q_v152_26 : v152_26 = (1 : Int32) := by rw [hv152_26, if_pos hc134_31, if_pos hc144_33]
            rw [q_v152_26] at K152_27
            exact K152_27 _ _ X22 N21 e22
          · refine own_step (U' := T22.setTop (mkF m 152 #[rv r0, iv (1 : Int32), iv (2 : Int32), rv gb, iv v89_13, iv w1, iv (2 : Int32), iv w1] [(.int (0 : Int32)), (.ref r0)])) (fun t k => XS.icmpYes X22.here hx rfl (pc0 := 144) (pc' := 151) rfl (hb hby d9_144) rfl (feq hc144_33).2 (by decide) (by decide) (XS.iconst X22.here hx rfl (hb hby d9_151) k)) ?_
            have q_v152_26 : v152_26 = (0 : Int32) := by rw [hv152_26, if_pos hc134_31, if_neg hc144_33]
            rw [q_v152_26] at K152_27
            exact K152_27 _ _ X22 N21 e22
        · refine own_step (U' := T22.setTop (mkF m 152 #[rv r0, iv (1 : Int32), iv (2 : Int32), rv gb, iv v89_13, iv w1, iv (2 : Int32), iv w1] [(.int (1 : Int32)), (.ref r0)])) (fun t k => XS.ifYes X22.here hx rfl (pc0 := 134) (pc' := 147) rfl (hb hby d9_134) rfl ((if0 _ _).trans (feq hc134_31).2) (by decide) (by decide) (XS.iconst X22.here hx rfl (hb hby d9_147) (XS.goto X22.here hx rfl (pc0 := 148) (pc' := 152) rfl (hb hby d9_148) (by decide) (by decide) k))) ?_
          have q_v152_26 : v152_26 = (1 : Int32) := by rw [hv152_26, if_neg hc134_31]
          rw [q_v152_26] at K152_27
          exact K152_27 _ _ X22 N21 e22
      by_cases hc118_34 : w1 = (13 : Int32)
      · refine own_step (U' := T16.setTop (mkF m 126 #[rv r0, iv (1 : Int32), iv (2 : Int32), rv gb, iv v89_13, iv w1, iv (2 : Int32), iv w1] [(.int (1 : Int32)), (.ref r0)])) (fun t k => XS.icmpNo X16.here hx rfl (hb hby d9_118) rfl (teq hc118_34).2 (XS.iconst X16.here hx rfl (hb hby d9_121) (XS.goto X16.here hx rfl (pc0 := 122) (pc' := 126) rfl (hb hby d9_122) (by decide) (by decide) k))) ?_
        have q_v126_19 : v126_19 = (1 : Int32) := by rw [hv126_19, if_pos hc118_34]
        rw [q_v126_19] at K126_20
        exact K126_20 _ _ X16 N16 e16
      · refine own_step (U' := T16.setTop (mkF m 126 #[rv r0, iv (1 : Int32), iv (2 : Int32), rv gb, iv v89_13, iv w1, iv (2 : Int32), iv w1] [(.int (0 : Int32)), (.ref r0)])) (fun t k => XS.icmpYes X16.here hx rfl (pc0 := 118) (pc' := 125) rfl (hb hby d9_118) rfl (feq hc118_34).2 (by decide) (by decide) (XS.iconst X16.here hx rfl (hb hby d9_125) k)) ?_
        have q_v126_19 : v126_19 = (0 : Int32) := by rw [hv126_19, if_neg hc118_34]
        rw [q_v126_19] at K126_20
        exact K126_20 _ _ X16 N16 e16
    by_cases hc62_35 : (13 : Int32) < w1
    · refine own_step (U' := T7.setTop (mkF m 89 #[rv r0, iv (1 : Int32), iv (2 : Int32), rv gb, iv (0 : Int32), iv v41_6, iv (1 : Int32), iv w1] [])) (fun t k => XS.icmpYes X7.here hx rfl (pc0 := 62) (pc' := 89) rfl (hb hby d9_62) rfl (tlt hc62_35).2.2.1 (by decide) (by decide) k) ?_
      have q_v89_13 : v89_13 = (0 : Int32) := by rw [hv89_13, if_pos hc62_35]
      rw [q_v89_13] at K89_14
      exact K89_14 _ _ X7 N7 e7
    · refine own_step (U' := T7.setTop (mkF m 69 #[rv r0, iv (1 : Int32), iv (2 : Int32), rv gb, iv (0 : Int32), iv v41_6, iv (1 : Int32), iv w1] [(.int (13 : Int32)), (.int w1)])) (fun t k => XS.icmpNo X7.here hx rfl (hb hby d9_62) rfl (flt hc62_35).2.2.1 (XS.iload X7.here hx rfl (hb hby d9_65) rfl (XS.bipush X7.here hx rfl (hb hby d9_67) k))) ?_
      by_cases hc69_36 : w1 = (13 : Int32)
      · refine own_step (U' := T7.setTop (mkF m 89 #[rv r0, iv (1 : Int32), iv (2 : Int32), rv gb, iv (1 : Int32), iv v41_6, iv (1 : Int32), iv w1] [])) (fun t k => XS.icmpYes X7.here hx rfl (pc0 := 69) (pc' := 86) rfl (hb hby d9_69) rfl (teq hc69_36).1 (by decide) (by decide) (XS.iinc X7.here hx rfl (hb hby d9_86) rfl (l' := #[rv r0, iv (1 : Int32), iv (2 : Int32), rv gb, iv (1 : Int32), iv v41_6, iv (1 : Int32), iv w1]) rfl k)) ?_
        have q_v89_13 : v89_13 = (1 : Int32) := by rw [hv89_13, if_neg hc62_35, if_pos hc69_36]
        rw [q_v89_13] at K89_14
        exact K89_14 _ _ X7 N7 e7
      · refine own_step (U' := T7.setTop (mkF m 76 #[rv r0, iv (1 : Int32), iv (2 : Int32), rv gb, iv (0 : Int32), iv v41_6, iv (1 : Int32), iv w1] [(.int (10 : Int32)), (.int w1)])) (fun t k => XS.icmpNo X7.here hx rfl (hb hby d9_69) rfl (feq hc69_36).1 (XS.iload X7.here hx rfl (hb hby d9_72) rfl (XS.bipush X7.here hx rfl (hb hby d9_74) k))) ?_
        by_cases hc76_37 : w1 = (10 : Int32)
        · refine own_step (U' := T7.setTop (mkF m 83 #[rv r0, iv (1 : Int32), iv (2 : Int32), rv gb, iv (0 : Int32), iv v41_6, iv (1 : Int32), iv w1] [(.int (13 : Int32)), (.int v41_6)])) (fun t k => XS.icmpNo X7.here hx rfl (hb hby d9_76) rfl (teq hc76_37).2 (XS.iload X7.here hx rfl (hb hby d9_79) rfl (XS.bipush X7.here hx rfl (hb hby d9_81) k))) ?_
          by_cases hc83_38 : v41_6 = (13 : Int32)
          · refine own_step (U' := T7.setTop (mkF m 89 #[rv r0, iv (1 : Int32), iv (2 : Int32), rv gb, iv (0 : Int32), iv v41_6, iv (1 : Int32), iv w1] [])) (fun t k => XS.icmpYes X7.here hx rfl (pc0 := 83) (pc' := 89) rfl (hb hby d9_83) rfl (teq hc83_38).1 (by decide) (by decide) k) ?_
            have q_v89_13 : v89_13 = (0 : Int32) := by rw [hv89_13, if_neg hc62_35, if_neg hc69_36, if_pos hc76_37, if_pos hc83_38]
            rw [q_v89_13] at K89_14
            exact K89_14 _ _ X7 N7 e7
          · refine own_step (U' := T7.setTop (mkF m 89 #[rv r0, iv (1 : Int32), iv (2 : Int32), rv gb, iv (1 : Int32), iv v41_6, iv (1 : Int32), iv w1] [])) (fun t k => XS.icmpNo X7.here hx rfl (hb hby d9_83) rfl (feq hc83_38).1 (XS.iinc X7.here hx rfl (hb hby d9_86) rfl (l' := #[rv r0, iv (1 : Int32), iv (2 : Int32), rv gb, iv (1 : Int32), iv v41_6, iv (1 : Int32), iv w1]) rfl k)) ?_
            have q_v89_13 : v89_13 = (1 : Int32) := by rw [hv89_13, if_neg hc62_35, if_neg hc69_36, if_pos hc76_37, if_neg hc83_38]
            rw [q_v89_13] at K89_14
            exact K89_14 _ _ X7 N7 e7
        · refine own_step (U' := T7.setTop (mkF m 89 #[rv r0, iv (1 : Int32), iv (2 : Int32), rv gb, iv (0 : Int32), iv v41_6, iv (1 : Int32), iv w1] [])) (fun t k => XS.icmpYes X7.here hx rfl (pc0 := 76) (pc' := 89) rfl (hb hby d9_76) rfl (feq hc76_37).2 (by decide) (by decide) k) ?_
          have q_v89_13 : v89_13 = (0 : Int32) := by rw [hv89_13, if_neg hc62_35, if_neg hc69_36, if_neg hc76_37]
          rw [q_v89_13] at K89_14
          exact K89_14 _ _ X7 N7 e7
  by_cases hc32_39 : wr = (0 : Int32)
  · refine own_step (U' := T4.setTop (mkF m 41 #[rv r0, iv (1 : Int32), iv (2 : Int32), rv gb, iv (0 : Int32), .unset, .unset, .unset] [(.int (0 : Int32))])) (fun t k => XS.ifYes X4.here hx rfl (pc0 := 32) (pc' := 40) rfl (hb hby d9_32) rfl ((if0 _ _).trans (teq hc32_39).1) (by decide) (by decide) (XS.iconst X4.here hx rfl (hb hby d9_40) k)) ?_
    have q_v41_6 : v41_6 = (0 : Int32) := by rw [hv41_6, if_pos hc32_39]
    rw [q_v41_6] at K41_7
    exact K41_7 _ _ X4 N0 e4
  · refine own_step (U' := T4.setTop (mkF m 41 #[rv r0, iv (1 : Int32), iv (2 : Int32), rv gb, iv (0 : Int32), .unset, .unset, .unset] [(.int (13 : Int32))])) (fun t k => XS.ifNo X4.here hx rfl (hb hby d9_32) rfl ((if0 _ _).trans (feq hc32_39).1) (XS.bipush X4.here hx rfl (hb hby d9_35) (XS.goto X4.here hx rfl (pc0 := 37) (pc' := 41) rfl (hb hby d9_37) (by decide) (by decide) k))) ?_
    have q_v41_6 : v41_6 = (13 : Int32) := by rw [hv41_6, if_neg hc32_39]
    rw [q_v41_6] at K41_7
    exact K41_7 _ _ X4 N0 e4
theorem ef_9c2p2 (m : MethodId) (r0 : Addr) : entryFrame m #[(.ref r0)] 8 = mkF m 0 #[rv r0, .unset, .unset, .unset, .unset, .unset, .unset, .unset] [] := by first | (simp [entryFrame, mkF, argsToLocals, Value.category]; done) | rfl
def F9c2p2 (wl : Int32) (wr : Int32) (w0 : Int32) (w1 : Int32) (w2 : Int32) (w3 : Int32) : Int32 :=
  wl
def Q9c2p2 (Z : State) (r0 : Addr) (gb : Addr) (wl : Int32) (wr : Int32) (w0 : Int32) (w1 : Int32) (w2 : Int32) (w3 : Int32) (k_gb : ClassId) (h0 : Heap) (n0 : Nat) (v : Option Value) (h : Heap) (L : List Loc) : Prop := v = some (.int (F9c2p2 wl wr w0 w1 w2 w3)) ∧ Fr n0 L ∧ Keep h0 h [r0] ∧ Exa Z h r0 own_XC ∧ Fld Z h r0 own_XC "bytes" "[B" (.ref gb) ∧ Fld Z h r0 own_XC "position" "I" (.int (2 : Int32)) ∧ Fld Z h r0 own_XC "line" "I" (.int wl) ∧ Fld Z h r0 own_XC "counted" "I" (.int (2 : Int32)) ∧ Fld Z h r0 own_XC "afterCarriageReturn" "Z" (.int wr)
set_option maxRecDepth 65536 in
set_option maxHeartbeats 40000000 in
theorem rm9c2p2 (l : Launch) (Z : State) (a0 : Array Value) (hw : ∀ d ∈ tables_1, d.before a0 Z = true) (ws : List Jvm.Cond) (r0 : Addr) (gb : Addr) (wl : Int32) (wr : Int32) (w0 : Int32) (w1 : Int32) (w2 : Int32) (w3 : Int32) (k_gb : ClassId) (h0 : Heap) (n0 : Nat) (Z0 : n0 ≤ h0.size) (E_r0 : Exa Z h0 r0 own_XC) (F_bytes_r0 : Fld Z h0 r0 own_XC "bytes" "[B" (.ref gb)) (F_position_r0 : Fld Z h0 r0 own_XC "position" "I" (.int (2 : Int32))) (F_line_r0 : Fld Z h0 r0 own_XC "line" "I" (.int wl)) (F_counted_r0 : Fld Z h0 r0 own_XC "counted" "I" (.int (2 : Int32))) (F_afterCarriageReturn_r0 : Fld Z h0 r0 own_XC "afterCarriageReturn" "Z" (.int wr)) (g_r0 : n0 ≤ r0) (V_gb : Arv Z h0 gb k_gb .byte (65536 : Int32) [(.int w0), (.int w1), (.int w2), (.int w3)] (.int (0 : Int32))) (hne : gb ≠ r0) :
    MetFree l (⟨own_XC, "line", "()I"⟩ : MethodName) (head1 (Jvm.Cond.code (⟨own_XC, "line", "()I"⟩ : MethodName) prog_148_method_16_code 8 (some .int) :: ws) ({ frames := 0, cells := 0, slots := 0, locals := 0 } : Room)) (fun a U => a = #[(.ref r0)] ∧ Z.Warmed39 U.vm ∧ U.heap = h0) (fun _ _ _ _ _ => True) (fun _ U o U' => ∃ v L, o = .returned v ∧ Q9c2p2 Z r0 gb wl wr w0 w1 w2 w3 k_gb h0 n0 v U'.heap L ∧ FrameEnd U o U' L ({ frames := 0, cells := 0, slots := 0, locals := 0 } : Room).cells ({ frames := 0, cells := 0, slots := 0, locals := 0 } : Room).slots) := by
  refine MetFree.of_bodySF (plainFor_of_name pn_9) hisR ?_
  intro p e s m args below meth c s₁ Bd hml0 hP hK
  obtain ⟨rfl, hZ, hh⟩ := hP
  have hx := Bd.exec
  have hby := Bd.bytes
  have hml : c.maxLocals = 8 := hml0
  have hown : s.vm.findClass own_XC = some m.cls := findClass_of_methodNamed Bd.named
  have hnm := (name_of_methodNamed Bd.named Bd.method).1
  have hlk : meth.locks = false := Bd.notSynchronized
  have X0 : Stand p l e ({ frames := 0, cells := 0, slots := 0, locals := 0 } : Room) s m #[(.ref r0)] below meth c s₁ [] 0 0 := Stand.of_body Bd
  have e0 : s₁.heap = h0 := by rw [← hh, Bd.state]; rfl
  have N0 := Fr.nil n0
  have KK0 := Keep.refl h0 [r0]
  show own_Go p.tables e below s 0 0 (Q9c2p2 Z r0 gb wl wr w0 w1 w2 w3 k_gb h0 n0) (s₁.setTop (entryFrame m #[(.ref r0)] 8))
  rw [ef_9c2p2]
  refine own_step (U' := s₁.setTop (mkF m 1 #[rv r0, .unset, .unset, .unset, .unset, .unset, .unset, .unset] [(.ref r0)])) (fun t k => XS.aloadN X0.here hx rfl (hb hby d9_0) rfl rfl k) ?_
  obtain ⟨T1, X1, e1, st1⟩ := getF X0 hx hZ hown (host := "") (Or.inl (own_w hw 73 rfl)) Via.refl e0 F_counted_r0 (g := (mkF m 1 #[rv r0, .unset, .unset, .unset, .unset, .unset, .unset, .unset] [(.ref r0)])) rfl rfl (hb hby d9_1)
  refine own_step (U' := T1.setTop (mkF m 4 #[rv r0, .unset, .unset, .unset, .unset, .unset, .unset, .unset] [(.int (2 : Int32))])) st1 ?_
  refine own_step (U' := T1.setTop (mkF m 6 #[rv r0, iv (2 : Int32), .unset, .unset, .unset, .unset, .unset, .unset] [(.ref r0)])) (fun t k => XS.istoreN X1.here hx rfl (hb hby d9_4) rfl (l' := #[rv r0, iv (2 : Int32), .unset, .unset, .unset, .unset, .unset, .unset]) rfl (XS.aloadN X1.here hx rfl (hb hby d9_5) rfl rfl k)) ?_
  obtain ⟨T2, X2, e2, st2⟩ := getF X1 hx hZ hown (host := "") (Or.inl (own_w hw 57 rfl)) Via.refl e1 F_position_r0 (g := (mkF m 6 #[rv r0, iv (2 : Int32), .unset, .unset, .unset, .unset, .unset, .unset] [(.ref r0)])) rfl rfl (hb hby d9_6)
  refine own_step (U' := T2.setTop (mkF m 9 #[rv r0, iv (2 : Int32), .unset, .unset, .unset, .unset, .unset, .unset] [(.int (2 : Int32))])) st2 ?_
  refine own_step (U' := T2.setTop (mkF m 16 #[rv r0, iv (2 : Int32), iv (2 : Int32), .unset, .unset, .unset, .unset, .unset] [(.ref r0)])) (fun t k => XS.istoreN X2.here hx rfl (hb hby d9_9) rfl (l' := #[rv r0, iv (2 : Int32), iv (2 : Int32), .unset, .unset, .unset, .unset, .unset]) rfl (XS.iloadN X2.here hx rfl (hb hby d9_10) rfl (XS.iloadN X2.here hx rfl (hb hby d9_11) rfl (XS.icmpNo X2.here hx rfl (hb hby d9_12) rfl (by decide) (XS.aloadN X2.here hx rfl (hb hby d9_15) rfl rfl k))))) ?_
  obtain ⟨T3, X3, e3, st3⟩ := getF X2 hx hZ hown (host := "") (Or.inl (own_w hw 71 rfl)) Via.refl e2 F_line_r0 (g := (mkF m 16 #[rv r0, iv (2 : Int32), iv (2 : Int32), .unset, .unset, .unset, .unset, .unset] [(.ref r0)])) rfl rfl (hb hby d9_16)
  refine own_step (U' := T3.setTop (mkF m 19 #[rv r0, iv (2 : Int32), iv (2 : Int32), .unset, .unset, .unset, .unset, .unset] [(.int wl)])) st3 ?_
  exact own_out X3 (v := (some (.int wl))) hlk (own_nv Bd.returns) (by rw [e3]; exact ⟨by rw [show (F9c2p2 wl wr w0 w1 w2 w3) = wl from (by simp only [F9c2p2])], N0, KK0, E_r0, F_bytes_r0, F_position_r0, F_line_r0, F_counted_r0, F_afterCarriageReturn_r0⟩) (by decide) (by decide) (fun fs hr => retI X3 hx Bd.returns (hb hby d9_19) hr)
theorem ef_9c0p1 (m : MethodId) (r0 : Addr) : entryFrame m #[(.ref r0)] 8 = mkF m 0 #[rv r0, .unset, .unset, .unset, .unset, .unset, .unset, .unset] [] := by first | (simp [entryFrame, mkF, argsToLocals, Value.category]; done) | rfl
def F9c0p1 (wl : Int32) (wr : Int32) (w0 : Int32) (w1 : Int32) (w2 : Int32) (w3 : Int32) : Int32 :=
  let v41_6 : Int32 := (if wr = (0 : Int32) then (0 : Int32) else (13 : Int32))
  let v89_13 : Int32 := (if (13 : Int32) < w0 then (0 : Int32) else (if w0 = (13 : Int32) then (1 : Int32) else (if w0 = (10 : Int32) then (if v41_6 = (13 : Int32) then (0 : Int32) else (1 : Int32)) else (0 : Int32))))
  let v126_19 : Int32 := (if w0 = (13 : Int32) then (1 : Int32) else (0 : Int32))
  let v152_26 : Int32 := (if (nar .boolean v126_19) = (0 : Int32) then (if w0 = (10 : Int32) then (1 : Int32) else (0 : Int32)) else (1 : Int32))
  (wl + v89_13)
def Q9c0p1 (Z : State) (r0 : Addr) (gb : Addr) (wl : Int32) (wr : Int32) (w0 : Int32) (w1 : Int32) (w2 : Int32) (w3 : Int32) (k_gb : ClassId) (h0 : Heap) (n0 : Nat) (v : Option Value) (h : Heap) (L : List Loc) : Prop := v = some (.int (F9c0p1 wl wr w0 w1 w2 w3)) ∧ Fr n0 L ∧ Keep h0 h [r0] ∧ Exa Z h r0 own_XC ∧ Fld Z h r0 own_XC "bytes" "[B" (.ref gb) ∧ Fld Z h r0 own_XC "position" "I" (.int (1 : Int32)) ∧ Fld Z h r0 own_XC "line" "I" (.int (F9c0p1 wl wr w0 w1 w2 w3)) ∧ Fld Z h r0 own_XC "counted" "I" (.int (1 : Int32)) ∧ Fld Z h r0 own_XC "afterCarriageReturn" "Z" (.int (nar .boolean (if w0 = (13 : Int32) then (1 : Int32) else (0 : Int32))))
set_option maxRecDepth 65536 in
set_option maxHeartbeats 40000000 in
theorem rm9c0p1 (l : Launch) (Z : State) (a0 : Array Value) (hw : ∀ d ∈ tables_1, d.before a0 Z = true) (ws : List Jvm.Cond) (r0 : Addr) (gb : Addr) (wl : Int32) (wr : Int32) (w0 : Int32) (w1 : Int32) (w2 : Int32) (w3 : Int32) (k_gb : ClassId) (h0 : Heap) (n0 : Nat) (Z0 : n0 ≤ h0.size) (E_r0 : Exa Z h0 r0 own_XC) (F_bytes_r0 : Fld Z h0 r0 own_XC "bytes" "[B" (.ref gb)) (F_position_r0 : Fld Z h0 r0 own_XC "position" "I" (.int (1 : Int32))) (F_line_r0 : Fld Z h0 r0 own_XC "line" "I" (.int wl)) (F_counted_r0 : Fld Z h0 r0 own_XC "counted" "I" (.int (0 : Int32))) (F_afterCarriageReturn_r0 : Fld Z h0 r0 own_XC "afterCarriageReturn" "Z" (.int wr)) (g_r0 : n0 ≤ r0) (V_gb : Arv Z h0 gb k_gb .byte (65536 : Int32) [(.int w0), (.int w1), (.int w2), (.int w3)] (.int (0 : Int32))) (hne : gb ≠ r0) :
    MetFree l (⟨own_XC, "line", "()I"⟩ : MethodName) (head1 (Jvm.Cond.code (⟨own_XC, "line", "()I"⟩ : MethodName) prog_148_method_16_code 8 (some .int) :: ws) ({ frames := 0, cells := 0, slots := 0, locals := 0 } : Room)) (fun a U => a = #[(.ref r0)] ∧ Z.Warmed39 U.vm ∧ U.heap = h0) (fun _ _ _ _ _ => True) (fun _ U o U' => ∃ v L, o = .returned v ∧ Q9c0p1 Z r0 gb wl wr w0 w1 w2 w3 k_gb h0 n0 v U'.heap L ∧ FrameEnd U o U' L ({ frames := 0, cells := 0, slots := 0, locals := 0 } : Room).cells ({ frames := 0, cells := 0, slots := 0, locals := 0 } : Room).slots) := by
  refine MetFree.of_bodySF (plainFor_of_name pn_9) hisR ?_
  intro p e s m args below meth c s₁ Bd hml0 hP hK
  obtain ⟨rfl, hZ, hh⟩ := hP
  have hx := Bd.exec
  have hby := Bd.bytes
  have hml : c.maxLocals = 8 := hml0
  have hown : s.vm.findClass own_XC = some m.cls := findClass_of_methodNamed Bd.named
  have hnm := (name_of_methodNamed Bd.named Bd.method).1
  have hlk : meth.locks = false := Bd.notSynchronized
  have X0 : Stand p l e ({ frames := 0, cells := 0, slots := 0, locals := 0 } : Room) s m #[(.ref r0)] below meth c s₁ [] 0 0 := Stand.of_body Bd
  have e0 : s₁.heap = h0 := by rw [← hh, Bd.state]; rfl
  have N0 := Fr.nil n0
  have KK0 := Keep.refl h0 [r0]
  show own_Go p.tables e below s 0 0 (Q9c0p1 Z r0 gb wl wr w0 w1 w2 w3 k_gb h0 n0) (s₁.setTop (entryFrame m #[(.ref r0)] 8))
  rw [ef_9c0p1]
  refine own_step (U' := s₁.setTop (mkF m 1 #[rv r0, .unset, .unset, .unset, .unset, .unset, .unset, .unset] [(.ref r0)])) (fun t k => XS.aloadN X0.here hx rfl (hb hby d9_0) rfl rfl k) ?_
  obtain ⟨T1, X1, e1, st1⟩ := getF X0 hx hZ hown (host := "") (Or.inl (own_w hw 73 rfl)) Via.refl e0 F_counted_r0 (g := (mkF m 1 #[rv r0, .unset, .unset, .unset, .unset, .unset, .unset, .unset] [(.ref r0)])) rfl rfl (hb hby d9_1)
  refine own_step (U' := T1.setTop (mkF m 4 #[rv r0, .unset, .unset, .unset, .unset, .unset, .unset, .unset] [(.int (0 : Int32))])) st1 ?_
  refine own_step (U' := T1.setTop (mkF m 6 #[rv r0, iv (0 : Int32), .unset, .unset, .unset, .unset, .unset, .unset] [(.ref r0)])) (fun t k => XS.istoreN X1.here hx rfl (hb hby d9_4) rfl (l' := #[rv r0, iv (0 : Int32), .unset, .unset, .unset, .unset, .unset, .unset]) rfl (XS.aloadN X1.here hx rfl (hb hby d9_5) rfl rfl k)) ?_
  obtain ⟨T2, X2, e2, st2⟩ := getF X1 hx hZ hown (host := "") (Or.inl (own_w hw 57 rfl)) Via.refl e1 F_position_r0 (g := (mkF m 6 #[rv r0, iv (0 : Int32), .unset, .unset, .unset, .unset, .unset, .unset] [(.ref r0)])) rfl rfl (hb hby d9_6)
  refine own_step (U' := T2.setTop (mkF m 9 #[rv r0, iv (0 : Int32), .unset, .unset, .unset, .unset, .unset, .unset] [(.int (1 : Int32))])) st2 ?_
  refine own_step (U' := T2.setTop (mkF m 21 #[rv r0, iv (0 : Int32), iv (1 : Int32), .unset, .unset, .unset, .unset, .unset] [(.ref r0)])) (fun t k => XS.istoreN X2.here hx rfl (hb hby d9_9) rfl (l' := #[rv r0, iv (0 : Int32), iv (1 : Int32), .unset, .unset, .unset, .unset, .unset]) rfl (XS.iloadN X2.here hx rfl (hb hby d9_10) rfl (XS.iloadN X2.here hx rfl (hb hby d9_11) rfl (XS.icmpYes X2.here hx rfl (pc0 := 12) (pc' := 20) rfl (hb hby d9_12) rfl (by decide) (by decide) (by decide) (XS.aloadN X2.here hx rfl (hb hby d9_20) rfl rfl k))))) ?_
  obtain ⟨T3, X3, e3, st3⟩ := getF X2 hx hZ hown (host := "") (Or.inl (own_w hw 40 rfl)) Via.refl e2 F_bytes_r0 (g := (mkF m 21 #[rv r0, iv (0 : Int32), iv (1 : Int32), .unset, .unset, .unset, .unset, .unset] [(.ref r0)])) rfl rfl (hb hby d9_21)
  refine own_step (U' := T3.setTop (mkF m 24 #[rv r0, iv (0 : Int32), iv (1 : Int32), .unset, .unset, .unset, .unset, .unset] [(.ref gb)])) st3 ?_
  refine own_step (U' := T3.setTop (mkF m 29 #[rv r0, iv (0 : Int32), iv (1 : Int32), rv gb, iv (0 : Int32), .unset, .unset, .unset] [(.ref r0)])) (fun t k => XS.astoreN X3.here hx rfl (hb hby d9_24) rfl rfl (l' := #[rv r0, iv (0 : Int32), iv (1 : Int32), rv gb, .unset, .unset, .unset, .unset]) rfl (XS.iconst X3.here hx rfl (hb hby d9_25) (XS.istore X3.here hx rfl (hb hby d9_26) rfl (l' := #[rv r0, iv (0 : Int32), iv (1 : Int32), rv gb, iv (0 : Int32), .unset, .unset, .unset]) rfl (XS.aloadN X3.here hx rfl (hb hby d9_28) rfl rfl k)))) ?_
  obtain ⟨T4, X4, e4, st4⟩ := getF X3 hx hZ hown (host := "") (Or.inl (own_w hw 75 rfl)) Via.refl e3 F_afterCarriageReturn_r0 (g := (mkF m 29 #[rv r0, iv (0 : Int32), iv (1 : Int32), rv gb, iv (0 : Int32), .unset, .unset, .unset] [(.ref r0)])) rfl rfl (hb hby d9_29)
  refine own_step (U' := T4.setTop (mkF m 32 #[rv r0, iv (0 : Int32), iv (1 : Int32), rv gb, iv (0 : Int32), .unset, .unset, .unset] [(.int wr)])) st4 ?_
  obtain ⟨v41_6, hv41_6⟩ : ∃ v : Int32, v = (if wr = (0 : Int32) then (0 : Int32) else (13 : Int32)) := ⟨_, rfl⟩
  have K41_7 : ∀ (T' : State) (locs' : List Loc) (X' : Stand p l e ({ frames := 0, cells := 0, slots := 0, locals := 0 } : Room) s m #[(.ref r0)] below meth c T' locs' 0 0) (N' : Fr n0 locs') (e' : T'.heap = h0), own_Go p.tables e below s 0 0 (Q9c0p1 Z r0 gb wl wr w0 w1 w2 w3 k_gb h0 n0) (T'.setTop (mkF m 41 #[rv r0, iv (0 : Int32), iv (1 : Int32), rv gb, iv (0 : Int32), .unset, .unset, .unset] [(.int v41_6)])) := by
    intro T7 L7 X7 N7 e7
    refine own_step (U' := T7.setTop (mkF m 55 #[rv r0, iv (0 : Int32), iv (1 : Int32), rv gb, iv (0 : Int32), iv v41_6, iv (0 : Int32), .unset] [(.int (0 : Int32)), (.ref gb)])) (fun t k => XS.istore X7.here hx rfl (hb hby d9_41) rfl (l' := #[rv r0, iv (0 : Int32), iv (1 : Int32), rv gb, iv (0 : Int32), iv v41_6, .unset, .unset]) rfl (XS.iloadN X7.here hx rfl (hb hby d9_43) rfl (XS.istore X7.here hx rfl (hb hby d9_44) rfl (l' := #[rv r0, iv (0 : Int32), iv (1 : Int32), rv gb, iv (0 : Int32), iv v41_6, iv (0 : Int32), .unset]) rfl (XS.iload X7.here hx rfl (hb hby d9_46) rfl (XS.iloadN X7.here hx rfl (hb hby d9_48) rfl (XS.icmpNo X7.here hx rfl (hb hby d9_49) rfl (by decide) (XS.aloadN X7.here hx rfl (hb hby d9_52) rfl rfl (XS.iload X7.here hx rfl (hb hby d9_53) rfl k)))))))) ?_
    obtain ⟨cl8, Ar8, aq8, aS8, aN8, aH8, aG8⟩ := id V_gb
    have hin8 : ¬ ((0 : Int32) < 0 ∨ cl8.slots.size ≤ ((0 : Int32)).toNatClampNeg) := inb_of aS8 ⟨by decide, by decide⟩
    have hat8 : cl8.slots[((0 : Int32)).toNatClampNeg]? = some (.int w0) := aH8.at hin8 rfl
    refine own_step (U' := T7.setTop (mkF m 62 #[rv r0, iv (0 : Int32), iv (1 : Int32), rv gb, iv (0 : Int32), iv v41_6, iv (0 : Int32), iv w0] [(.int (13 : Int32)), (.int w0)])) (fun t k => X7.baloadBytes hx (j := (0 : Int32)) (v := (.int w0)) (by rw [e7]; exact Ar8.1) (State.isArrayOf_alike hZ.alike Ar8.2.1) Ar8.2.2 hin8 hat8 (g := (mkF m 55 #[rv r0, iv (0 : Int32), iv (1 : Int32), rv gb, iv (0 : Int32), iv v41_6, iv (0 : Int32), .unset] [(.int (0 : Int32)), (.ref gb)])) rfl rfl (hb hby d9_55) t (XS.istore X7.here hx rfl (hb hby d9_56) rfl (l' := #[rv r0, iv (0 : Int32), iv (1 : Int32), rv gb, iv (0 : Int32), iv v41_6, iv (0 : Int32), iv w0]) rfl (XS.iload X7.here hx rfl (hb hby d9_58) rfl (XS.bipush X7.here hx rfl (hb hby d9_60) k)))) ?_
    obtain ⟨v89_13, hv89_13⟩ : ∃ v : Int32, v = (if (13 : Int32) < w0 then (0 : Int32) else (if w0 = (13 : Int32) then (1 : Int32) else (if w0 = (10 : Int32) then (if v41_6 = (13 : Int32) then (0 : Int32) else (1 : Int32)) else (0 : Int32)))) := ⟨_, rfl⟩
    have K89_14 : ∀ (T' : State) (locs' : List Loc) (X' : Stand p l e ({ frames := 0, cells := 0, slots := 0, locals := 0 } : Room) s m #[(.ref r0)] below meth c T' locs' 0 0) (N' : Fr n0 locs') (e' : T'.heap = h0), own_Go p.tables e below s 0 0 (Q9c0p1 Z r0 gb wl wr w0 w1 w2 w3 k_gb h0 n0) (T'.setTop (mkF m 89 #[rv r0, iv (0 : Int32), iv (1 : Int32), rv gb, iv v89_13, iv v41_6, iv (0 : Int32), iv w0] [])) := by
      intro T14 L14 X14 N14 e14
      refine own_step (U' := T14.setTop (mkF m 100 #[rv r0, iv (0 : Int32), iv (1 : Int32), rv gb, iv v89_13, iv w0, iv (1 : Int32), iv w0] [(.ref r0)])) (fun t k => XS.iload X14.here hx rfl (hb hby d9_89) rfl (XS.istore X14.here hx rfl (hb hby d9_91) rfl (l' := #[rv r0, iv (0 : Int32), iv (1 : Int32), rv gb, iv v89_13, iv w0, iv (0 : Int32), iv w0]) rfl (XS.iinc X14.here hx rfl (hb hby d9_93) rfl (l' := #[rv r0, iv (0 : Int32), iv (1 : Int32), rv gb, iv v89_13, iv w0, iv (1 : Int32), iv w0]) rfl (XS.goto X14.here hx rfl (pc0 := 96) (pc' := 46) rfl (hb hby d9_96) (by decide) (by decide) (XS.iload X14.here hx rfl (hb hby d9_46) rfl (XS.iloadN X14.here hx rfl (hb hby d9_48) rfl (XS.icmpYes X14.here hx rfl (pc0 := 49) (pc' := 99) rfl (hb hby d9_49) rfl (by decide) (by decide) (by decide) (XS.aloadN X14.here hx rfl (hb hby d9_99) rfl rfl k)))))))) ?_
      refine own_step (U' := T14.setTop (mkF m 101 #[rv r0, iv (0 : Int32), iv (1 : Int32), rv gb, iv v89_13, iv w0, iv (1 : Int32), iv w0] [(.ref r0), (.ref r0)])) (fun t k => XS.dup X14.here hx rfl (hb hby d9_100) rfl rfl k) ?_
      obtain ⟨T15, X15, e15, st15⟩ := getF X14 hx hZ hown (host := "") (Or.inl (own_w hw 71 rfl)) Via.refl e14 F_line_r0 (g := (mkF m 101 #[rv r0, iv (0 : Int32), iv (1 : Int32), rv gb, iv v89_13, iv w0, iv (1 : Int32), iv w0] [(.ref r0), (.ref r0)])) rfl rfl (hb hby d9_101)
      refine own_step (U' := T15.setTop (mkF m 104 #[rv r0, iv (0 : Int32), iv (1 : Int32), rv gb, iv v89_13, iv w0, iv (1 : Int32), iv w0] [(.int wl), (.ref r0)])) st15 ?_
      refine own_step (U' := T15.setTop (mkF m 107 #[rv r0, iv (0 : Int32), iv (1 : Int32), rv gb, iv v89_13, iv w0, iv (1 : Int32), iv w0] [(.int (wl + v89_13)), (.ref r0)])) (fun t k => XS.iload X15.here hx rfl (hb hby d9_104) rfl (XS.iadd X15.here hx rfl (hb hby d9_106) rfl k)) ?_
      obtain ⟨T16, h16, X16, e16, W16, st16⟩ := putF X15 hx hZ hown (host := "") (Or.inl (own_w hw 71 rfl)) Via.refl e15 F_line_r0 E_r0 (Or.inl (own_w hw 72 rfl)) (own_w hw 11 rfl) (ty := .int) (by decide) rfl rfl (g := (mkF m 107 #[rv r0, iv (0 : Int32), iv (1 : Int32), rv gb, iv v89_13, iv w0, iv (1 : Int32), iv w0] [(.int (wl + v89_13)), (.ref r0)])) rfl rfl (hb hby d9_107)
      have E_r0_16 := E_r0.wr W16
      have F_bytes_r0_16 := F_bytes_r0.other W16 (Or.inr (slot_ne (Or.inl (own_w hw 41 rfl)) (Or.inl (own_w hw 72 rfl)) (by decide) (t := (.array .byte)) (t' := .int) (by decide) (by decide)))
      have F_position_r0_16 := F_position_r0.other W16 (Or.inr (slot_ne (Or.inl (own_w hw 58 rfl)) (Or.inl (own_w hw 72 rfl)) (by decide) (t := .int) (t' := .int) (by decide) (by decide)))
      have F_counted_r0_16 := F_counted_r0.other W16 (Or.inr (slot_ne (Or.inl (own_w hw 74 rfl)) (Or.inl (own_w hw 72 rfl)) (by decide) (t := .int) (t' := .int) (by decide) (by decide)))
      have F_afterCarriageReturn_r0_16 := F_afterCarriageReturn_r0.other W16 (Or.inr (slot_ne (Or.inl (own_w hw 76 rfl)) (Or.inl (own_w hw 72 rfl)) (by decide) (t := .boolean) (t' := .int) (by decide) (by decide)))
      have V_gb_16 := V_gb.other W16 hne
      have F_line_r0_16 := F_line_r0.same W16
      have Z16 : n0 ≤ h16.size := Nat.le_trans Z0 (Keep.of_wr W16).1
      have KK16 := KK0.wr W16 (Or.inl (List.mem_of_getElem? (i := 0) rfl))
      have N16 := Fr.snoc X16 N14 g_r0
      refine own_step (U' := T16.setTop (mkF m 110 #[rv r0, iv (0 : Int32), iv (1 : Int32), rv gb, iv v89_13, iv w0, iv (1 : Int32), iv w0] [])) st16 ?_
      refine own_step (U' := T16.setTop (mkF m 115 #[rv r0, iv (0 : Int32), iv (1 : Int32), rv gb, iv v89_13, iv w0, iv (1 : Int32), iv w0] [(.int (0 : Int32)), (.ref gb), (.ref r0)])) (fun t k => XS.aloadN X16.here hx rfl (hb hby d9_110) rfl rfl (XS.aloadN X16.here hx rfl (hb hby d9_111) rfl rfl (XS.iloadN X16.here hx rfl (hb hby d9_112) rfl (XS.iconst X16.here hx rfl (hb hby d9_113) (XS.isub X16.here hx rfl (hb hby d9_114) rfl k))))) ?_
      obtain ⟨cl17, Ar17, aq17, aS17, aN17, aH17, aG17⟩ := id V_gb_16
      have hin17 : ¬ ((0 : Int32) < 0 ∨ cl17.slots.size ≤ ((0 : Int32)).toNatClampNeg) := inb_of aS17 ⟨by decide, by decide⟩
      have hat17 : cl17.slots[((0 : Int32)).toNatClampNeg]? = some (.int w0) := aH17.at hin17 rfl
      refine own_step (U' := T16.setTop (mkF m 118 #[rv r0, iv (0 : Int32), iv (1 : Int32), rv gb, iv v89_13, iv w0, iv (1 : Int32), iv w0] [(.int (13 : Int32)), (.int w0), (.ref r0)])) (fun t k => X16.baloadBytes hx (j := (0 : Int32)) (v := (.int w0)) (by rw [e16]; exact Ar17.1) (State.isArrayOf_alike hZ.alike Ar17.2.1) Ar17.2.2 hin17 hat17 (g := (mkF m 115 #[rv r0, iv (0 : Int32), iv (1 : Int32), rv gb, iv v89_13, iv w0, iv (1 : Int32), iv w0] [(.int (0 : Int32)), (.ref gb), (.ref r0)])) rfl rfl (hb hby d9_115) t (XS.bipush X16.here hx rfl (hb hby d9_116) k)) ?_
      obtain ⟨v126_19, hv126_19⟩ : ∃ v : Int32, v = (if w0 = (13 : Int32) then (1 : Int32) else (0 : Int32)) := ⟨_, rfl⟩
      have K126_20 : ∀ (T' : State) (locs' : List Loc) (X' : Stand p l e ({ frames := 0, cells := 0, slots := 0, locals := 0 } : Room) s m #[(.ref r0)] below meth c T' locs' 0 0) (N' : Fr n0 locs') (e' : T'.heap = h16), own_Go p.tables e below s 0 0 (Q9c0p1 Z r0 gb wl wr w0 w1 w2 w3 k_gb h0 n0) (T'.setTop (mkF m 126 #[rv r0, iv (0 : Int32), iv (1 : Int32), rv gb, iv v89_13, iv w0, iv (1 : Int32), iv w0] [(.int v126_19), (.ref r0)])) := by
        intro T20 L20 X20 N20 e20
        obtain ⟨T21, h21, X21, e21, W21, st21⟩ := putFN X20 hx hZ hown (own_w hw 75 rfl) Via.refl e20 F_afterCarriageReturn_r0_16 E_r0_16 (Or.inl (own_w hw 76 rfl)) (own_w hw 11 rfl) (ty := .boolean) (v' := (.int (nar .boolean v126_19))) (by decide) rfl (fits_nar_bool _) (g := (mkF m 126 #[rv r0, iv (0 : Int32), iv (1 : Int32), rv gb, iv v89_13, iv w0, iv (1 : Int32), iv w0] [(.int v126_19), (.ref r0)])) rfl rfl (hb hby d9_126)
        have E_r0_21 := E_r0_16.wr W21
        have F_bytes_r0_21 := F_bytes_r0_16.other W21 (Or.inr (slot_ne (Or.inl (own_w hw 41 rfl)) (Or.inl (own_w hw 76 rfl)) (by decide) (t := (.array .byte)) (t' := .boolean) (by decide) (by decide)))
        have F_position_r0_21 := F_position_r0_16.other W21 (Or.inr (slot_ne (Or.inl (own_w hw 58 rfl)) (Or.inl (own_w hw 76 rfl)) (by decide) (t := .int) (t' := .boolean) (by decide) (by decide)))
        have F_line_r0_21 := F_line_r0_16.other W21 (Or.inr (slot_ne (Or.inl (own_w hw 72 rfl)) (Or.inl (own_w hw 76 rfl)) (by decide) (t := .int) (t' := .boolean) (by decide) (by decide)))
        have F_counted_r0_21 := F_counted_r0_16.other W21 (Or.inr (slot_ne (Or.inl (own_w hw 74 rfl)) (Or.inl (own_w hw 76 rfl)) (by decide) (t := .int) (t' := .boolean) (by decide) (by decide)))
        have V_gb_21 := V_gb_16.other W21 hne
        have F_afterCarriageReturn_r0_21 := F_afterCarriageReturn_r0_16.same W21
        have Z21 : n0 ≤ h21.size := Nat.le_trans Z16 (Keep.of_wr W21).1
        have KK21 := KK16.wr W21 (Or.inl (List.mem_of_getElem? (i := 0) rfl))
        have N21 := Fr.snoc X21 N20 g_r0
        refine own_step (U' := T21.setTop (mkF m 129 #[rv r0, iv (0 : Int32), iv (1 : Int32), rv gb, iv v89_13, iv w0, iv (1 : Int32), iv w0] [])) st21 ?_
        refine own_step (U' := T21.setTop (mkF m 131 #[rv r0, iv (0 : Int32), iv (1 : Int32), rv gb, iv v89_13, iv w0, iv (1 : Int32), iv w0] [(.ref r0), (.ref r0)])) (fun t k => XS.aloadN X21.here hx rfl (hb hby d9_129) rfl rfl (XS.aloadN X21.here hx rfl (hb hby d9_130) rfl rfl k)) ?_
        obtain ⟨T22, X22, e22, st22⟩ := getF X21 hx hZ hown (host := "") (Or.inl (own_w hw 75 rfl)) Via.refl e21 F_afterCarriageReturn_r0_21 (g := (mkF m 131 #[rv r0, iv (0 : Int32), iv (1 : Int32), rv gb, iv v89_13, iv w0, iv (1 : Int32), iv w0] [(.ref r0), (.ref r0)])) rfl rfl (hb hby d9_131)
        refine own_step (U' := T22.setTop (mkF m 134 #[rv r0, iv (0 : Int32), iv (1 : Int32), rv gb, iv v89_13, iv w0, iv (1 : Int32), iv w0] [(.int (nar .boolean v126_19)), (.ref r0)])) st22 ?_
        obtain ⟨v152_26, hv152_26⟩ : ∃ v : Int32, v = (if (nar .boolean v126_19) = (0 : Int32) then (if w0 = (10 : Int32) then (1 : Int32) else (0 : Int32)) else (1 : Int32)) := ⟨_, rfl⟩
        have K152_27 : ∀ (T' : State) (locs' : List Loc) (X' : Stand p l e ({ frames := 0, cells := 0, slots := 0, locals := 0 } : Room) s m #[(.ref r0)] below meth c T' locs' 0 0) (N' : Fr n0 locs') (e' : T'.heap = h21), own_Go p.tables e below s 0 0 (Q9c0p1 Z r0 gb wl wr w0 w1 w2 w3 k_gb h0 n0) (T'.setTop (mkF m 152 #[rv r0, iv (0 : Int32), iv (1 : Int32), rv gb, iv v89_13, iv w0, iv (1 : Int32), iv w0] [(.int v152_26), (.ref r0)])) := by
          intro T27 L27 X27 N27 e27
          obtain ⟨u28, Fu28⟩ := own_anyF (O := own_XC) (n := "afterLineEnd") (d := "Z") E_r0_21 F_bytes_r0_21 (own_w hw 11 rfl) (Or.inl (own_w hw 78 rfl))
          obtain ⟨T28, h28, X28, e28, W28, st28⟩ := putFN X27 hx hZ hown (own_w hw 77 rfl) Via.refl e27 Fu28 E_r0_21 (Or.inl (own_w hw 78 rfl)) (own_w hw 11 rfl) (ty := .boolean) (v' := (.int (nar .boolean v152_26))) (by decide) rfl (fits_nar_bool _) (g := (mkF m 152 #[rv r0, iv (0 : Int32), iv (1 : Int32), rv gb, iv v89_13, iv w0, iv (1 : Int32), iv w0] [(.int v152_26), (.ref r0)])) rfl rfl (hb hby d9_152)
          have E_r0_28 := E_r0_21.wr W28
          have F_bytes_r0_28 := F_bytes_r0_21.other W28 (Or.inr (slot_ne (Or.inl (own_w hw 41 rfl)) (Or.inl (own_w hw 78 rfl)) (by decide) (t := (.array .byte)) (t' := .boolean) (by decide) (by decide)))
          have F_position_r0_28 := F_position_r0_21.other W28 (Or.inr (slot_ne (Or.inl (own_w hw 58 rfl)) (Or.inl (own_w hw 78 rfl)) (by decide) (t := .int) (t' := .boolean) (by decide) (by decide)))
          have F_line_r0_28 := F_line_r0_21.other W28 (Or.inr (slot_ne (Or.inl (own_w hw 72 rfl)) (Or.inl (own_w hw 78 rfl)) (by decide) (t := .int) (t' := .boolean) (by decide) (by decide)))
          have F_counted_r0_28 := F_counted_r0_21.other W28 (Or.inr (slot_ne (Or.inl (own_w hw 74 rfl)) (Or.inl (own_w hw 78 rfl)) (by decide) (t := .int) (t' := .boolean) (by decide) (by decide)))
          have F_afterCarriageReturn_r0_28 := F_afterCarriageReturn_r0_21.other W28 (Or.inr (slot_ne (Or.inl (own_w hw 76 rfl)) (Or.inl (own_w hw 78 rfl)) (by decide) (t := .boolean) (t' := .boolean) (by decide) (by decide)))
          have V_gb_28 := V_gb_21.other W28 hne
          have Z28 : n0 ≤ h28.size := Nat.le_trans Z21 (Keep.of_wr W28).1
          have KK28 := KK21.wr W28 (Or.inl (List.mem_of_getElem? (i := 0) rfl))
          have N28 := Fr.snoc X28 N27 g_r0
          refine own_step (U' := T28.setTop (mkF m 155 #[rv r0, iv (0 : Int32), iv (1 : Int32), rv gb, iv v89_13, iv w0, iv (1 : Int32), iv w0] [])) st28 ?_
          refine own_step (U' := T28.setTop (mkF m 157 #[rv r0, iv (0 : Int32), iv (1 : Int32), rv gb, iv v89_13, iv w0, iv (1 : Int32), iv w0] [(.int (1 : Int32)), (.ref r0)])) (fun t k => XS.aloadN X28.here hx rfl (hb hby d9_155) rfl rfl (XS.iloadN X28.here hx rfl (hb hby d9_156) rfl k)) ?_
          obtain ⟨T29, h29, X29, e29, W29, st29⟩ := putF X28 hx hZ hown (host := "") (Or.inl (own_w hw 73 rfl)) Via.refl e28 F_counted_r0_28 E_r0_28 (Or.inl (own_w hw 74 rfl)) (own_w hw 11 rfl) (ty := .int) (by decide) rfl rfl (g := (mkF m 157 #[rv r0, iv (0 : Int32), iv (1 : Int32), rv gb, iv v89_13, iv w0, iv (1 : Int32), iv w0] [(.int (1 : Int32)), (.ref r0)])) rfl rfl (hb hby d9_157)
          have E_r0_29 := E_r0_28.wr W29
          have F_bytes_r0_29 := F_bytes_r0_28.other W29 (Or.inr (slot_ne (Or.inl (own_w hw 41 rfl)) (Or.inl (own_w hw 74 rfl)) (by decide) (t := (.array .byte)) (t' := .int) (by decide) (by decide)))
          have F_position_r0_29 := F_position_r0_28.other W29 (Or.inr (slot_ne (Or.inl (own_w hw 58 rfl)) (Or.inl (own_w hw 74 rfl)) (by decide) (t := .int) (t' := .int) (by decide) (by decide)))
          have F_line_r0_29 := F_line_r0_28.other W29 (Or.inr (slot_ne (Or.inl (own_w hw 72 rfl)) (Or.inl (own_w hw 74 rfl)) (by decide) (t := .int) (t' := .int) (by decide) (by decide)))
          have F_afterCarriageReturn_r0_29 := F_afterCarriageReturn_r0_28.other W29 (Or.inr (slot_ne (Or.inl (own_w hw 76 rfl)) (Or.inl (own_w hw 74 rfl)) (by decide) (t := .boolean) (t' := .int) (by decide) (by decide)))
          have V_gb_29 := V_gb_28.other W29 hne
          have F_counted_r0_29 := F_counted_r0_28.same W29
          have Z29 : n0 ≤ h29.size := Nat.le_trans Z28 (Keep.of_wr W29).1
          have KK29 := KK28.wr W29 (Or.inl (List.mem_of_getElem? (i := 0) rfl))
          have N29 := Fr.snoc X29 N28 g_r0
          refine own_step (U' := T29.setTop (mkF m 160 #[rv r0, iv (0 : Int32), iv (1 : Int32), rv gb, iv v89_13, iv w0, iv (1 : Int32), iv w0] [])) st29 ?_
          refine own_step (U' := T29.setTop (mkF m 161 #[rv r0, iv (0 : Int32), iv (1 : Int32), rv gb, iv v89_13, iv w0, iv (1 : Int32), iv w0] [(.ref r0)])) (fun t k => XS.aloadN X29.here hx rfl (hb hby d9_160) rfl rfl k) ?_
          obtain ⟨T30, X30, e30, st30⟩ := getF X29 hx hZ hown (host := "") (Or.inl (own_w hw 71 rfl)) Via.refl e29 F_line_r0_29 (g := (mkF m 161 #[rv r0, iv (0 : Int32), iv (1 : Int32), rv gb, iv v89_13, iv w0, iv (1 : Int32), iv w0] [(.ref r0)])) rfl rfl (hb hby d9_161)
          refine own_step (U' := T30.setTop (mkF m 164 #[rv r0, iv (0 : Int32), iv (1 : Int32), rv gb, iv v89_13, iv w0, iv (1 : Int32), iv w0] [(.int (wl + v89_13))])) st30 ?_
          exact own_out X30 (v := (some (.int (wl + v89_13)))) hlk (own_nv Bd.returns) (by rw [e30]; exact (by subst hv41_6 hv89_13 hv126_19 hv152_26; exact ⟨rfl, N29, KK29, E_r0_29, F_bytes_r0_29, F_position_r0_29, F_line_r0_29, F_counted_r0_29, F_afterCarriageReturn_r0_29⟩)) (by decide) (by decide) (fun fs hr => retI X30 hx Bd.returns (hb hby d9_164) hr)
        by_cases hc134_31 : (nar .boolean v126_19) = (0 : Int32)
        · refine own_step (U' := T22.setTop (mkF m 141 #[rv r0, iv (0 : Int32), iv (1 : Int32), rv gb, iv v89_13, iv w0, iv (1 : Int32), iv w0] [(.int (0 : Int32)), (.ref gb), (.ref r0)])) (fun t k => XS.ifNo X22.here hx rfl (hb hby d9_134) rfl ((if0 _ _).trans (teq hc134_31).2) (XS.aloadN X22.here hx rfl (hb hby d9_137) rfl rfl (XS.iloadN X22.here hx rfl (hb hby d9_138) rfl (XS.iconst X22.here hx rfl (hb hby d9_139) (XS.isub X22.here hx rfl (hb hby d9_140) rfl k))))) ?_
          obtain ⟨cl32, Ar32, aq32, aS32, aN32, aH32, aG32⟩ := id V_gb_21
          have hin32 : ¬ ((0 : Int32) < 0 ∨ cl32.slots.size ≤ ((0 : Int32)).toNatClampNeg) := inb_of aS32 ⟨by decide, by decide⟩
          have hat32 : cl32.slots[((0 : Int32)).toNatClampNeg]? = some (.int w0) := aH32.at hin32 rfl
          refine own_step (U' := T22.setTop (mkF m 144 #[rv r0, iv (0 : Int32), iv (1 : Int32), rv gb, iv v89_13, iv w0, iv (1 : Int32), iv w0] [(.int (10 : Int32)), (.int w0), (.ref r0)])) (fun t k => X22.baloadBytes hx (j := (0 : Int32)) (v := (.int w0)) (by rw [e22]; exact Ar32.1) (State.isArrayOf_alike hZ.alike Ar32.2.1) Ar32.2.2 hin32 hat32 (g := (mkF m 141 #[rv r0, iv (0 : Int32), iv (1 : Int32), rv gb, iv v89_13, iv w0, iv (1 : Int32), iv w0] [(.int (0 : Int32)), (.ref gb), (.ref r0)])) rfl rfl (hb hby d9_141) t (XS.bipush X22.here hx rfl (hb hby d9_142) k)) ?_
          by_cases hc144_33 : w0 = (10 : Int32)
          · refine own_step (U' := T22.setTop (mkF m 152 #[rv r0, iv (0 : Int32), iv (1 : Int32), rv gb, iv v89_13, iv w0, iv (1 : Int32), iv w0] [(.int (1 : Int32)), (.ref r0)])) (fun t k => XS.icmpNo X22.here hx rfl (hb hby d9_144) rfl (teq hc144_33).2 (XS.iconst X22.here hx rfl (hb hby d9_147) (XS.goto X22.here hx rfl (pc0 := 148) (pc' := 152) rfl (hb hby d9_148) (by decide) (by decide) k))) ?_
            have q_v152_26 : v152_26 = (1 : Int32) := by rw [hv152_26, if_pos hc134_31, if_pos hc144_33]
            rw [q_v152_26] at K152_27
            exact K152_27 _ _ X22 N21 e22
          · refine own_step (U' := T22.setTop (mkF m 152 #[rv r0, iv (0 : Int32), iv (1 : Int32), rv gb, iv v89_13, iv w0, iv (1 : Int32), iv w0] [(.int (0 : Int32)), (.ref r0)])) (fun t k => XS.icmpYes X22.here hx rfl (pc0 := 144) (pc' := 151) rfl (hb hby d9_144) rfl (feq hc144_33).2 (by decide) (by decide) (XS.iconst X22.here hx rfl (hb hby d9_151) k)) ?_
            have q_v152_26 : v152_26 = (0 : Int32) := by rw [hv152_26, if_pos hc134_31, if_neg hc144_33]
            rw [q_v152_26] at K152_27
            exact K152_27 _ _ X22 N21 e22
        · refine own_step (U' := T22.setTop (mkF m 152 #[rv r0, iv (0 : Int32), iv (1 : Int32), rv gb, iv v89_13, iv w0, iv (1 : Int32), iv w0] [(.int (1 : Int32)), (.ref r0)])) (fun t k => XS.ifYes X22.here hx rfl (pc0 := 134) (pc' := 147) rfl (hb hby d9_134) rfl ((if0 _ _).trans (feq hc134_31).2) (by decide) (by decide) (XS.iconst X22.here hx rfl (hb hby d9_147) (XS.goto X22.here hx rfl (pc0 := 148) (pc' := 152) rfl (hb hby d9_148) (by decide) (by decide) k))) ?_
          have q_v152_26 : v152_26 = (1 : Int32) := by rw [hv152_26, if_neg hc134_31]
          rw [q_v152_26] at K152_27
          exact K152_27 _ _ X22 N21 e22
      by_cases hc118_34 : w0 = (13 : Int32)
      · refine own_step (U' := T16.setTop (mkF m 126 #[rv r0, iv (0 : Int32), iv (1 : Int32), rv gb, iv v89_13, iv w0, iv (1 : Int32), iv w0] [(.int (1 : Int32)), (.ref r0)])) (fun t k => XS.icmpNo X16.here hx rfl (hb hby d9_118) rfl (teq hc118_34).2 (XS.iconst X16.here hx rfl (hb hby d9_121) (XS.goto X16.here hx rfl (pc0 := 122) (pc' := 126) rfl (hb hby d9_122) (by decide) (by decide) k))) ?_
        have q_v126_19 : v126_19 = (1 : Int32) := by rw [hv126_19, if_pos hc118_34]
        rw [q_v126_19] at K126_20
        exact K126_20 _ _ X16 N16 e16
      · refine own_step (U' := T16.setTop (mkF m 126 #[rv r0, iv (0 : Int32), iv (1 : Int32), rv gb, iv v89_13, iv w0, iv (1 : Int32), iv w0] [(.int (0 : Int32)), (.ref r0)])) (fun t k => XS.icmpYes X16.here hx rfl (pc0 := 118) (pc' := 125) rfl (hb hby d9_118) rfl (feq hc118_34).2 (by decide) (by decide) (XS.iconst X16.here hx rfl (hb hby d9_125) k)) ?_
        have q_v126_19 : v126_19 = (0 : Int32) := by rw [hv126_19, if_neg hc118_34]
        rw [q_v126_19] at K126_20
        exact K126_20 _ _ X16 N16 e16
    by_cases hc62_35 : (13 : Int32) < w0
    · refine own_step (U' := T7.setTop (mkF m 89 #[rv r0, iv (0 : Int32), iv (1 : Int32), rv gb, iv (0 : Int32), iv v41_6, iv (0 : Int32), iv w0] [])) (fun t k => XS.icmpYes X7.here hx rfl (pc0 := 62) (pc' := 89) rfl (hb hby d9_62) rfl (tlt hc62_35).2.2.1 (by decide) (by decide) k) ?_
      have q_v89_13 : v89_13 = (0 : Int32) := by rw [hv89_13, if_pos hc62_35]
      rw [q_v89_13] at K89_14
      exact K89_14 _ _ X7 N7 e7
    · refine own_step (U' := T7.setTop (mkF m 69 #[rv r0, iv (0 : Int32), iv (1 : Int32), rv gb, iv (0 : Int32), iv v41_6, iv (0 : Int32), iv w0] [(.int (13 : Int32)), (.int w0)])) (fun t k => XS.icmpNo X7.here hx rfl (hb hby d9_62) rfl (flt hc62_35).2.2.1 (XS.iload X7.here hx rfl (hb hby d9_65) rfl (XS.bipush X7.here hx rfl (hb hby d9_67) k))) ?_
      by_cases hc69_36 : w0 = (13 : Int32)
      · refine own_step (U' := T7.setTop (mkF m 89 #[rv r0, iv (0 : Int32), iv (1 : Int32), rv gb, iv (1 : Int32), iv v41_6, iv (0 : Int32), iv w0] [])) (fun t k => XS.icmpYes X7.here hx rfl (pc0 := 69) (pc' := 86) rfl (hb hby d9_69) rfl (teq hc69_36).1 (by decide) (by decide) (XS.iinc X7.here hx rfl (hb hby d9_86) rfl (l' := #[rv r0, iv (0 : Int32), iv (1 : Int32), rv gb, iv (1 : Int32), iv v41_6, iv (0 : Int32), iv w0]) rfl k)) ?_
        have q_v89_13 : v89_13 = (1 : Int32) := by rw [hv89_13, if_neg hc62_35, if_pos hc69_36]
        rw [q_v89_13] at K89_14
        exact K89_14 _ _ X7 N7 e7
      · refine own_step (U' := T7.setTop (mkF m 76 #[rv r0, iv (0 : Int32), iv (1 : Int32), rv gb, iv (0 : Int32), iv v41_6, iv (0 : Int32), iv w0] [(.int (10 : Int32)), (.int w0)])) (fun t k => XS.icmpNo X7.here hx rfl (hb hby d9_69) rfl (feq hc69_36).1 (XS.iload X7.here hx rfl (hb hby d9_72) rfl (XS.bipush X7.here hx rfl (hb hby d9_74) k))) ?_
        by_cases hc76_37 : w0 = (10 : Int32)
        · refine own_step (U' := T7.setTop (mkF m 83 #[rv r0, iv (0 : Int32), iv (1 : Int32), rv gb, iv (0 : Int32), iv v41_6, iv (0 : Int32), iv w0] [(.int (13 : Int32)), (.int v41_6)])) (fun t k => XS.icmpNo X7.here hx rfl (hb hby d9_76) rfl (teq hc76_37).2 (XS.iload X7.here hx rfl (hb hby d9_79) rfl (XS.bipush X7.here hx rfl (hb hby d9_81) k))) ?_
          by_cases hc83_38 : v41_6 = (13 : Int32)
          · refine own_step (U' := T7.setTop (mkF m 89 #[rv r0, iv (0 : Int32), iv (1 : Int32), rv gb, iv (0 : Int32), iv v41_6, iv (0 : Int32), iv w0] [])) (fun t k => XS.icmpYes X7.here hx rfl (pc0 := 83) (pc' := 89) rfl (hb hby d9_83) rfl (teq hc83_38).1 (by decide) (by decide) k) ?_
            have q_v89_13 : v89_13 = (0 : Int32) := by rw [hv89_13, if_neg hc62_35, if_neg hc69_36, if_pos hc76_37, if_pos hc83_38]
            rw [q_v89_13] at K89_14
            exact K89_14 _ _ X7 N7 e7
          · refine own_step (U' := T7.setTop (mkF m 89 #[rv r0, iv (0 : Int32), iv (1 : Int32), rv gb, iv (1 : Int32), iv v41_6, iv (0 : Int32), iv w0] [])) (fun t k => XS.icmpNo X7.here hx rfl (hb hby d9_83) rfl (feq hc83_38).1 (XS.iinc X7.here hx rfl (hb hby d9_86) rfl (l' := #[rv r0, iv (0 : Int32), iv (1 : Int32), rv gb, iv (1 : Int32), iv v41_6, iv (0 : Int32), iv w0]) rfl k)) ?_
            have q_v89_13 : v89_13 = (1 : Int32) := by rw [hv89_13, if_neg hc62_35, if_neg hc69_36, if_pos hc76_37, if_neg hc83_38]
            rw [q_v89_13] at K89_14
            exact K89_14 _ _ X7 N7 e7
        · refine own_step (U' := T7.setTop (mkF m 89 #[rv r0, iv (0 : Int32), iv (1 : Int32), rv gb, iv (0 : Int32), iv v41_6, iv (0 : Int32), iv w0] [])) (fun t k => XS.icmpYes X7.here hx rfl (pc0 := 76) (pc' := 89) rfl (hb hby d9_76) rfl (feq hc76_37).2 (by decide) (by decide) k) ?_
          have q_v89_13 : v89_13 = (0 : Int32) := by rw [hv89_13, if_neg hc62_35, if_neg hc69_36, if_neg hc76_37]
          rw [q_v89_13] at K89_14
          exact K89_14 _ _ X7 N7 e7
  by_cases hc32_39 : wr = (0 : Int32)
  · refine own_step (U' := T4.setTop (mkF m 41 #[rv r0, iv (0 : Int32), iv (1 : Int32), rv gb, iv (0 : Int32), .unset, .unset, .unset] [(.int (0 : Int32))])) (fun t k => XS.ifYes X4.here hx rfl (pc0 := 32) (pc' := 40) rfl (hb hby d9_32) rfl ((if0 _ _).trans (teq hc32_39).1) (by decide) (by decide) (XS.iconst X4.here hx rfl (hb hby d9_40) k)) ?_
    have q_v41_6 : v41_6 = (0 : Int32) := by rw [hv41_6, if_pos hc32_39]
    rw [q_v41_6] at K41_7
    exact K41_7 _ _ X4 N0 e4
  · refine own_step (U' := T4.setTop (mkF m 41 #[rv r0, iv (0 : Int32), iv (1 : Int32), rv gb, iv (0 : Int32), .unset, .unset, .unset] [(.int (13 : Int32))])) (fun t k => XS.ifNo X4.here hx rfl (hb hby d9_32) rfl ((if0 _ _).trans (feq hc32_39).1) (XS.bipush X4.here hx rfl (hb hby d9_35) (XS.goto X4.here hx rfl (pc0 := 37) (pc' := 41) rfl (hb hby d9_37) (by decide) (by decide) k))) ?_
    have q_v41_6 : v41_6 = (13 : Int32) := by rw [hv41_6, if_neg hc32_39]
    rw [q_v41_6] at K41_7
    exact K41_7 _ _ X4 N0 e4
theorem ef_9c1p1 (m : MethodId) (r0 : Addr) : entryFrame m #[(.ref r0)] 8 = mkF m 0 #[rv r0, .unset, .unset, .unset, .unset, .unset, .unset, .unset] [] := by first | (simp [entryFrame, mkF, argsToLocals, Value.category]; done) | rfl
def F9c1p1 (wl : Int32) (wr : Int32) (w0 : Int32) (w1 : Int32) (w2 : Int32) (w3 : Int32) : Int32 :=
  wl
def Q9c1p1 (Z : State) (r0 : Addr) (gb : Addr) (wl : Int32) (wr : Int32) (w0 : Int32) (w1 : Int32) (w2 : Int32) (w3 : Int32) (k_gb : ClassId) (h0 : Heap) (n0 : Nat) (v : Option Value) (h : Heap) (L : List Loc) : Prop := v = some (.int (F9c1p1 wl wr w0 w1 w2 w3)) ∧ Fr n0 L ∧ Keep h0 h [r0] ∧ Exa Z h r0 own_XC ∧ Fld Z h r0 own_XC "bytes" "[B" (.ref gb) ∧ Fld Z h r0 own_XC "position" "I" (.int (1 : Int32)) ∧ Fld Z h r0 own_XC "line" "I" (.int wl) ∧ Fld Z h r0 own_XC "counted" "I" (.int (1 : Int32)) ∧ Fld Z h r0 own_XC "afterCarriageReturn" "Z" (.int wr)
set_option maxRecDepth 65536 in
set_option maxHeartbeats 40000000 in
theorem rm9c1p1 (l : Launch) (Z : State) (a0 : Array Value) (hw : ∀ d ∈ tables_1, d.before a0 Z = true) (ws : List Jvm.Cond) (r0 : Addr) (gb : Addr) (wl : Int32) (wr : Int32) (w0 : Int32) (w1 : Int32) (w2 : Int32) (w3 : Int32) (k_gb : ClassId) (h0 : Heap) (n0 : Nat) (Z0 : n0 ≤ h0.size) (E_r0 : Exa Z h0 r0 own_XC) (F_bytes_r0 : Fld Z h0 r0 own_XC "bytes" "[B" (.ref gb)) (F_position_r0 : Fld Z h0 r0 own_XC "position" "I" (.int (1 : Int32))) (F_line_r0 : Fld Z h0 r0 own_XC "line" "I" (.int wl)) (F_counted_r0 : Fld Z h0 r0 own_XC "counted" "I" (.int (1 : Int32))) (F_afterCarriageReturn_r0 : Fld Z h0 r0 own_XC "afterCarriageReturn" "Z" (.int wr)) (g_r0 : n0 ≤ r0) (V_gb : Arv Z h0 gb k_gb .byte (65536 : Int32) [(.int w0), (.int w1), (.int w2), (.int w3)] (.int (0 : Int32))) (hne : gb ≠ r0) :
    MetFree l (⟨own_XC, "line", "()I"⟩ : MethodName) (head1 (Jvm.Cond.code (⟨own_XC, "line", "()I"⟩ : MethodName) prog_148_method_16_code 8 (some .int) :: ws) ({ frames := 0, cells := 0, slots := 0, locals := 0 } : Room)) (fun a U => a = #[(.ref r0)] ∧ Z.Warmed39 U.vm ∧ U.heap = h0) (fun _ _ _ _ _ => True) (fun _ U o U' => ∃ v L, o = .returned v ∧ Q9c1p1 Z r0 gb wl wr w0 w1 w2 w3 k_gb h0 n0 v U'.heap L ∧ FrameEnd U o U' L ({ frames := 0, cells := 0, slots := 0, locals := 0 } : Room).cells ({ frames := 0, cells := 0, slots := 0, locals := 0 } : Room).slots) := by
  refine MetFree.of_bodySF (plainFor_of_name pn_9) hisR ?_
  intro p e s m args below meth c s₁ Bd hml0 hP hK
  obtain ⟨rfl, hZ, hh⟩ := hP
  have hx := Bd.exec
  have hby := Bd.bytes
  have hml : c.maxLocals = 8 := hml0
  have hown : s.vm.findClass own_XC = some m.cls := findClass_of_methodNamed Bd.named
  have hnm := (name_of_methodNamed Bd.named Bd.method).1
  have hlk : meth.locks = false := Bd.notSynchronized
  have X0 : Stand p l e ({ frames := 0, cells := 0, slots := 0, locals := 0 } : Room) s m #[(.ref r0)] below meth c s₁ [] 0 0 := Stand.of_body Bd
  have e0 : s₁.heap = h0 := by rw [← hh, Bd.state]; rfl
  have N0 := Fr.nil n0
  have KK0 := Keep.refl h0 [r0]
  show own_Go p.tables e below s 0 0 (Q9c1p1 Z r0 gb wl wr w0 w1 w2 w3 k_gb h0 n0) (s₁.setTop (entryFrame m #[(.ref r0)] 8))
  rw [ef_9c1p1]
  refine own_step (U' := s₁.setTop (mkF m 1 #[rv r0, .unset, .unset, .unset, .unset, .unset, .unset, .unset] [(.ref r0)])) (fun t k => XS.aloadN X0.here hx rfl (hb hby d9_0) rfl rfl k) ?_
  obtain ⟨T1, X1, e1, st1⟩ := getF X0 hx hZ hown (host := "") (Or.inl (own_w hw 73 rfl)) Via.refl e0 F_counted_r0 (g := (mkF m 1 #[rv r0, .unset, .unset, .unset, .unset, .unset, .unset, .unset] [(.ref r0)])) rfl rfl (hb hby d9_1)
  refine own_step (U' := T1.setTop (mkF m 4 #[rv r0, .unset, .unset, .unset, .unset, .unset, .unset, .unset] [(.int (1 : Int32))])) st1 ?_
  refine own_step (U' := T1.setTop (mkF m 6 #[rv r0, iv (1 : Int32), .unset, .unset, .unset, .unset, .unset, .unset] [(.ref r0)])) (fun t k => XS.istoreN X1.here hx rfl (hb hby d9_4) rfl (l' := #[rv r0, iv (1 : Int32), .unset, .unset, .unset, .unset, .unset, .unset]) rfl (XS.aloadN X1.here hx rfl (hb hby d9_5) rfl rfl k)) ?_
  obtain ⟨T2, X2, e2, st2⟩ := getF X1 hx hZ hown (host := "") (Or.inl (own_w hw 57 rfl)) Via.refl e1 F_position_r0 (g := (mkF m 6 #[rv r0, iv (1 : Int32), .unset, .unset, .unset, .unset, .unset, .unset] [(.ref r0)])) rfl rfl (hb hby d9_6)
  refine own_step (U' := T2.setTop (mkF m 9 #[rv r0, iv (1 : Int32), .unset, .unset, .unset, .unset, .unset, .unset] [(.int (1 : Int32))])) st2 ?_
  refine own_step (U' := T2.setTop (mkF m 16 #[rv r0, iv (1 : Int32), iv (1 : Int32), .unset, .unset, .unset, .unset, .unset] [(.ref r0)])) (fun t k => XS.istoreN X2.here hx rfl (hb hby d9_9) rfl (l' := #[rv r0, iv (1 : Int32), iv (1 : Int32), .unset, .unset, .unset, .unset, .unset]) rfl (XS.iloadN X2.here hx rfl (hb hby d9_10) rfl (XS.iloadN X2.here hx rfl (hb hby d9_11) rfl (XS.icmpNo X2.here hx rfl (hb hby d9_12) rfl (by decide) (XS.aloadN X2.here hx rfl (hb hby d9_15) rfl rfl k))))) ?_
  obtain ⟨T3, X3, e3, st3⟩ := getF X2 hx hZ hown (host := "") (Or.inl (own_w hw 71 rfl)) Via.refl e2 F_line_r0 (g := (mkF m 16 #[rv r0, iv (1 : Int32), iv (1 : Int32), .unset, .unset, .unset, .unset, .unset] [(.ref r0)])) rfl rfl (hb hby d9_16)
  refine own_step (U' := T3.setTop (mkF m 19 #[rv r0, iv (1 : Int32), iv (1 : Int32), .unset, .unset, .unset, .unset, .unset] [(.int wl)])) st3 ?_
  exact own_out X3 (v := (some (.int wl))) hlk (own_nv Bd.returns) (by rw [e3]; exact ⟨by rw [show (F9c1p1 wl wr w0 w1 w2 w3) = wl from (by simp only [F9c1p1])], N0, KK0, E_r0, F_bytes_r0, F_position_r0, F_line_r0, F_counted_r0, F_afterCarriageReturn_r0⟩) (by decide) (by decide) (fun fs hr => retI X3 hx Bd.returns (hb hby d9_19) hr)
theorem ef_9c0p0 (m : MethodId) (r0 : Addr) : entryFrame m #[(.ref r0)] 8 = mkF m 0 #[rv r0, .unset, .unset, .unset, .unset, .unset, .unset, .unset] [] := by first | (simp [entryFrame, mkF, argsToLocals, Value.category]; done) | rfl
def F9c0p0 (wl : Int32) (wr : Int32) (w0 : Int32) (w1 : Int32) (w2 : Int32) (w3 : Int32) : Int32 :=
  wl
def Q9c0p0 (Z : State) (r0 : Addr) (gb : Addr) (wl : Int32) (wr : Int32) (w0 : Int32) (w1 : Int32) (w2 : Int32) (w3 : Int32) (k_gb : ClassId) (h0 : Heap) (n0 : Nat) (v : Option Value) (h : Heap) (L : List Loc) : Prop := v = some (.int (F9c0p0 wl wr w0 w1 w2 w3)) ∧ Fr n0 L ∧ Keep h0 h [r0] ∧ Exa Z h r0 own_XC ∧ Fld Z h r0 own_XC "bytes" "[B" (.ref gb) ∧ Fld Z h r0 own_XC "position" "I" (.int (0 : Int32)) ∧ Fld Z h r0 own_XC "line" "I" (.int wl) ∧ Fld Z h r0 own_XC "counted" "I" (.int (0 : Int32)) ∧ Fld Z h r0 own_XC "afterCarriageReturn" "Z" (.int wr)
set_option maxRecDepth 65536 in
set_option maxHeartbeats 40000000 in
theorem rm9c0p0 (l : Launch) (Z : State) (a0 : Array Value) (hw : ∀ d ∈ tables_1, d.before a0 Z = true) (ws : List Jvm.Cond) (r0 : Addr) (gb : Addr) (wl : Int32) (wr : Int32) (w0 : Int32) (w1 : Int32) (w2 : Int32) (w3 : Int32) (k_gb : ClassId) (h0 : Heap) (n0 : Nat) (Z0 : n0 ≤ h0.size) (E_r0 : Exa Z h0 r0 own_XC) (F_bytes_r0 : Fld Z h0 r0 own_XC "bytes" "[B" (.ref gb)) (F_position_r0 : Fld Z h0 r0 own_XC "position" "I" (.int (0 : Int32))) (F_line_r0 : Fld Z h0 r0 own_XC "line" "I" (.int wl)) (F_counted_r0 : Fld Z h0 r0 own_XC "counted" "I" (.int (0 : Int32))) (F_afterCarriageReturn_r0 : Fld Z h0 r0 own_XC "afterCarriageReturn" "Z" (.int wr)) (g_r0 : n0 ≤ r0) (V_gb : Arv Z h0 gb k_gb .byte (65536 : Int32) [(.int w0), (.int w1), (.int w2), (.int w3)] (.int (0 : Int32))) (hne : gb ≠ r0) :
    MetFree l (⟨own_XC, "line", "()I"⟩ : MethodName) (head1 (Jvm.Cond.code (⟨own_XC, "line", "()I"⟩ : MethodName) prog_148_method_16_code 8 (some .int) :: ws) ({ frames := 0, cells := 0, slots := 0, locals := 0 } : Room)) (fun a U => a = #[(.ref r0)] ∧ Z.Warmed39 U.vm ∧ U.heap = h0) (fun _ _ _ _ _ => True) (fun _ U o U' => ∃ v L, o = .returned v ∧ Q9c0p0 Z r0 gb wl wr w0 w1 w2 w3 k_gb h0 n0 v U'.heap L ∧ FrameEnd U o U' L ({ frames := 0, cells := 0, slots := 0, locals := 0 } : Room).cells ({ frames := 0, cells := 0, slots := 0, locals := 0 } : Room).slots) := by
  refine MetFree.of_bodySF (plainFor_of_name pn_9) hisR ?_
  intro p e s m args below meth c s₁ Bd hml0 hP hK
  obtain ⟨rfl, hZ, hh⟩ := hP
  have hx := Bd.exec
  have hby := Bd.bytes
  have hml : c.maxLocals = 8 := hml0
  have hown : s.vm.findClass own_XC = some m.cls := findClass_of_methodNamed Bd.named
  have hnm := (name_of_methodNamed Bd.named Bd.method).1
  have hlk : meth.locks = false := Bd.notSynchronized
  have X0 : Stand p l e ({ frames := 0, cells := 0, slots := 0, locals := 0 } : Room) s m #[(.ref r0)] below meth c s₁ [] 0 0 := Stand.of_body Bd
  have e0 : s₁.heap = h0 := by rw [← hh, Bd.state]; rfl
  have N0 := Fr.nil n0
  have KK0 := Keep.refl h0 [r0]
  show own_Go p.tables e below s 0 0 (Q9c0p0 Z r0 gb wl wr w0 w1 w2 w3 k_gb h0 n0) (s₁.setTop (entryFrame m #[(.ref r0)] 8))
  rw [ef_9c0p0]
  refine own_step (U' := s₁.setTop (mkF m 1 #[rv r0, .unset, .unset, .unset, .unset, .unset, .unset, .unset] [(.ref r0)])) (fun t k => XS.aloadN X0.here hx rfl (hb hby d9_0) rfl rfl k) ?_
  obtain ⟨T1, X1, e1, st1⟩ := getF X0 hx hZ hown (host := "") (Or.inl (own_w hw 73 rfl)) Via.refl e0 F_counted_r0 (g := (mkF m 1 #[rv r0, .unset, .unset, .unset, .unset, .unset, .unset, .unset] [(.ref r0)])) rfl rfl (hb hby d9_1)
  refine own_step (U' := T1.setTop (mkF m 4 #[rv r0, .unset, .unset, .unset, .unset, .unset, .unset, .unset] [(.int (0 : Int32))])) st1 ?_
  refine own_step (U' := T1.setTop (mkF m 6 #[rv r0, iv (0 : Int32), .unset, .unset, .unset, .unset, .unset, .unset] [(.ref r0)])) (fun t k => XS.istoreN X1.here hx rfl (hb hby d9_4) rfl (l' := #[rv r0, iv (0 : Int32), .unset, .unset, .unset, .unset, .unset, .unset]) rfl (XS.aloadN X1.here hx rfl (hb hby d9_5) rfl rfl k)) ?_
  obtain ⟨T2, X2, e2, st2⟩ := getF X1 hx hZ hown (host := "") (Or.inl (own_w hw 57 rfl)) Via.refl e1 F_position_r0 (g := (mkF m 6 #[rv r0, iv (0 : Int32), .unset, .unset, .unset, .unset, .unset, .unset] [(.ref r0)])) rfl rfl (hb hby d9_6)
  refine own_step (U' := T2.setTop (mkF m 9 #[rv r0, iv (0 : Int32), .unset, .unset, .unset, .unset, .unset, .unset] [(.int (0 : Int32))])) st2 ?_
  refine own_step (U' := T2.setTop (mkF m 16 #[rv r0, iv (0 : Int32), iv (0 : Int32), .unset, .unset, .unset, .unset, .unset] [(.ref r0)])) (fun t k => XS.istoreN X2.here hx rfl (hb hby d9_9) rfl (l' := #[rv r0, iv (0 : Int32), iv (0 : Int32), .unset, .unset, .unset, .unset, .unset]) rfl (XS.iloadN X2.here hx rfl (hb hby d9_10) rfl (XS.iloadN X2.here hx rfl (hb hby d9_11) rfl (XS.icmpNo X2.here hx rfl (hb hby d9_12) rfl (by decide) (XS.aloadN X2.here hx rfl (hb hby d9_15) rfl rfl k))))) ?_
  obtain ⟨T3, X3, e3, st3⟩ := getF X2 hx hZ hown (host := "") (Or.inl (own_w hw 71 rfl)) Via.refl e2 F_line_r0 (g := (mkF m 16 #[rv r0, iv (0 : Int32), iv (0 : Int32), .unset, .unset, .unset, .unset, .unset] [(.ref r0)])) rfl rfl (hb hby d9_16)
  refine own_step (U' := T3.setTop (mkF m 19 #[rv r0, iv (0 : Int32), iv (0 : Int32), .unset, .unset, .unset, .unset, .unset] [(.int wl)])) st3 ?_
  exact own_out X3 (v := (some (.int wl))) hlk (own_nv Bd.returns) (by rw [e3]; exact ⟨by rw [show (F9c0p0 wl wr w0 w1 w2 w3) = wl from (by simp only [F9c0p0])], N0, KK0, E_r0, F_bytes_r0, F_position_r0, F_line_r0, F_counted_r0, F_afterCarriageReturn_r0⟩) (by decide) (by decide) (fun fs hr => retI X3 hx Bd.returns (hb hby d9_19) hr)

theorem own_nn (x : Int32) : nar .byte (nar .byte x) = nar .byte x := by
  show x.toInt8.toInt32.toInt8.toInt32 = x.toInt8.toInt32
  have c1 := c_i2b x; have c2 := c_i2b x.toInt8.toInt32
  apply Int32.toInt_inj.mp
  omega
theorem own_st (prev b cnt : Int32) : (if (13 : Int32) < b then cnt else (if b = (13 : Int32) then (cnt + (1 : Int32)) else (if b = (10 : Int32) then (if prev = (13 : Int32) then cnt else (cnt + (1 : Int32))) else cnt))) = cnt + (if b = (13 : Int32) then (1 : Int32) else (if b = (10 : Int32) then (if prev = (13 : Int32) then (0 : Int32) else (1 : Int32)) else (0 : Int32))) := by
  by_cases h1 : (13 : Int32) < b
  · have h2 : ¬ b = 13 := fun e => by rw [e] at h1; revert h1; decide
    have h3 : ¬ b = 10 := fun e => by rw [e] at h1; revert h1; decide
    rw [if_pos h1, if_neg h2, if_neg h3, Int32.add_zero]
  · rw [if_neg h1]
    by_cases h2 : b = 13
    · rw [if_pos h2, if_pos h2]
    · rw [if_neg h2, if_neg h2]
      by_cases h3 : b = 10
      · rw [if_pos h3, if_pos h3]
        by_cases h4 : prev = 13
        · rw [if_pos h4, if_pos h4, Int32.add_zero]
        · rw [if_neg h4, if_neg h4]
      · rw [if_neg h3, if_neg h3, Int32.add_zero]
theorem own_first (b e : Int32) : (if (13 : Int32) < b then (0 : Int32) else (if b = (13 : Int32) then (1 : Int32) else (if b = (10 : Int32) then e else (0 : Int32)))) = (if b = (13 : Int32) then (1 : Int32) else (if b = (10 : Int32) then e else (0 : Int32))) := by
  by_cases h1 : (13 : Int32) < b
  · have h2 : ¬ b = 13 := fun e => by rw [e] at h1; revert h1; decide
    have h3 : ¬ b = 10 := fun e => by rw [e] at h1; revert h1; decide
    rw [if_pos h1, if_neg h2, if_neg h3]
  · rw [if_neg h1]
theorem own_zt : (if (0 : Int32) = (13 : Int32) then (0 : Int32) else (1 : Int32)) = (1 : Int32) := by decide
theorem own_pT : (if (if True then (0 : Int32) else (13 : Int32)) = (13 : Int32) then (0 : Int32) else (1 : Int32)) = (1 : Int32) := by decide
theorem own_p0 : (if (if (0 : Int32) = (0 : Int32) then (0 : Int32) else (13 : Int32)) = (13 : Int32) then (0 : Int32) else (1 : Int32)) = (1 : Int32) := by decide
theorem own_pv (w : Int32) : (if (if (nar .boolean (if w = (13 : Int32) then (1 : Int32) else (0 : Int32))) = (0 : Int32) then (0 : Int32) else (13 : Int32)) = (13 : Int32) then (0 : Int32) else (1 : Int32)) = (if w = (13 : Int32) then (0 : Int32) else (1 : Int32)) := by
  by_cases h : w = 13
  · rw [if_pos h, if_pos h]; decide
  · rw [if_neg h, if_neg h]; decide
theorem own_s1 {p s1 : Int32} (hs1 : s1 = ((p &&& (2147483647 : Int32)) % (5 : Int32))) : 0 ≤ s1.toInt ∧ s1.toInt < 5 := by
  have m := c_mask p 2147483647 31 (by decide) (by decide)
  have q := (c_irem (p &&& 2147483647) 5 5 (by decide)).1 (by omega)
  rw [hs1, q]; omega
theorem own_five {p s1 : Int32} (hs1 : s1 = ((p &&& (2147483647 : Int32)) % (5 : Int32))) : ((5 : Int32) - s1).toInt = 5 - s1.toInt := by
  have h := own_s1 hs1
  have e5 : (5 : Int32).toInt = 5 := by decide
  have c := c_isub 5 s1; have r := rng32 (5 - s1)
  omega
theorem own_nz {p s1 : Int32} (hs1 : s1 = ((p &&& (2147483647 : Int32)) % (5 : Int32))) : ((5 : Int32) - s1) ≠ 0 := fun e => by
  have h := own_five hs1; have h2 := own_s1 hs1
  rw [e] at h
  have e0 : (0 : Int32).toInt = 0 := by decide
  omega

theorem own_s {p q s1 s2 : Int32} (hs1 : s1 = ((p &&& (2147483647 : Int32)) % (5 : Int32))) (hs2 : s2 = (s1 + ((q &&& (2147483647 : Int32)) % ((5 : Int32) - s1)))) : (s1 = (0 : Int32) ∧ s2 = (0 : Int32)) ∨ (s1 = (0 : Int32) ∧ s2 = (1 : Int32)) ∨ (s1 = (0 : Int32) ∧ s2 = (2 : Int32)) ∨ (s1 = (0 : Int32) ∧ s2 = (3 : Int32)) ∨ (s1 = (0 : Int32) ∧ s2 = (4 : Int32)) ∨ (s1 = (1 : Int32) ∧ s2 = (1 : Int32)) ∨ (s1 = (1 : Int32) ∧ s2 = (2 : Int32)) ∨ (s1 = (1 : Int32) ∧ s2 = (3 : Int32)) ∨ (s1 = (1 : Int32) ∧ s2 = (4 : Int32)) ∨ (s1 = (2 : Int32) ∧ s2 = (2 : Int32)) ∨ (s1 = (2 : Int32) ∧ s2 = (3 : Int32)) ∨ (s1 = (2 : Int32) ∧ s2 = (4 : Int32)) ∨ (s1 = (3 : Int32) ∧ s2 = (3 : Int32)) ∨ (s1 = (3 : Int32) ∧ s2 = (4 : Int32)) ∨ (s1 = (4 : Int32) ∧ s2 = (4 : Int32)) := by
  have h1 := own_s1 hs1; have h5 := own_five hs1
  have m := c_mask q 2147483647 31 (by decide) (by decide)
  have c := (c_iremV (q &&& 2147483647) ((5 : Int32) - s1)).1 (by omega) (by omega)
  have a := c_iadd s1 ((q &&& (2147483647 : Int32)) % ((5 : Int32) - s1)); have r := rng32 (s1 + ((q &&& (2147483647 : Int32)) % ((5 : Int32) - s1)))
  rw [← hs2] at a r
  have lo : s1.toInt ≤ s2.toInt ∧ s2.toInt < 5 := by omega
  clear hs1 hs2 a r c m h5
  have hA : s1.toInt = 0 ∨ s1.toInt = 1 ∨ s1.toInt = 2 ∨ s1.toInt = 3 ∨ s1.toInt = 4 := by omega
  rcases hA with u | u | u | u | u
  · have hB : s2.toInt = 0 ∨ s2.toInt = 1 ∨ s2.toInt = 2 ∨ s2.toInt = 3 ∨ s2.toInt = 4 := by omega
    rcases hB with w | w | w | w | w
    · exact Or.inl ⟨Int32.toInt_inj.mp u, Int32.toInt_inj.mp w⟩
    · exact Or.inr (Or.inl ⟨Int32.toInt_inj.mp u, Int32.toInt_inj.mp w⟩)
    · exact Or.inr (Or.inr (Or.inl ⟨Int32.toInt_inj.mp u, Int32.toInt_inj.mp w⟩))
    · exact Or.inr (Or.inr (Or.inr (Or.inl ⟨Int32.toInt_inj.mp u, Int32.toInt_inj.mp w⟩)))
    · exact Or.inr (Or.inr (Or.inr (Or.inr (Or.inl ⟨Int32.toInt_inj.mp u, Int32.toInt_inj.mp w⟩))))
  · have hB : s2.toInt = 1 ∨ s2.toInt = 2 ∨ s2.toInt = 3 ∨ s2.toInt = 4 := by omega
    rcases hB with w | w | w | w
    · exact Or.inr (Or.inr (Or.inr (Or.inr (Or.inr (Or.inl ⟨Int32.toInt_inj.mp u, Int32.toInt_inj.mp w⟩)))))
    · exact Or.inr (Or.inr (Or.inr (Or.inr (Or.inr (Or.inr (Or.inl ⟨Int32.toInt_inj.mp u, Int32.toInt_inj.mp w⟩))))))
    · exact Or.inr (Or.inr (Or.inr (Or.inr (Or.inr (Or.inr (Or.inr (Or.inl ⟨Int32.toInt_inj.mp u, Int32.toInt_inj.mp w⟩)))))))
    · exact Or.inr (Or.inr (Or.inr (Or.inr (Or.inr (Or.inr (Or.inr (Or.inr (Or.inl ⟨Int32.toInt_inj.mp u, Int32.toInt_inj.mp w⟩))))))))
  · have hB : s2.toInt = 2 ∨ s2.toInt = 3 ∨ s2.toInt = 4 := by omega
    rcases hB with w | w | w
    · exact Or.inr (Or.inr (Or.inr (Or.inr (Or.inr (Or.inr (Or.inr (Or.inr (Or.inr (Or.inl ⟨Int32.toInt_inj.mp u, Int32.toInt_inj.mp w⟩)))))))))
    · exact Or.inr (Or.inr (Or.inr (Or.inr (Or.inr (Or.inr (Or.inr (Or.inr (Or.inr (Or.inr (Or.inl ⟨Int32.toInt_inj.mp u, Int32.toInt_inj.mp w⟩))))))))))
    · exact Or.inr (Or.inr (Or.inr (Or.inr (Or.inr (Or.inr (Or.inr (Or.inr (Or.inr (Or.inr (Or.inr (Or.inl ⟨Int32.toInt_inj.mp u, Int32.toInt_inj.mp w⟩)))))))))))
  · have hB : s2.toInt = 3 ∨ s2.toInt = 4 := by omega
    rcases hB with w | w
    · exact Or.inr (Or.inr (Or.inr (Or.inr (Or.inr (Or.inr (Or.inr (Or.inr (Or.inr (Or.inr (Or.inr (Or.inr (Or.inl ⟨Int32.toInt_inj.mp u, Int32.toInt_inj.mp w⟩))))))))))))
    · exact Or.inr (Or.inr (Or.inr (Or.inr (Or.inr (Or.inr (Or.inr (Or.inr (Or.inr (Or.inr (Or.inr (Or.inr (Or.inr (Or.inl ⟨Int32.toInt_inj.mp u, Int32.toInt_inj.mp w⟩)))))))))))))
  · have hB : s2.toInt = 4 := by omega
    exact Or.inr (Or.inr (Or.inr (Or.inr (Or.inr (Or.inr (Or.inr (Or.inr (Or.inr (Or.inr (Or.inr (Or.inr (Or.inr (Or.inr (⟨Int32.toInt_inj.mp u, Int32.toInt_inj.mp hB⟩))))))))))))))

theorem own_add_sub (a b : Int32) : a + (b - a) = b := by
  apply Int32.toInt_inj.mp
  have h := c_isub b a; have h2 := c_iadd a (b - a); have r := rng32 (a + (b - a)); have r2 := rng32 b; have r3 := rng32 a; have r4 := rng32 (b - a)
  omega
theorem own_cpA {p s1 : Int32} (hs1 : s1 = ((p &&& (2147483647 : Int32)) % (5 : Int32))) : ((0 : Int32) = (0 : Int32) ∧ s1 = (0 : Int32)) ∨ ((0 : Int32) = (0 : Int32) ∧ s1 = (1 : Int32)) ∨ ((0 : Int32) = (0 : Int32) ∧ s1 = (2 : Int32)) ∨ ((0 : Int32) = (0 : Int32) ∧ s1 = (3 : Int32)) ∨ ((0 : Int32) = (0 : Int32) ∧ s1 = (4 : Int32)) ∨ ((0 : Int32) = (1 : Int32) ∧ s1 = (1 : Int32)) ∨ ((0 : Int32) = (1 : Int32) ∧ s1 = (2 : Int32)) ∨ ((0 : Int32) = (1 : Int32) ∧ s1 = (3 : Int32)) ∨ ((0 : Int32) = (1 : Int32) ∧ s1 = (4 : Int32)) ∨ ((0 : Int32) = (2 : Int32) ∧ s1 = (2 : Int32)) ∨ ((0 : Int32) = (2 : Int32) ∧ s1 = (3 : Int32)) ∨ ((0 : Int32) = (2 : Int32) ∧ s1 = (4 : Int32)) ∨ ((0 : Int32) = (3 : Int32) ∧ s1 = (3 : Int32)) ∨ ((0 : Int32) = (3 : Int32) ∧ s1 = (4 : Int32)) ∨ ((0 : Int32) = (4 : Int32) ∧ s1 = (4 : Int32)) := by
  have h1 := own_s1 hs1; clear hs1
  have hA : s1.toInt = 0 ∨ s1.toInt = 1 ∨ s1.toInt = 2 ∨ s1.toInt = 3 ∨ s1.toInt = 4 := by omega
  rcases hA with u | u | u | u | u
  · have v : s1 = (0 : Int32) := Int32.toInt_inj.mp u
    subst v; decide
  · have v : s1 = (1 : Int32) := Int32.toInt_inj.mp u
    subst v; decide
  · have v : s1 = (2 : Int32) := Int32.toInt_inj.mp u
    subst v; decide
  · have v : s1 = (3 : Int32) := Int32.toInt_inj.mp u
    subst v; decide
  · have v : s1 = (4 : Int32) := Int32.toInt_inj.mp u
    subst v; decide
theorem own_cpC {p q s1 s2 : Int32} (hs1 : s1 = ((p &&& (2147483647 : Int32)) % (5 : Int32))) (hs2 : s2 = (s1 + ((q &&& (2147483647 : Int32)) % ((5 : Int32) - s1)))) : (s2 = (0 : Int32) ∧ (4 : Int32) = (0 : Int32)) ∨ (s2 = (0 : Int32) ∧ (4 : Int32) = (1 : Int32)) ∨ (s2 = (0 : Int32) ∧ (4 : Int32) = (2 : Int32)) ∨ (s2 = (0 : Int32) ∧ (4 : Int32) = (3 : Int32)) ∨ (s2 = (0 : Int32) ∧ (4 : Int32) = (4 : Int32)) ∨ (s2 = (1 : Int32) ∧ (4 : Int32) = (1 : Int32)) ∨ (s2 = (1 : Int32) ∧ (4 : Int32) = (2 : Int32)) ∨ (s2 = (1 : Int32) ∧ (4 : Int32) = (3 : Int32)) ∨ (s2 = (1 : Int32) ∧ (4 : Int32) = (4 : Int32)) ∨ (s2 = (2 : Int32) ∧ (4 : Int32) = (2 : Int32)) ∨ (s2 = (2 : Int32) ∧ (4 : Int32) = (3 : Int32)) ∨ (s2 = (2 : Int32) ∧ (4 : Int32) = (4 : Int32)) ∨ (s2 = (3 : Int32) ∧ (4 : Int32) = (3 : Int32)) ∨ (s2 = (3 : Int32) ∧ (4 : Int32) = (4 : Int32)) ∨ (s2 = (4 : Int32) ∧ (4 : Int32) = (4 : Int32)) := by
  rcases own_s hs1 hs2 with ⟨_, b⟩ | ⟨_, b⟩ | ⟨_, b⟩ | ⟨_, b⟩ | ⟨_, b⟩ | ⟨_, b⟩ | ⟨_, b⟩ | ⟨_, b⟩ | ⟨_, b⟩ | ⟨_, b⟩ | ⟨_, b⟩ | ⟨_, b⟩ | ⟨_, b⟩ | ⟨_, b⟩ | ⟨_, b⟩ <;> (subst b; decide)
theorem own_F9c0p0 (wl w0 w1 w2 w3 wr : Int32) : F9c0p0 wl wr w0 w1 w2 w3 = wl := rfl
theorem own_F9c0p1 (wl w0 w1 w2 w3 : Int32) : F9c0p1 wl (0 : Int32) w0 w1 w2 w3 = (wl + (F2i0 w0 w1 w2 w3)) := by
  simp only [F9c0p1, F2i0, own_pT, own_zt, if_true, own_first, own_st]
  try simp only [Int32.add_assoc]
theorem own_F9c0p2 (wl w0 w1 w2 w3 : Int32) : F9c0p2 wl (0 : Int32) w0 w1 w2 w3 = ((wl + (F2i0 w0 w1 w2 w3)) + (F2i1 w0 w1 w2 w3)) := by
  simp only [F9c0p2, F2i0, F2i1, own_pT, own_zt, if_true, own_first, own_st]
  try simp only [Int32.add_assoc]
theorem own_F9c0p3 (wl w0 w1 w2 w3 : Int32) : F9c0p3 wl (0 : Int32) w0 w1 w2 w3 = (((wl + (F2i0 w0 w1 w2 w3)) + (F2i1 w0 w1 w2 w3)) + (F2i2 w0 w1 w2 w3)) := by
  simp only [F9c0p3, F2i0, F2i1, F2i2, own_pT, own_zt, if_true, own_first, own_st]
  try simp only [Int32.add_assoc]
theorem own_F9c0p4 (wl w0 w1 w2 w3 : Int32) : F9c0p4 wl (0 : Int32) w0 w1 w2 w3 = ((((wl + (F2i0 w0 w1 w2 w3)) + (F2i1 w0 w1 w2 w3)) + (F2i2 w0 w1 w2 w3)) + (F2i3 w0 w1 w2 w3)) := by
  simp only [F9c0p4, F2i0, F2i1, F2i2, F2i3, own_pT, own_zt, if_true, own_first, own_st]
  try simp only [Int32.add_assoc]
theorem own_F9c1p1 (wl w0 w1 w2 w3 wr : Int32) : F9c1p1 wl wr w0 w1 w2 w3 = wl := rfl
theorem own_F9c1p2 (wl w0 w1 w2 w3 : Int32) : F9c1p2 wl (nar .boolean (if w0 = (13 : Int32) then (1 : Int32) else (0 : Int32))) w0 w1 w2 w3 = (wl + (F2i1 w0 w1 w2 w3)) := by
  simp only [F9c1p2, F2i1, own_pv, own_first, own_st]
  try simp only [Int32.add_assoc]
theorem own_F9c1p3 (wl w0 w1 w2 w3 : Int32) : F9c1p3 wl (nar .boolean (if w0 = (13 : Int32) then (1 : Int32) else (0 : Int32))) w0 w1 w2 w3 = ((wl + (F2i1 w0 w1 w2 w3)) + (F2i2 w0 w1 w2 w3)) := by
  simp only [F9c1p3, F2i1, F2i2, own_pv, own_first, own_st]
  try simp only [Int32.add_assoc]
theorem own_F9c1p4 (wl w0 w1 w2 w3 : Int32) : F9c1p4 wl (nar .boolean (if w0 = (13 : Int32) then (1 : Int32) else (0 : Int32))) w0 w1 w2 w3 = (((wl + (F2i1 w0 w1 w2 w3)) + (F2i2 w0 w1 w2 w3)) + (F2i3 w0 w1 w2 w3)) := by
  simp only [F9c1p4, F2i1, F2i2, F2i3, own_pv, own_first, own_st]
  try simp only [Int32.add_assoc]
theorem own_F9c2p2 (wl w0 w1 w2 w3 wr : Int32) : F9c2p2 wl wr w0 w1 w2 w3 = wl := rfl
theorem own_F9c2p3 (wl w0 w1 w2 w3 : Int32) : F9c2p3 wl (nar .boolean (if w1 = (13 : Int32) then (1 : Int32) else (0 : Int32))) w0 w1 w2 w3 = (wl + (F2i2 w0 w1 w2 w3)) := by
  simp only [F9c2p3, F2i2, own_pv, own_first, own_st]
  try simp only [Int32.add_assoc]
theorem own_F9c2p4 (wl w0 w1 w2 w3 : Int32) : F9c2p4 wl (nar .boolean (if w1 = (13 : Int32) then (1 : Int32) else (0 : Int32))) w0 w1 w2 w3 = ((wl + (F2i2 w0 w1 w2 w3)) + (F2i3 w0 w1 w2 w3)) := by
  simp only [F9c2p4, F2i2, F2i3, own_pv, own_first, own_st]
  try simp only [Int32.add_assoc]
theorem own_F9c3p3 (wl w0 w1 w2 w3 wr : Int32) : F9c3p3 wl wr w0 w1 w2 w3 = wl := rfl
theorem own_F9c3p4 (wl w0 w1 w2 w3 : Int32) : F9c3p4 wl (nar .boolean (if w2 = (13 : Int32) then (1 : Int32) else (0 : Int32))) w0 w1 w2 w3 = (wl + (F2i3 w0 w1 w2 w3)) := by
  simp only [F9c3p4, F2i3, own_pv, own_first, own_st]
  try simp only [Int32.add_assoc]
theorem own_F9c4p4 (wl w0 w1 w2 w3 wr : Int32) : F9c4p4 wl wr w0 w1 w2 w3 = wl := rfl
def own_pre (p w0 w1 w2 w3 : Int32) : Int32 := if p = (0 : Int32) then (1 : Int32) else if p = (1 : Int32) then ((1 : Int32) + (F2i0 w0 w1 w2 w3)) else if p = (2 : Int32) then (((1 : Int32) + (F2i0 w0 w1 w2 w3)) + (F2i1 w0 w1 w2 w3)) else if p = (3 : Int32) then ((((1 : Int32) + (F2i0 w0 w1 w2 w3)) + (F2i1 w0 w1 w2 w3)) + (F2i2 w0 w1 w2 w3)) else (((((1 : Int32) + (F2i0 w0 w1 w2 w3)) + (F2i1 w0 w1 w2 w3)) + (F2i2 w0 w1 w2 w3)) + (F2i3 w0 w1 w2 w3))
def own_AF (p w0 w1 w2 w3 : Int32) : Int32 := if p = (0 : Int32) then (0 : Int32) else if p = (1 : Int32) then (nar .boolean (if w0 = (13 : Int32) then (1 : Int32) else (0 : Int32))) else if p = (2 : Int32) then (nar .boolean (if w1 = (13 : Int32) then (1 : Int32) else (0 : Int32))) else if p = (3 : Int32) then (nar .boolean (if w2 = (13 : Int32) then (1 : Int32) else (0 : Int32))) else (nar .boolean (if w3 = (13 : Int32) then (1 : Int32) else (0 : Int32)))
theorem own_pre0 (w0 w1 w2 w3 : Int32) : own_pre (0 : Int32) w0 w1 w2 w3 = (1 : Int32) := rfl
theorem own_AF0 (w0 w1 w2 w3 : Int32) : own_AF (0 : Int32) w0 w1 w2 w3 = (0 : Int32) := rfl
theorem own_pre1 (w0 w1 w2 w3 : Int32) : own_pre (1 : Int32) w0 w1 w2 w3 = ((1 : Int32) + (F2i0 w0 w1 w2 w3)) := rfl
theorem own_AF1 (w0 w1 w2 w3 : Int32) : own_AF (1 : Int32) w0 w1 w2 w3 = (nar .boolean (if w0 = (13 : Int32) then (1 : Int32) else (0 : Int32))) := rfl
theorem own_pre2 (w0 w1 w2 w3 : Int32) : own_pre (2 : Int32) w0 w1 w2 w3 = (((1 : Int32) + (F2i0 w0 w1 w2 w3)) + (F2i1 w0 w1 w2 w3)) := rfl
theorem own_AF2 (w0 w1 w2 w3 : Int32) : own_AF (2 : Int32) w0 w1 w2 w3 = (nar .boolean (if w1 = (13 : Int32) then (1 : Int32) else (0 : Int32))) := rfl
theorem own_pre3 (w0 w1 w2 w3 : Int32) : own_pre (3 : Int32) w0 w1 w2 w3 = ((((1 : Int32) + (F2i0 w0 w1 w2 w3)) + (F2i1 w0 w1 w2 w3)) + (F2i2 w0 w1 w2 w3)) := rfl
theorem own_AF3 (w0 w1 w2 w3 : Int32) : own_AF (3 : Int32) w0 w1 w2 w3 = (nar .boolean (if w2 = (13 : Int32) then (1 : Int32) else (0 : Int32))) := rfl
theorem own_pre4 (w0 w1 w2 w3 : Int32) : own_pre (4 : Int32) w0 w1 w2 w3 = (((((1 : Int32) + (F2i0 w0 w1 w2 w3)) + (F2i1 w0 w1 w2 w3)) + (F2i2 w0 w1 w2 w3)) + (F2i3 w0 w1 w2 w3)) := rfl
theorem own_AF4 (w0 w1 w2 w3 : Int32) : own_AF (4 : Int32) w0 w1 w2 w3 = (nar .boolean (if w3 = (13 : Int32) then (1 : Int32) else (0 : Int32))) := rfl
def Q9s (Z : State) (r0 : Addr) (gb : Addr) (w : Int32) (wl : Int32) (wc : Int32) (wr : Int32) (w0 : Int32) (w1 : Int32) (w2 : Int32) (w3 : Int32) (k_gb : ClassId) (h0 : Heap) (n0 : Nat) (v : Option Value) (h : Heap) (L : List Loc) : Prop := v = some (.int (own_pre w w0 w1 w2 w3)) ∧ Fr n0 L ∧ Keep h0 h [r0] ∧ Exa Z h r0 own_XC ∧ Fld Z h r0 own_XC "bytes" "[B" (.ref gb) ∧ Fld Z h r0 own_XC "position" "I" (.int w) ∧ Fld Z h r0 own_XC "line" "I" (.int (own_pre w w0 w1 w2 w3)) ∧ Fld Z h r0 own_XC "counted" "I" (.int w) ∧ Fld Z h r0 own_XC "afterCarriageReturn" "Z" (.int (own_AF w w0 w1 w2 w3))
set_option maxRecDepth 65536 in
theorem rm9s (l : Launch) (Z : State) (a0 : Array Value) (hw : ∀ d ∈ tables_1, d.before a0 Z = true) (ws : List Jvm.Cond) (r0 : Addr) (gb : Addr) (w : Int32) (wl : Int32) (wc : Int32) (wr : Int32) (w0 : Int32) (w1 : Int32) (w2 : Int32) (w3 : Int32) (k_gb : ClassId) (h0 : Heap) (n0 : Nat) (Z0 : n0 ≤ h0.size) (E_r0 : Exa Z h0 r0 own_XC) (F_bytes_r0 : Fld Z h0 r0 own_XC "bytes" "[B" (.ref gb)) (F_position_r0 : Fld Z h0 r0 own_XC "position" "I" (.int w)) (F_line_r0 : Fld Z h0 r0 own_XC "line" "I" (.int wl)) (F_counted_r0 : Fld Z h0 r0 own_XC "counted" "I" (.int wc)) (F_afterCarriageReturn_r0 : Fld Z h0 r0 own_XC "afterCarriageReturn" "Z" (.int wr)) (g_r0 : n0 ≤ r0) (V_gb : Arv Z h0 gb k_gb .byte (65536 : Int32) [(.int w0), (.int w1), (.int w2), (.int w3)] (.int (0 : Int32))) (hne : gb ≠ r0) (hcp : (wc = (0 : Int32) ∧ w = (0 : Int32)) ∨ (wc = (0 : Int32) ∧ w = (1 : Int32)) ∨ (wc = (0 : Int32) ∧ w = (2 : Int32)) ∨ (wc = (0 : Int32) ∧ w = (3 : Int32)) ∨ (wc = (0 : Int32) ∧ w = (4 : Int32)) ∨ (wc = (1 : Int32) ∧ w = (1 : Int32)) ∨ (wc = (1 : Int32) ∧ w = (2 : Int32)) ∨ (wc = (1 : Int32) ∧ w = (3 : Int32)) ∨ (wc = (1 : Int32) ∧ w = (4 : Int32)) ∨ (wc = (2 : Int32) ∧ w = (2 : Int32)) ∨ (wc = (2 : Int32) ∧ w = (3 : Int32)) ∨ (wc = (2 : Int32) ∧ w = (4 : Int32)) ∨ (wc = (3 : Int32) ∧ w = (3 : Int32)) ∨ (wc = (3 : Int32) ∧ w = (4 : Int32)) ∨ (wc = (4 : Int32) ∧ w = (4 : Int32))) (hwl : wl = own_pre wc w0 w1 w2 w3) (hwr : wr = own_AF wc w0 w1 w2 w3) :
    MetFree l (⟨own_XC, "line", "()I"⟩ : MethodName) (head1 (Jvm.Cond.code (⟨own_XC, "line", "()I"⟩ : MethodName) prog_148_method_16_code 8 (some .int) :: ws) ({ frames := 0, cells := 0, slots := 0, locals := 0 } : Room)) (fun a U => a = #[(.ref r0)] ∧ Z.Warmed39 U.vm ∧ U.heap = h0) (fun _ _ _ _ _ => True) (fun _ U o U' => ∃ v L, o = .returned v ∧ Q9s Z r0 gb w wl wc wr w0 w1 w2 w3 k_gb h0 n0 v U'.heap L ∧ FrameEnd U o U' L ({ frames := 0, cells := 0, slots := 0, locals := 0 } : Room).cells ({ frames := 0, cells := 0, slots := 0, locals := 0 } : Room).slots) := by
  rcases hcp with ⟨rfl, rfl⟩ | ⟨rfl, rfl⟩ | ⟨rfl, rfl⟩ | ⟨rfl, rfl⟩ | ⟨rfl, rfl⟩ | ⟨rfl, rfl⟩ | ⟨rfl, rfl⟩ | ⟨rfl, rfl⟩ | ⟨rfl, rfl⟩ | ⟨rfl, rfl⟩ | ⟨rfl, rfl⟩ | ⟨rfl, rfl⟩ | ⟨rfl, rfl⟩ | ⟨rfl, rfl⟩ | ⟨rfl, rfl⟩
  · have hF : F9c0p0 wl wr w0 w1 w2 w3 = own_pre (0 : Int32) w0 w1 w2 w3 := by rw [hwl]; exact rfl
    have hq : Q9s Z r0 gb (0 : Int32) wl (0 : Int32) wr w0 w1 w2 w3 k_gb h0 n0 = Q9c0p0 Z r0 gb wl wr w0 w1 w2 w3 k_gb h0 n0 := by
      funext v h L; unfold Q9s Q9c0p0; rw [hF]; rw [hwl, hwr]
    rw [hq]; exact rm9c0p0 l Z a0 hw ws r0 gb wl wr w0 w1 w2 w3 k_gb h0 n0 Z0 E_r0 F_bytes_r0 F_position_r0 F_line_r0 F_counted_r0 F_afterCarriageReturn_r0 g_r0 V_gb hne
  · have hF : F9c0p1 wl wr w0 w1 w2 w3 = own_pre (1 : Int32) w0 w1 w2 w3 := by rw [hwl, hwr]; exact (own_F9c0p1 (own_pre (0 : Int32) w0 w1 w2 w3) w0 w1 w2 w3).trans rfl
    have hq : Q9s Z r0 gb (1 : Int32) wl (0 : Int32) wr w0 w1 w2 w3 k_gb h0 n0 = Q9c0p1 Z r0 gb wl wr w0 w1 w2 w3 k_gb h0 n0 := by
      funext v h L; unfold Q9s Q9c0p1; rw [hF]; rfl
    rw [hq]; exact rm9c0p1 l Z a0 hw ws r0 gb wl wr w0 w1 w2 w3 k_gb h0 n0 Z0 E_r0 F_bytes_r0 F_position_r0 F_line_r0 F_counted_r0 F_afterCarriageReturn_r0 g_r0 V_gb hne
  · have hF : F9c0p2 wl wr w0 w1 w2 w3 = own_pre (2 : Int32) w0 w1 w2 w3 := by rw [hwl, hwr]; exact (own_F9c0p2 (own_pre (0 : Int32) w0 w1 w2 w3) w0 w1 w2 w3).trans rfl
    have hq : Q9s Z r0 gb (2 : Int32) wl (0 : Int32) wr w0 w1 w2 w3 k_gb h0 n0 = Q9c0p2 Z r0 gb wl wr w0 w1 w2 w3 k_gb h0 n0 := by
      funext v h L; unfold Q9s Q9c0p2; rw [hF]; rfl
    rw [hq]; exact rm9c0p2 l Z a0 hw ws r0 gb wl wr w0 w1 w2 w3 k_gb h0 n0 Z0 E_r0 F_bytes_r0 F_position_r0 F_line_r0 F_counted_r0 F_afterCarriageReturn_r0 g_r0 V_gb hne
  · have hF : F9c0p3 wl wr w0 w1 w2 w3 = own_pre (3 : Int32) w0 w1 w2 w3 := by rw [hwl, hwr]; exact (own_F9c0p3 (own_pre (0 : Int32) w0 w1 w2 w3) w0 w1 w2 w3).trans rfl
    have hq : Q9s Z r0 gb (3 : Int32) wl (0 : Int32) wr w0 w1 w2 w3 k_gb h0 n0 = Q9c0p3 Z r0 gb wl wr w0 w1 w2 w3 k_gb h0 n0 := by
      funext v h L; unfold Q9s Q9c0p3; rw [hF]; rfl
    rw [hq]; exact rm9c0p3 l Z a0 hw ws r0 gb wl wr w0 w1 w2 w3 k_gb h0 n0 Z0 E_r0 F_bytes_r0 F_position_r0 F_line_r0 F_counted_r0 F_afterCarriageReturn_r0 g_r0 V_gb hne
  · have hF : F9c0p4 wl wr w0 w1 w2 w3 = own_pre (4 : Int32) w0 w1 w2 w3 := by rw [hwl, hwr]; exact (own_F9c0p4 (own_pre (0 : Int32) w0 w1 w2 w3) w0 w1 w2 w3).trans rfl
    have hq : Q9s Z r0 gb (4 : Int32) wl (0 : Int32) wr w0 w1 w2 w3 k_gb h0 n0 = Q9c0p4 Z r0 gb wl wr w0 w1 w2 w3 k_gb h0 n0 := by
      funext v h L; unfold Q9s Q9c0p4; rw [hF]; rfl
    rw [hq]; exact rm9c0p4 l Z a0 hw ws r0 gb wl wr w0 w1 w2 w3 k_gb h0 n0 Z0 E_r0 F_bytes_r0 F_position_r0 F_line_r0 F_counted_r0 F_afterCarriageReturn_r0 g_r0 V_gb hne
  · have hF : F9c1p1 wl wr w0 w1 w2 w3 = own_pre (1 : Int32) w0 w1 w2 w3 := by rw [hwl]; exact rfl
    have hq : Q9s Z r0 gb (1 : Int32) wl (1 : Int32) wr w0 w1 w2 w3 k_gb h0 n0 = Q9c1p1 Z r0 gb wl wr w0 w1 w2 w3 k_gb h0 n0 := by
      funext v h L; unfold Q9s Q9c1p1; rw [hF]; rw [hwl, hwr]
    rw [hq]; exact rm9c1p1 l Z a0 hw ws r0 gb wl wr w0 w1 w2 w3 k_gb h0 n0 Z0 E_r0 F_bytes_r0 F_position_r0 F_line_r0 F_counted_r0 F_afterCarriageReturn_r0 g_r0 V_gb hne
  · have hF : F9c1p2 wl wr w0 w1 w2 w3 = own_pre (2 : Int32) w0 w1 w2 w3 := by rw [hwl, hwr]; exact (own_F9c1p2 (own_pre (1 : Int32) w0 w1 w2 w3) w0 w1 w2 w3).trans rfl
    have hq : Q9s Z r0 gb (2 : Int32) wl (1 : Int32) wr w0 w1 w2 w3 k_gb h0 n0 = Q9c1p2 Z r0 gb wl wr w0 w1 w2 w3 k_gb h0 n0 := by
      funext v h L; unfold Q9s Q9c1p2; rw [hF]; rfl
    rw [hq]; exact rm9c1p2 l Z a0 hw ws r0 gb wl wr w0 w1 w2 w3 k_gb h0 n0 Z0 E_r0 F_bytes_r0 F_position_r0 F_line_r0 F_counted_r0 F_afterCarriageReturn_r0 g_r0 V_gb hne
  · have hF : F9c1p3 wl wr w0 w1 w2 w3 = own_pre (3 : Int32) w0 w1 w2 w3 := by rw [hwl, hwr]; exact (own_F9c1p3 (own_pre (1 : Int32) w0 w1 w2 w3) w0 w1 w2 w3).trans rfl
    have hq : Q9s Z r0 gb (3 : Int32) wl (1 : Int32) wr w0 w1 w2 w3 k_gb h0 n0 = Q9c1p3 Z r0 gb wl wr w0 w1 w2 w3 k_gb h0 n0 := by
      funext v h L; unfold Q9s Q9c1p3; rw [hF]; rfl
    rw [hq]; exact rm9c1p3 l Z a0 hw ws r0 gb wl wr w0 w1 w2 w3 k_gb h0 n0 Z0 E_r0 F_bytes_r0 F_position_r0 F_line_r0 F_counted_r0 F_afterCarriageReturn_r0 g_r0 V_gb hne
  · have hF : F9c1p4 wl wr w0 w1 w2 w3 = own_pre (4 : Int32) w0 w1 w2 w3 := by rw [hwl, hwr]; exact (own_F9c1p4 (own_pre (1 : Int32) w0 w1 w2 w3) w0 w1 w2 w3).trans rfl
    have hq : Q9s Z r0 gb (4 : Int32) wl (1 : Int32) wr w0 w1 w2 w3 k_gb h0 n0 = Q9c1p4 Z r0 gb wl wr w0 w1 w2 w3 k_gb h0 n0 := by
      funext v h L; unfold Q9s Q9c1p4; rw [hF]; rfl
    rw [hq]; exact rm9c1p4 l Z a0 hw ws r0 gb wl wr w0 w1 w2 w3 k_gb h0 n0 Z0 E_r0 F_bytes_r0 F_position_r0 F_line_r0 F_counted_r0 F_afterCarriageReturn_r0 g_r0 V_gb hne
  · have hF : F9c2p2 wl wr w0 w1 w2 w3 = own_pre (2 : Int32) w0 w1 w2 w3 := by rw [hwl]; exact rfl
    have hq : Q9s Z r0 gb (2 : Int32) wl (2 : Int32) wr w0 w1 w2 w3 k_gb h0 n0 = Q9c2p2 Z r0 gb wl wr w0 w1 w2 w3 k_gb h0 n0 := by
      funext v h L; unfold Q9s Q9c2p2; rw [hF]; rw [hwl, hwr]
    rw [hq]; exact rm9c2p2 l Z a0 hw ws r0 gb wl wr w0 w1 w2 w3 k_gb h0 n0 Z0 E_r0 F_bytes_r0 F_position_r0 F_line_r0 F_counted_r0 F_afterCarriageReturn_r0 g_r0 V_gb hne
  · have hF : F9c2p3 wl wr w0 w1 w2 w3 = own_pre (3 : Int32) w0 w1 w2 w3 := by rw [hwl, hwr]; exact (own_F9c2p3 (own_pre (2 : Int32) w0 w1 w2 w3) w0 w1 w2 w3).trans rfl
    have hq : Q9s Z r0 gb (3 : Int32) wl (2 : Int32) wr w0 w1 w2 w3 k_gb h0 n0 = Q9c2p3 Z r0 gb wl wr w0 w1 w2 w3 k_gb h0 n0 := by
      funext v h L; unfold Q9s Q9c2p3; rw [hF]; rfl
    rw [hq]; exact rm9c2p3 l Z a0 hw ws r0 gb wl wr w0 w1 w2 w3 k_gb h0 n0 Z0 E_r0 F_bytes_r0 F_position_r0 F_line_r0 F_counted_r0 F_afterCarriageReturn_r0 g_r0 V_gb hne
  · have hF : F9c2p4 wl wr w0 w1 w2 w3 = own_pre (4 : Int32) w0 w1 w2 w3 := by rw [hwl, hwr]; exact (own_F9c2p4 (own_pre (2 : Int32) w0 w1 w2 w3) w0 w1 w2 w3).trans rfl
    have hq : Q9s Z r0 gb (4 : Int32) wl (2 : Int32) wr w0 w1 w2 w3 k_gb h0 n0 = Q9c2p4 Z r0 gb wl wr w0 w1 w2 w3 k_gb h0 n0 := by
      funext v h L; unfold Q9s Q9c2p4; rw [hF]; rfl
    rw [hq]; exact rm9c2p4 l Z a0 hw ws r0 gb wl wr w0 w1 w2 w3 k_gb h0 n0 Z0 E_r0 F_bytes_r0 F_position_r0 F_line_r0 F_counted_r0 F_afterCarriageReturn_r0 g_r0 V_gb hne
  · have hF : F9c3p3 wl wr w0 w1 w2 w3 = own_pre (3 : Int32) w0 w1 w2 w3 := by rw [hwl]; exact rfl
    have hq : Q9s Z r0 gb (3 : Int32) wl (3 : Int32) wr w0 w1 w2 w3 k_gb h0 n0 = Q9c3p3 Z r0 gb wl wr w0 w1 w2 w3 k_gb h0 n0 := by
      funext v h L; unfold Q9s Q9c3p3; rw [hF]; rw [hwl, hwr]
    rw [hq]; exact rm9c3p3 l Z a0 hw ws r0 gb wl wr w0 w1 w2 w3 k_gb h0 n0 Z0 E_r0 F_bytes_r0 F_position_r0 F_line_r0 F_counted_r0 F_afterCarriageReturn_r0 g_r0 V_gb hne
  · have hF : F9c3p4 wl wr w0 w1 w2 w3 = own_pre (4 : Int32) w0 w1 w2 w3 := by rw [hwl, hwr]; exact (own_F9c3p4 (own_pre (3 : Int32) w0 w1 w2 w3) w0 w1 w2 w3).trans rfl
    have hq : Q9s Z r0 gb (4 : Int32) wl (3 : Int32) wr w0 w1 w2 w3 k_gb h0 n0 = Q9c3p4 Z r0 gb wl wr w0 w1 w2 w3 k_gb h0 n0 := by
      funext v h L; unfold Q9s Q9c3p4; rw [hF]; rfl
    rw [hq]; exact rm9c3p4 l Z a0 hw ws r0 gb wl wr w0 w1 w2 w3 k_gb h0 n0 Z0 E_r0 F_bytes_r0 F_position_r0 F_line_r0 F_counted_r0 F_afterCarriageReturn_r0 g_r0 V_gb hne
  · have hF : F9c4p4 wl wr w0 w1 w2 w3 = own_pre (4 : Int32) w0 w1 w2 w3 := by rw [hwl]; exact rfl
    have hq : Q9s Z r0 gb (4 : Int32) wl (4 : Int32) wr w0 w1 w2 w3 k_gb h0 n0 = Q9c4p4 Z r0 gb wl wr w0 w1 w2 w3 k_gb h0 n0 := by
      funext v h L; unfold Q9s Q9c4p4; rw [hF]; rw [hwl, hwr]
    rw [hq]; exact rm9c4p4 l Z a0 hw ws r0 gb wl wr w0 w1 w2 w3 k_gb h0 n0 Z0 E_r0 F_bytes_r0 F_position_r0 F_line_r0 F_counted_r0 F_afterCarriageReturn_r0 g_r0 V_gb hne
theorem pn_0 : plainName own_LW = true := by first | (simp [plainName, overriddenIn]; done) | decide +kernel
theorem ef_0 (m : MethodId) (p0 : Int32) (p1 : Int32) (p2 : Int32) (p3 : Int32) (p4 : Int32) (p5 : Int32) : entryFrame m #[(.int p0), (.int p1), (.int p2), (.int p3), (.int p4), (.int p5)] maxLocals = mkF m 0 #[iv p0, iv p1, iv p2, iv p3, iv p4, iv p5, .unset, .unset, .unset, .unset, .unset, .unset, .unset, .unset, .unset, .unset, .unset, .unset, .unset] [] := by first | (simp [entryFrame, mkF, argsToLocals, Value.category, maxLocals]; done) | rfl
def Q0 (Z : State) (p0 : Int32) (p1 : Int32) (p2 : Int32) (p3 : Int32) (p4 : Int32) (p5 : Int32) (h0 : Heap) (n0 : Nat) (v : Option Value) (h : Heap) (L : List Loc) : Prop := v = some (.int 1) ∧ Fr n0 L
set_option maxRecDepth 65536 in
set_option maxHeartbeats 40000000 in
theorem rm0 (l : Launch) (Z : State) (a0 : Array Value) (hw : ∀ d ∈ tables_1, d.before a0 Z = true) (ws : List Jvm.Cond) (p0 : Int32) (p1 : Int32) (p2 : Int32) (p3 : Int32) (p4 : Int32) (p5 : Int32) (h0 : Heap) (n0 : Nat) (Z0 : n0 ≤ h0.size) :
    MetFree l x (head1 (Jvm.Cond.code x code maxLocals ret :: ws) room_1) (fun a U => a = #[(.int p0), (.int p1), (.int p2), (.int p3), (.int p4), (.int p5)] ∧ Z.Warmed39 U.vm ∧ U.heap = h0) (fun _ _ _ _ _ => True) (fun _ U o U' => ∃ v L, o = .returned v ∧ Q0 Z p0 p1 p2 p3 p4 p5 h0 n0 v U'.heap L ∧ FrameEnd U o U' L 32 161344) := by
  refine MetFree.of_bodySF (plainFor_of_name pn_0) hisR ?_
  intro p e s m args below meth c s₁ Bd hml0 hP hK
  obtain ⟨rfl, hZ, hh⟩ := hP
  have hx := Bd.exec
  have hby := Bd.bytes
  have hml : c.maxLocals = 19 := hml0
  have hown : s.vm.findClass own_LW = some m.cls := findClass_of_methodNamed Bd.named
  have hnm := (name_of_methodNamed Bd.named Bd.method).1
  have hlk : meth.locks = false := Bd.notSynchronized
  have X0 : Stand p l e room_1 s m #[(.int p0), (.int p1), (.int p2), (.int p3), (.int p4), (.int p5)] below meth c s₁ [] 0 0 := Stand.of_body Bd
  have e0 : s₁.heap = h0 := by rw [← hh, Bd.state]; rfl
  have N0 := Fr.nil n0
  have KK0 := Keep.refl h0 []
  show own_Go p.tables e below s 32 161344 (Q0 Z p0 p1 p2 p3 p4 p5 h0 n0) (s₁.setTop (entryFrame m #[(.int p0), (.int p1), (.int p2), (.int p3), (.int p4), (.int p5)] maxLocals))
  rw [ef_0]
  refine own_step (U' := s₁.setTop (mkF m 1 #[iv p0, iv p1, iv p2, iv p3, iv p4, iv p5, .unset, .unset, .unset, .unset, .unset, .unset, .unset, .unset, .unset, .unset, .unset, .unset, .unset] [(.int (4 : Int32))])) (fun t k => XS.iconst X0.here hx rfl (hb hby at_0) k) ?_
  obtain ⟨T1, h1, k1, X1, e1, E1, A1, st1⟩ := newP X0 hx hZ (own_w hw 0 rfl) e0 (g := (mkF m 1 #[iv p0, iv p1, iv p2, iv p3, iv p4, iv p5, .unset, .unset, .unset, .unset, .unset, .unset, .unset, .unset, .unset, .unset, .unset, .unset, .unset] [(.int (4 : Int32))])) rfl (hb hby at_1) rfl (by decide) (cap := 4) (by decide) (by decide) (by decide) (by decide)
  obtain ⟨b1, g1⟩ : ∃ z, z = h0.size := ⟨_, rfl⟩
  have ge_b1 : n0 ≤ b1 := Nat.le_trans Z0 (Nat.le_of_eq g1.symm)
  have sz_b1 : h0.size ≤ b1 := Nat.le_trans KK0.1 (Nat.le_of_eq g1.symm)
  rw [← g1] at A1 st1
  have V_b1 : Arv Z h1 b1 k1 .byte (4 : Int32) [(.int (0 : Int32)), (.int (0 : Int32)), (.int (0 : Int32)), (.int (0 : Int32))] (.int (0 : Int32)) := (Arv.new A1 (by decide)).pad (pad_rep [] (.int (0 : Int32)) 4)
  have Z1 : n0 ≤ h1.size := Nat.le_trans Z0 E1.1
  have KK1 := KK0.ext E1
  refine own_step (U' := T1.setTop (mkF m 3 #[iv p0, iv p1, iv p2, iv p3, iv p4, iv p5, .unset, .unset, .unset, .unset, .unset, .unset, .unset, .unset, .unset, .unset, .unset, .unset, .unset] [(.ref b1)])) st1 ?_
  refine own_step (U' := T1.setTop (mkF m 9 #[iv p0, iv p1, iv p2, iv p3, iv p4, iv p5, rv b1, .unset, .unset, .unset, .unset, .unset, .unset, .unset, .unset, .unset, .unset, .unset, .unset] [(.int p0), (.int (0 : Int32)), (.ref b1)])) (fun t k => XS.astore X1.here hx rfl (hb hby at_3) rfl rfl (l' := #[iv p0, iv p1, iv p2, iv p3, iv p4, iv p5, rv b1, .unset, .unset, .unset, .unset, .unset, .unset, .unset, .unset, .unset, .unset, .unset, .unset]) rfl (XS.aload X1.here hx rfl (hb hby at_5) rfl rfl (XS.iconst X1.here hx rfl (hb hby at_7) (XS.iloadN X1.here hx rfl (hb hby at_8) rfl k)))) ?_
  obtain ⟨_, _, ⟨T2, L2, k2, n2⟩, -, X2, ⟨Lc2, hQ2, l2, y2, z2⟩, st2⟩ := Jvm.LawKit.callS X1 hx (y := (⟨own_LW, "pick", "(I)B"⟩ : MethodName)) hown (mvT hZ (own_w hw 1 rfl)) (mvT hZ (own_w hw 2 rfl)) (mvT hZ (own_w hw 3 rfl)) (mvT hZ (own_w hw 4 rfl)) (by decide) (backOf (W := 2) (rm1 l Z a0 hw [] p0 h1 n0 Z1) hZ (own_w hw 4 rfl) (own_w hw 3 rfl) (by decide) (by decide)) (g := (mkF m 9 #[iv p0, iv p1, iv p2, iv p3, iv p4, iv p5, rv b1, .unset, .unset, .unset, .unset, .unset, .unset, .unset, .unset, .unset, .unset, .unset, .unset] [(.int p0), (.int (0 : Int32)), (.ref b1)])) rfl (by rw [hml]; rfl) (argsL := [(.int p0)]) (rest := [(.int (0 : Int32)), (.ref b1)]) (lenOf pd__I_B rfl) rfl (by show 2 * 0 + _ ≤ _; exact Nat.le_of_eq rfl) (hb hby at_9) (fun _ _ => ⟨rfl, e1, (by decide : 1 + 0 ≤ _), (by decide : 4 + 0 ≤ _)⟩)
  dsimp only [Pt.U, Pt.locs, Pt.cells, Pt.slots] at X2 l2 y2 z2 st2 hQ2
  subst y2 z2
  obtain ⟨rfl, N2q, eq2⟩ := hQ2
  have N2 := own_frapp l2 N0 N2q
  refine own_step (U' := T2.setTop (mkF m 12 #[iv p0, iv p1, iv p2, iv p3, iv p4, iv p5, rv b1, .unset, .unset, .unset, .unset, .unset, .unset, .unset, .unset, .unset, .unset, .unset, .unset] [(.int (F1 p0)), (.int (0 : Int32)), (.ref b1)])) st2 ?_
  obtain ⟨ua0, hua0⟩ : ∃ v : Int32, v = (F1 p0) := ⟨_, rfl⟩
  rw [← hua0]
  obtain ⟨cl3, Ar3, aq3, aS3, aN3, aH3, aG3⟩ := id V_b1
  have hin3 : ¬ ((0 : Int32) < 0 ∨ cl3.slots.size ≤ ((0 : Int32)).toNatClampNeg) := inb_of aS3 ⟨by decide, by decide⟩
  obtain ⟨T3, h3, X3, e3, W3, st3⟩ := stB X2 hx hZ eq2 Ar3 (j := (0 : Int32)) hin3 (g := (mkF m 12 #[iv p0, iv p1, iv p2, iv p3, iv p4, iv p5, rv b1, .unset, .unset, .unset, .unset, .unset, .unset, .unset, .unset, .unset, .unset, .unset, .unset] [(.int ua0), (.int (0 : Int32)), (.ref b1)])) rfl rfl (hb hby at_12)
  have V_b1_3 : Arv Z h3 b1 k1 .byte (4 : Int32) [(.int (nar .byte ua0)), (.int (0 : Int32)), (.int (0 : Int32)), (.int (0 : Int32))] (.int (0 : Int32)) := Arv.set Ar3 aq3 aS3 aN3 aH3 aG3 (fits_nar_byte _) W3 0 rfl (Nat.le_of_ble_eq_true rfl)
  have Z3 : n0 ≤ h3.size := Nat.le_trans Z1 (Keep.of_wr W3).1
  have KK3 := KK1.wr W3 (Or.inr sz_b1)
  have N3 := Fr.snoc X3 N2 ge_b1
  refine own_step (U' := T3.setTop (mkF m 13 #[iv p0, iv p1, iv p2, iv p3, iv p4, iv p5, rv b1, .unset, .unset, .unset, .unset, .unset, .unset, .unset, .unset, .unset, .unset, .unset, .unset] [])) st3 ?_
  refine own_step (U' := T3.setTop (mkF m 17 #[iv p0, iv p1, iv p2, iv p3, iv p4, iv p5, rv b1, .unset, .unset, .unset, .unset, .unset, .unset, .unset, .unset, .unset, .unset, .unset, .unset] [(.int p1), (.int (1 : Int32)), (.ref b1)])) (fun t k => XS.aload X3.here hx rfl (hb hby at_13) rfl rfl (XS.iconst X3.here hx rfl (hb hby at_15) (XS.iloadN X3.here hx rfl (hb hby at_16) rfl k))) ?_
  obtain ⟨_, _, ⟨T4, L4, k4, n4⟩, -, X4, ⟨Lc4, hQ4, l4, y4, z4⟩, st4⟩ := Jvm.LawKit.callS X3 hx (y := (⟨own_LW, "pick", "(I)B"⟩ : MethodName)) hown (mvT hZ (own_w hw 1 rfl)) (mvT hZ (own_w hw 2 rfl)) (mvT hZ (own_w hw 3 rfl)) (mvT hZ (own_w hw 4 rfl)) (by decide) (backOf (W := 2) (rm1 l Z a0 hw [] p1 h3 n0 Z3) hZ (own_w hw 4 rfl) (own_w hw 3 rfl) (by decide) (by decide)) (g := (mkF m 17 #[iv p0, iv p1, iv p2, iv p3, iv p4, iv p5, rv b1, .unset, .unset, .unset, .unset, .unset, .unset, .unset, .unset, .unset, .unset, .unset, .unset] [(.int p1), (.int (1 : Int32)), (.ref b1)])) rfl (by rw [hml]; rfl) (argsL := [(.int p1)]) (rest := [(.int (1 : Int32)), (.ref b1)]) (lenOf pd__I_B rfl) rfl (by show 2 * 0 + _ ≤ _; exact Nat.le_of_eq rfl) (hb hby at_17) (fun _ _ => ⟨rfl, e3, (by decide : 1 + 0 ≤ _), (by decide : 4 + 0 ≤ _)⟩)
  dsimp only [Pt.U, Pt.locs, Pt.cells, Pt.slots] at X4 l4 y4 z4 st4 hQ4
  subst y4 z4
  obtain ⟨rfl, N4q, eq4⟩ := hQ4
  have N4 := own_frapp l4 N3 N4q
  refine own_step (U' := T4.setTop (mkF m 20 #[iv p0, iv p1, iv p2, iv p3, iv p4, iv p5, rv b1, .unset, .unset, .unset, .unset, .unset, .unset, .unset, .unset, .unset, .unset, .unset, .unset] [(.int (F1 p1)), (.int (1 : Int32)), (.ref b1)])) st4 ?_
  obtain ⟨ua1, hua1⟩ : ∃ v : Int32, v = (F1 p1) := ⟨_, rfl⟩
  rw [← hua1]
  obtain ⟨cl5, Ar5, aq5, aS5, aN5, aH5, aG5⟩ := id V_b1_3
  have hin5 : ¬ ((1 : Int32) < 0 ∨ cl5.slots.size ≤ ((1 : Int32)).toNatClampNeg) := inb_of aS5 ⟨by decide, by decide⟩
  obtain ⟨T5, h5, X5, e5, W5, st5⟩ := stB X4 hx hZ eq4 Ar5 (j := (1 : Int32)) hin5 (g := (mkF m 20 #[iv p0, iv p1, iv p2, iv p3, iv p4, iv p5, rv b1, .unset, .unset, .unset, .unset, .unset, .unset, .unset, .unset, .unset, .unset, .unset, .unset] [(.int ua1), (.int (1 : Int32)), (.ref b1)])) rfl rfl (hb hby at_20)
  have V_b1_5 : Arv Z h5 b1 k1 .byte (4 : Int32) [(.int (nar .byte ua0)), (.int (nar .byte ua1)), (.int (0 : Int32)), (.int (0 : Int32))] (.int (0 : Int32)) := Arv.set Ar5 aq5 aS5 aN5 aH5 aG5 (fits_nar_byte _) W5 1 rfl (Nat.le_of_ble_eq_true rfl)
  have Z5 : n0 ≤ h5.size := Nat.le_trans Z3 (Keep.of_wr W5).1
  have KK5 := KK3.wr W5 (Or.inr sz_b1)
  have N5 := Fr.snoc X5 N4 ge_b1
  refine own_step (U' := T5.setTop (mkF m 21 #[iv p0, iv p1, iv p2, iv p3, iv p4, iv p5, rv b1, .unset, .unset, .unset, .unset, .unset, .unset, .unset, .unset, .unset, .unset, .unset, .unset] [])) st5 ?_
  refine own_step (U' := T5.setTop (mkF m 25 #[iv p0, iv p1, iv p2, iv p3, iv p4, iv p5, rv b1, .unset, .unset, .unset, .unset, .unset, .unset, .unset, .unset, .unset, .unset, .unset, .unset] [(.int p2), (.int (2 : Int32)), (.ref b1)])) (fun t k => XS.aload X5.here hx rfl (hb hby at_21) rfl rfl (XS.iconst X5.here hx rfl (hb hby at_23) (XS.iloadN X5.here hx rfl (hb hby at_24) rfl k))) ?_
  obtain ⟨_, _, ⟨T6, L6, k6, n6⟩, -, X6, ⟨Lc6, hQ6, l6, y6, z6⟩, st6⟩ := Jvm.LawKit.callS X5 hx (y := (⟨own_LW, "pick", "(I)B"⟩ : MethodName)) hown (mvT hZ (own_w hw 1 rfl)) (mvT hZ (own_w hw 2 rfl)) (mvT hZ (own_w hw 3 rfl)) (mvT hZ (own_w hw 4 rfl)) (by decide) (backOf (W := 2) (rm1 l Z a0 hw [] p2 h5 n0 Z5) hZ (own_w hw 4 rfl) (own_w hw 3 rfl) (by decide) (by decide)) (g := (mkF m 25 #[iv p0, iv p1, iv p2, iv p3, iv p4, iv p5, rv b1, .unset, .unset, .unset, .unset, .unset, .unset, .unset, .unset, .unset, .unset, .unset, .unset] [(.int p2), (.int (2 : Int32)), (.ref b1)])) rfl (by rw [hml]; rfl) (argsL := [(.int p2)]) (rest := [(.int (2 : Int32)), (.ref b1)]) (lenOf pd__I_B rfl) rfl (by show 2 * 0 + _ ≤ _; exact Nat.le_of_eq rfl) (hb hby at_25) (fun _ _ => ⟨rfl, e5, (by decide : 1 + 0 ≤ _), (by decide : 4 + 0 ≤ _)⟩)
  dsimp only [Pt.U, Pt.locs, Pt.cells, Pt.slots] at X6 l6 y6 z6 st6 hQ6
  subst y6 z6
  obtain ⟨rfl, N6q, eq6⟩ := hQ6
  have N6 := own_frapp l6 N5 N6q
  refine own_step (U' := T6.setTop (mkF m 28 #[iv p0, iv p1, iv p2, iv p3, iv p4, iv p5, rv b1, .unset, .unset, .unset, .unset, .unset, .unset, .unset, .unset, .unset, .unset, .unset, .unset] [(.int (F1 p2)), (.int (2 : Int32)), (.ref b1)])) st6 ?_
  obtain ⟨ua2, hua2⟩ : ∃ v : Int32, v = (F1 p2) := ⟨_, rfl⟩
  rw [← hua2]
  obtain ⟨cl7, Ar7, aq7, aS7, aN7, aH7, aG7⟩ := id V_b1_5
  have hin7 : ¬ ((2 : Int32) < 0 ∨ cl7.slots.size ≤ ((2 : Int32)).toNatClampNeg) := inb_of aS7 ⟨by decide, by decide⟩
  obtain ⟨T7, h7, X7, e7, W7, st7⟩ := stB X6 hx hZ eq6 Ar7 (j := (2 : Int32)) hin7 (g := (mkF m 28 #[iv p0, iv p1, iv p2, iv p3, iv p4, iv p5, rv b1, .unset, .unset, .unset, .unset, .unset, .unset, .unset, .unset, .unset, .unset, .unset, .unset] [(.int ua2), (.int (2 : Int32)), (.ref b1)])) rfl rfl (hb hby at_28)
  have V_b1_7 : Arv Z h7 b1 k1 .byte (4 : Int32) [(.int (nar .byte ua0)), (.int (nar .byte ua1)), (.int (nar .byte ua2)), (.int (0 : Int32))] (.int (0 : Int32)) := Arv.set Ar7 aq7 aS7 aN7 aH7 aG7 (fits_nar_byte _) W7 2 rfl (Nat.le_of_ble_eq_true rfl)
  have Z7 : n0 ≤ h7.size := Nat.le_trans Z5 (Keep.of_wr W7).1
  have KK7 := KK5.wr W7 (Or.inr sz_b1)
  have N7 := Fr.snoc X7 N6 ge_b1
  refine own_step (U' := T7.setTop (mkF m 29 #[iv p0, iv p1, iv p2, iv p3, iv p4, iv p5, rv b1, .unset, .unset, .unset, .unset, .unset, .unset, .unset, .unset, .unset, .unset, .unset, .unset] [])) st7 ?_
  refine own_step (U' := T7.setTop (mkF m 33 #[iv p0, iv p1, iv p2, iv p3, iv p4, iv p5, rv b1, .unset, .unset, .unset, .unset, .unset, .unset, .unset, .unset, .unset, .unset, .unset, .unset] [(.int p3), (.int (3 : Int32)), (.ref b1)])) (fun t k => XS.aload X7.here hx rfl (hb hby at_29) rfl rfl (XS.iconst X7.here hx rfl (hb hby at_31) (XS.iloadN X7.here hx rfl (hb hby at_32) rfl k))) ?_
  obtain ⟨_, _, ⟨T8, L8, k8, n8⟩, -, X8, ⟨Lc8, hQ8, l8, y8, z8⟩, st8⟩ := Jvm.LawKit.callS X7 hx (y := (⟨own_LW, "pick", "(I)B"⟩ : MethodName)) hown (mvT hZ (own_w hw 1 rfl)) (mvT hZ (own_w hw 2 rfl)) (mvT hZ (own_w hw 3 rfl)) (mvT hZ (own_w hw 4 rfl)) (by decide) (backOf (W := 2) (rm1 l Z a0 hw [] p3 h7 n0 Z7) hZ (own_w hw 4 rfl) (own_w hw 3 rfl) (by decide) (by decide)) (g := (mkF m 33 #[iv p0, iv p1, iv p2, iv p3, iv p4, iv p5, rv b1, .unset, .unset, .unset, .unset, .unset, .unset, .unset, .unset, .unset, .unset, .unset, .unset] [(.int p3), (.int (3 : Int32)), (.ref b1)])) rfl (by rw [hml]; rfl) (argsL := [(.int p3)]) (rest := [(.int (3 : Int32)), (.ref b1)]) (lenOf pd__I_B rfl) rfl (by show 2 * 0 + _ ≤ _; exact Nat.le_of_eq rfl) (hb hby at_33) (fun _ _ => ⟨rfl, e7, (by decide : 1 + 0 ≤ _), (by decide : 4 + 0 ≤ _)⟩)
  dsimp only [Pt.U, Pt.locs, Pt.cells, Pt.slots] at X8 l8 y8 z8 st8 hQ8
  subst y8 z8
  obtain ⟨rfl, N8q, eq8⟩ := hQ8
  have N8 := own_frapp l8 N7 N8q
  refine own_step (U' := T8.setTop (mkF m 36 #[iv p0, iv p1, iv p2, iv p3, iv p4, iv p5, rv b1, .unset, .unset, .unset, .unset, .unset, .unset, .unset, .unset, .unset, .unset, .unset, .unset] [(.int (F1 p3)), (.int (3 : Int32)), (.ref b1)])) st8 ?_
  obtain ⟨ua3, hua3⟩ : ∃ v : Int32, v = (F1 p3) := ⟨_, rfl⟩
  rw [← hua3]
  obtain ⟨cl9, Ar9, aq9, aS9, aN9, aH9, aG9⟩ := id V_b1_7
  have hin9 : ¬ ((3 : Int32) < 0 ∨ cl9.slots.size ≤ ((3 : Int32)).toNatClampNeg) := inb_of aS9 ⟨by decide, by decide⟩
  obtain ⟨T9, h9, X9, e9, W9, st9⟩ := stB X8 hx hZ eq8 Ar9 (j := (3 : Int32)) hin9 (g := (mkF m 36 #[iv p0, iv p1, iv p2, iv p3, iv p4, iv p5, rv b1, .unset, .unset, .unset, .unset, .unset, .unset, .unset, .unset, .unset, .unset, .unset, .unset] [(.int ua3), (.int (3 : Int32)), (.ref b1)])) rfl rfl (hb hby at_36)
  have V_b1_9 : Arv Z h9 b1 k1 .byte (4 : Int32) [(.int (nar .byte ua0)), (.int (nar .byte ua1)), (.int (nar .byte ua2)), (.int (nar .byte ua3))] (.int (0 : Int32)) := Arv.set Ar9 aq9 aS9 aN9 aH9 aG9 (fits_nar_byte _) W9 3 rfl (Nat.le_of_ble_eq_true rfl)
  have Z9 : n0 ≤ h9.size := Nat.le_trans Z7 (Keep.of_wr W9).1
  have KK9 := KK7.wr W9 (Or.inr sz_b1)
  have N9 := Fr.snoc X9 N8 ge_b1
  refine own_step (U' := T9.setTop (mkF m 37 #[iv p0, iv p1, iv p2, iv p3, iv p4, iv p5, rv b1, .unset, .unset, .unset, .unset, .unset, .unset, .unset, .unset, .unset, .unset, .unset, .unset] [])) st9 ?_
  refine own_step (U' := T9.setTop (mkF m 41 #[iv p0, iv p1, iv p2, iv p3, iv p4, iv p5, rv b1, .unset, .unset, .unset, .unset, .unset, .unset, .unset, .unset, .unset, .unset, .unset, .unset] [(.int (0 : Int32)), (.ref b1), (.int (1 : Int32))])) (fun t k => XS.iconst X9.here hx rfl (hb hby at_37) (XS.aload X9.here hx rfl (hb hby at_38) rfl rfl (XS.iconst X9.here hx rfl (hb hby at_40) k))) ?_
  obtain ⟨_, _, ⟨T10, L10, k10, n10⟩, -, X10, ⟨Lc10, hQ10, l10, y10, z10⟩, st10⟩ := Jvm.LawKit.callS X9 hx (y := (⟨own_LW, "end", "([BI)I"⟩ : MethodName)) hown (mvT hZ (own_w hw 5 rfl)) (mvT hZ (own_w hw 6 rfl)) (mvT hZ (own_w hw 3 rfl)) (mvT hZ (own_w hw 7 rfl)) (by decide) (backOf (W := 1) (rm2i0 l Z a0 hw [] b1 (nar .byte ua0) (nar .byte ua1) (nar .byte ua2) (nar .byte ua3) k1 h9 n0 Z9 V_b1_9) hZ (own_w hw 7 rfl) (own_w hw 3 rfl) (by decide) (by decide)) (g := (mkF m 41 #[iv p0, iv p1, iv p2, iv p3, iv p4, iv p5, rv b1, .unset, .unset, .unset, .unset, .unset, .unset, .unset, .unset, .unset, .unset, .unset, .unset] [(.int (0 : Int32)), (.ref b1), (.int (1 : Int32))])) rfl (by rw [hml]; rfl) (argsL := [(.ref b1), (.int (0 : Int32))]) (rest := [(.int (1 : Int32))]) (lenOf pd___BI_I rfl) rfl (by show 2 * 0 + _ ≤ _; exact Nat.le_of_eq rfl) (hb hby at_41) (fun _ _ => ⟨rfl, e9, (by decide : 1 + 0 ≤ _), (by decide : 4 + 0 ≤ _)⟩)
  dsimp only [Pt.U, Pt.locs, Pt.cells, Pt.slots] at X10 l10 y10 z10 st10 hQ10
  subst y10 z10
  obtain ⟨rfl, N10q, eq10⟩ := hQ10
  have N10 := own_frapp l10 N9 N10q
  refine own_step (U' := T10.setTop (mkF m 44 #[iv p0, iv p1, iv p2, iv p3, iv p4, iv p5, rv b1, .unset, .unset, .unset, .unset, .unset, .unset, .unset, .unset, .unset, .unset, .unset, .unset] [(.int (F2i0 (nar .byte ua0) (nar .byte ua1) (nar .byte ua2) (nar .byte ua3))), (.int (1 : Int32))])) st10 ?_
  refine own_step (U' := T10.setTop (mkF m 45 #[iv p0, iv p1, iv p2, iv p3, iv p4, iv p5, rv b1, .unset, .unset, .unset, .unset, .unset, .unset, .unset, .unset, .unset, .unset, .unset, .unset] [(.int ((1 : Int32) + (F2i0 (nar .byte ua0) (nar .byte ua1) (nar .byte ua2) (nar .byte ua3))))])) (fun t k => XS.iadd X10.here hx rfl (hb hby at_44) rfl k) ?_
  obtain ⟨ca1, hca1⟩ : ∃ v : Int32, v = ((1 : Int32) + (F2i0 (nar .byte ua0) (nar .byte ua1) (nar .byte ua2) (nar .byte ua3))) := ⟨_, rfl⟩
  rw [← hca1]
  refine own_step (U' := T10.setTop (mkF m 52 #[iv p0, iv p1, iv p2, iv p3, iv p4, iv p5, rv b1, iv ca1, .unset, .unset, .unset, .unset, .unset, .unset, .unset, .unset, .unset, .unset, .unset] [(.int (1 : Int32)), (.ref b1), (.int ca1)])) (fun t k => XS.istore X10.here hx rfl (hb hby at_45) rfl (l' := #[iv p0, iv p1, iv p2, iv p3, iv p4, iv p5, rv b1, iv ca1, .unset, .unset, .unset, .unset, .unset, .unset, .unset, .unset, .unset, .unset, .unset]) rfl (XS.iload X10.here hx rfl (hb hby at_47) rfl (XS.aload X10.here hx rfl (hb hby at_49) rfl rfl (XS.iconst X10.here hx rfl (hb hby at_51) k)))) ?_
  obtain ⟨_, _, ⟨T11, L11, k11, n11⟩, -, X11, ⟨Lc11, hQ11, l11, y11, z11⟩, st11⟩ := Jvm.LawKit.callS X10 hx (y := (⟨own_LW, "end", "([BI)I"⟩ : MethodName)) hown (mvT hZ (own_w hw 5 rfl)) (mvT hZ (own_w hw 6 rfl)) (mvT hZ (own_w hw 3 rfl)) (mvT hZ (own_w hw 7 rfl)) (by decide) (backOf (W := 1) (rm2i1 l Z a0 hw [] b1 (nar .byte ua0) (nar .byte ua1) (nar .byte ua2) (nar .byte ua3) k1 h9 n0 Z9 V_b1_9) hZ (own_w hw 7 rfl) (own_w hw 3 rfl) (by decide) (by decide)) (g := (mkF m 52 #[iv p0, iv p1, iv p2, iv p3, iv p4, iv p5, rv b1, iv ca1, .unset, .unset, .unset, .unset, .unset, .unset, .unset, .unset, .unset, .unset, .unset] [(.int (1 : Int32)), (.ref b1), (.int ca1)])) rfl (by rw [hml]; rfl) (argsL := [(.ref b1), (.int (1 : Int32))]) (rest := [(.int ca1)]) (lenOf pd___BI_I rfl) rfl (by show 2 * 0 + _ ≤ _; exact Nat.le_of_eq rfl) (hb hby at_52) (fun _ _ => ⟨rfl, eq10, (by decide : 1 + 0 ≤ _), (by decide : 4 + 0 ≤ _)⟩)
  dsimp only [Pt.U, Pt.locs, Pt.cells, Pt.slots] at X11 l11 y11 z11 st11 hQ11
  subst y11 z11
  obtain ⟨rfl, N11q, eq11⟩ := hQ11
  have N11 := own_frapp l11 N10 N11q
  refine own_step (U' := T11.setTop (mkF m 55 #[iv p0, iv p1, iv p2, iv p3, iv p4, iv p5, rv b1, iv ca1, .unset, .unset, .unset, .unset, .unset, .unset, .unset, .unset, .unset, .unset, .unset] [(.int (F2i1 (nar .byte ua0) (nar .byte ua1) (nar .byte ua2) (nar .byte ua3))), (.int ca1)])) st11 ?_
  refine own_step (U' := T11.setTop (mkF m 56 #[iv p0, iv p1, iv p2, iv p3, iv p4, iv p5, rv b1, iv ca1, .unset, .unset, .unset, .unset, .unset, .unset, .unset, .unset, .unset, .unset, .unset] [(.int (ca1 + (F2i1 (nar .byte ua0) (nar .byte ua1) (nar .byte ua2) (nar .byte ua3))))])) (fun t k => XS.iadd X11.here hx rfl (hb hby at_55) rfl k) ?_
  obtain ⟨ca2, hca2⟩ : ∃ v : Int32, v = (ca1 + (F2i1 (nar .byte ua0) (nar .byte ua1) (nar .byte ua2) (nar .byte ua3))) := ⟨_, rfl⟩
  rw [← hca2]
  refine own_step (U' := T11.setTop (mkF m 63 #[iv p0, iv p1, iv p2, iv p3, iv p4, iv p5, rv b1, iv ca1, iv ca2, .unset, .unset, .unset, .unset, .unset, .unset, .unset, .unset, .unset, .unset] [(.int (2 : Int32)), (.ref b1), (.int ca2)])) (fun t k => XS.istore X11.here hx rfl (hb hby at_56) rfl (l' := #[iv p0, iv p1, iv p2, iv p3, iv p4, iv p5, rv b1, iv ca1, iv ca2, .unset, .unset, .unset, .unset, .unset, .unset, .unset, .unset, .unset, .unset]) rfl (XS.iload X11.here hx rfl (hb hby at_58) rfl (XS.aload X11.here hx rfl (hb hby at_60) rfl rfl (XS.iconst X11.here hx rfl (hb hby at_62) k)))) ?_
  obtain ⟨_, _, ⟨T12, L12, k12, n12⟩, -, X12, ⟨Lc12, hQ12, l12, y12, z12⟩, st12⟩ := Jvm.LawKit.callS X11 hx (y := (⟨own_LW, "end", "([BI)I"⟩ : MethodName)) hown (mvT hZ (own_w hw 5 rfl)) (mvT hZ (own_w hw 6 rfl)) (mvT hZ (own_w hw 3 rfl)) (mvT hZ (own_w hw 7 rfl)) (by decide) (backOf (W := 1) (rm2i2 l Z a0 hw [] b1 (nar .byte ua0) (nar .byte ua1) (nar .byte ua2) (nar .byte ua3) k1 h9 n0 Z9 V_b1_9) hZ (own_w hw 7 rfl) (own_w hw 3 rfl) (by decide) (by decide)) (g := (mkF m 63 #[iv p0, iv p1, iv p2, iv p3, iv p4, iv p5, rv b1, iv ca1, iv ca2, .unset, .unset, .unset, .unset, .unset, .unset, .unset, .unset, .unset, .unset] [(.int (2 : Int32)), (.ref b1), (.int ca2)])) rfl (by rw [hml]; rfl) (argsL := [(.ref b1), (.int (2 : Int32))]) (rest := [(.int ca2)]) (lenOf pd___BI_I rfl) rfl (by show 2 * 0 + _ ≤ _; exact Nat.le_of_eq rfl) (hb hby at_63) (fun _ _ => ⟨rfl, eq11, (by decide : 1 + 0 ≤ _), (by decide : 4 + 0 ≤ _)⟩)
  dsimp only [Pt.U, Pt.locs, Pt.cells, Pt.slots] at X12 l12 y12 z12 st12 hQ12
  subst y12 z12
  obtain ⟨rfl, N12q, eq12⟩ := hQ12
  have N12 := own_frapp l12 N11 N12q
  refine own_step (U' := T12.setTop (mkF m 66 #[iv p0, iv p1, iv p2, iv p3, iv p4, iv p5, rv b1, iv ca1, iv ca2, .unset, .unset, .unset, .unset, .unset, .unset, .unset, .unset, .unset, .unset] [(.int (F2i2 (nar .byte ua0) (nar .byte ua1) (nar .byte ua2) (nar .byte ua3))), (.int ca2)])) st12 ?_
  refine own_step (U' := T12.setTop (mkF m 67 #[iv p0, iv p1, iv p2, iv p3, iv p4, iv p5, rv b1, iv ca1, iv ca2, .unset, .unset, .unset, .unset, .unset, .unset, .unset, .unset, .unset, .unset] [(.int (ca2 + (F2i2 (nar .byte ua0) (nar .byte ua1) (nar .byte ua2) (nar .byte ua3))))])) (fun t k => XS.iadd X12.here hx rfl (hb hby at_66) rfl k) ?_
  obtain ⟨ca3, hca3⟩ : ∃ v : Int32, v = (ca2 + (F2i2 (nar .byte ua0) (nar .byte ua1) (nar .byte ua2) (nar .byte ua3))) := ⟨_, rfl⟩
  rw [← hca3]
  refine own_step (U' := T12.setTop (mkF m 74 #[iv p0, iv p1, iv p2, iv p3, iv p4, iv p5, rv b1, iv ca1, iv ca2, iv ca3, .unset, .unset, .unset, .unset, .unset, .unset, .unset, .unset, .unset] [(.int (3 : Int32)), (.ref b1), (.int ca3)])) (fun t k => XS.istore X12.here hx rfl (hb hby at_67) rfl (l' := #[iv p0, iv p1, iv p2, iv p3, iv p4, iv p5, rv b1, iv ca1, iv ca2, iv ca3, .unset, .unset, .unset, .unset, .unset, .unset, .unset, .unset, .unset]) rfl (XS.iload X12.here hx rfl (hb hby at_69) rfl (XS.aload X12.here hx rfl (hb hby at_71) rfl rfl (XS.iconst X12.here hx rfl (hb hby at_73) k)))) ?_
  obtain ⟨_, _, ⟨T13, L13, k13, n13⟩, -, X13, ⟨Lc13, hQ13, l13, y13, z13⟩, st13⟩ := Jvm.LawKit.callS X12 hx (y := (⟨own_LW, "end", "([BI)I"⟩ : MethodName)) hown (mvT hZ (own_w hw 5 rfl)) (mvT hZ (own_w hw 6 rfl)) (mvT hZ (own_w hw 3 rfl)) (mvT hZ (own_w hw 7 rfl)) (by decide) (backOf (W := 1) (rm2i3 l Z a0 hw [] b1 (nar .byte ua0) (nar .byte ua1) (nar .byte ua2) (nar .byte ua3) k1 h9 n0 Z9 V_b1_9) hZ (own_w hw 7 rfl) (own_w hw 3 rfl) (by decide) (by decide)) (g := (mkF m 74 #[iv p0, iv p1, iv p2, iv p3, iv p4, iv p5, rv b1, iv ca1, iv ca2, iv ca3, .unset, .unset, .unset, .unset, .unset, .unset, .unset, .unset, .unset] [(.int (3 : Int32)), (.ref b1), (.int ca3)])) rfl (by rw [hml]; rfl) (argsL := [(.ref b1), (.int (3 : Int32))]) (rest := [(.int ca3)]) (lenOf pd___BI_I rfl) rfl (by show 2 * 0 + _ ≤ _; exact Nat.le_of_eq rfl) (hb hby at_74) (fun _ _ => ⟨rfl, eq12, (by decide : 1 + 0 ≤ _), (by decide : 4 + 0 ≤ _)⟩)
  dsimp only [Pt.U, Pt.locs, Pt.cells, Pt.slots] at X13 l13 y13 z13 st13 hQ13
  subst y13 z13
  obtain ⟨rfl, N13q, eq13⟩ := hQ13
  have N13 := own_frapp l13 N12 N13q
  refine own_step (U' := T13.setTop (mkF m 77 #[iv p0, iv p1, iv p2, iv p3, iv p4, iv p5, rv b1, iv ca1, iv ca2, iv ca3, .unset, .unset, .unset, .unset, .unset, .unset, .unset, .unset, .unset] [(.int (F2i3 (nar .byte ua0) (nar .byte ua1) (nar .byte ua2) (nar .byte ua3))), (.int ca3)])) st13 ?_
  refine own_step (U' := T13.setTop (mkF m 78 #[iv p0, iv p1, iv p2, iv p3, iv p4, iv p5, rv b1, iv ca1, iv ca2, iv ca3, .unset, .unset, .unset, .unset, .unset, .unset, .unset, .unset, .unset] [(.int (ca3 + (F2i3 (nar .byte ua0) (nar .byte ua1) (nar .byte ua2) (nar .byte ua3))))])) (fun t k => XS.iadd X13.here hx rfl (hb hby at_77) rfl k) ?_
  obtain ⟨ca4, hca4⟩ : ∃ v : Int32, v = (ca3 + (F2i3 (nar .byte ua0) (nar .byte ua1) (nar .byte ua2) (nar .byte ua3))) := ⟨_, rfl⟩
  rw [← hca4]
  refine own_step (U' := T13.setTop (mkF m 81 #[iv p0, iv p1, iv p2, iv p3, iv p4, iv p5, rv b1, iv ca1, iv ca2, iv ca3, iv ca4, .unset, .unset, .unset, .unset, .unset, .unset, .unset, .unset] [(.int (5 : Int32))])) (fun t k => XS.istore X13.here hx rfl (hb hby at_78) rfl (l' := #[iv p0, iv p1, iv p2, iv p3, iv p4, iv p5, rv b1, iv ca1, iv ca2, iv ca3, iv ca4, .unset, .unset, .unset, .unset, .unset, .unset, .unset, .unset]) rfl (XS.iconst X13.here hx rfl (hb hby at_80) k)) ?_
  obtain ⟨T14, h14, k14, X14, e14, E14, A14, st14⟩ := newP X13 hx hZ (own_w hw 8 rfl) eq13 (g := (mkF m 81 #[iv p0, iv p1, iv p2, iv p3, iv p4, iv p5, rv b1, iv ca1, iv ca2, iv ca3, iv ca4, .unset, .unset, .unset, .unset, .unset, .unset, .unset, .unset] [(.int (5 : Int32))])) rfl (hb hby at_81) rfl (by decide) (cap := 5) (by decide) (by decide) (by decide) (by decide)
  obtain ⟨b14, g14⟩ : ∃ z, z = h9.size := ⟨_, rfl⟩
  have ne_b1_b14 : b1 ≠ b14 := Nat.ne_of_lt (Nat.lt_of_lt_of_le V_b1_9.lt (Nat.le_of_eq g14.symm))
  have ge_b14 : n0 ≤ b14 := Nat.le_trans Z9 (Nat.le_of_eq g14.symm)
  have sz_b14 : h0.size ≤ b14 := Nat.le_trans KK9.1 (Nat.le_of_eq g14.symm)
  rw [← g14] at A14 st14
  have V_b1_14 := V_b1_9.ext E14
  have V_b14 : Arv Z h14 b14 k14 .int (5 : Int32) [(.int (0 : Int32)), (.int (0 : Int32)), (.int (0 : Int32)), (.int (0 : Int32)), (.int (0 : Int32))] (.int (0 : Int32)) := (Arv.new A14 (by decide)).pad (pad_rep [] (.int (0 : Int32)) 5)
  have Z14 : n0 ≤ h14.size := Nat.le_trans Z9 E14.1
  have KK14 := KK9.ext E14
  refine own_step (U' := T14.setTop (mkF m 83 #[iv p0, iv p1, iv p2, iv p3, iv p4, iv p5, rv b1, iv ca1, iv ca2, iv ca3, iv ca4, .unset, .unset, .unset, .unset, .unset, .unset, .unset, .unset] [(.ref b14)])) st14 ?_
  refine own_step (U' := T14.setTop (mkF m 89 #[iv p0, iv p1, iv p2, iv p3, iv p4, iv p5, rv b1, iv ca1, iv ca2, iv ca3, iv ca4, rv b14, .unset, .unset, .unset, .unset, .unset, .unset, .unset] [(.int (1 : Int32)), (.int (0 : Int32)), (.ref b14)])) (fun t k => XS.astore X14.here hx rfl (hb hby at_83) rfl rfl (l' := #[iv p0, iv p1, iv p2, iv p3, iv p4, iv p5, rv b1, iv ca1, iv ca2, iv ca3, iv ca4, rv b14, .unset, .unset, .unset, .unset, .unset, .unset, .unset]) rfl (XS.aload X14.here hx rfl (hb hby at_85) rfl rfl (XS.iconst X14.here hx rfl (hb hby at_87) (XS.iconst X14.here hx rfl (hb hby at_88) k)))) ?_
  obtain ⟨cl15, Ar15, aq15, aS15, aN15, aH15, aG15⟩ := id V_b14
  have hin15 : ¬ ((0 : Int32) < 0 ∨ cl15.slots.size ≤ ((0 : Int32)).toNatClampNeg) := inb_of aS15 ⟨by decide, by decide⟩
  obtain ⟨T15, h15, X15, e15, W15, st15⟩ := stI X14 hx hZ e14 Ar15 (j := (0 : Int32)) hin15 (g := (mkF m 89 #[iv p0, iv p1, iv p2, iv p3, iv p4, iv p5, rv b1, iv ca1, iv ca2, iv ca3, iv ca4, rv b14, .unset, .unset, .unset, .unset, .unset, .unset, .unset] [(.int (1 : Int32)), (.int (0 : Int32)), (.ref b14)])) rfl rfl (hb hby at_89)
  have V_b1_15 := V_b1_14.other W15 ne_b1_b14
  have V_b14_15 : Arv Z h15 b14 k14 .int (5 : Int32) [(.int (1 : Int32)), (.int (0 : Int32)), (.int (0 : Int32)), (.int (0 : Int32)), (.int (0 : Int32))] (.int (0 : Int32)) := Arv.set Ar15 aq15 aS15 aN15 aH15 aG15 rfl W15 0 rfl (Nat.le_of_ble_eq_true rfl)
  have Z15 : n0 ≤ h15.size := Nat.le_trans Z14 (Keep.of_wr W15).1
  have KK15 := KK14.wr W15 (Or.inr sz_b14)
  have N15 := Fr.snoc X15 N13 ge_b14
  refine own_step (U' := T15.setTop (mkF m 90 #[iv p0, iv p1, iv p2, iv p3, iv p4, iv p5, rv b1, iv ca1, iv ca2, iv ca3, iv ca4, rv b14, .unset, .unset, .unset, .unset, .unset, .unset, .unset] [])) st15 ?_
  refine own_step (U' := T15.setTop (mkF m 95 #[iv p0, iv p1, iv p2, iv p3, iv p4, iv p5, rv b1, iv ca1, iv ca2, iv ca3, iv ca4, rv b14, .unset, .unset, .unset, .unset, .unset, .unset, .unset] [(.int ca1), (.int (1 : Int32)), (.ref b14)])) (fun t k => XS.aload X15.here hx rfl (hb hby at_90) rfl rfl (XS.iconst X15.here hx rfl (hb hby at_92) (XS.iload X15.here hx rfl (hb hby at_93) rfl k))) ?_
  obtain ⟨cl16, Ar16, aq16, aS16, aN16, aH16, aG16⟩ := id V_b14_15
  have hin16 : ¬ ((1 : Int32) < 0 ∨ cl16.slots.size ≤ ((1 : Int32)).toNatClampNeg) := inb_of aS16 ⟨by decide, by decide⟩
  obtain ⟨T16, h16, X16, e16, W16, st16⟩ := stI X15 hx hZ e15 Ar16 (j := (1 : Int32)) hin16 (g := (mkF m 95 #[iv p0, iv p1, iv p2, iv p3, iv p4, iv p5, rv b1, iv ca1, iv ca2, iv ca3, iv ca4, rv b14, .unset, .unset, .unset, .unset, .unset, .unset, .unset] [(.int ca1), (.int (1 : Int32)), (.ref b14)])) rfl rfl (hb hby at_95)
  have V_b1_16 := V_b1_15.other W16 ne_b1_b14
  have V_b14_16 : Arv Z h16 b14 k14 .int (5 : Int32) [(.int (1 : Int32)), (.int ca1), (.int (0 : Int32)), (.int (0 : Int32)), (.int (0 : Int32))] (.int (0 : Int32)) := Arv.set Ar16 aq16 aS16 aN16 aH16 aG16 rfl W16 1 rfl (Nat.le_of_ble_eq_true rfl)
  have Z16 : n0 ≤ h16.size := Nat.le_trans Z15 (Keep.of_wr W16).1
  have KK16 := KK15.wr W16 (Or.inr sz_b14)
  have N16 := Fr.snoc X16 N15 ge_b14
  refine own_step (U' := T16.setTop (mkF m 96 #[iv p0, iv p1, iv p2, iv p3, iv p4, iv p5, rv b1, iv ca1, iv ca2, iv ca3, iv ca4, rv b14, .unset, .unset, .unset, .unset, .unset, .unset, .unset] [])) st16 ?_
  refine own_step (U' := T16.setTop (mkF m 101 #[iv p0, iv p1, iv p2, iv p3, iv p4, iv p5, rv b1, iv ca1, iv ca2, iv ca3, iv ca4, rv b14, .unset, .unset, .unset, .unset, .unset, .unset, .unset] [(.int ca2), (.int (2 : Int32)), (.ref b14)])) (fun t k => XS.aload X16.here hx rfl (hb hby at_96) rfl rfl (XS.iconst X16.here hx rfl (hb hby at_98) (XS.iload X16.here hx rfl (hb hby at_99) rfl k))) ?_
  obtain ⟨cl17, Ar17, aq17, aS17, aN17, aH17, aG17⟩ := id V_b14_16
  have hin17 : ¬ ((2 : Int32) < 0 ∨ cl17.slots.size ≤ ((2 : Int32)).toNatClampNeg) := inb_of aS17 ⟨by decide, by decide⟩
  obtain ⟨T17, h17, X17, e17, W17, st17⟩ := stI X16 hx hZ e16 Ar17 (j := (2 : Int32)) hin17 (g := (mkF m 101 #[iv p0, iv p1, iv p2, iv p3, iv p4, iv p5, rv b1, iv ca1, iv ca2, iv ca3, iv ca4, rv b14, .unset, .unset, .unset, .unset, .unset, .unset, .unset] [(.int ca2), (.int (2 : Int32)), (.ref b14)])) rfl rfl (hb hby at_101)
  have V_b1_17 := V_b1_16.other W17 ne_b1_b14
  have V_b14_17 : Arv Z h17 b14 k14 .int (5 : Int32) [(.int (1 : Int32)), (.int ca1), (.int ca2), (.int (0 : Int32)), (.int (0 : Int32))] (.int (0 : Int32)) := Arv.set Ar17 aq17 aS17 aN17 aH17 aG17 rfl W17 2 rfl (Nat.le_of_ble_eq_true rfl)
  have Z17 : n0 ≤ h17.size := Nat.le_trans Z16 (Keep.of_wr W17).1
  have KK17 := KK16.wr W17 (Or.inr sz_b14)
  have N17 := Fr.snoc X17 N16 ge_b14
  refine own_step (U' := T17.setTop (mkF m 102 #[iv p0, iv p1, iv p2, iv p3, iv p4, iv p5, rv b1, iv ca1, iv ca2, iv ca3, iv ca4, rv b14, .unset, .unset, .unset, .unset, .unset, .unset, .unset] [])) st17 ?_
  refine own_step (U' := T17.setTop (mkF m 107 #[iv p0, iv p1, iv p2, iv p3, iv p4, iv p5, rv b1, iv ca1, iv ca2, iv ca3, iv ca4, rv b14, .unset, .unset, .unset, .unset, .unset, .unset, .unset] [(.int ca3), (.int (3 : Int32)), (.ref b14)])) (fun t k => XS.aload X17.here hx rfl (hb hby at_102) rfl rfl (XS.iconst X17.here hx rfl (hb hby at_104) (XS.iload X17.here hx rfl (hb hby at_105) rfl k))) ?_
  obtain ⟨cl18, Ar18, aq18, aS18, aN18, aH18, aG18⟩ := id V_b14_17
  have hin18 : ¬ ((3 : Int32) < 0 ∨ cl18.slots.size ≤ ((3 : Int32)).toNatClampNeg) := inb_of aS18 ⟨by decide, by decide⟩
  obtain ⟨T18, h18, X18, e18, W18, st18⟩ := stI X17 hx hZ e17 Ar18 (j := (3 : Int32)) hin18 (g := (mkF m 107 #[iv p0, iv p1, iv p2, iv p3, iv p4, iv p5, rv b1, iv ca1, iv ca2, iv ca3, iv ca4, rv b14, .unset, .unset, .unset, .unset, .unset, .unset, .unset] [(.int ca3), (.int (3 : Int32)), (.ref b14)])) rfl rfl (hb hby at_107)
  have V_b1_18 := V_b1_17.other W18 ne_b1_b14
  have V_b14_18 : Arv Z h18 b14 k14 .int (5 : Int32) [(.int (1 : Int32)), (.int ca1), (.int ca2), (.int ca3), (.int (0 : Int32))] (.int (0 : Int32)) := Arv.set Ar18 aq18 aS18 aN18 aH18 aG18 rfl W18 3 rfl (Nat.le_of_ble_eq_true rfl)
  have Z18 : n0 ≤ h18.size := Nat.le_trans Z17 (Keep.of_wr W18).1
  have KK18 := KK17.wr W18 (Or.inr sz_b14)
  have N18 := Fr.snoc X18 N17 ge_b14
  refine own_step (U' := T18.setTop (mkF m 108 #[iv p0, iv p1, iv p2, iv p3, iv p4, iv p5, rv b1, iv ca1, iv ca2, iv ca3, iv ca4, rv b14, .unset, .unset, .unset, .unset, .unset, .unset, .unset] [])) st18 ?_
  refine own_step (U' := T18.setTop (mkF m 113 #[iv p0, iv p1, iv p2, iv p3, iv p4, iv p5, rv b1, iv ca1, iv ca2, iv ca3, iv ca4, rv b14, .unset, .unset, .unset, .unset, .unset, .unset, .unset] [(.int ca4), (.int (4 : Int32)), (.ref b14)])) (fun t k => XS.aload X18.here hx rfl (hb hby at_108) rfl rfl (XS.iconst X18.here hx rfl (hb hby at_110) (XS.iload X18.here hx rfl (hb hby at_111) rfl k))) ?_
  obtain ⟨cl19, Ar19, aq19, aS19, aN19, aH19, aG19⟩ := id V_b14_18
  have hin19 : ¬ ((4 : Int32) < 0 ∨ cl19.slots.size ≤ ((4 : Int32)).toNatClampNeg) := inb_of aS19 ⟨by decide, by decide⟩
  obtain ⟨T19, h19, X19, e19, W19, st19⟩ := stI X18 hx hZ e18 Ar19 (j := (4 : Int32)) hin19 (g := (mkF m 113 #[iv p0, iv p1, iv p2, iv p3, iv p4, iv p5, rv b1, iv ca1, iv ca2, iv ca3, iv ca4, rv b14, .unset, .unset, .unset, .unset, .unset, .unset, .unset] [(.int ca4), (.int (4 : Int32)), (.ref b14)])) rfl rfl (hb hby at_113)
  have V_b1_19 := V_b1_18.other W19 ne_b1_b14
  have V_b14_19 : Arv Z h19 b14 k14 .int (5 : Int32) [(.int (1 : Int32)), (.int ca1), (.int ca2), (.int ca3), (.int ca4)] (.int (0 : Int32)) := Arv.set Ar19 aq19 aS19 aN19 aH19 aG19 rfl W19 4 rfl (Nat.le_of_ble_eq_true rfl)
  have Z19 : n0 ≤ h19.size := Nat.le_trans Z18 (Keep.of_wr W19).1
  have KK19 := KK18.wr W19 (Or.inr sz_b14)
  have N19 := Fr.snoc X19 N18 ge_b14
  refine own_step (U' := T19.setTop (mkF m 114 #[iv p0, iv p1, iv p2, iv p3, iv p4, iv p5, rv b1, iv ca1, iv ca2, iv ca3, iv ca4, rv b14, .unset, .unset, .unset, .unset, .unset, .unset, .unset] [])) st19 ?_
  refine own_step (U' := T19.setTop (mkF m 121 #[iv p0, iv p1, iv p2, iv p3, iv p4, iv p5, rv b1, iv ca1, iv ca2, iv ca3, iv ca4, rv b14, .unset, .unset, .unset, .unset, .unset, .unset, .unset] [(.int ((p4 &&& (2147483647 : Int32)) % (5 : Int32)))])) (fun t k => XS.iload X19.here hx rfl (hb hby at_114) rfl (X19.ldcInt hx hown (mvT hZ (own_w hw 9 rfl)) (g := (mkF m 116 #[iv p0, iv p1, iv p2, iv p3, iv p4, iv p5, rv b1, iv ca1, iv ca2, iv ca3, iv ca4, rv b14, .unset, .unset, .unset, .unset, .unset, .unset, .unset] [(.int p4)])) rfl (hb hby at_116) t (XS.iand X19.here hx rfl (hb hby at_118) rfl (XS.iconst X19.here hx rfl (hb hby at_119) (iremM X19 hx rfl (hb hby at_120) rfl (by decide) k))))) ?_
  obtain ⟨s1, hs1⟩ : ∃ v : Int32, v = ((p4 &&& (2147483647 : Int32)) % (5 : Int32)) := ⟨_, rfl⟩
  rw [← hs1]
  refine own_step (U' := T19.setTop (mkF m 134 #[iv p0, iv p1, iv p2, iv p3, iv p4, iv p5, rv b1, iv ca1, iv ca2, iv ca3, iv ca4, rv b14, iv s1, .unset, .unset, .unset, .unset, .unset, .unset] [(.int ((5 : Int32) - s1)), (.int (p5 &&& (2147483647 : Int32))), (.int s1)])) (fun t k => XS.istore X19.here hx rfl (hb hby at_121) rfl (l' := #[iv p0, iv p1, iv p2, iv p3, iv p4, iv p5, rv b1, iv ca1, iv ca2, iv ca3, iv ca4, rv b14, iv s1, .unset, .unset, .unset, .unset, .unset, .unset]) rfl (XS.iload X19.here hx rfl (hb hby at_123) rfl (XS.iload X19.here hx rfl (hb hby at_125) rfl (X19.ldcInt hx hown (mvT hZ (own_w hw 9 rfl)) (g := (mkF m 127 #[iv p0, iv p1, iv p2, iv p3, iv p4, iv p5, rv b1, iv ca1, iv ca2, iv ca3, iv ca4, rv b14, iv s1, .unset, .unset, .unset, .unset, .unset, .unset] [(.int p5), (.int s1)])) rfl (hb hby at_127) t (XS.iand X19.here hx rfl (hb hby at_129) rfl (XS.iconst X19.here hx rfl (hb hby at_130) (XS.iload X19.here hx rfl (hb hby at_131) rfl (XS.isub X19.here hx rfl (hb hby at_133) rfl k)))))))) ?_
  refine own_step (U' := T19.setTop (mkF m 136 #[iv p0, iv p1, iv p2, iv p3, iv p4, iv p5, rv b1, iv ca1, iv ca2, iv ca3, iv ca4, rv b14, iv s1, .unset, .unset, .unset, .unset, .unset, .unset] [(.int (s1 + ((p5 &&& (2147483647 : Int32)) % ((5 : Int32) - s1))))])) (fun t k => iremM X19 hx rfl (hb hby at_134) rfl (own_nz hs1) (XS.iadd X19.here hx rfl (hb hby at_135) rfl k)) ?_
  obtain ⟨s2, hs2⟩ : ∃ v : Int32, v = (s1 + ((p5 &&& (2147483647 : Int32)) % ((5 : Int32) - s1))) := ⟨_, rfl⟩
  rw [← hs2]
  refine own_step (U' := T19.setTop (mkF m 138 #[iv p0, iv p1, iv p2, iv p3, iv p4, iv p5, rv b1, iv ca1, iv ca2, iv ca3, iv ca4, rv b14, iv s1, iv s2, .unset, .unset, .unset, .unset, .unset] [])) (fun t k => XS.istore X19.here hx rfl (hb hby at_136) rfl (l' := #[iv p0, iv p1, iv p2, iv p3, iv p4, iv p5, rv b1, iv ca1, iv ca2, iv ca3, iv ca4, rv b14, iv s1, iv s2, .unset, .unset, .unset, .unset, .unset]) rfl k) ?_
  obtain ⟨T20, h20, X20, e20, E20, A20, D20, -, st20⟩ := newO X19 hx hZ hown (own_w hw 10 rfl) (own_w hw 11 rfl) (own_w hw 12 rfl) e19 (g := (mkF m 138 #[iv p0, iv p1, iv p2, iv p3, iv p4, iv p5, rv b1, iv ca1, iv ca2, iv ca3, iv ca4, rv b14, iv s1, iv s2, .unset, .unset, .unset, .unset, .unset] [])) rfl (hb hby at_138) (by decide) (by decide)
  obtain ⟨b20, g20⟩ : ∃ z, z = h19.size := ⟨_, rfl⟩
  have ne_b1_b20 : b1 ≠ b20 := Nat.ne_of_lt (Nat.lt_of_lt_of_le V_b1_19.lt (Nat.le_of_eq g20.symm))
  have ne_b14_b20 : b14 ≠ b20 := Nat.ne_of_lt (Nat.lt_of_lt_of_le V_b14_19.lt (Nat.le_of_eq g20.symm))
  have ge_b20 : n0 ≤ b20 := Nat.le_trans Z19 (Nat.le_of_eq g20.symm)
  have sz_b20 : h0.size ≤ b20 := Nat.le_trans KK19.1 (Nat.le_of_eq g20.symm)
  rw [← g20] at A20 D20 st20
  have V_b1_20 := V_b1_19.ext E20
  have V_b14_20 := V_b14_19.ext E20
  have F_bytes_b20 : Fld Z h20 b20 own_XC "bytes" "[B" .null := D20 (Or.inl (own_w hw 41 rfl)) (ty := (.array .byte)) (by decide)
  have F_position_b20 : Fld Z h20 b20 own_XC "position" "I" (.int (0 : Int32)) := D20 (Or.inl (own_w hw 58 rfl)) (ty := .int) (by decide)
  have F_line_b20 : Fld Z h20 b20 own_XC "line" "I" (.int (0 : Int32)) := D20 (Or.inl (own_w hw 72 rfl)) (ty := .int) (by decide)
  have F_counted_b20 : Fld Z h20 b20 own_XC "counted" "I" (.int (0 : Int32)) := D20 (Or.inl (own_w hw 74 rfl)) (ty := .int) (by decide)
  have F_afterCarriageReturn_b20 : Fld Z h20 b20 own_XC "afterCarriageReturn" "Z" (.int (0 : Int32)) := D20 (Or.inl (own_w hw 76 rfl)) (ty := .boolean) (by decide)
  have Z20 : n0 ≤ h20.size := Nat.le_trans Z19 E20.1
  have KK20 := KK19.ext E20
  refine own_step (U' := T20.setTop (mkF m 141 #[iv p0, iv p1, iv p2, iv p3, iv p4, iv p5, rv b1, iv ca1, iv ca2, iv ca3, iv ca4, rv b14, iv s1, iv s2, .unset, .unset, .unset, .unset, .unset] [(.ref b20)])) st20 ?_
  refine own_step (U' := T20.setTop (mkF m 142 #[iv p0, iv p1, iv p2, iv p3, iv p4, iv p5, rv b1, iv ca1, iv ca2, iv ca3, iv ca4, rv b14, iv s1, iv s2, .unset, .unset, .unset, .unset, .unset] [(.ref b20), (.ref b20)])) (fun t k => XS.dup X20.here hx rfl (hb hby at_141) rfl rfl k) ?_
  obtain ⟨T21, h21, X21, e21, E21, A21, D21, -, st21⟩ := newO X20 hx hZ hown (own_w hw 13 rfl) (own_w hw 14 rfl) (own_w hw 15 rfl) e20 (g := (mkF m 142 #[iv p0, iv p1, iv p2, iv p3, iv p4, iv p5, rv b1, iv ca1, iv ca2, iv ca3, iv ca4, rv b14, iv s1, iv s2, .unset, .unset, .unset, .unset, .unset] [(.ref b20), (.ref b20)])) rfl (hb hby at_142) (by decide) (by decide)
  obtain ⟨b21, g21⟩ : ∃ z, z = h20.size := ⟨_, rfl⟩
  have ne_b1_b21 : b1 ≠ b21 := Nat.ne_of_lt (Nat.lt_of_lt_of_le V_b1_20.lt (Nat.le_of_eq g21.symm))
  have ne_b14_b21 : b14 ≠ b21 := Nat.ne_of_lt (Nat.lt_of_lt_of_le V_b14_20.lt (Nat.le_of_eq g21.symm))
  have ne_b20_b21 : b20 ≠ b21 := Nat.ne_of_lt (Nat.lt_of_lt_of_le A20.lt (Nat.le_of_eq g21.symm))
  have ge_b21 : n0 ≤ b21 := Nat.le_trans Z20 (Nat.le_of_eq g21.symm)
  have sz_b21 : h0.size ≤ b21 := Nat.le_trans KK20.1 (Nat.le_of_eq g21.symm)
  rw [← g21] at A21 D21 st21
  have V_b1_21 := V_b1_20.ext E21
  have V_b14_21 := V_b14_20.ext E21
  have A20_21 := A20.ext E21
  have F_bytes_b20_21 := F_bytes_b20.ext E21
  have F_position_b20_21 := F_position_b20.ext E21
  have F_line_b20_21 := F_line_b20.ext E21
  have F_counted_b20_21 := F_counted_b20.ext E21
  have F_afterCarriageReturn_b20_21 := F_afterCarriageReturn_b20.ext E21
  have F_metOnce_b21 : Fld Z h21 b21 own_KT "metOnce" "[B" .null := D21 (Or.inr (own_w hw 32 rfl)) (ty := (.array .byte)) (by decide)
  have Z21 : n0 ≤ h21.size := Nat.le_trans Z20 E21.1
  have KK21 := KK20.ext E21
  refine own_step (U' := T21.setTop (mkF m 145 #[iv p0, iv p1, iv p2, iv p3, iv p4, iv p5, rv b1, iv ca1, iv ca2, iv ca3, iv ca4, rv b14, iv s1, iv s2, .unset, .unset, .unset, .unset, .unset] [(.ref b21), (.ref b20), (.ref b20)])) st21 ?_
  refine own_step (U' := T21.setTop (mkF m 146 #[iv p0, iv p1, iv p2, iv p3, iv p4, iv p5, rv b1, iv ca1, iv ca2, iv ca3, iv ca4, rv b14, iv s1, iv s2, .unset, .unset, .unset, .unset, .unset] [(.ref b21), (.ref b21), (.ref b20), (.ref b20)])) (fun t k => XS.dup X21.here hx rfl (hb hby at_145) rfl rfl k) ?_
  obtain ⟨_, _, ⟨T22, L22, k22, n22⟩, -, X22, ⟨Lc22, hQ22, l22, y22, z22⟩, st22⟩ := X21.specialBack hx (y := (⟨own_KT, "<init>", "()V"⟩ : MethodName)) rfl hown (mvT hZ (own_w hw 16 rfl)) (mvT hZ (own_w hw 17 rfl)) (mvT hZ (own_w hw 18 rfl)) (by decide) (backOf (W := 3) (rm3 l Z a0 hw [] b21 h21 n0 Z21 A21 F_metOnce_b21 ge_b21) hZ (own_w hw 18 rfl) (own_w hw 15 rfl) (by decide) (by decide)) (g := (mkF m 146 #[iv p0, iv p1, iv p2, iv p3, iv p4, iv p5, rv b1, iv ca1, iv ca2, iv ca3, iv ca4, rv b14, iv s1, iv s2, .unset, .unset, .unset, .unset, .unset] [(.ref b21), (.ref b21), (.ref b20), (.ref b20)])) rfl (by rw [hml]; rfl) (Steps.refl _) (a := b21) (argsL := []) (rest := [(.ref b21), (.ref b20), (.ref b20)]) (lenOf pd___V rfl) rfl (by show 2 * 0 + _ ≤ _; exact Nat.le_of_eq rfl) (hb hby at_146) (fun _ _ => ⟨rfl, e21, (by decide : 4 + 4 ≤ _), (by decide : 34 + 68608 ≤ _)⟩)
  dsimp only [Pt.U, Pt.locs, Pt.cells, Pt.slots] at X22 l22 y22 z22 st22 hQ22
  subst y22 z22
  obtain ⟨rfl, N22q, K22q, Ea22_b21⟩ := hQ22
  have N22 := own_frapp l22 N19 N22q
  have V_b1_22 := V_b1_21.keep K22q (ninS ne_b1_b21 nin0)
  have V_b14_22 := V_b14_21.keep K22q (ninS ne_b14_b21 nin0)
  have A20_22 := A20_21.keep K22q
  have F_bytes_b20_22 := F_bytes_b20_21.keep K22q (ninS ne_b20_b21 nin0)
  have F_position_b20_22 := F_position_b20_21.keep K22q (ninS ne_b20_b21 nin0)
  have F_line_b20_22 := F_line_b20_21.keep K22q (ninS ne_b20_b21 nin0)
  have F_counted_b20_22 := F_counted_b20_21.keep K22q (ninS ne_b20_b21 nin0)
  have F_afterCarriageReturn_b20_22 := F_afterCarriageReturn_b20_21.keep K22q (ninS ne_b20_b21 nin0)
  have A21_22 := A21.keep K22q
  have Z22 : n0 ≤ T22.heap.size := Nat.le_trans Z21 K22q.1
  have KK22 := KK21.trans K22q (allS (Or.inr sz_b21) all0)
  refine own_steps (U' := T22.setTop (mkF m 149 #[iv p0, iv p1, iv p2, iv p3, iv p4, iv p5, rv b1, iv ca1, iv ca2, iv ca3, iv ca4, rv b14, iv s1, iv s2, .unset, .unset, .unset, .unset, .unset] [(.ref b21), (.ref b20), (.ref b20)])) st22 ?_
  obtain ⟨_, _, ⟨T23, L23, k23, n23⟩, -, X23, ⟨Lc23, hQ23, l23, y23, z23⟩, st23⟩ := X22.specialBack hx (y := (⟨own_XC, "<init>", "(Lcom/example/palisade/palisade/xml/KnownTexts;)V"⟩ : MethodName)) rfl hown (mvT hZ (own_w hw 35 rfl)) (mvT hZ (own_w hw 36 rfl)) (mvT hZ (own_w hw 37 rfl)) (by decide) (backOf (W := 1) (rm5 l Z a0 hw [] b20 b21 T22.heap n0 Z22 A20_22 F_bytes_b20_22 ge_b20) hZ (own_w hw 37 rfl) (own_w hw 12 rfl) (by decide) (by decide)) (g := (mkF m 149 #[iv p0, iv p1, iv p2, iv p3, iv p4, iv p5, rv b1, iv ca1, iv ca2, iv ca3, iv ca4, rv b14, iv s1, iv s2, .unset, .unset, .unset, .unset, .unset] [(.ref b21), (.ref b20), (.ref b20)])) rfl (by rw [hml]; rfl) (Steps.refl _) (a := b20) (argsL := [(.ref b21)]) (rest := [(.ref b20)]) (lenOf pd__Lcom_example_palisade_palisade_xml_KnownTexts__V rfl) rfl (by show 2 * 0 + _ ≤ _; exact Nat.le_of_eq rfl) (hb hby at_149) (fun _ _ => ⟨rfl, rfl, (by decide : 8 + 2 ≤ _), (by decide : 68642 + 65792 ≤ _)⟩)
  dsimp only [Pt.U, Pt.locs, Pt.cells, Pt.slots] at X23 l23 y23 z23 st23 hQ23
  subst y23 z23
  obtain ⟨ab23, k23x, rfl, N23q, K23q, Ea23_b20, Fa23_bytes_b20, sq23, V_ab23⟩ := hQ23
  have N23 := own_frapp l23 N22 N23q
  have ne_b1_ab23 : b1 ≠ ab23 := Nat.ne_of_lt (Nat.lt_of_lt_of_le V_b1_22.lt sq23)
  have ne_b14_ab23 : b14 ≠ ab23 := Nat.ne_of_lt (Nat.lt_of_lt_of_le V_b14_22.lt sq23)
  have ne_b20_ab23 : b20 ≠ ab23 := Nat.ne_of_lt (Nat.lt_of_lt_of_le A20_22.lt sq23)
  have ne_b21_ab23 : b21 ≠ ab23 := Nat.ne_of_lt (Nat.lt_of_lt_of_le Ea22_b21.lt sq23)
  have ge_ab23 : n0 ≤ ab23 := Nat.le_trans Z22 sq23
  have sz_ab23 : h0.size ≤ ab23 := Nat.le_trans KK22.1 sq23
  have V_b1_23 := V_b1_22.keep K23q (ninS ne_b1_b20 nin0)
  have V_b14_23 := V_b14_22.keep K23q (ninS ne_b14_b20 nin0)
  have A20_23 := A20_22.keep K23q
  have Ea22_b21_23 := Ea22_b21.keep K23q
  have Z23 : n0 ≤ T23.heap.size := Nat.le_trans Z22 K23q.1
  have KK23 := KK22.trans K23q (allS (Or.inr sz_b20) all0)
  refine own_steps (U' := T23.setTop (mkF m 152 #[iv p0, iv p1, iv p2, iv p3, iv p4, iv p5, rv b1, iv ca1, iv ca2, iv ca3, iv ca4, rv b14, iv s1, iv s2, .unset, .unset, .unset, .unset, .unset] [(.ref b20)])) st23 ?_
  refine own_step (U' := T23.setTop (mkF m 157 #[iv p0, iv p1, iv p2, iv p3, iv p4, iv p5, rv b1, iv ca1, iv ca2, iv ca3, iv ca4, rv b14, iv s1, iv s2, rv b20, .unset, .unset, .unset, .unset] [.null, (.ref b20)])) (fun t k => XS.astore X23.here hx rfl (hb hby at_152) rfl rfl (l' := #[iv p0, iv p1, iv p2, iv p3, iv p4, iv p5, rv b1, iv ca1, iv ca2, iv ca3, iv ca4, rv b14, iv s1, iv s2, rv b20, .unset, .unset, .unset, .unset]) rfl (XS.aload X23.here hx rfl (hb hby at_154) rfl rfl (XS.aconstNull X23.here hx rfl (hb hby at_156) k))) ?_
  obtain ⟨cq24, kq24, qa24, qb24, qc24⟩ := isOf hZ rfl Ea23_b20
  obtain ⟨_, _, ⟨T24, L24, k24, n24⟩, -, X24, ⟨Lc24, hQ24, l24, y24, z24⟩, st24⟩ := X23.virtualBack hx (y := (⟨own_XC, "restart", "(Ljava/io/InputStream;)V"⟩ : MethodName)) (z := (⟨own_XC, "restart", "(Ljava/io/InputStream;)V"⟩ : MethodName)) hown (mvT hZ (own_w hw 50 rfl)) (mvT hZ (own_w hw 51 rfl)) (notFace_of_selects (args := #[]) (mvT hZ (own_w hw 53 rfl))) (mvT hZ (own_w hw 53 rfl)) (mvT hZ (own_w hw 52 rfl)) (by decide) (backOf (W := 0) (rm6 l Z a0 hw [] b20 ab23 k23x T23.heap n0 Z23 Ea23_b20 Fa23_bytes_b20 ge_b20 V_ab23 (Ne.symm ne_b20_ab23)) hZ (own_w hw 54 rfl) (own_w hw 12 rfl) (by decide) (by decide)) qa24 qc24 (g := (mkF m 157 #[iv p0, iv p1, iv p2, iv p3, iv p4, iv p5, rv b1, iv ca1, iv ca2, iv ca3, iv ca4, rv b14, iv s1, iv s2, rv b20, .unset, .unset, .unset, .unset] [.null, (.ref b20)])) rfl (by rw [hml]; rfl) (Steps.refl _) (argsL := [.null]) (rest := []) (lenOf pd__Ljava_io_InputStream__V rfl) rfl (by show 2 * 0 + _ ≤ _; exact Nat.le_of_eq rfl) (hb hby at_157) (fun _ _ => ⟨rfl, rfl, (by decide : 10 + 0 ≤ _), (by decide : 134434 + 0 ≤ _)⟩)
  dsimp only [Pt.U, Pt.locs, Pt.cells, Pt.slots] at X24 l24 y24 z24 st24 hQ24
  subst y24 z24
  obtain ⟨rfl, N24q, K24q, Ea24_b20, Fa24_bytes_b20, Fa24_position_b20, Fa24_line_b20, Fa24_counted_b20, Fa24_afterCarriageReturn_b20⟩ := hQ24
  have N24 := own_frapp l24 N23 N24q
  have V_b1_24 := V_b1_23.keep K24q (ninS ne_b1_b20 nin0)
  have V_b14_24 := V_b14_23.keep K24q (ninS ne_b14_b20 nin0)
  have Ea23_b20_24 := Ea23_b20.keep K24q
  have Ea22_b21_24 := Ea22_b21_23.keep K24q
  have V_ab23_24 := V_ab23.keep K24q (ninS (Ne.symm ne_b20_ab23) nin0)
  have Z24 : n0 ≤ T24.heap.size := Nat.le_trans Z23 K24q.1
  have KK24 := KK23.trans K24q (allS (Or.inr sz_b20) all0)
  refine own_steps (U' := T24.setTop (mkF m 160 #[iv p0, iv p1, iv p2, iv p3, iv p4, iv p5, rv b1, iv ca1, iv ca2, iv ca3, iv ca4, rv b14, iv s1, iv s2, rv b20, .unset, .unset, .unset, .unset] [])) st24 ?_
  refine own_step (U' := T24.setTop (mkF m 162 #[iv p0, iv p1, iv p2, iv p3, iv p4, iv p5, rv b1, iv ca1, iv ca2, iv ca3, iv ca4, rv b14, iv s1, iv s2, rv b20, .unset, .unset, .unset, .unset] [(.ref b20)])) (fun t k => XS.aload X24.here hx rfl (hb hby at_160) rfl rfl k) ?_
  obtain ⟨cq25, kq25, qa25, qb25, qc25⟩ := isOf hZ rfl Ea24_b20
  obtain ⟨_, _, ⟨T25, L25, k25, n25⟩, -, X25, ⟨Lc25, hQ25, l25, y25, z25⟩, st25⟩ := X24.virtualBack hx (y := (⟨own_XC, "nameBytes", "()[B"⟩ : MethodName)) (z := (⟨own_XC, "nameBytes", "()[B"⟩ : MethodName)) hown (mvT hZ (own_w hw 79 rfl)) (mvT hZ (own_w hw 80 rfl)) (notFace_of_selects (args := #[]) (mvT hZ (own_w hw 82 rfl))) (mvT hZ (own_w hw 82 rfl)) (mvT hZ (own_w hw 81 rfl)) (by decide) (backOf (W := 0) (rm7 l Z a0 hw [] b20 ab23 T24.heap n0 Z24 Ea24_b20 Fa24_bytes_b20) hZ (own_w hw 83 rfl) (own_w hw 12 rfl) (by decide) (by decide)) qa25 qc25 (g := (mkF m 162 #[iv p0, iv p1, iv p2, iv p3, iv p4, iv p5, rv b1, iv ca1, iv ca2, iv ca3, iv ca4, rv b14, iv s1, iv s2, rv b20, .unset, .unset, .unset, .unset] [(.ref b20)])) rfl (by rw [hml]; rfl) (Steps.refl _) (argsL := []) (rest := []) (lenOf pd____B rfl) rfl (by show 2 * 0 + _ ≤ _; exact Nat.le_of_eq rfl) (hb hby at_162) (fun _ _ => ⟨rfl, rfl, (by decide : 10 + 0 ≤ _), (by decide : 134434 + 0 ≤ _)⟩)
  dsimp only [Pt.U, Pt.locs, Pt.cells, Pt.slots] at X25 l25 y25 z25 st25 hQ25
  subst y25 z25
  obtain ⟨rfl, N25q, eq25⟩ := hQ25
  have N25 := own_frapp l25 N24 N25q
  refine own_steps (U' := T25.setTop (mkF m 165 #[iv p0, iv p1, iv p2, iv p3, iv p4, iv p5, rv b1, iv ca1, iv ca2, iv ca3, iv ca4, rv b14, iv s1, iv s2, rv b20, .unset, .unset, .unset, .unset] [(.ref ab23)])) st25 ?_
  refine own_step (U' := T25.setTop (mkF m 167 #[iv p0, iv p1, iv p2, iv p3, iv p4, iv p5, rv b1, iv ca1, iv ca2, iv ca3, iv ca4, rv b14, iv s1, iv s2, rv b20, rv ab23, .unset, .unset, .unset] [])) (fun t k => XS.astore X25.here hx rfl (hb hby at_165) rfl rfl (l' := #[iv p0, iv p1, iv p2, iv p3, iv p4, iv p5, rv b1, iv ca1, iv ca2, iv ca3, iv ca4, rv b14, iv s1, iv s2, rv b20, rv ab23, .unset, .unset, .unset]) rfl k) ?_
  have Vp_ab23 : Arv Z T24.heap ab23 k23x .byte (65536 : Int32) [(.int (0 : Int32)), (.int (0 : Int32)), (.int (0 : Int32)), (.int (0 : Int32))] (.int (0 : Int32)) := V_ab23_24.pad (pad_rep [] (.int (0 : Int32)) 4)
  refine own_step (U' := T25.setTop (mkF m 173 #[iv p0, iv p1, iv p2, iv p3, iv p4, iv p5, rv b1, iv ca1, iv ca2, iv ca3, iv ca4, rv b14, iv s1, iv s2, rv b20, rv ab23, .unset, .unset, .unset] [(.int (0 : Int32)), (.ref b1), (.int (0 : Int32)), (.ref ab23)])) (fun t k => XS.aload X25.here hx rfl (hb hby at_167) rfl rfl (XS.iconst X25.here hx rfl (hb hby at_169) (XS.aload X25.here hx rfl (hb hby at_170) rfl rfl (XS.iconst X25.here hx rfl (hb hby at_172) k)))) ?_
  obtain ⟨cl26, Ar26, aq26, aS26, aN26, aH26, aG26⟩ := id V_b1_24
  have hin26 : ¬ ((0 : Int32) < 0 ∨ cl26.slots.size ≤ ((0 : Int32)).toNatClampNeg) := inb_of aS26 ⟨by decide, by decide⟩
  have hat26 : cl26.slots[((0 : Int32)).toNatClampNeg]? = some (.int (nar .byte ua0)) := aH26.at hin26 rfl
  refine own_step (U' := T25.setTop (mkF m 174 #[iv p0, iv p1, iv p2, iv p3, iv p4, iv p5, rv b1, iv ca1, iv ca2, iv ca3, iv ca4, rv b14, iv s1, iv s2, rv b20, rv ab23, .unset, .unset, .unset] [(.int (nar .byte ua0)), (.int (0 : Int32)), (.ref ab23)])) (fun t k => X25.baloadBytes hx (j := (0 : Int32)) (v := (.int (nar .byte ua0))) (by rw [eq25]; exact Ar26.1) (State.isArrayOf_alike hZ.alike Ar26.2.1) Ar26.2.2 hin26 hat26 (g := (mkF m 173 #[iv p0, iv p1, iv p2, iv p3, iv p4, iv p5, rv b1, iv ca1, iv ca2, iv ca3, iv ca4, rv b14, iv s1, iv s2, rv b20, rv ab23, .unset, .unset, .unset] [(.int (0 : Int32)), (.ref b1), (.int (0 : Int32)), (.ref ab23)])) rfl rfl (hb hby at_173) t k) ?_
  obtain ⟨ub0, hub0⟩ : ∃ v : Int32, v = (nar .byte ua0) := ⟨_, rfl⟩
  rw [← hub0]
  obtain ⟨cl27, Ar27, aq27, aS27, aN27, aH27, aG27⟩ := id Vp_ab23
  have hin27 : ¬ ((0 : Int32) < 0 ∨ cl27.slots.size ≤ ((0 : Int32)).toNatClampNeg) := inb_of aS27 ⟨by decide, by decide⟩
  obtain ⟨T27, h27, X27, e27, W27, st27⟩ := stB X25 hx hZ eq25 Ar27 (j := (0 : Int32)) hin27 (g := (mkF m 174 #[iv p0, iv p1, iv p2, iv p3, iv p4, iv p5, rv b1, iv ca1, iv ca2, iv ca3, iv ca4, rv b14, iv s1, iv s2, rv b20, rv ab23, .unset, .unset, .unset] [(.int ub0), (.int (0 : Int32)), (.ref ab23)])) rfl rfl (hb hby at_174)
  have V_b1_27 := V_b1_24.other W27 ne_b1_ab23
  have V_b14_27 := V_b14_24.other W27 ne_b14_ab23
  have Ea24_b20_27 := Ea24_b20.wr W27
  have Ea22_b21_27 := Ea22_b21_24.wr W27
  have Fa24_bytes_b20_27 := Fa24_bytes_b20.other W27 (Or.inl ne_b20_ab23)
  have Fa24_position_b20_27 := Fa24_position_b20.other W27 (Or.inl ne_b20_ab23)
  have Fa24_line_b20_27 := Fa24_line_b20.other W27 (Or.inl ne_b20_ab23)
  have Fa24_counted_b20_27 := Fa24_counted_b20.other W27 (Or.inl ne_b20_ab23)
  have Fa24_afterCarriageReturn_b20_27 := Fa24_afterCarriageReturn_b20.other W27 (Or.inl ne_b20_ab23)
  have V_ab23_27 : Arv Z h27 ab23 k23x .byte (65536 : Int32) [(.int (nar .byte ub0)), (.int (0 : Int32)), (.int (0 : Int32)), (.int (0 : Int32))] (.int (0 : Int32)) := Arv.set Ar27 aq27 aS27 aN27 aH27 aG27 (fits_nar_byte _) W27 0 rfl (Nat.le_of_ble_eq_true rfl)
  have Z27 : n0 ≤ h27.size := Nat.le_trans Z24 (Keep.of_wr W27).1
  have KK27 := KK24.wr W27 (Or.inr sz_ab23)
  have N27 := Fr.snoc X27 N25 ge_ab23
  refine own_step (U' := T27.setTop (mkF m 175 #[iv p0, iv p1, iv p2, iv p3, iv p4, iv p5, rv b1, iv ca1, iv ca2, iv ca3, iv ca4, rv b14, iv s1, iv s2, rv b20, rv ab23, .unset, .unset, .unset] [])) st27 ?_
  refine own_step (U' := T27.setTop (mkF m 181 #[iv p0, iv p1, iv p2, iv p3, iv p4, iv p5, rv b1, iv ca1, iv ca2, iv ca3, iv ca4, rv b14, iv s1, iv s2, rv b20, rv ab23, .unset, .unset, .unset] [(.int (1 : Int32)), (.ref b1), (.int (1 : Int32)), (.ref ab23)])) (fun t k => XS.aload X27.here hx rfl (hb hby at_175) rfl rfl (XS.iconst X27.here hx rfl (hb hby at_177) (XS.aload X27.here hx rfl (hb hby at_178) rfl rfl (XS.iconst X27.here hx rfl (hb hby at_180) k)))) ?_
  obtain ⟨cl28, Ar28, aq28, aS28, aN28, aH28, aG28⟩ := id V_b1_27
  have hin28 : ¬ ((1 : Int32) < 0 ∨ cl28.slots.size ≤ ((1 : Int32)).toNatClampNeg) := inb_of aS28 ⟨by decide, by decide⟩
  have hat28 : cl28.slots[((1 : Int32)).toNatClampNeg]? = some (.int (nar .byte ua1)) := aH28.at hin28 rfl
  refine own_step (U' := T27.setTop (mkF m 182 #[iv p0, iv p1, iv p2, iv p3, iv p4, iv p5, rv b1, iv ca1, iv ca2, iv ca3, iv ca4, rv b14, iv s1, iv s2, rv b20, rv ab23, .unset, .unset, .unset] [(.int (nar .byte ua1)), (.int (1 : Int32)), (.ref ab23)])) (fun t k => X27.baloadBytes hx (j := (1 : Int32)) (v := (.int (nar .byte ua1))) (by rw [e27]; exact Ar28.1) (State.isArrayOf_alike hZ.alike Ar28.2.1) Ar28.2.2 hin28 hat28 (g := (mkF m 181 #[iv p0, iv p1, iv p2, iv p3, iv p4, iv p5, rv b1, iv ca1, iv ca2, iv ca3, iv ca4, rv b14, iv s1, iv s2, rv b20, rv ab23, .unset, .unset, .unset] [(.int (1 : Int32)), (.ref b1), (.int (1 : Int32)), (.ref ab23)])) rfl rfl (hb hby at_181) t k) ?_
  obtain ⟨ub1, hub1⟩ : ∃ v : Int32, v = (nar .byte ua1) := ⟨_, rfl⟩
  rw [← hub1]
  obtain ⟨cl29, Ar29, aq29, aS29, aN29, aH29, aG29⟩ := id V_ab23_27
  have hin29 : ¬ ((1 : Int32) < 0 ∨ cl29.slots.size ≤ ((1 : Int32)).toNatClampNeg) := inb_of aS29 ⟨by decide, by decide⟩
  obtain ⟨T29, h29, X29, e29, W29, st29⟩ := stB X27 hx hZ e27 Ar29 (j := (1 : Int32)) hin29 (g := (mkF m 182 #[iv p0, iv p1, iv p2, iv p3, iv p4, iv p5, rv b1, iv ca1, iv ca2, iv ca3, iv ca4, rv b14, iv s1, iv s2, rv b20, rv ab23, .unset, .unset, .unset] [(.int ub1), (.int (1 : Int32)), (.ref ab23)])) rfl rfl (hb hby at_182)
  have V_b1_29 := V_b1_27.other W29 ne_b1_ab23
  have V_b14_29 := V_b14_27.other W29 ne_b14_ab23
  have Ea24_b20_29 := Ea24_b20_27.wr W29
  have Ea22_b21_29 := Ea22_b21_27.wr W29
  have Fa24_bytes_b20_29 := Fa24_bytes_b20_27.other W29 (Or.inl ne_b20_ab23)
  have Fa24_position_b20_29 := Fa24_position_b20_27.other W29 (Or.inl ne_b20_ab23)
  have Fa24_line_b20_29 := Fa24_line_b20_27.other W29 (Or.inl ne_b20_ab23)
  have Fa24_counted_b20_29 := Fa24_counted_b20_27.other W29 (Or.inl ne_b20_ab23)
  have Fa24_afterCarriageReturn_b20_29 := Fa24_afterCarriageReturn_b20_27.other W29 (Or.inl ne_b20_ab23)
  have V_ab23_29 : Arv Z h29 ab23 k23x .byte (65536 : Int32) [(.int (nar .byte ub0)), (.int (nar .byte ub1)), (.int (0 : Int32)), (.int (0 : Int32))] (.int (0 : Int32)) := Arv.set Ar29 aq29 aS29 aN29 aH29 aG29 (fits_nar_byte _) W29 1 rfl (Nat.le_of_ble_eq_true rfl)
  have Z29 : n0 ≤ h29.size := Nat.le_trans Z27 (Keep.of_wr W29).1
  have KK29 := KK27.wr W29 (Or.inr sz_ab23)
  have N29 := Fr.snoc X29 N27 ge_ab23
  refine own_step (U' := T29.setTop (mkF m 183 #[iv p0, iv p1, iv p2, iv p3, iv p4, iv p5, rv b1, iv ca1, iv ca2, iv ca3, iv ca4, rv b14, iv s1, iv s2, rv b20, rv ab23, .unset, .unset, .unset] [])) st29 ?_
  refine own_step (U' := T29.setTop (mkF m 189 #[iv p0, iv p1, iv p2, iv p3, iv p4, iv p5, rv b1, iv ca1, iv ca2, iv ca3, iv ca4, rv b14, iv s1, iv s2, rv b20, rv ab23, .unset, .unset, .unset] [(.int (2 : Int32)), (.ref b1), (.int (2 : Int32)), (.ref ab23)])) (fun t k => XS.aload X29.here hx rfl (hb hby at_183) rfl rfl (XS.iconst X29.here hx rfl (hb hby at_185) (XS.aload X29.here hx rfl (hb hby at_186) rfl rfl (XS.iconst X29.here hx rfl (hb hby at_188) k)))) ?_
  obtain ⟨cl30, Ar30, aq30, aS30, aN30, aH30, aG30⟩ := id V_b1_29
  have hin30 : ¬ ((2 : Int32) < 0 ∨ cl30.slots.size ≤ ((2 : Int32)).toNatClampNeg) := inb_of aS30 ⟨by decide, by decide⟩
  have hat30 : cl30.slots[((2 : Int32)).toNatClampNeg]? = some (.int (nar .byte ua2)) := aH30.at hin30 rfl
  refine own_step (U' := T29.setTop (mkF m 190 #[iv p0, iv p1, iv p2, iv p3, iv p4, iv p5, rv b1, iv ca1, iv ca2, iv ca3, iv ca4, rv b14, iv s1, iv s2, rv b20, rv ab23, .unset, .unset, .unset] [(.int (nar .byte ua2)), (.int (2 : Int32)), (.ref ab23)])) (fun t k => X29.baloadBytes hx (j := (2 : Int32)) (v := (.int (nar .byte ua2))) (by rw [e29]; exact Ar30.1) (State.isArrayOf_alike hZ.alike Ar30.2.1) Ar30.2.2 hin30 hat30 (g := (mkF m 189 #[iv p0, iv p1, iv p2, iv p3, iv p4, iv p5, rv b1, iv ca1, iv ca2, iv ca3, iv ca4, rv b14, iv s1, iv s2, rv b20, rv ab23, .unset, .unset, .unset] [(.int (2 : Int32)), (.ref b1), (.int (2 : Int32)), (.ref ab23)])) rfl rfl (hb hby at_189) t k) ?_
  obtain ⟨ub2, hub2⟩ : ∃ v : Int32, v = (nar .byte ua2) := ⟨_, rfl⟩
  rw [← hub2]
  obtain ⟨cl31, Ar31, aq31, aS31, aN31, aH31, aG31⟩ := id V_ab23_29
  have hin31 : ¬ ((2 : Int32) < 0 ∨ cl31.slots.size ≤ ((2 : Int32)).toNatClampNeg) := inb_of aS31 ⟨by decide, by decide⟩
  obtain ⟨T31, h31, X31, e31, W31, st31⟩ := stB X29 hx hZ e29 Ar31 (j := (2 : Int32)) hin31 (g := (mkF m 190 #[iv p0, iv p1, iv p2, iv p3, iv p4, iv p5, rv b1, iv ca1, iv ca2, iv ca3, iv ca4, rv b14, iv s1, iv s2, rv b20, rv ab23, .unset, .unset, .unset] [(.int ub2), (.int (2 : Int32)), (.ref ab23)])) rfl rfl (hb hby at_190)
  have V_b1_31 := V_b1_29.other W31 ne_b1_ab23
  have V_b14_31 := V_b14_29.other W31 ne_b14_ab23
  have Ea24_b20_31 := Ea24_b20_29.wr W31
  have Ea22_b21_31 := Ea22_b21_29.wr W31
  have Fa24_bytes_b20_31 := Fa24_bytes_b20_29.other W31 (Or.inl ne_b20_ab23)
  have Fa24_position_b20_31 := Fa24_position_b20_29.other W31 (Or.inl ne_b20_ab23)
  have Fa24_line_b20_31 := Fa24_line_b20_29.other W31 (Or.inl ne_b20_ab23)
  have Fa24_counted_b20_31 := Fa24_counted_b20_29.other W31 (Or.inl ne_b20_ab23)
  have Fa24_afterCarriageReturn_b20_31 := Fa24_afterCarriageReturn_b20_29.other W31 (Or.inl ne_b20_ab23)
  have V_ab23_31 : Arv Z h31 ab23 k23x .byte (65536 : Int32) [(.int (nar .byte ub0)), (.int (nar .byte ub1)), (.int (nar .byte ub2)), (.int (0 : Int32))] (.int (0 : Int32)) := Arv.set Ar31 aq31 aS31 aN31 aH31 aG31 (fits_nar_byte _) W31 2 rfl (Nat.le_of_ble_eq_true rfl)
  have Z31 : n0 ≤ h31.size := Nat.le_trans Z29 (Keep.of_wr W31).1
  have KK31 := KK29.wr W31 (Or.inr sz_ab23)
  have N31 := Fr.snoc X31 N29 ge_ab23
  refine own_step (U' := T31.setTop (mkF m 191 #[iv p0, iv p1, iv p2, iv p3, iv p4, iv p5, rv b1, iv ca1, iv ca2, iv ca3, iv ca4, rv b14, iv s1, iv s2, rv b20, rv ab23, .unset, .unset, .unset] [])) st31 ?_
  refine own_step (U' := T31.setTop (mkF m 197 #[iv p0, iv p1, iv p2, iv p3, iv p4, iv p5, rv b1, iv ca1, iv ca2, iv ca3, iv ca4, rv b14, iv s1, iv s2, rv b20, rv ab23, .unset, .unset, .unset] [(.int (3 : Int32)), (.ref b1), (.int (3 : Int32)), (.ref ab23)])) (fun t k => XS.aload X31.here hx rfl (hb hby at_191) rfl rfl (XS.iconst X31.here hx rfl (hb hby at_193) (XS.aload X31.here hx rfl (hb hby at_194) rfl rfl (XS.iconst X31.here hx rfl (hb hby at_196) k)))) ?_
  obtain ⟨cl32, Ar32, aq32, aS32, aN32, aH32, aG32⟩ := id V_b1_31
  have hin32 : ¬ ((3 : Int32) < 0 ∨ cl32.slots.size ≤ ((3 : Int32)).toNatClampNeg) := inb_of aS32 ⟨by decide, by decide⟩
  have hat32 : cl32.slots[((3 : Int32)).toNatClampNeg]? = some (.int (nar .byte ua3)) := aH32.at hin32 rfl
  refine own_step (U' := T31.setTop (mkF m 198 #[iv p0, iv p1, iv p2, iv p3, iv p4, iv p5, rv b1, iv ca1, iv ca2, iv ca3, iv ca4, rv b14, iv s1, iv s2, rv b20, rv ab23, .unset, .unset, .unset] [(.int (nar .byte ua3)), (.int (3 : Int32)), (.ref ab23)])) (fun t k => X31.baloadBytes hx (j := (3 : Int32)) (v := (.int (nar .byte ua3))) (by rw [e31]; exact Ar32.1) (State.isArrayOf_alike hZ.alike Ar32.2.1) Ar32.2.2 hin32 hat32 (g := (mkF m 197 #[iv p0, iv p1, iv p2, iv p3, iv p4, iv p5, rv b1, iv ca1, iv ca2, iv ca3, iv ca4, rv b14, iv s1, iv s2, rv b20, rv ab23, .unset, .unset, .unset] [(.int (3 : Int32)), (.ref b1), (.int (3 : Int32)), (.ref ab23)])) rfl rfl (hb hby at_197) t k) ?_
  obtain ⟨ub3, hub3⟩ : ∃ v : Int32, v = (nar .byte ua3) := ⟨_, rfl⟩
  rw [← hub3]
  obtain ⟨cl33, Ar33, aq33, aS33, aN33, aH33, aG33⟩ := id V_ab23_31
  have hin33 : ¬ ((3 : Int32) < 0 ∨ cl33.slots.size ≤ ((3 : Int32)).toNatClampNeg) := inb_of aS33 ⟨by decide, by decide⟩
  obtain ⟨T33, h33, X33, e33, W33, st33⟩ := stB X31 hx hZ e31 Ar33 (j := (3 : Int32)) hin33 (g := (mkF m 198 #[iv p0, iv p1, iv p2, iv p3, iv p4, iv p5, rv b1, iv ca1, iv ca2, iv ca3, iv ca4, rv b14, iv s1, iv s2, rv b20, rv ab23, .unset, .unset, .unset] [(.int ub3), (.int (3 : Int32)), (.ref ab23)])) rfl rfl (hb hby at_198)
  have V_b1_33 := V_b1_31.other W33 ne_b1_ab23
  have V_b14_33 := V_b14_31.other W33 ne_b14_ab23
  have Ea24_b20_33 := Ea24_b20_31.wr W33
  have Ea22_b21_33 := Ea22_b21_31.wr W33
  have Fa24_bytes_b20_33 := Fa24_bytes_b20_31.other W33 (Or.inl ne_b20_ab23)
  have Fa24_position_b20_33 := Fa24_position_b20_31.other W33 (Or.inl ne_b20_ab23)
  have Fa24_line_b20_33 := Fa24_line_b20_31.other W33 (Or.inl ne_b20_ab23)
  have Fa24_counted_b20_33 := Fa24_counted_b20_31.other W33 (Or.inl ne_b20_ab23)
  have Fa24_afterCarriageReturn_b20_33 := Fa24_afterCarriageReturn_b20_31.other W33 (Or.inl ne_b20_ab23)
  have V_ab23_33 : Arv Z h33 ab23 k23x .byte (65536 : Int32) [(.int (nar .byte ub0)), (.int (nar .byte ub1)), (.int (nar .byte ub2)), (.int (nar .byte ub3))] (.int (0 : Int32)) := Arv.set Ar33 aq33 aS33 aN33 aH33 aG33 (fits_nar_byte _) W33 3 rfl (Nat.le_of_ble_eq_true rfl)
  have Z33 : n0 ≤ h33.size := Nat.le_trans Z31 (Keep.of_wr W33).1
  have KK33 := KK31.wr W33 (Or.inr sz_ab23)
  have N33 := Fr.snoc X33 N31 ge_ab23
  refine own_step (U' := T33.setTop (mkF m 199 #[iv p0, iv p1, iv p2, iv p3, iv p4, iv p5, rv b1, iv ca1, iv ca2, iv ca3, iv ca4, rv b14, iv s1, iv s2, rv b20, rv ab23, .unset, .unset, .unset] [])) st33 ?_
  refine own_step (U' := T33.setTop (mkF m 203 #[iv p0, iv p1, iv p2, iv p3, iv p4, iv p5, rv b1, iv ca1, iv ca2, iv ca3, iv ca4, rv b14, iv s1, iv s2, rv b20, rv ab23, .unset, .unset, .unset] [(.int s1), (.ref b20)])) (fun t k => XS.aload X33.here hx rfl (hb hby at_199) rfl rfl (XS.iload X33.here hx rfl (hb hby at_201) rfl k)) ?_
  obtain ⟨cq34, kq34, qa34, qb34, qc34⟩ := isOf hZ e33 Ea24_b20_33
  obtain ⟨_, _, ⟨T34, L34, k34, n34⟩, -, X34, ⟨Lc34, hQ34, l34, y34, z34⟩, st34⟩ := X33.virtualBack hx (y := (⟨own_XC, "skip", "(I)V"⟩ : MethodName)) (z := (⟨own_XC, "skip", "(I)V"⟩ : MethodName)) hown (mvT hZ (own_w hw 84 rfl)) (mvT hZ (own_w hw 85 rfl)) (notFace_of_selects (args := #[]) (mvT hZ (own_w hw 87 rfl))) (mvT hZ (own_w hw 87 rfl)) (mvT hZ (own_w hw 86 rfl)) (by decide) (backOf (W := 0) (rm8 l Z a0 hw [] b20 s1 ab23 (0 : Int32) (1 : Int32) (0 : Int32) (0 : Int32) h33 n0 Z33 Ea24_b20_33 Fa24_bytes_b20_33 Fa24_position_b20_33 Fa24_line_b20_33 Fa24_counted_b20_33 Fa24_afterCarriageReturn_b20_33 ge_b20) hZ (own_w hw 88 rfl) (own_w hw 12 rfl) (by decide) (by decide)) qa34 qc34 (g := (mkF m 203 #[iv p0, iv p1, iv p2, iv p3, iv p4, iv p5, rv b1, iv ca1, iv ca2, iv ca3, iv ca4, rv b14, iv s1, iv s2, rv b20, rv ab23, .unset, .unset, .unset] [(.int s1), (.ref b20)])) rfl (by rw [hml]; rfl) (Steps.refl _) (argsL := [(.int s1)]) (rest := []) (lenOf pd__I_V rfl) rfl (by show 2 * 0 + _ ≤ _; exact Nat.le_of_eq rfl) (hb hby at_203) (fun _ _ => ⟨rfl, e33, (by decide : 10 + 0 ≤ _), (by decide : 134434 + 0 ≤ _)⟩)
  dsimp only [Pt.U, Pt.locs, Pt.cells, Pt.slots] at X34 l34 y34 z34 st34 hQ34
  subst y34 z34
  obtain ⟨rfl, N34q, K34q, Ea34_b20, Fa34_bytes_b20, Fa34_position_b20, Fa34_line_b20, Fa34_counted_b20, Fa34_afterCarriageReturn_b20⟩ := hQ34
  have N34 := own_frapp l34 N33 N34q
  have V_b1_34 := V_b1_33.keep K34q (ninS ne_b1_b20 nin0)
  have V_b14_34 := V_b14_33.keep K34q (ninS ne_b14_b20 nin0)
  have Ea24_b20_34 := Ea24_b20_33.keep K34q
  have Ea22_b21_34 := Ea22_b21_33.keep K34q
  have V_ab23_34 := V_ab23_33.keep K34q (ninS (Ne.symm ne_b20_ab23) nin0)
  have Z34 : n0 ≤ T34.heap.size := Nat.le_trans Z33 K34q.1
  have KK34 := KK33.trans K34q (allS (Or.inr sz_b20) all0)
  refine own_steps (U' := T34.setTop (mkF m 206 #[iv p0, iv p1, iv p2, iv p3, iv p4, iv p5, rv b1, iv ca1, iv ca2, iv ca3, iv ca4, rv b14, iv s1, iv s2, rv b20, rv ab23, .unset, .unset, .unset] [])) st34 ?_
  have Fq35 := Fa34_position_b20
  rw [show ((0 : Int32) + s1) = s1 from Int32.zero_add _] at Fq35
  refine own_step (U' := T34.setTop (mkF m 208 #[iv p0, iv p1, iv p2, iv p3, iv p4, iv p5, rv b1, iv ca1, iv ca2, iv ca3, iv ca4, rv b14, iv s1, iv s2, rv b20, rv ab23, .unset, .unset, .unset] [(.ref b20)])) (fun t k => XS.aload X34.here hx rfl (hb hby at_206) rfl rfl k) ?_
  obtain ⟨cq36, kq36, qa36, qb36, qc36⟩ := isOf hZ rfl Ea34_b20
  obtain ⟨_, _, ⟨T36, L36, k36, n36⟩, -, X36, ⟨Lc36, hQ36, l36, y36, z36⟩, st36⟩ := X34.virtualBack hx (y := (⟨own_XC, "line", "()I"⟩ : MethodName)) (z := (⟨own_XC, "line", "()I"⟩ : MethodName)) hown (mvT hZ (own_w hw 89 rfl)) (mvT hZ (own_w hw 90 rfl)) (notFace_of_selects (args := #[]) (mvT hZ (own_w hw 92 rfl))) (mvT hZ (own_w hw 92 rfl)) (mvT hZ (own_w hw 91 rfl)) (by decide) (backOf (W := 0) (rm9s l Z a0 hw [] b20 ab23 s1 (1 : Int32) (0 : Int32) (0 : Int32) (nar .byte ub0) (nar .byte ub1) (nar .byte ub2) (nar .byte ub3) k23x T34.heap n0 Z34 Ea34_b20 Fa34_bytes_b20 Fq35 Fa34_line_b20 Fa34_counted_b20 Fa34_afterCarriageReturn_b20 ge_b20 V_ab23_34 (Ne.symm ne_b20_ab23) (own_cpA hs1) rfl rfl) hZ (own_w hw 93 rfl) (own_w hw 12 rfl) (by decide) (by decide)) qa36 qc36 (g := (mkF m 208 #[iv p0, iv p1, iv p2, iv p3, iv p4, iv p5, rv b1, iv ca1, iv ca2, iv ca3, iv ca4, rv b14, iv s1, iv s2, rv b20, rv ab23, .unset, .unset, .unset] [(.ref b20)])) rfl (by rw [hml]; rfl) (Steps.refl _) (argsL := []) (rest := []) (lenOf pd___I rfl) rfl (by show 2 * 0 + _ ≤ _; exact Nat.le_of_eq rfl) (hb hby at_208) (fun _ _ => ⟨rfl, rfl, (by decide : 10 + 0 ≤ _), (by decide : 134434 + 0 ≤ _)⟩)
  dsimp only [Pt.U, Pt.locs, Pt.cells, Pt.slots] at X36 l36 y36 z36 st36 hQ36
  subst y36 z36
  obtain ⟨rfl, N36q, K36q, Ea36_b20, Fa36_bytes_b20, Fa36_position_b20, Fa36_line_b20, Fa36_counted_b20, Fa36_afterCarriageReturn_b20⟩ := hQ36
  have N36 := own_frapp l36 N34 N36q
  have V_b1_36 := V_b1_34.keep K36q (ninS ne_b1_b20 nin0)
  have V_b14_36 := V_b14_34.keep K36q (ninS ne_b14_b20 nin0)
  have Ea34_b20_36 := Ea34_b20.keep K36q
  have Ea22_b21_36 := Ea22_b21_34.keep K36q
  have V_ab23_36 := V_ab23_34.keep K36q (ninS (Ne.symm ne_b20_ab23) nin0)
  have Z36 : n0 ≤ T36.heap.size := Nat.le_trans Z34 K36q.1
  have KK36 := KK34.trans K36q (allS (Or.inr sz_b20) all0)
  refine own_steps (U' := T36.setTop (mkF m 211 #[iv p0, iv p1, iv p2, iv p3, iv p4, iv p5, rv b1, iv ca1, iv ca2, iv ca3, iv ca4, rv b14, iv s1, iv s2, rv b20, rv ab23, .unset, .unset, .unset] [(.int (own_pre s1 (nar .byte ub0) (nar .byte ub1) (nar .byte ub2) (nar .byte ub3)))])) st36 ?_
  obtain ⟨la1, hla1⟩ : ∃ v : Int32, v = (own_pre s1 (nar .byte ub0) (nar .byte ub1) (nar .byte ub2) (nar .byte ub3)) := ⟨_, rfl⟩
  rw [← hla1]
  refine own_step (U' := T36.setTop (mkF m 220 #[iv p0, iv p1, iv p2, iv p3, iv p4, iv p5, rv b1, iv ca1, iv ca2, iv ca3, iv ca4, rv b14, iv s1, iv s2, rv b20, rv ab23, iv la1, .unset, .unset] [(.int (s2 - s1)), (.ref b20)])) (fun t k => XS.istore X36.here hx rfl (hb hby at_211) rfl (l' := #[iv p0, iv p1, iv p2, iv p3, iv p4, iv p5, rv b1, iv ca1, iv ca2, iv ca3, iv ca4, rv b14, iv s1, iv s2, rv b20, rv ab23, iv la1, .unset, .unset]) rfl (XS.aload X36.here hx rfl (hb hby at_213) rfl rfl (XS.iload X36.here hx rfl (hb hby at_215) rfl (XS.iload X36.here hx rfl (hb hby at_217) rfl (XS.isub X36.here hx rfl (hb hby at_219) rfl k))))) ?_
  obtain ⟨cq37, kq37, qa37, qb37, qc37⟩ := isOf hZ rfl Ea36_b20
  obtain ⟨_, _, ⟨T37, L37, k37, n37⟩, -, X37, ⟨Lc37, hQ37, l37, y37, z37⟩, st37⟩ := X36.virtualBack hx (y := (⟨own_XC, "skip", "(I)V"⟩ : MethodName)) (z := (⟨own_XC, "skip", "(I)V"⟩ : MethodName)) hown (mvT hZ (own_w hw 84 rfl)) (mvT hZ (own_w hw 85 rfl)) (notFace_of_selects (args := #[]) (mvT hZ (own_w hw 87 rfl))) (mvT hZ (own_w hw 87 rfl)) (mvT hZ (own_w hw 86 rfl)) (by decide) (backOf (W := 0) (rm8 l Z a0 hw [] b20 (s2 - s1) ab23 s1 (own_pre s1 (nar .byte ub0) (nar .byte ub1) (nar .byte ub2) (nar .byte ub3)) s1 (own_AF s1 (nar .byte ub0) (nar .byte ub1) (nar .byte ub2) (nar .byte ub3)) T36.heap n0 Z36 Ea36_b20 Fa36_bytes_b20 Fa36_position_b20 Fa36_line_b20 Fa36_counted_b20 Fa36_afterCarriageReturn_b20 ge_b20) hZ (own_w hw 88 rfl) (own_w hw 12 rfl) (by decide) (by decide)) qa37 qc37 (g := (mkF m 220 #[iv p0, iv p1, iv p2, iv p3, iv p4, iv p5, rv b1, iv ca1, iv ca2, iv ca3, iv ca4, rv b14, iv s1, iv s2, rv b20, rv ab23, iv la1, .unset, .unset] [(.int (s2 - s1)), (.ref b20)])) rfl (by rw [hml]; rfl) (Steps.refl _) (argsL := [(.int (s2 - s1))]) (rest := []) (lenOf pd__I_V rfl) rfl (by show 2 * 0 + _ ≤ _; exact Nat.le_of_eq rfl) (hb hby at_220) (fun _ _ => ⟨rfl, rfl, (by decide : 10 + 0 ≤ _), (by decide : 134434 + 0 ≤ _)⟩)
  dsimp only [Pt.U, Pt.locs, Pt.cells, Pt.slots] at X37 l37 y37 z37 st37 hQ37
  subst y37 z37
  obtain ⟨rfl, N37q, K37q, Ea37_b20, Fa37_bytes_b20, Fa37_position_b20, Fa37_line_b20, Fa37_counted_b20, Fa37_afterCarriageReturn_b20⟩ := hQ37
  have N37 := own_frapp l37 N36 N37q
  have V_b1_37 := V_b1_36.keep K37q (ninS ne_b1_b20 nin0)
  have V_b14_37 := V_b14_36.keep K37q (ninS ne_b14_b20 nin0)
  have Ea36_b20_37 := Ea36_b20.keep K37q
  have Ea22_b21_37 := Ea22_b21_36.keep K37q
  have V_ab23_37 := V_ab23_36.keep K37q (ninS (Ne.symm ne_b20_ab23) nin0)
  have Z37 : n0 ≤ T37.heap.size := Nat.le_trans Z36 K37q.1
  have KK37 := KK36.trans K37q (allS (Or.inr sz_b20) all0)
  refine own_steps (U' := T37.setTop (mkF m 223 #[iv p0, iv p1, iv p2, iv p3, iv p4, iv p5, rv b1, iv ca1, iv ca2, iv ca3, iv ca4, rv b14, iv s1, iv s2, rv b20, rv ab23, iv la1, .unset, .unset] [])) st37 ?_
  have Fq38 := Fa37_position_b20
  rw [show (s1 + (s2 - s1)) = s2 from own_add_sub _ _] at Fq38
  refine own_step (U' := T37.setTop (mkF m 225 #[iv p0, iv p1, iv p2, iv p3, iv p4, iv p5, rv b1, iv ca1, iv ca2, iv ca3, iv ca4, rv b14, iv s1, iv s2, rv b20, rv ab23, iv la1, .unset, .unset] [(.ref b20)])) (fun t k => XS.aload X37.here hx rfl (hb hby at_223) rfl rfl k) ?_
  obtain ⟨cq39, kq39, qa39, qb39, qc39⟩ := isOf hZ rfl Ea37_b20
  obtain ⟨_, _, ⟨T39, L39, k39, n39⟩, -, X39, ⟨Lc39, hQ39, l39, y39, z39⟩, st39⟩ := X37.virtualBack hx (y := (⟨own_XC, "line", "()I"⟩ : MethodName)) (z := (⟨own_XC, "line", "()I"⟩ : MethodName)) hown (mvT hZ (own_w hw 89 rfl)) (mvT hZ (own_w hw 90 rfl)) (notFace_of_selects (args := #[]) (mvT hZ (own_w hw 92 rfl))) (mvT hZ (own_w hw 92 rfl)) (mvT hZ (own_w hw 91 rfl)) (by decide) (backOf (W := 0) (rm9s l Z a0 hw [] b20 ab23 s2 (own_pre s1 (nar .byte ub0) (nar .byte ub1) (nar .byte ub2) (nar .byte ub3)) s1 (own_AF s1 (nar .byte ub0) (nar .byte ub1) (nar .byte ub2) (nar .byte ub3)) (nar .byte ub0) (nar .byte ub1) (nar .byte ub2) (nar .byte ub3) k23x T37.heap n0 Z37 Ea37_b20 Fa37_bytes_b20 Fq38 Fa37_line_b20 Fa37_counted_b20 Fa37_afterCarriageReturn_b20 ge_b20 V_ab23_37 (Ne.symm ne_b20_ab23) (own_s hs1 hs2) rfl rfl) hZ (own_w hw 93 rfl) (own_w hw 12 rfl) (by decide) (by decide)) qa39 qc39 (g := (mkF m 225 #[iv p0, iv p1, iv p2, iv p3, iv p4, iv p5, rv b1, iv ca1, iv ca2, iv ca3, iv ca4, rv b14, iv s1, iv s2, rv b20, rv ab23, iv la1, .unset, .unset] [(.ref b20)])) rfl (by rw [hml]; rfl) (Steps.refl _) (argsL := []) (rest := []) (lenOf pd___I rfl) rfl (by show 2 * 0 + _ ≤ _; exact Nat.le_of_eq rfl) (hb hby at_225) (fun _ _ => ⟨rfl, rfl, (by decide : 10 + 0 ≤ _), (by decide : 134434 + 0 ≤ _)⟩)
  dsimp only [Pt.U, Pt.locs, Pt.cells, Pt.slots] at X39 l39 y39 z39 st39 hQ39
  subst y39 z39
  obtain ⟨rfl, N39q, K39q, Ea39_b20, Fa39_bytes_b20, Fa39_position_b20, Fa39_line_b20, Fa39_counted_b20, Fa39_afterCarriageReturn_b20⟩ := hQ39
  have N39 := own_frapp l39 N37 N39q
  have V_b1_39 := V_b1_37.keep K39q (ninS ne_b1_b20 nin0)
  have V_b14_39 := V_b14_37.keep K39q (ninS ne_b14_b20 nin0)
  have Ea37_b20_39 := Ea37_b20.keep K39q
  have Ea22_b21_39 := Ea22_b21_37.keep K39q
  have V_ab23_39 := V_ab23_37.keep K39q (ninS (Ne.symm ne_b20_ab23) nin0)
  have Z39 : n0 ≤ T39.heap.size := Nat.le_trans Z37 K39q.1
  have KK39 := KK37.trans K39q (allS (Or.inr sz_b20) all0)
  refine own_steps (U' := T39.setTop (mkF m 228 #[iv p0, iv p1, iv p2, iv p3, iv p4, iv p5, rv b1, iv ca1, iv ca2, iv ca3, iv ca4, rv b14, iv s1, iv s2, rv b20, rv ab23, iv la1, .unset, .unset] [(.int (own_pre s2 (nar .byte ub0) (nar .byte ub1) (nar .byte ub2) (nar .byte ub3)))])) st39 ?_
  obtain ⟨la2, hla2⟩ : ∃ v : Int32, v = (own_pre s2 (nar .byte ub0) (nar .byte ub1) (nar .byte ub2) (nar .byte ub3)) := ⟨_, rfl⟩
  rw [← hla2]
  refine own_step (U' := T39.setTop (mkF m 236 #[iv p0, iv p1, iv p2, iv p3, iv p4, iv p5, rv b1, iv ca1, iv ca2, iv ca3, iv ca4, rv b14, iv s1, iv s2, rv b20, rv ab23, iv la1, iv la2, .unset] [(.int ((4 : Int32) - s2)), (.ref b20)])) (fun t k => XS.istore X39.here hx rfl (hb hby at_228) rfl (l' := #[iv p0, iv p1, iv p2, iv p3, iv p4, iv p5, rv b1, iv ca1, iv ca2, iv ca3, iv ca4, rv b14, iv s1, iv s2, rv b20, rv ab23, iv la1, iv la2, .unset]) rfl (XS.aload X39.here hx rfl (hb hby at_230) rfl rfl (XS.iconst X39.here hx rfl (hb hby at_232) (XS.iload X39.here hx rfl (hb hby at_233) rfl (XS.isub X39.here hx rfl (hb hby at_235) rfl k))))) ?_
  obtain ⟨cq40, kq40, qa40, qb40, qc40⟩ := isOf hZ rfl Ea39_b20
  obtain ⟨_, _, ⟨T40, L40, k40, n40⟩, -, X40, ⟨Lc40, hQ40, l40, y40, z40⟩, st40⟩ := X39.virtualBack hx (y := (⟨own_XC, "skip", "(I)V"⟩ : MethodName)) (z := (⟨own_XC, "skip", "(I)V"⟩ : MethodName)) hown (mvT hZ (own_w hw 84 rfl)) (mvT hZ (own_w hw 85 rfl)) (notFace_of_selects (args := #[]) (mvT hZ (own_w hw 87 rfl))) (mvT hZ (own_w hw 87 rfl)) (mvT hZ (own_w hw 86 rfl)) (by decide) (backOf (W := 0) (rm8 l Z a0 hw [] b20 ((4 : Int32) - s2) ab23 s2 (own_pre s2 (nar .byte ub0) (nar .byte ub1) (nar .byte ub2) (nar .byte ub3)) s2 (own_AF s2 (nar .byte ub0) (nar .byte ub1) (nar .byte ub2) (nar .byte ub3)) T39.heap n0 Z39 Ea39_b20 Fa39_bytes_b20 Fa39_position_b20 Fa39_line_b20 Fa39_counted_b20 Fa39_afterCarriageReturn_b20 ge_b20) hZ (own_w hw 88 rfl) (own_w hw 12 rfl) (by decide) (by decide)) qa40 qc40 (g := (mkF m 236 #[iv p0, iv p1, iv p2, iv p3, iv p4, iv p5, rv b1, iv ca1, iv ca2, iv ca3, iv ca4, rv b14, iv s1, iv s2, rv b20, rv ab23, iv la1, iv la2, .unset] [(.int ((4 : Int32) - s2)), (.ref b20)])) rfl (by rw [hml]; rfl) (Steps.refl _) (argsL := [(.int ((4 : Int32) - s2))]) (rest := []) (lenOf pd__I_V rfl) rfl (by show 2 * 0 + _ ≤ _; exact Nat.le_of_eq rfl) (hb hby at_236) (fun _ _ => ⟨rfl, rfl, (by decide : 10 + 0 ≤ _), (by decide : 134434 + 0 ≤ _)⟩)
  dsimp only [Pt.U, Pt.locs, Pt.cells, Pt.slots] at X40 l40 y40 z40 st40 hQ40
  subst y40 z40
  obtain ⟨rfl, N40q, K40q, Ea40_b20, Fa40_bytes_b20, Fa40_position_b20, Fa40_line_b20, Fa40_counted_b20, Fa40_afterCarriageReturn_b20⟩ := hQ40
  have N40 := own_frapp l40 N39 N40q
  have V_b1_40 := V_b1_39.keep K40q (ninS ne_b1_b20 nin0)
  have V_b14_40 := V_b14_39.keep K40q (ninS ne_b14_b20 nin0)
  have Ea39_b20_40 := Ea39_b20.keep K40q
  have Ea22_b21_40 := Ea22_b21_39.keep K40q
  have V_ab23_40 := V_ab23_39.keep K40q (ninS (Ne.symm ne_b20_ab23) nin0)
  have Z40 : n0 ≤ T40.heap.size := Nat.le_trans Z39 K40q.1
  have KK40 := KK39.trans K40q (allS (Or.inr sz_b20) all0)
  refine own_steps (U' := T40.setTop (mkF m 239 #[iv p0, iv p1, iv p2, iv p3, iv p4, iv p5, rv b1, iv ca1, iv ca2, iv ca3, iv ca4, rv b14, iv s1, iv s2, rv b20, rv ab23, iv la1, iv la2, .unset] [])) st40 ?_
  have Fq41 := Fa40_position_b20
  rw [show (s2 + ((4 : Int32) - s2)) = (4 : Int32) from own_add_sub _ _] at Fq41
  refine own_step (U' := T40.setTop (mkF m 241 #[iv p0, iv p1, iv p2, iv p3, iv p4, iv p5, rv b1, iv ca1, iv ca2, iv ca3, iv ca4, rv b14, iv s1, iv s2, rv b20, rv ab23, iv la1, iv la2, .unset] [(.ref b20)])) (fun t k => XS.aload X40.here hx rfl (hb hby at_239) rfl rfl k) ?_
  obtain ⟨cq42, kq42, qa42, qb42, qc42⟩ := isOf hZ rfl Ea40_b20
  obtain ⟨_, _, ⟨T42, L42, k42, n42⟩, -, X42, ⟨Lc42, hQ42, l42, y42, z42⟩, st42⟩ := X40.virtualBack hx (y := (⟨own_XC, "line", "()I"⟩ : MethodName)) (z := (⟨own_XC, "line", "()I"⟩ : MethodName)) hown (mvT hZ (own_w hw 89 rfl)) (mvT hZ (own_w hw 90 rfl)) (notFace_of_selects (args := #[]) (mvT hZ (own_w hw 92 rfl))) (mvT hZ (own_w hw 92 rfl)) (mvT hZ (own_w hw 91 rfl)) (by decide) (backOf (W := 0) (rm9s l Z a0 hw [] b20 ab23 (4 : Int32) (own_pre s2 (nar .byte ub0) (nar .byte ub1) (nar .byte ub2) (nar .byte ub3)) s2 (own_AF s2 (nar .byte ub0) (nar .byte ub1) (nar .byte ub2) (nar .byte ub3)) (nar .byte ub0) (nar .byte ub1) (nar .byte ub2) (nar .byte ub3) k23x T40.heap n0 Z40 Ea40_b20 Fa40_bytes_b20 Fq41 Fa40_line_b20 Fa40_counted_b20 Fa40_afterCarriageReturn_b20 ge_b20 V_ab23_40 (Ne.symm ne_b20_ab23) (own_cpC hs1 hs2) rfl rfl) hZ (own_w hw 93 rfl) (own_w hw 12 rfl) (by decide) (by decide)) qa42 qc42 (g := (mkF m 241 #[iv p0, iv p1, iv p2, iv p3, iv p4, iv p5, rv b1, iv ca1, iv ca2, iv ca3, iv ca4, rv b14, iv s1, iv s2, rv b20, rv ab23, iv la1, iv la2, .unset] [(.ref b20)])) rfl (by rw [hml]; rfl) (Steps.refl _) (argsL := []) (rest := []) (lenOf pd___I rfl) rfl (by show 2 * 0 + _ ≤ _; exact Nat.le_of_eq rfl) (hb hby at_241) (fun _ _ => ⟨rfl, rfl, (by decide : 10 + 0 ≤ _), (by decide : 134434 + 0 ≤ _)⟩)
  dsimp only [Pt.U, Pt.locs, Pt.cells, Pt.slots] at X42 l42 y42 z42 st42 hQ42
  subst y42 z42
  obtain ⟨rfl, N42q, K42q, Ea42_b20, Fa42_bytes_b20, Fa42_position_b20, Fa42_line_b20, Fa42_counted_b20, Fa42_afterCarriageReturn_b20⟩ := hQ42
  have N42 := own_frapp l42 N40 N42q
  have V_b1_42 := V_b1_40.keep K42q (ninS ne_b1_b20 nin0)
  have V_b14_42 := V_b14_40.keep K42q (ninS ne_b14_b20 nin0)
  have Ea40_b20_42 := Ea40_b20.keep K42q
  have Ea22_b21_42 := Ea22_b21_40.keep K42q
  have V_ab23_42 := V_ab23_40.keep K42q (ninS (Ne.symm ne_b20_ab23) nin0)
  have Z42 : n0 ≤ T42.heap.size := Nat.le_trans Z40 K42q.1
  have KK42 := KK40.trans K42q (allS (Or.inr sz_b20) all0)
  refine own_steps (U' := T42.setTop (mkF m 244 #[iv p0, iv p1, iv p2, iv p3, iv p4, iv p5, rv b1, iv ca1, iv ca2, iv ca3, iv ca4, rv b14, iv s1, iv s2, rv b20, rv ab23, iv la1, iv la2, .unset] [(.int (own_pre (4 : Int32) (nar .byte ub0) (nar .byte ub1) (nar .byte ub2) (nar .byte ub3)))])) st42 ?_
  obtain ⟨la3, hla3⟩ : ∃ v : Int32, v = (own_pre (4 : Int32) (nar .byte ub0) (nar .byte ub1) (nar .byte ub2) (nar .byte ub3)) := ⟨_, rfl⟩
  rw [← hla3]
  refine own_step (U' := T42.setTop (mkF m 246 #[iv p0, iv p1, iv p2, iv p3, iv p4, iv p5, rv b1, iv ca1, iv ca2, iv ca3, iv ca4, rv b14, iv s1, iv s2, rv b20, rv ab23, iv la1, iv la2, iv la3] [])) (fun t k => XS.istore X42.here hx rfl (hb hby at_244) rfl (l' := #[iv p0, iv p1, iv p2, iv p3, iv p4, iv p5, rv b1, iv ca1, iv ca2, iv ca3, iv ca4, rv b14, iv s1, iv s2, rv b20, rv ab23, iv la1, iv la2, iv la3]) rfl k) ?_
  rcases own_s hs1 hs2 with ⟨rfl, rfl⟩ | ⟨rfl, rfl⟩ | ⟨rfl, rfl⟩ | ⟨rfl, rfl⟩ | ⟨rfl, rfl⟩ | ⟨rfl, rfl⟩ | ⟨rfl, rfl⟩ | ⟨rfl, rfl⟩ | ⟨rfl, rfl⟩ | ⟨rfl, rfl⟩ | ⟨rfl, rfl⟩ | ⟨rfl, rfl⟩ | ⟨rfl, rfl⟩ | ⟨rfl, rfl⟩ | ⟨rfl, rfl⟩
  · skip
    refine own_step (U' := T42.setTop (mkF m 252 #[iv p0, iv p1, iv p2, iv p3, iv p4, iv p5, rv b1, iv ca1, iv ca2, iv ca3, iv ca4, rv b14, iv (0 : Int32), iv (0 : Int32), rv b20, rv ab23, iv la1, iv la2, iv la3] [(.int (0 : Int32)), (.ref b14), (.int la1)])) (fun t k => XS.iload X42.here hx rfl (hb hby at_246) rfl (XS.aload X42.here hx rfl (hb hby at_248) rfl rfl (XS.iload X42.here hx rfl (hb hby at_250) rfl k))) ?_
    obtain ⟨cl43, Ar43, aq43, aS43, aN43, aH43, aG43⟩ := id V_b14_42
    have hin43 : ¬ ((0 : Int32) < 0 ∨ cl43.slots.size ≤ ((0 : Int32)).toNatClampNeg) := inb_of aS43 ⟨by decide, by decide⟩
    have hat43 : cl43.slots[((0 : Int32)).toNatClampNeg]? = some (.int (1 : Int32)) := aH43.at hin43 rfl
    refine own_step (U' := T42.setTop (mkF m 262 #[iv p0, iv p1, iv p2, iv p3, iv p4, iv p5, rv b1, iv ca1, iv ca2, iv ca3, iv ca4, rv b14, iv (0 : Int32), iv (0 : Int32), rv b20, rv ab23, iv la1, iv la2, iv la3] [(.int (0 : Int32)), (.ref b14), (.int la2)])) (fun t k => X42.iaload hx (j := (0 : Int32)) (v := (.int (1 : Int32))) Ar43.1 (State.isArrayOf_alike hZ.alike Ar43.2.1) Ar43.2.2 hin43 hat43 (g := (mkF m 252 #[iv p0, iv p1, iv p2, iv p3, iv p4, iv p5, rv b1, iv ca1, iv ca2, iv ca3, iv ca4, rv b14, iv (0 : Int32), iv (0 : Int32), rv b20, rv ab23, iv la1, iv la2, iv la3] [(.int (0 : Int32)), (.ref b14), (.int la1)])) rfl rfl (hb hby at_252) t (XS.icmpNo X42.here hx rfl (hb hby at_253) rfl (teq (by simp only [hla1, hca1, hca2, hca3, hca4, hub0, hub1, hub2, hub3, own_nn, own_pre0])).2 (XS.iload X42.here hx rfl (hb hby at_256) rfl (XS.aload X42.here hx rfl (hb hby at_258) rfl rfl (XS.iload X42.here hx rfl (hb hby at_260) rfl k))))) ?_
    obtain ⟨cl44, Ar44, aq44, aS44, aN44, aH44, aG44⟩ := id V_b14_42
    have hin44 : ¬ ((0 : Int32) < 0 ∨ cl44.slots.size ≤ ((0 : Int32)).toNatClampNeg) := inb_of aS44 ⟨by decide, by decide⟩
    have hat44 : cl44.slots[((0 : Int32)).toNatClampNeg]? = some (.int (1 : Int32)) := aH44.at hin44 rfl
    refine own_step (U' := T42.setTop (mkF m 271 #[iv p0, iv p1, iv p2, iv p3, iv p4, iv p5, rv b1, iv ca1, iv ca2, iv ca3, iv ca4, rv b14, iv (0 : Int32), iv (0 : Int32), rv b20, rv ab23, iv la1, iv la2, iv la3] [(.int (4 : Int32)), (.ref b14), (.int la3)])) (fun t k => X42.iaload hx (j := (0 : Int32)) (v := (.int (1 : Int32))) Ar44.1 (State.isArrayOf_alike hZ.alike Ar44.2.1) Ar44.2.2 hin44 hat44 (g := (mkF m 262 #[iv p0, iv p1, iv p2, iv p3, iv p4, iv p5, rv b1, iv ca1, iv ca2, iv ca3, iv ca4, rv b14, iv (0 : Int32), iv (0 : Int32), rv b20, rv ab23, iv la1, iv la2, iv la3] [(.int (0 : Int32)), (.ref b14), (.int la2)])) rfl rfl (hb hby at_262) t (XS.icmpNo X42.here hx rfl (hb hby at_263) rfl (teq (by simp only [hla2, hca1, hca2, hca3, hca4, hub0, hub1, hub2, hub3, own_nn, own_pre0])).2 (XS.iload X42.here hx rfl (hb hby at_266) rfl (XS.aload X42.here hx rfl (hb hby at_268) rfl rfl (XS.iconst X42.here hx rfl (hb hby at_270) k))))) ?_
    obtain ⟨cl45, Ar45, aq45, aS45, aN45, aH45, aG45⟩ := id V_b14_42
    have hin45 : ¬ ((4 : Int32) < 0 ∨ cl45.slots.size ≤ ((4 : Int32)).toNatClampNeg) := inb_of aS45 ⟨by decide, by decide⟩
    have hat45 : cl45.slots[((4 : Int32)).toNatClampNeg]? = some (.int ca4) := aH45.at hin45 rfl
    refine own_step (U' := T42.setTop (mkF m 280 #[iv p0, iv p1, iv p2, iv p3, iv p4, iv p5, rv b1, iv ca1, iv ca2, iv ca3, iv ca4, rv b14, iv (0 : Int32), iv (0 : Int32), rv b20, rv ab23, iv la1, iv la2, iv la3] [(.int (1 : Int32))])) (fun t k => X42.iaload hx (j := (4 : Int32)) (v := (.int ca4)) Ar45.1 (State.isArrayOf_alike hZ.alike Ar45.2.1) Ar45.2.2 hin45 hat45 (g := (mkF m 271 #[iv p0, iv p1, iv p2, iv p3, iv p4, iv p5, rv b1, iv ca1, iv ca2, iv ca3, iv ca4, rv b14, iv (0 : Int32), iv (0 : Int32), rv b20, rv ab23, iv la1, iv la2, iv la3] [(.int (4 : Int32)), (.ref b14), (.int la3)])) rfl rfl (hb hby at_271) t (XS.icmpNo X42.here hx rfl (hb hby at_272) rfl (teq (by simp only [hla3, hca1, hca2, hca3, hca4, hub0, hub1, hub2, hub3, own_nn, own_pre4])).2 (XS.iconst X42.here hx rfl (hb hby at_275) (XS.goto X42.here hx rfl (pc0 := 276) (pc' := 280) rfl (hb hby at_276) (by decide) (by decide) k)))) ?_
    exact own_out X42 (v := (some (.int (1 : Int32)))) hlk (own_nv Bd.returns) (by exact ⟨rfl, N42⟩) (by decide) (by decide) (fun fs hr => retN X42 hx (t := .boolean) Bd.returns (by simp) (hb hby at_280) hr)
  · skip
    refine own_step (U' := T42.setTop (mkF m 252 #[iv p0, iv p1, iv p2, iv p3, iv p4, iv p5, rv b1, iv ca1, iv ca2, iv ca3, iv ca4, rv b14, iv (0 : Int32), iv (1 : Int32), rv b20, rv ab23, iv la1, iv la2, iv la3] [(.int (0 : Int32)), (.ref b14), (.int la1)])) (fun t k => XS.iload X42.here hx rfl (hb hby at_246) rfl (XS.aload X42.here hx rfl (hb hby at_248) rfl rfl (XS.iload X42.here hx rfl (hb hby at_250) rfl k))) ?_
    obtain ⟨cl46, Ar46, aq46, aS46, aN46, aH46, aG46⟩ := id V_b14_42
    have hin46 : ¬ ((0 : Int32) < 0 ∨ cl46.slots.size ≤ ((0 : Int32)).toNatClampNeg) := inb_of aS46 ⟨by decide, by decide⟩
    have hat46 : cl46.slots[((0 : Int32)).toNatClampNeg]? = some (.int (1 : Int32)) := aH46.at hin46 rfl
    refine own_step (U' := T42.setTop (mkF m 262 #[iv p0, iv p1, iv p2, iv p3, iv p4, iv p5, rv b1, iv ca1, iv ca2, iv ca3, iv ca4, rv b14, iv (0 : Int32), iv (1 : Int32), rv b20, rv ab23, iv la1, iv la2, iv la3] [(.int (1 : Int32)), (.ref b14), (.int la2)])) (fun t k => X42.iaload hx (j := (0 : Int32)) (v := (.int (1 : Int32))) Ar46.1 (State.isArrayOf_alike hZ.alike Ar46.2.1) Ar46.2.2 hin46 hat46 (g := (mkF m 252 #[iv p0, iv p1, iv p2, iv p3, iv p4, iv p5, rv b1, iv ca1, iv ca2, iv ca3, iv ca4, rv b14, iv (0 : Int32), iv (1 : Int32), rv b20, rv ab23, iv la1, iv la2, iv la3] [(.int (0 : Int32)), (.ref b14), (.int la1)])) rfl rfl (hb hby at_252) t (XS.icmpNo X42.here hx rfl (hb hby at_253) rfl (teq (by simp only [hla1, hca1, hca2, hca3, hca4, hub0, hub1, hub2, hub3, own_nn, own_pre0])).2 (XS.iload X42.here hx rfl (hb hby at_256) rfl (XS.aload X42.here hx rfl (hb hby at_258) rfl rfl (XS.iload X42.here hx rfl (hb hby at_260) rfl k))))) ?_
    obtain ⟨cl47, Ar47, aq47, aS47, aN47, aH47, aG47⟩ := id V_b14_42
    have hin47 : ¬ ((1 : Int32) < 0 ∨ cl47.slots.size ≤ ((1 : Int32)).toNatClampNeg) := inb_of aS47 ⟨by decide, by decide⟩
    have hat47 : cl47.slots[((1 : Int32)).toNatClampNeg]? = some (.int ca1) := aH47.at hin47 rfl
    refine own_step (U' := T42.setTop (mkF m 271 #[iv p0, iv p1, iv p2, iv p3, iv p4, iv p5, rv b1, iv ca1, iv ca2, iv ca3, iv ca4, rv b14, iv (0 : Int32), iv (1 : Int32), rv b20, rv ab23, iv la1, iv la2, iv la3] [(.int (4 : Int32)), (.ref b14), (.int la3)])) (fun t k => X42.iaload hx (j := (1 : Int32)) (v := (.int ca1)) Ar47.1 (State.isArrayOf_alike hZ.alike Ar47.2.1) Ar47.2.2 hin47 hat47 (g := (mkF m 262 #[iv p0, iv p1, iv p2, iv p3, iv p4, iv p5, rv b1, iv ca1, iv ca2, iv ca3, iv ca4, rv b14, iv (0 : Int32), iv (1 : Int32), rv b20, rv ab23, iv la1, iv la2, iv la3] [(.int (1 : Int32)), (.ref b14), (.int la2)])) rfl rfl (hb hby at_262) t (XS.icmpNo X42.here hx rfl (hb hby at_263) rfl (teq (by simp only [hla2, hca1, hca2, hca3, hca4, hub0, hub1, hub2, hub3, own_nn, own_pre1])).2 (XS.iload X42.here hx rfl (hb hby at_266) rfl (XS.aload X42.here hx rfl (hb hby at_268) rfl rfl (XS.iconst X42.here hx rfl (hb hby at_270) k))))) ?_
    obtain ⟨cl48, Ar48, aq48, aS48, aN48, aH48, aG48⟩ := id V_b14_42
    have hin48 : ¬ ((4 : Int32) < 0 ∨ cl48.slots.size ≤ ((4 : Int32)).toNatClampNeg) := inb_of aS48 ⟨by decide, by decide⟩
    have hat48 : cl48.slots[((4 : Int32)).toNatClampNeg]? = some (.int ca4) := aH48.at hin48 rfl
    refine own_step (U' := T42.setTop (mkF m 280 #[iv p0, iv p1, iv p2, iv p3, iv p4, iv p5, rv b1, iv ca1, iv ca2, iv ca3, iv ca4, rv b14, iv (0 : Int32), iv (1 : Int32), rv b20, rv ab23, iv la1, iv la2, iv la3] [(.int (1 : Int32))])) (fun t k => X42.iaload hx (j := (4 : Int32)) (v := (.int ca4)) Ar48.1 (State.isArrayOf_alike hZ.alike Ar48.2.1) Ar48.2.2 hin48 hat48 (g := (mkF m 271 #[iv p0, iv p1, iv p2, iv p3, iv p4, iv p5, rv b1, iv ca1, iv ca2, iv ca3, iv ca4, rv b14, iv (0 : Int32), iv (1 : Int32), rv b20, rv ab23, iv la1, iv la2, iv la3] [(.int (4 : Int32)), (.ref b14), (.int la3)])) rfl rfl (hb hby at_271) t (XS.icmpNo X42.here hx rfl (hb hby at_272) rfl (teq (by simp only [hla3, hca1, hca2, hca3, hca4, hub0, hub1, hub2, hub3, own_nn, own_pre4])).2 (XS.iconst X42.here hx rfl (hb hby at_275) (XS.goto X42.here hx rfl (pc0 := 276) (pc' := 280) rfl (hb hby at_276) (by decide) (by decide) k)))) ?_
    exact own_out X42 (v := (some (.int (1 : Int32)))) hlk (own_nv Bd.returns) (by exact ⟨rfl, N42⟩) (by decide) (by decide) (fun fs hr => retN X42 hx (t := .boolean) Bd.returns (by simp) (hb hby at_280) hr)
  · skip
    refine own_step (U' := T42.setTop (mkF m 252 #[iv p0, iv p1, iv p2, iv p3, iv p4, iv p5, rv b1, iv ca1, iv ca2, iv ca3, iv ca4, rv b14, iv (0 : Int32), iv (2 : Int32), rv b20, rv ab23, iv la1, iv la2, iv la3] [(.int (0 : Int32)), (.ref b14), (.int la1)])) (fun t k => XS.iload X42.here hx rfl (hb hby at_246) rfl (XS.aload X42.here hx rfl (hb hby at_248) rfl rfl (XS.iload X42.here hx rfl (hb hby at_250) rfl k))) ?_
    obtain ⟨cl49, Ar49, aq49, aS49, aN49, aH49, aG49⟩ := id V_b14_42
    have hin49 : ¬ ((0 : Int32) < 0 ∨ cl49.slots.size ≤ ((0 : Int32)).toNatClampNeg) := inb_of aS49 ⟨by decide, by decide⟩
    have hat49 : cl49.slots[((0 : Int32)).toNatClampNeg]? = some (.int (1 : Int32)) := aH49.at hin49 rfl
    refine own_step (U' := T42.setTop (mkF m 262 #[iv p0, iv p1, iv p2, iv p3, iv p4, iv p5, rv b1, iv ca1, iv ca2, iv ca3, iv ca4, rv b14, iv (0 : Int32), iv (2 : Int32), rv b20, rv ab23, iv la1, iv la2, iv la3] [(.int (2 : Int32)), (.ref b14), (.int la2)])) (fun t k => X42.iaload hx (j := (0 : Int32)) (v := (.int (1 : Int32))) Ar49.1 (State.isArrayOf_alike hZ.alike Ar49.2.1) Ar49.2.2 hin49 hat49 (g := (mkF m 252 #[iv p0, iv p1, iv p2, iv p3, iv p4, iv p5, rv b1, iv ca1, iv ca2, iv ca3, iv ca4, rv b14, iv (0 : Int32), iv (2 : Int32), rv b20, rv ab23, iv la1, iv la2, iv la3] [(.int (0 : Int32)), (.ref b14), (.int la1)])) rfl rfl (hb hby at_252) t (XS.icmpNo X42.here hx rfl (hb hby at_253) rfl (teq (by simp only [hla1, hca1, hca2, hca3, hca4, hub0, hub1, hub2, hub3, own_nn, own_pre0])).2 (XS.iload X42.here hx rfl (hb hby at_256) rfl (XS.aload X42.here hx rfl (hb hby at_258) rfl rfl (XS.iload X42.here hx rfl (hb hby at_260) rfl k))))) ?_
    obtain ⟨cl50, Ar50, aq50, aS50, aN50, aH50, aG50⟩ := id V_b14_42
    have hin50 : ¬ ((2 : Int32) < 0 ∨ cl50.slots.size ≤ ((2 : Int32)).toNatClampNeg) := inb_of aS50 ⟨by decide, by decide⟩
    have hat50 : cl50.slots[((2 : Int32)).toNatClampNeg]? = some (.int ca2) := aH50.at hin50 rfl
    refine own_step (U' := T42.setTop (mkF m 271 #[iv p0, iv p1, iv p2, iv p3, iv p4, iv p5, rv b1, iv ca1, iv ca2, iv ca3, iv ca4, rv b14, iv (0 : Int32), iv (2 : Int32), rv b20, rv ab23, iv la1, iv la2, iv la3] [(.int (4 : Int32)), (.ref b14), (.int la3)])) (fun t k => X42.iaload hx (j := (2 : Int32)) (v := (.int ca2)) Ar50.1 (State.isArrayOf_alike hZ.alike Ar50.2.1) Ar50.2.2 hin50 hat50 (g := (mkF m 262 #[iv p0, iv p1, iv p2, iv p3, iv p4, iv p5, rv b1, iv ca1, iv ca2, iv ca3, iv ca4, rv b14, iv (0 : Int32), iv (2 : Int32), rv b20, rv ab23, iv la1, iv la2, iv la3] [(.int (2 : Int32)), (.ref b14), (.int la2)])) rfl rfl (hb hby at_262) t (XS.icmpNo X42.here hx rfl (hb hby at_263) rfl (teq (by simp only [hla2, hca1, hca2, hca3, hca4, hub0, hub1, hub2, hub3, own_nn, own_pre2])).2 (XS.iload X42.here hx rfl (hb hby at_266) rfl (XS.aload X42.here hx rfl (hb hby at_268) rfl rfl (XS.iconst X42.here hx rfl (hb hby at_270) k))))) ?_
    obtain ⟨cl51, Ar51, aq51, aS51, aN51, aH51, aG51⟩ := id V_b14_42
    have hin51 : ¬ ((4 : Int32) < 0 ∨ cl51.slots.size ≤ ((4 : Int32)).toNatClampNeg) := inb_of aS51 ⟨by decide, by decide⟩
    have hat51 : cl51.slots[((4 : Int32)).toNatClampNeg]? = some (.int ca4) := aH51.at hin51 rfl
    refine own_step (U' := T42.setTop (mkF m 280 #[iv p0, iv p1, iv p2, iv p3, iv p4, iv p5, rv b1, iv ca1, iv ca2, iv ca3, iv ca4, rv b14, iv (0 : Int32), iv (2 : Int32), rv b20, rv ab23, iv la1, iv la2, iv la3] [(.int (1 : Int32))])) (fun t k => X42.iaload hx (j := (4 : Int32)) (v := (.int ca4)) Ar51.1 (State.isArrayOf_alike hZ.alike Ar51.2.1) Ar51.2.2 hin51 hat51 (g := (mkF m 271 #[iv p0, iv p1, iv p2, iv p3, iv p4, iv p5, rv b1, iv ca1, iv ca2, iv ca3, iv ca4, rv b14, iv (0 : Int32), iv (2 : Int32), rv b20, rv ab23, iv la1, iv la2, iv la3] [(.int (4 : Int32)), (.ref b14), (.int la3)])) rfl rfl (hb hby at_271) t (XS.icmpNo X42.here hx rfl (hb hby at_272) rfl (teq (by simp only [hla3, hca1, hca2, hca3, hca4, hub0, hub1, hub2, hub3, own_nn, own_pre4])).2 (XS.iconst X42.here hx rfl (hb hby at_275) (XS.goto X42.here hx rfl (pc0 := 276) (pc' := 280) rfl (hb hby at_276) (by decide) (by decide) k)))) ?_
    exact own_out X42 (v := (some (.int (1 : Int32)))) hlk (own_nv Bd.returns) (by exact ⟨rfl, N42⟩) (by decide) (by decide) (fun fs hr => retN X42 hx (t := .boolean) Bd.returns (by simp) (hb hby at_280) hr)
  · skip
    refine own_step (U' := T42.setTop (mkF m 252 #[iv p0, iv p1, iv p2, iv p3, iv p4, iv p5, rv b1, iv ca1, iv ca2, iv ca3, iv ca4, rv b14, iv (0 : Int32), iv (3 : Int32), rv b20, rv ab23, iv la1, iv la2, iv la3] [(.int (0 : Int32)), (.ref b14), (.int la1)])) (fun t k => XS.iload X42.here hx rfl (hb hby at_246) rfl (XS.aload X42.here hx rfl (hb hby at_248) rfl rfl (XS.iload X42.here hx rfl (hb hby at_250) rfl k))) ?_
    obtain ⟨cl52, Ar52, aq52, aS52, aN52, aH52, aG52⟩ := id V_b14_42
    have hin52 : ¬ ((0 : Int32) < 0 ∨ cl52.slots.size ≤ ((0 : Int32)).toNatClampNeg) := inb_of aS52 ⟨by decide, by decide⟩
    have hat52 : cl52.slots[((0 : Int32)).toNatClampNeg]? = some (.int (1 : Int32)) := aH52.at hin52 rfl
    refine own_step (U' := T42.setTop (mkF m 262 #[iv p0, iv p1, iv p2, iv p3, iv p4, iv p5, rv b1, iv ca1, iv ca2, iv ca3, iv ca4, rv b14, iv (0 : Int32), iv (3 : Int32), rv b20, rv ab23, iv la1, iv la2, iv la3] [(.int (3 : Int32)), (.ref b14), (.int la2)])) (fun t k => X42.iaload hx (j := (0 : Int32)) (v := (.int (1 : Int32))) Ar52.1 (State.isArrayOf_alike hZ.alike Ar52.2.1) Ar52.2.2 hin52 hat52 (g := (mkF m 252 #[iv p0, iv p1, iv p2, iv p3, iv p4, iv p5, rv b1, iv ca1, iv ca2, iv ca3, iv ca4, rv b14, iv (0 : Int32), iv (3 : Int32), rv b20, rv ab23, iv la1, iv la2, iv la3] [(.int (0 : Int32)), (.ref b14), (.int la1)])) rfl rfl (hb hby at_252) t (XS.icmpNo X42.here hx rfl (hb hby at_253) rfl (teq (by simp only [hla1, hca1, hca2, hca3, hca4, hub0, hub1, hub2, hub3, own_nn, own_pre0])).2 (XS.iload X42.here hx rfl (hb hby at_256) rfl (XS.aload X42.here hx rfl (hb hby at_258) rfl rfl (XS.iload X42.here hx rfl (hb hby at_260) rfl k))))) ?_
    obtain ⟨cl53, Ar53, aq53, aS53, aN53, aH53, aG53⟩ := id V_b14_42
    have hin53 : ¬ ((3 : Int32) < 0 ∨ cl53.slots.size ≤ ((3 : Int32)).toNatClampNeg) := inb_of aS53 ⟨by decide, by decide⟩
    have hat53 : cl53.slots[((3 : Int32)).toNatClampNeg]? = some (.int ca3) := aH53.at hin53 rfl
    refine own_step (U' := T42.setTop (mkF m 271 #[iv p0, iv p1, iv p2, iv p3, iv p4, iv p5, rv b1, iv ca1, iv ca2, iv ca3, iv ca4, rv b14, iv (0 : Int32), iv (3 : Int32), rv b20, rv ab23, iv la1, iv la2, iv la3] [(.int (4 : Int32)), (.ref b14), (.int la3)])) (fun t k => X42.iaload hx (j := (3 : Int32)) (v := (.int ca3)) Ar53.1 (State.isArrayOf_alike hZ.alike Ar53.2.1) Ar53.2.2 hin53 hat53 (g := (mkF m 262 #[iv p0, iv p1, iv p2, iv p3, iv p4, iv p5, rv b1, iv ca1, iv ca2, iv ca3, iv ca4, rv b14, iv (0 : Int32), iv (3 : Int32), rv b20, rv ab23, iv la1, iv la2, iv la3] [(.int (3 : Int32)), (.ref b14), (.int la2)])) rfl rfl (hb hby at_262) t (XS.icmpNo X42.here hx rfl (hb hby at_263) rfl (teq (by simp only [hla2, hca1, hca2, hca3, hca4, hub0, hub1, hub2, hub3, own_nn, own_pre3])).2 (XS.iload X42.here hx rfl (hb hby at_266) rfl (XS.aload X42.here hx rfl (hb hby at_268) rfl rfl (XS.iconst X42.here hx rfl (hb hby at_270) k))))) ?_
    obtain ⟨cl54, Ar54, aq54, aS54, aN54, aH54, aG54⟩ := id V_b14_42
    have hin54 : ¬ ((4 : Int32) < 0 ∨ cl54.slots.size ≤ ((4 : Int32)).toNatClampNeg) := inb_of aS54 ⟨by decide, by decide⟩
    have hat54 : cl54.slots[((4 : Int32)).toNatClampNeg]? = some (.int ca4) := aH54.at hin54 rfl
    refine own_step (U' := T42.setTop (mkF m 280 #[iv p0, iv p1, iv p2, iv p3, iv p4, iv p5, rv b1, iv ca1, iv ca2, iv ca3, iv ca4, rv b14, iv (0 : Int32), iv (3 : Int32), rv b20, rv ab23, iv la1, iv la2, iv la3] [(.int (1 : Int32))])) (fun t k => X42.iaload hx (j := (4 : Int32)) (v := (.int ca4)) Ar54.1 (State.isArrayOf_alike hZ.alike Ar54.2.1) Ar54.2.2 hin54 hat54 (g := (mkF m 271 #[iv p0, iv p1, iv p2, iv p3, iv p4, iv p5, rv b1, iv ca1, iv ca2, iv ca3, iv ca4, rv b14, iv (0 : Int32), iv (3 : Int32), rv b20, rv ab23, iv la1, iv la2, iv la3] [(.int (4 : Int32)), (.ref b14), (.int la3)])) rfl rfl (hb hby at_271) t (XS.icmpNo X42.here hx rfl (hb hby at_272) rfl (teq (by simp only [hla3, hca1, hca2, hca3, hca4, hub0, hub1, hub2, hub3, own_nn, own_pre4])).2 (XS.iconst X42.here hx rfl (hb hby at_275) (XS.goto X42.here hx rfl (pc0 := 276) (pc' := 280) rfl (hb hby at_276) (by decide) (by decide) k)))) ?_
    exact own_out X42 (v := (some (.int (1 : Int32)))) hlk (own_nv Bd.returns) (by exact ⟨rfl, N42⟩) (by decide) (by decide) (fun fs hr => retN X42 hx (t := .boolean) Bd.returns (by simp) (hb hby at_280) hr)
  · skip
    refine own_step (U' := T42.setTop (mkF m 252 #[iv p0, iv p1, iv p2, iv p3, iv p4, iv p5, rv b1, iv ca1, iv ca2, iv ca3, iv ca4, rv b14, iv (0 : Int32), iv (4 : Int32), rv b20, rv ab23, iv la1, iv la2, iv la3] [(.int (0 : Int32)), (.ref b14), (.int la1)])) (fun t k => XS.iload X42.here hx rfl (hb hby at_246) rfl (XS.aload X42.here hx rfl (hb hby at_248) rfl rfl (XS.iload X42.here hx rfl (hb hby at_250) rfl k))) ?_
    obtain ⟨cl55, Ar55, aq55, aS55, aN55, aH55, aG55⟩ := id V_b14_42
    have hin55 : ¬ ((0 : Int32) < 0 ∨ cl55.slots.size ≤ ((0 : Int32)).toNatClampNeg) := inb_of aS55 ⟨by decide, by decide⟩
    have hat55 : cl55.slots[((0 : Int32)).toNatClampNeg]? = some (.int (1 : Int32)) := aH55.at hin55 rfl
    refine own_step (U' := T42.setTop (mkF m 262 #[iv p0, iv p1, iv p2, iv p3, iv p4, iv p5, rv b1, iv ca1, iv ca2, iv ca3, iv ca4, rv b14, iv (0 : Int32), iv (4 : Int32), rv b20, rv ab23, iv la1, iv la2, iv la3] [(.int (4 : Int32)), (.ref b14), (.int la2)])) (fun t k => X42.iaload hx (j := (0 : Int32)) (v := (.int (1 : Int32))) Ar55.1 (State.isArrayOf_alike hZ.alike Ar55.2.1) Ar55.2.2 hin55 hat55 (g := (mkF m 252 #[iv p0, iv p1, iv p2, iv p3, iv p4, iv p5, rv b1, iv ca1, iv ca2, iv ca3, iv ca4, rv b14, iv (0 : Int32), iv (4 : Int32), rv b20, rv ab23, iv la1, iv la2, iv la3] [(.int (0 : Int32)), (.ref b14), (.int la1)])) rfl rfl (hb hby at_252) t (XS.icmpNo X42.here hx rfl (hb hby at_253) rfl (teq (by simp only [hla1, hca1, hca2, hca3, hca4, hub0, hub1, hub2, hub3, own_nn, own_pre0])).2 (XS.iload X42.here hx rfl (hb hby at_256) rfl (XS.aload X42.here hx rfl (hb hby at_258) rfl rfl (XS.iload X42.here hx rfl (hb hby at_260) rfl k))))) ?_
    obtain ⟨cl56, Ar56, aq56, aS56, aN56, aH56, aG56⟩ := id V_b14_42
    have hin56 : ¬ ((4 : Int32) < 0 ∨ cl56.slots.size ≤ ((4 : Int32)).toNatClampNeg) := inb_of aS56 ⟨by decide, by decide⟩
    have hat56 : cl56.slots[((4 : Int32)).toNatClampNeg]? = some (.int ca4) := aH56.at hin56 rfl
    refine own_step (U' := T42.setTop (mkF m 271 #[iv p0, iv p1, iv p2, iv p3, iv p4, iv p5, rv b1, iv ca1, iv ca2, iv ca3, iv ca4, rv b14, iv (0 : Int32), iv (4 : Int32), rv b20, rv ab23, iv la1, iv la2, iv la3] [(.int (4 : Int32)), (.ref b14), (.int la3)])) (fun t k => X42.iaload hx (j := (4 : Int32)) (v := (.int ca4)) Ar56.1 (State.isArrayOf_alike hZ.alike Ar56.2.1) Ar56.2.2 hin56 hat56 (g := (mkF m 262 #[iv p0, iv p1, iv p2, iv p3, iv p4, iv p5, rv b1, iv ca1, iv ca2, iv ca3, iv ca4, rv b14, iv (0 : Int32), iv (4 : Int32), rv b20, rv ab23, iv la1, iv la2, iv la3] [(.int (4 : Int32)), (.ref b14), (.int la2)])) rfl rfl (hb hby at_262) t (XS.icmpNo X42.here hx rfl (hb hby at_263) rfl (teq (by simp only [hla2, hca1, hca2, hca3, hca4, hub0, hub1, hub2, hub3, own_nn, own_pre4])).2 (XS.iload X42.here hx rfl (hb hby at_266) rfl (XS.aload X42.here hx rfl (hb hby at_268) rfl rfl (XS.iconst X42.here hx rfl (hb hby at_270) k))))) ?_
    obtain ⟨cl57, Ar57, aq57, aS57, aN57, aH57, aG57⟩ := id V_b14_42
    have hin57 : ¬ ((4 : Int32) < 0 ∨ cl57.slots.size ≤ ((4 : Int32)).toNatClampNeg) := inb_of aS57 ⟨by decide, by decide⟩
    have hat57 : cl57.slots[((4 : Int32)).toNatClampNeg]? = some (.int ca4) := aH57.at hin57 rfl
    refine own_step (U' := T42.setTop (mkF m 280 #[iv p0, iv p1, iv p2, iv p3, iv p4, iv p5, rv b1, iv ca1, iv ca2, iv ca3, iv ca4, rv b14, iv (0 : Int32), iv (4 : Int32), rv b20, rv ab23, iv la1, iv la2, iv la3] [(.int (1 : Int32))])) (fun t k => X42.iaload hx (j := (4 : Int32)) (v := (.int ca4)) Ar57.1 (State.isArrayOf_alike hZ.alike Ar57.2.1) Ar57.2.2 hin57 hat57 (g := (mkF m 271 #[iv p0, iv p1, iv p2, iv p3, iv p4, iv p5, rv b1, iv ca1, iv ca2, iv ca3, iv ca4, rv b14, iv (0 : Int32), iv (4 : Int32), rv b20, rv ab23, iv la1, iv la2, iv la3] [(.int (4 : Int32)), (.ref b14), (.int la3)])) rfl rfl (hb hby at_271) t (XS.icmpNo X42.here hx rfl (hb hby at_272) rfl (teq (by simp only [hla3, hca1, hca2, hca3, hca4, hub0, hub1, hub2, hub3, own_nn, own_pre4])).2 (XS.iconst X42.here hx rfl (hb hby at_275) (XS.goto X42.here hx rfl (pc0 := 276) (pc' := 280) rfl (hb hby at_276) (by decide) (by decide) k)))) ?_
    exact own_out X42 (v := (some (.int (1 : Int32)))) hlk (own_nv Bd.returns) (by exact ⟨rfl, N42⟩) (by decide) (by decide) (fun fs hr => retN X42 hx (t := .boolean) Bd.returns (by simp) (hb hby at_280) hr)
  · skip
    refine own_step (U' := T42.setTop (mkF m 252 #[iv p0, iv p1, iv p2, iv p3, iv p4, iv p5, rv b1, iv ca1, iv ca2, iv ca3, iv ca4, rv b14, iv (1 : Int32), iv (1 : Int32), rv b20, rv ab23, iv la1, iv la2, iv la3] [(.int (1 : Int32)), (.ref b14), (.int la1)])) (fun t k => XS.iload X42.here hx rfl (hb hby at_246) rfl (XS.aload X42.here hx rfl (hb hby at_248) rfl rfl (XS.iload X42.here hx rfl (hb hby at_250) rfl k))) ?_
    obtain ⟨cl58, Ar58, aq58, aS58, aN58, aH58, aG58⟩ := id V_b14_42
    have hin58 : ¬ ((1 : Int32) < 0 ∨ cl58.slots.size ≤ ((1 : Int32)).toNatClampNeg) := inb_of aS58 ⟨by decide, by decide⟩
    have hat58 : cl58.slots[((1 : Int32)).toNatClampNeg]? = some (.int ca1) := aH58.at hin58 rfl
    refine own_step (U' := T42.setTop (mkF m 262 #[iv p0, iv p1, iv p2, iv p3, iv p4, iv p5, rv b1, iv ca1, iv ca2, iv ca3, iv ca4, rv b14, iv (1 : Int32), iv (1 : Int32), rv b20, rv ab23, iv la1, iv la2, iv la3] [(.int (1 : Int32)), (.ref b14), (.int la2)])) (fun t k => X42.iaload hx (j := (1 : Int32)) (v := (.int ca1)) Ar58.1 (State.isArrayOf_alike hZ.alike Ar58.2.1) Ar58.2.2 hin58 hat58 (g := (mkF m 252 #[iv p0, iv p1, iv p2, iv p3, iv p4, iv p5, rv b1, iv ca1, iv ca2, iv ca3, iv ca4, rv b14, iv (1 : Int32), iv (1 : Int32), rv b20, rv ab23, iv la1, iv la2, iv la3] [(.int (1 : Int32)), (.ref b14), (.int la1)])) rfl rfl (hb hby at_252) t (XS.icmpNo X42.here hx rfl (hb hby at_253) rfl (teq (by simp only [hla1, hca1, hca2, hca3, hca4, hub0, hub1, hub2, hub3, own_nn, own_pre1])).2 (XS.iload X42.here hx rfl (hb hby at_256) rfl (XS.aload X42.here hx rfl (hb hby at_258) rfl rfl (XS.iload X42.here hx rfl (hb hby at_260) rfl k))))) ?_
    obtain ⟨cl59, Ar59, aq59, aS59, aN59, aH59, aG59⟩ := id V_b14_42
    have hin59 : ¬ ((1 : Int32) < 0 ∨ cl59.slots.size ≤ ((1 : Int32)).toNatClampNeg) := inb_of aS59 ⟨by decide, by decide⟩
    have hat59 : cl59.slots[((1 : Int32)).toNatClampNeg]? = some (.int ca1) := aH59.at hin59 rfl
    refine own_step (U' := T42.setTop (mkF m 271 #[iv p0, iv p1, iv p2, iv p3, iv p4, iv p5, rv b1, iv ca1, iv ca2, iv ca3, iv ca4, rv b14, iv (1 : Int32), iv (1 : Int32), rv b20, rv ab23, iv la1, iv la2, iv la3] [(.int (4 : Int32)), (.ref b14), (.int la3)])) (fun t k => X42.iaload hx (j := (1 : Int32)) (v := (.int ca1)) Ar59.1 (State.isArrayOf_alike hZ.alike Ar59.2.1) Ar59.2.2 hin59 hat59 (g := (mkF m 262 #[iv p0, iv p1, iv p2, iv p3, iv p4, iv p5, rv b1, iv ca1, iv ca2, iv ca3, iv ca4, rv b14, iv (1 : Int32), iv (1 : Int32), rv b20, rv ab23, iv la1, iv la2, iv la3] [(.int (1 : Int32)), (.ref b14), (.int la2)])) rfl rfl (hb hby at_262) t (XS.icmpNo X42.here hx rfl (hb hby at_263) rfl (teq (by simp only [hla2, hca1, hca2, hca3, hca4, hub0, hub1, hub2, hub3, own_nn, own_pre1])).2 (XS.iload X42.here hx rfl (hb hby at_266) rfl (XS.aload X42.here hx rfl (hb hby at_268) rfl rfl (XS.iconst X42.here hx rfl (hb hby at_270) k))))) ?_
    obtain ⟨cl60, Ar60, aq60, aS60, aN60, aH60, aG60⟩ := id V_b14_42
    have hin60 : ¬ ((4 : Int32) < 0 ∨ cl60.slots.size ≤ ((4 : Int32)).toNatClampNeg) := inb_of aS60 ⟨by decide, by decide⟩
    have hat60 : cl60.slots[((4 : Int32)).toNatClampNeg]? = some (.int ca4) := aH60.at hin60 rfl
    refine own_step (U' := T42.setTop (mkF m 280 #[iv p0, iv p1, iv p2, iv p3, iv p4, iv p5, rv b1, iv ca1, iv ca2, iv ca3, iv ca4, rv b14, iv (1 : Int32), iv (1 : Int32), rv b20, rv ab23, iv la1, iv la2, iv la3] [(.int (1 : Int32))])) (fun t k => X42.iaload hx (j := (4 : Int32)) (v := (.int ca4)) Ar60.1 (State.isArrayOf_alike hZ.alike Ar60.2.1) Ar60.2.2 hin60 hat60 (g := (mkF m 271 #[iv p0, iv p1, iv p2, iv p3, iv p4, iv p5, rv b1, iv ca1, iv ca2, iv ca3, iv ca4, rv b14, iv (1 : Int32), iv (1 : Int32), rv b20, rv ab23, iv la1, iv la2, iv la3] [(.int (4 : Int32)), (.ref b14), (.int la3)])) rfl rfl (hb hby at_271) t (XS.icmpNo X42.here hx rfl (hb hby at_272) rfl (teq (by simp only [hla3, hca1, hca2, hca3, hca4, hub0, hub1, hub2, hub3, own_nn, own_pre4])).2 (XS.iconst X42.here hx rfl (hb hby at_275) (XS.goto X42.here hx rfl (pc0 := 276) (pc' := 280) rfl (hb hby at_276) (by decide) (by decide) k)))) ?_
    exact own_out X42 (v := (some (.int (1 : Int32)))) hlk (own_nv Bd.returns) (by exact ⟨rfl, N42⟩) (by decide) (by decide) (fun fs hr => retN X42 hx (t := .boolean) Bd.returns (by simp) (hb hby at_280) hr)
  · skip
    refine own_step (U' := T42.setTop (mkF m 252 #[iv p0, iv p1, iv p2, iv p3, iv p4, iv p5, rv b1, iv ca1, iv ca2, iv ca3, iv ca4, rv b14, iv (1 : Int32), iv (2 : Int32), rv b20, rv ab23, iv la1, iv la2, iv la3] [(.int (1 : Int32)), (.ref b14), (.int la1)])) (fun t k => XS.iload X42.here hx rfl (hb hby at_246) rfl (XS.aload X42.here hx rfl (hb hby at_248) rfl rfl (XS.iload X42.here hx rfl (hb hby at_250) rfl k))) ?_
    obtain ⟨cl61, Ar61, aq61, aS61, aN61, aH61, aG61⟩ := id V_b14_42
    have hin61 : ¬ ((1 : Int32) < 0 ∨ cl61.slots.size ≤ ((1 : Int32)).toNatClampNeg) := inb_of aS61 ⟨by decide, by decide⟩
    have hat61 : cl61.slots[((1 : Int32)).toNatClampNeg]? = some (.int ca1) := aH61.at hin61 rfl
    refine own_step (U' := T42.setTop (mkF m 262 #[iv p0, iv p1, iv p2, iv p3, iv p4, iv p5, rv b1, iv ca1, iv ca2, iv ca3, iv ca4, rv b14, iv (1 : Int32), iv (2 : Int32), rv b20, rv ab23, iv la1, iv la2, iv la3] [(.int (2 : Int32)), (.ref b14), (.int la2)])) (fun t k => X42.iaload hx (j := (1 : Int32)) (v := (.int ca1)) Ar61.1 (State.isArrayOf_alike hZ.alike Ar61.2.1) Ar61.2.2 hin61 hat61 (g := (mkF m 252 #[iv p0, iv p1, iv p2, iv p3, iv p4, iv p5, rv b1, iv ca1, iv ca2, iv ca3, iv ca4, rv b14, iv (1 : Int32), iv (2 : Int32), rv b20, rv ab23, iv la1, iv la2, iv la3] [(.int (1 : Int32)), (.ref b14), (.int la1)])) rfl rfl (hb hby at_252) t (XS.icmpNo X42.here hx rfl (hb hby at_253) rfl (teq (by simp only [hla1, hca1, hca2, hca3, hca4, hub0, hub1, hub2, hub3, own_nn, own_pre1])).2 (XS.iload X42.here hx rfl (hb hby at_256) rfl (XS.aload X42.here hx rfl (hb hby at_258) rfl rfl (XS.iload X42.here hx rfl (hb hby at_260) rfl k))))) ?_
    obtain ⟨cl62, Ar62, aq62, aS62, aN62, aH62, aG62⟩ := id V_b14_42
    have hin62 : ¬ ((2 : Int32) < 0 ∨ cl62.slots.size ≤ ((2 : Int32)).toNatClampNeg) := inb_of aS62 ⟨by decide, by decide⟩
    have hat62 : cl62.slots[((2 : Int32)).toNatClampNeg]? = some (.int ca2) := aH62.at hin62 rfl
    refine own_step (U' := T42.setTop (mkF m 271 #[iv p0, iv p1, iv p2, iv p3, iv p4, iv p5, rv b1, iv ca1, iv ca2, iv ca3, iv ca4, rv b14, iv (1 : Int32), iv (2 : Int32), rv b20, rv ab23, iv la1, iv la2, iv la3] [(.int (4 : Int32)), (.ref b14), (.int la3)])) (fun t k => X42.iaload hx (j := (2 : Int32)) (v := (.int ca2)) Ar62.1 (State.isArrayOf_alike hZ.alike Ar62.2.1) Ar62.2.2 hin62 hat62 (g := (mkF m 262 #[iv p0, iv p1, iv p2, iv p3, iv p4, iv p5, rv b1, iv ca1, iv ca2, iv ca3, iv ca4, rv b14, iv (1 : Int32), iv (2 : Int32), rv b20, rv ab23, iv la1, iv la2, iv la3] [(.int (2 : Int32)), (.ref b14), (.int la2)])) rfl rfl (hb hby at_262) t (XS.icmpNo X42.here hx rfl (hb hby at_263) rfl (teq (by simp only [hla2, hca1, hca2, hca3, hca4, hub0, hub1, hub2, hub3, own_nn, own_pre2])).2 (XS.iload X42.here hx rfl (hb hby at_266) rfl (XS.aload X42.here hx rfl (hb hby at_268) rfl rfl (XS.iconst X42.here hx rfl (hb hby at_270) k))))) ?_
    obtain ⟨cl63, Ar63, aq63, aS63, aN63, aH63, aG63⟩ := id V_b14_42
    have hin63 : ¬ ((4 : Int32) < 0 ∨ cl63.slots.size ≤ ((4 : Int32)).toNatClampNeg) := inb_of aS63 ⟨by decide, by decide⟩
    have hat63 : cl63.slots[((4 : Int32)).toNatClampNeg]? = some (.int ca4) := aH63.at hin63 rfl
    refine own_step (U' := T42.setTop (mkF m 280 #[iv p0, iv p1, iv p2, iv p3, iv p4, iv p5, rv b1, iv ca1, iv ca2, iv ca3, iv ca4, rv b14, iv (1 : Int32), iv (2 : Int32), rv b20, rv ab23, iv la1, iv la2, iv la3] [(.int (1 : Int32))])) (fun t k => X42.iaload hx (j := (4 : Int32)) (v := (.int ca4)) Ar63.1 (State.isArrayOf_alike hZ.alike Ar63.2.1) Ar63.2.2 hin63 hat63 (g := (mkF m 271 #[iv p0, iv p1, iv p2, iv p3, iv p4, iv p5, rv b1, iv ca1, iv ca2, iv ca3, iv ca4, rv b14, iv (1 : Int32), iv (2 : Int32), rv b20, rv ab23, iv la1, iv la2, iv la3] [(.int (4 : Int32)), (.ref b14), (.int la3)])) rfl rfl (hb hby at_271) t (XS.icmpNo X42.here hx rfl (hb hby at_272) rfl (teq (by simp only [hla3, hca1, hca2, hca3, hca4, hub0, hub1, hub2, hub3, own_nn, own_pre4])).2 (XS.iconst X42.here hx rfl (hb hby at_275) (XS.goto X42.here hx rfl (pc0 := 276) (pc' := 280) rfl (hb hby at_276) (by decide) (by decide) k)))) ?_
    exact own_out X42 (v := (some (.int (1 : Int32)))) hlk (own_nv Bd.returns) (by exact ⟨rfl, N42⟩) (by decide) (by decide) (fun fs hr => retN X42 hx (t := .boolean) Bd.returns (by simp) (hb hby at_280) hr)
  · skip
    refine own_step (U' := T42.setTop (mkF m 252 #[iv p0, iv p1, iv p2, iv p3, iv p4, iv p5, rv b1, iv ca1, iv ca2, iv ca3, iv ca4, rv b14, iv (1 : Int32), iv (3 : Int32), rv b20, rv ab23, iv la1, iv la2, iv la3] [(.int (1 : Int32)), (.ref b14), (.int la1)])) (fun t k => XS.iload X42.here hx rfl (hb hby at_246) rfl (XS.aload X42.here hx rfl (hb hby at_248) rfl rfl (XS.iload X42.here hx rfl (hb hby at_250) rfl k))) ?_
    obtain ⟨cl64, Ar64, aq64, aS64, aN64, aH64, aG64⟩ := id V_b14_42
    have hin64 : ¬ ((1 : Int32) < 0 ∨ cl64.slots.size ≤ ((1 : Int32)).toNatClampNeg) := inb_of aS64 ⟨by decide, by decide⟩
    have hat64 : cl64.slots[((1 : Int32)).toNatClampNeg]? = some (.int ca1) := aH64.at hin64 rfl
    refine own_step (U' := T42.setTop (mkF m 262 #[iv p0, iv p1, iv p2, iv p3, iv p4, iv p5, rv b1, iv ca1, iv ca2, iv ca3, iv ca4, rv b14, iv (1 : Int32), iv (3 : Int32), rv b20, rv ab23, iv la1, iv la2, iv la3] [(.int (3 : Int32)), (.ref b14), (.int la2)])) (fun t k => X42.iaload hx (j := (1 : Int32)) (v := (.int ca1)) Ar64.1 (State.isArrayOf_alike hZ.alike Ar64.2.1) Ar64.2.2 hin64 hat64 (g := (mkF m 252 #[iv p0, iv p1, iv p2, iv p3, iv p4, iv p5, rv b1, iv ca1, iv ca2, iv ca3, iv ca4, rv b14, iv (1 : Int32), iv (3 : Int32), rv b20, rv ab23, iv la1, iv la2, iv la3] [(.int (1 : Int32)), (.ref b14), (.int la1)])) rfl rfl (hb hby at_252) t (XS.icmpNo X42.here hx rfl (hb hby at_253) rfl (teq (by simp only [hla1, hca1, hca2, hca3, hca4, hub0, hub1, hub2, hub3, own_nn, own_pre1])).2 (XS.iload X42.here hx rfl (hb hby at_256) rfl (XS.aload X42.here hx rfl (hb hby at_258) rfl rfl (XS.iload X42.here hx rfl (hb hby at_260) rfl k))))) ?_
    obtain ⟨cl65, Ar65, aq65, aS65, aN65, aH65, aG65⟩ := id V_b14_42
    have hin65 : ¬ ((3 : Int32) < 0 ∨ cl65.slots.size ≤ ((3 : Int32)).toNatClampNeg) := inb_of aS65 ⟨by decide, by decide⟩
    have hat65 : cl65.slots[((3 : Int32)).toNatClampNeg]? = some (.int ca3) := aH65.at hin65 rfl
    refine own_step (U' := T42.setTop (mkF m 271 #[iv p0, iv p1, iv p2, iv p3, iv p4, iv p5, rv b1, iv ca1, iv ca2, iv ca3, iv ca4, rv b14, iv (1 : Int32), iv (3 : Int32), rv b20, rv ab23, iv la1, iv la2, iv la3] [(.int (4 : Int32)), (.ref b14), (.int la3)])) (fun t k => X42.iaload hx (j := (3 : Int32)) (v := (.int ca3)) Ar65.1 (State.isArrayOf_alike hZ.alike Ar65.2.1) Ar65.2.2 hin65 hat65 (g := (mkF m 262 #[iv p0, iv p1, iv p2, iv p3, iv p4, iv p5, rv b1, iv ca1, iv ca2, iv ca3, iv ca4, rv b14, iv (1 : Int32), iv (3 : Int32), rv b20, rv ab23, iv la1, iv la2, iv la3] [(.int (3 : Int32)), (.ref b14), (.int la2)])) rfl rfl (hb hby at_262) t (XS.icmpNo X42.here hx rfl (hb hby at_263) rfl (teq (by simp only [hla2, hca1, hca2, hca3, hca4, hub0, hub1, hub2, hub3, own_nn, own_pre3])).2 (XS.iload X42.here hx rfl (hb hby at_266) rfl (XS.aload X42.here hx rfl (hb hby at_268) rfl rfl (XS.iconst X42.here hx rfl (hb hby at_270) k))))) ?_
    obtain ⟨cl66, Ar66, aq66, aS66, aN66, aH66, aG66⟩ := id V_b14_42
    have hin66 : ¬ ((4 : Int32) < 0 ∨ cl66.slots.size ≤ ((4 : Int32)).toNatClampNeg) := inb_of aS66 ⟨by decide, by decide⟩
    have hat66 : cl66.slots[((4 : Int32)).toNatClampNeg]? = some (.int ca4) := aH66.at hin66 rfl
    refine own_step (U' := T42.setTop (mkF m 280 #[iv p0, iv p1, iv p2, iv p3, iv p4, iv p5, rv b1, iv ca1, iv ca2, iv ca3, iv ca4, rv b14, iv (1 : Int32), iv (3 : Int32), rv b20, rv ab23, iv la1, iv la2, iv la3] [(.int (1 : Int32))])) (fun t k => X42.iaload hx (j := (4 : Int32)) (v := (.int ca4)) Ar66.1 (State.isArrayOf_alike hZ.alike Ar66.2.1) Ar66.2.2 hin66 hat66 (g := (mkF m 271 #[iv p0, iv p1, iv p2, iv p3, iv p4, iv p5, rv b1, iv ca1, iv ca2, iv ca3, iv ca4, rv b14, iv (1 : Int32), iv (3 : Int32), rv b20, rv ab23, iv la1, iv la2, iv la3] [(.int (4 : Int32)), (.ref b14), (.int la3)])) rfl rfl (hb hby at_271) t (XS.icmpNo X42.here hx rfl (hb hby at_272) rfl (teq (by simp only [hla3, hca1, hca2, hca3, hca4, hub0, hub1, hub2, hub3, own_nn, own_pre4])).2 (XS.iconst X42.here hx rfl (hb hby at_275) (XS.goto X42.here hx rfl (pc0 := 276) (pc' := 280) rfl (hb hby at_276) (by decide) (by decide) k)))) ?_
    exact own_out X42 (v := (some (.int (1 : Int32)))) hlk (own_nv Bd.returns) (by exact ⟨rfl, N42⟩) (by decide) (by decide) (fun fs hr => retN X42 hx (t := .boolean) Bd.returns (by simp) (hb hby at_280) hr)
  · skip
    refine own_step (U' := T42.setTop (mkF m 252 #[iv p0, iv p1, iv p2, iv p3, iv p4, iv p5, rv b1, iv ca1, iv ca2, iv ca3, iv ca4, rv b14, iv (1 : Int32), iv (4 : Int32), rv b20, rv ab23, iv la1, iv la2, iv la3] [(.int (1 : Int32)), (.ref b14), (.int la1)])) (fun t k => XS.iload X42.here hx rfl (hb hby at_246) rfl (XS.aload X42.here hx rfl (hb hby at_248) rfl rfl (XS.iload X42.here hx rfl (hb hby at_250) rfl k))) ?_
    obtain ⟨cl67, Ar67, aq67, aS67, aN67, aH67, aG67⟩ := id V_b14_42
    have hin67 : ¬ ((1 : Int32) < 0 ∨ cl67.slots.size ≤ ((1 : Int32)).toNatClampNeg) := inb_of aS67 ⟨by decide, by decide⟩
    have hat67 : cl67.slots[((1 : Int32)).toNatClampNeg]? = some (.int ca1) := aH67.at hin67 rfl
    refine own_step (U' := T42.setTop (mkF m 262 #[iv p0, iv p1, iv p2, iv p3, iv p4, iv p5, rv b1, iv ca1, iv ca2, iv ca3, iv ca4, rv b14, iv (1 : Int32), iv (4 : Int32), rv b20, rv ab23, iv la1, iv la2, iv la3] [(.int (4 : Int32)), (.ref b14), (.int la2)])) (fun t k => X42.iaload hx (j := (1 : Int32)) (v := (.int ca1)) Ar67.1 (State.isArrayOf_alike hZ.alike Ar67.2.1) Ar67.2.2 hin67 hat67 (g := (mkF m 252 #[iv p0, iv p1, iv p2, iv p3, iv p4, iv p5, rv b1, iv ca1, iv ca2, iv ca3, iv ca4, rv b14, iv (1 : Int32), iv (4 : Int32), rv b20, rv ab23, iv la1, iv la2, iv la3] [(.int (1 : Int32)), (.ref b14), (.int la1)])) rfl rfl (hb hby at_252) t (XS.icmpNo X42.here hx rfl (hb hby at_253) rfl (teq (by simp only [hla1, hca1, hca2, hca3, hca4, hub0, hub1, hub2, hub3, own_nn, own_pre1])).2 (XS.iload X42.here hx rfl (hb hby at_256) rfl (XS.aload X42.here hx rfl (hb hby at_258) rfl rfl (XS.iload X42.here hx rfl (hb hby at_260) rfl k))))) ?_
    obtain ⟨cl68, Ar68, aq68, aS68, aN68, aH68, aG68⟩ := id V_b14_42
    have hin68 : ¬ ((4 : Int32) < 0 ∨ cl68.slots.size ≤ ((4 : Int32)).toNatClampNeg) := inb_of aS68 ⟨by decide, by decide⟩
    have hat68 : cl68.slots[((4 : Int32)).toNatClampNeg]? = some (.int ca4) := aH68.at hin68 rfl
    refine own_step (U' := T42.setTop (mkF m 271 #[iv p0, iv p1, iv p2, iv p3, iv p4, iv p5, rv b1, iv ca1, iv ca2, iv ca3, iv ca4, rv b14, iv (1 : Int32), iv (4 : Int32), rv b20, rv ab23, iv la1, iv la2, iv la3] [(.int (4 : Int32)), (.ref b14), (.int la3)])) (fun t k => X42.iaload hx (j := (4 : Int32)) (v := (.int ca4)) Ar68.1 (State.isArrayOf_alike hZ.alike Ar68.2.1) Ar68.2.2 hin68 hat68 (g := (mkF m 262 #[iv p0, iv p1, iv p2, iv p3, iv p4, iv p5, rv b1, iv ca1, iv ca2, iv ca3, iv ca4, rv b14, iv (1 : Int32), iv (4 : Int32), rv b20, rv ab23, iv la1, iv la2, iv la3] [(.int (4 : Int32)), (.ref b14), (.int la2)])) rfl rfl (hb hby at_262) t (XS.icmpNo X42.here hx rfl (hb hby at_263) rfl (teq (by simp only [hla2, hca1, hca2, hca3, hca4, hub0, hub1, hub2, hub3, own_nn, own_pre4])).2 (XS.iload X42.here hx rfl (hb hby at_266) rfl (XS.aload X42.here hx rfl (hb hby at_268) rfl rfl (XS.iconst X42.here hx rfl (hb hby at_270) k))))) ?_
    obtain ⟨cl69, Ar69, aq69, aS69, aN69, aH69, aG69⟩ := id V_b14_42
    have hin69 : ¬ ((4 : Int32) < 0 ∨ cl69.slots.size ≤ ((4 : Int32)).toNatClampNeg) := inb_of aS69 ⟨by decide, by decide⟩
    have hat69 : cl69.slots[((4 : Int32)).toNatClampNeg]? = some (.int ca4) := aH69.at hin69 rfl
    refine own_step (U' := T42.setTop (mkF m 280 #[iv p0, iv p1, iv p2, iv p3, iv p4, iv p5, rv b1, iv ca1, iv ca2, iv ca3, iv ca4, rv b14, iv (1 : Int32), iv (4 : Int32), rv b20, rv ab23, iv la1, iv la2, iv la3] [(.int (1 : Int32))])) (fun t k => X42.iaload hx (j := (4 : Int32)) (v := (.int ca4)) Ar69.1 (State.isArrayOf_alike hZ.alike Ar69.2.1) Ar69.2.2 hin69 hat69 (g := (mkF m 271 #[iv p0, iv p1, iv p2, iv p3, iv p4, iv p5, rv b1, iv ca1, iv ca2, iv ca3, iv ca4, rv b14, iv (1 : Int32), iv (4 : Int32), rv b20, rv ab23, iv la1, iv la2, iv la3] [(.int (4 : Int32)), (.ref b14), (.int la3)])) rfl rfl (hb hby at_271) t (XS.icmpNo X42.here hx rfl (hb hby at_272) rfl (teq (by simp only [hla3, hca1, hca2, hca3, hca4, hub0, hub1, hub2, hub3, own_nn, own_pre4])).2 (XS.iconst X42.here hx rfl (hb hby at_275) (XS.goto X42.here hx rfl (pc0 := 276) (pc' := 280) rfl (hb hby at_276) (by decide) (by decide) k)))) ?_
    exact own_out X42 (v := (some (.int (1 : Int32)))) hlk (own_nv Bd.returns) (by exact ⟨rfl, N42⟩) (by decide) (by decide) (fun fs hr => retN X42 hx (t := .boolean) Bd.returns (by simp) (hb hby at_280) hr)
  · skip
    refine own_step (U' := T42.setTop (mkF m 252 #[iv p0, iv p1, iv p2, iv p3, iv p4, iv p5, rv b1, iv ca1, iv ca2, iv ca3, iv ca4, rv b14, iv (2 : Int32), iv (2 : Int32), rv b20, rv ab23, iv la1, iv la2, iv la3] [(.int (2 : Int32)), (.ref b14), (.int la1)])) (fun t k => XS.iload X42.here hx rfl (hb hby at_246) rfl (XS.aload X42.here hx rfl (hb hby at_248) rfl rfl (XS.iload X42.here hx rfl (hb hby at_250) rfl k))) ?_
    obtain ⟨cl70, Ar70, aq70, aS70, aN70, aH70, aG70⟩ := id V_b14_42
    have hin70 : ¬ ((2 : Int32) < 0 ∨ cl70.slots.size ≤ ((2 : Int32)).toNatClampNeg) := inb_of aS70 ⟨by decide, by decide⟩
    have hat70 : cl70.slots[((2 : Int32)).toNatClampNeg]? = some (.int ca2) := aH70.at hin70 rfl
    refine own_step (U' := T42.setTop (mkF m 262 #[iv p0, iv p1, iv p2, iv p3, iv p4, iv p5, rv b1, iv ca1, iv ca2, iv ca3, iv ca4, rv b14, iv (2 : Int32), iv (2 : Int32), rv b20, rv ab23, iv la1, iv la2, iv la3] [(.int (2 : Int32)), (.ref b14), (.int la2)])) (fun t k => X42.iaload hx (j := (2 : Int32)) (v := (.int ca2)) Ar70.1 (State.isArrayOf_alike hZ.alike Ar70.2.1) Ar70.2.2 hin70 hat70 (g := (mkF m 252 #[iv p0, iv p1, iv p2, iv p3, iv p4, iv p5, rv b1, iv ca1, iv ca2, iv ca3, iv ca4, rv b14, iv (2 : Int32), iv (2 : Int32), rv b20, rv ab23, iv la1, iv la2, iv la3] [(.int (2 : Int32)), (.ref b14), (.int la1)])) rfl rfl (hb hby at_252) t (XS.icmpNo X42.here hx rfl (hb hby at_253) rfl (teq (by simp only [hla1, hca1, hca2, hca3, hca4, hub0, hub1, hub2, hub3, own_nn, own_pre2])).2 (XS.iload X42.here hx rfl (hb hby at_256) rfl (XS.aload X42.here hx rfl (hb hby at_258) rfl rfl (XS.iload X42.here hx rfl (hb hby at_260) rfl k))))) ?_
    obtain ⟨cl71, Ar71, aq71, aS71, aN71, aH71, aG71⟩ := id V_b14_42
    have hin71 : ¬ ((2 : Int32) < 0 ∨ cl71.slots.size ≤ ((2 : Int32)).toNatClampNeg) := inb_of aS71 ⟨by decide, by decide⟩
    have hat71 : cl71.slots[((2 : Int32)).toNatClampNeg]? = some (.int ca2) := aH71.at hin71 rfl
    refine own_step (U' := T42.setTop (mkF m 271 #[iv p0, iv p1, iv p2, iv p3, iv p4, iv p5, rv b1, iv ca1, iv ca2, iv ca3, iv ca4, rv b14, iv (2 : Int32), iv (2 : Int32), rv b20, rv ab23, iv la1, iv la2, iv la3] [(.int (4 : Int32)), (.ref b14), (.int la3)])) (fun t k => X42.iaload hx (j := (2 : Int32)) (v := (.int ca2)) Ar71.1 (State.isArrayOf_alike hZ.alike Ar71.2.1) Ar71.2.2 hin71 hat71 (g := (mkF m 262 #[iv p0, iv p1, iv p2, iv p3, iv p4, iv p5, rv b1, iv ca1, iv ca2, iv ca3, iv ca4, rv b14, iv (2 : Int32), iv (2 : Int32), rv b20, rv ab23, iv la1, iv la2, iv la3] [(.int (2 : Int32)), (.ref b14), (.int la2)])) rfl rfl (hb hby at_262) t (XS.icmpNo X42.here hx rfl (hb hby at_263) rfl (teq (by simp only [hla2, hca1, hca2, hca3, hca4, hub0, hub1, hub2, hub3, own_nn, own_pre2])).2 (XS.iload X42.here hx rfl (hb hby at_266) rfl (XS.aload X42.here hx rfl (hb hby at_268) rfl rfl (XS.iconst X42.here hx rfl (hb hby at_270) k))))) ?_
    obtain ⟨cl72, Ar72, aq72, aS72, aN72, aH72, aG72⟩ := id V_b14_42
    have hin72 : ¬ ((4 : Int32) < 0 ∨ cl72.slots.size ≤ ((4 : Int32)).toNatClampNeg) := inb_of aS72 ⟨by decide, by decide⟩
    have hat72 : cl72.slots[((4 : Int32)).toNatClampNeg]? = some (.int ca4) := aH72.at hin72 rfl
    refine own_step (U' := T42.setTop (mkF m 280 #[iv p0, iv p1, iv p2, iv p3, iv p4, iv p5, rv b1, iv ca1, iv ca2, iv ca3, iv ca4, rv b14, iv (2 : Int32), iv (2 : Int32), rv b20, rv ab23, iv la1, iv la2, iv la3] [(.int (1 : Int32))])) (fun t k => X42.iaload hx (j := (4 : Int32)) (v := (.int ca4)) Ar72.1 (State.isArrayOf_alike hZ.alike Ar72.2.1) Ar72.2.2 hin72 hat72 (g := (mkF m 271 #[iv p0, iv p1, iv p2, iv p3, iv p4, iv p5, rv b1, iv ca1, iv ca2, iv ca3, iv ca4, rv b14, iv (2 : Int32), iv (2 : Int32), rv b20, rv ab23, iv la1, iv la2, iv la3] [(.int (4 : Int32)), (.ref b14), (.int la3)])) rfl rfl (hb hby at_271) t (XS.icmpNo X42.here hx rfl (hb hby at_272) rfl (teq (by simp only [hla3, hca1, hca2, hca3, hca4, hub0, hub1, hub2, hub3, own_nn, own_pre4])).2 (XS.iconst X42.here hx rfl (hb hby at_275) (XS.goto X42.here hx rfl (pc0 := 276) (pc' := 280) rfl (hb hby at_276) (by decide) (by decide) k)))) ?_
    exact own_out X42 (v := (some (.int (1 : Int32)))) hlk (own_nv Bd.returns) (by exact ⟨rfl, N42⟩) (by decide) (by decide) (fun fs hr => retN X42 hx (t := .boolean) Bd.returns (by simp) (hb hby at_280) hr)
  · skip
    refine own_step (U' := T42.setTop (mkF m 252 #[iv p0, iv p1, iv p2, iv p3, iv p4, iv p5, rv b1, iv ca1, iv ca2, iv ca3, iv ca4, rv b14, iv (2 : Int32), iv (3 : Int32), rv b20, rv ab23, iv la1, iv la2, iv la3] [(.int (2 : Int32)), (.ref b14), (.int la1)])) (fun t k => XS.iload X42.here hx rfl (hb hby at_246) rfl (XS.aload X42.here hx rfl (hb hby at_248) rfl rfl (XS.iload X42.here hx rfl (hb hby at_250) rfl k))) ?_
    obtain ⟨cl73, Ar73, aq73, aS73, aN73, aH73, aG73⟩ := id V_b14_42
    have hin73 : ¬ ((2 : Int32) < 0 ∨ cl73.slots.size ≤ ((2 : Int32)).toNatClampNeg) := inb_of aS73 ⟨by decide, by decide⟩
    have hat73 : cl73.slots[((2 : Int32)).toNatClampNeg]? = some (.int ca2) := aH73.at hin73 rfl
    refine own_step (U' := T42.setTop (mkF m 262 #[iv p0, iv p1, iv p2, iv p3, iv p4, iv p5, rv b1, iv ca1, iv ca2, iv ca3, iv ca4, rv b14, iv (2 : Int32), iv (3 : Int32), rv b20, rv ab23, iv la1, iv la2, iv la3] [(.int (3 : Int32)), (.ref b14), (.int la2)])) (fun t k => X42.iaload hx (j := (2 : Int32)) (v := (.int ca2)) Ar73.1 (State.isArrayOf_alike hZ.alike Ar73.2.1) Ar73.2.2 hin73 hat73 (g := (mkF m 252 #[iv p0, iv p1, iv p2, iv p3, iv p4, iv p5, rv b1, iv ca1, iv ca2, iv ca3, iv ca4, rv b14, iv (2 : Int32), iv (3 : Int32), rv b20, rv ab23, iv la1, iv la2, iv la3] [(.int (2 : Int32)), (.ref b14), (.int la1)])) rfl rfl (hb hby at_252) t (XS.icmpNo X42.here hx rfl (hb hby at_253) rfl (teq (by simp only [hla1, hca1, hca2, hca3, hca4, hub0, hub1, hub2, hub3, own_nn, own_pre2])).2 (XS.iload X42.here hx rfl (hb hby at_256) rfl (XS.aload X42.here hx rfl (hb hby at_258) rfl rfl (XS.iload X42.here hx rfl (hb hby at_260) rfl k))))) ?_
    obtain ⟨cl74, Ar74, aq74, aS74, aN74, aH74, aG74⟩ := id V_b14_42
    have hin74 : ¬ ((3 : Int32) < 0 ∨ cl74.slots.size ≤ ((3 : Int32)).toNatClampNeg) := inb_of aS74 ⟨by decide, by decide⟩
    have hat74 : cl74.slots[((3 : Int32)).toNatClampNeg]? = some (.int ca3) := aH74.at hin74 rfl
    refine own_step (U' := T42.setTop (mkF m 271 #[iv p0, iv p1, iv p2, iv p3, iv p4, iv p5, rv b1, iv ca1, iv ca2, iv ca3, iv ca4, rv b14, iv (2 : Int32), iv (3 : Int32), rv b20, rv ab23, iv la1, iv la2, iv la3] [(.int (4 : Int32)), (.ref b14), (.int la3)])) (fun t k => X42.iaload hx (j := (3 : Int32)) (v := (.int ca3)) Ar74.1 (State.isArrayOf_alike hZ.alike Ar74.2.1) Ar74.2.2 hin74 hat74 (g := (mkF m 262 #[iv p0, iv p1, iv p2, iv p3, iv p4, iv p5, rv b1, iv ca1, iv ca2, iv ca3, iv ca4, rv b14, iv (2 : Int32), iv (3 : Int32), rv b20, rv ab23, iv la1, iv la2, iv la3] [(.int (3 : Int32)), (.ref b14), (.int la2)])) rfl rfl (hb hby at_262) t (XS.icmpNo X42.here hx rfl (hb hby at_263) rfl (teq (by simp only [hla2, hca1, hca2, hca3, hca4, hub0, hub1, hub2, hub3, own_nn, own_pre3])).2 (XS.iload X42.here hx rfl (hb hby at_266) rfl (XS.aload X42.here hx rfl (hb hby at_268) rfl rfl (XS.iconst X42.here hx rfl (hb hby at_270) k))))) ?_
    obtain ⟨cl75, Ar75, aq75, aS75, aN75, aH75, aG75⟩ := id V_b14_42
    have hin75 : ¬ ((4 : Int32) < 0 ∨ cl75.slots.size ≤ ((4 : Int32)).toNatClampNeg) := inb_of aS75 ⟨by decide, by decide⟩
    have hat75 : cl75.slots[((4 : Int32)).toNatClampNeg]? = some (.int ca4) := aH75.at hin75 rfl
    refine own_step (U' := T42.setTop (mkF m 280 #[iv p0, iv p1, iv p2, iv p3, iv p4, iv p5, rv b1, iv ca1, iv ca2, iv ca3, iv ca4, rv b14, iv (2 : Int32), iv (3 : Int32), rv b20, rv ab23, iv la1, iv la2, iv la3] [(.int (1 : Int32))])) (fun t k => X42.iaload hx (j := (4 : Int32)) (v := (.int ca4)) Ar75.1 (State.isArrayOf_alike hZ.alike Ar75.2.1) Ar75.2.2 hin75 hat75 (g := (mkF m 271 #[iv p0, iv p1, iv p2, iv p3, iv p4, iv p5, rv b1, iv ca1, iv ca2, iv ca3, iv ca4, rv b14, iv (2 : Int32), iv (3 : Int32), rv b20, rv ab23, iv la1, iv la2, iv la3] [(.int (4 : Int32)), (.ref b14), (.int la3)])) rfl rfl (hb hby at_271) t (XS.icmpNo X42.here hx rfl (hb hby at_272) rfl (teq (by simp only [hla3, hca1, hca2, hca3, hca4, hub0, hub1, hub2, hub3, own_nn, own_pre4])).2 (XS.iconst X42.here hx rfl (hb hby at_275) (XS.goto X42.here hx rfl (pc0 := 276) (pc' := 280) rfl (hb hby at_276) (by decide) (by decide) k)))) ?_
    exact own_out X42 (v := (some (.int (1 : Int32)))) hlk (own_nv Bd.returns) (by exact ⟨rfl, N42⟩) (by decide) (by decide) (fun fs hr => retN X42 hx (t := .boolean) Bd.returns (by simp) (hb hby at_280) hr)
  · skip
    refine own_step (U' := T42.setTop (mkF m 252 #[iv p0, iv p1, iv p2, iv p3, iv p4, iv p5, rv b1, iv ca1, iv ca2, iv ca3, iv ca4, rv b14, iv (2 : Int32), iv (4 : Int32), rv b20, rv ab23, iv la1, iv la2, iv la3] [(.int (2 : Int32)), (.ref b14), (.int la1)])) (fun t k => XS.iload X42.here hx rfl (hb hby at_246) rfl (XS.aload X42.here hx rfl (hb hby at_248) rfl rfl (XS.iload X42.here hx rfl (hb hby at_250) rfl k))) ?_
    obtain ⟨cl76, Ar76, aq76, aS76, aN76, aH76, aG76⟩ := id V_b14_42
    have hin76 : ¬ ((2 : Int32) < 0 ∨ cl76.slots.size ≤ ((2 : Int32)).toNatClampNeg) := inb_of aS76 ⟨by decide, by decide⟩
    have hat76 : cl76.slots[((2 : Int32)).toNatClampNeg]? = some (.int ca2) := aH76.at hin76 rfl
    refine own_step (U' := T42.setTop (mkF m 262 #[iv p0, iv p1, iv p2, iv p3, iv p4, iv p5, rv b1, iv ca1, iv ca2, iv ca3, iv ca4, rv b14, iv (2 : Int32), iv (4 : Int32), rv b20, rv ab23, iv la1, iv la2, iv la3] [(.int (4 : Int32)), (.ref b14), (.int la2)])) (fun t k => X42.iaload hx (j := (2 : Int32)) (v := (.int ca2)) Ar76.1 (State.isArrayOf_alike hZ.alike Ar76.2.1) Ar76.2.2 hin76 hat76 (g := (mkF m 252 #[iv p0, iv p1, iv p2, iv p3, iv p4, iv p5, rv b1, iv ca1, iv ca2, iv ca3, iv ca4, rv b14, iv (2 : Int32), iv (4 : Int32), rv b20, rv ab23, iv la1, iv la2, iv la3] [(.int (2 : Int32)), (.ref b14), (.int la1)])) rfl rfl (hb hby at_252) t (XS.icmpNo X42.here hx rfl (hb hby at_253) rfl (teq (by simp only [hla1, hca1, hca2, hca3, hca4, hub0, hub1, hub2, hub3, own_nn, own_pre2])).2 (XS.iload X42.here hx rfl (hb hby at_256) rfl (XS.aload X42.here hx rfl (hb hby at_258) rfl rfl (XS.iload X42.here hx rfl (hb hby at_260) rfl k))))) ?_
    obtain ⟨cl77, Ar77, aq77, aS77, aN77, aH77, aG77⟩ := id V_b14_42
    have hin77 : ¬ ((4 : Int32) < 0 ∨ cl77.slots.size ≤ ((4 : Int32)).toNatClampNeg) := inb_of aS77 ⟨by decide, by decide⟩
    have hat77 : cl77.slots[((4 : Int32)).toNatClampNeg]? = some (.int ca4) := aH77.at hin77 rfl
    refine own_step (U' := T42.setTop (mkF m 271 #[iv p0, iv p1, iv p2, iv p3, iv p4, iv p5, rv b1, iv ca1, iv ca2, iv ca3, iv ca4, rv b14, iv (2 : Int32), iv (4 : Int32), rv b20, rv ab23, iv la1, iv la2, iv la3] [(.int (4 : Int32)), (.ref b14), (.int la3)])) (fun t k => X42.iaload hx (j := (4 : Int32)) (v := (.int ca4)) Ar77.1 (State.isArrayOf_alike hZ.alike Ar77.2.1) Ar77.2.2 hin77 hat77 (g := (mkF m 262 #[iv p0, iv p1, iv p2, iv p3, iv p4, iv p5, rv b1, iv ca1, iv ca2, iv ca3, iv ca4, rv b14, iv (2 : Int32), iv (4 : Int32), rv b20, rv ab23, iv la1, iv la2, iv la3] [(.int (4 : Int32)), (.ref b14), (.int la2)])) rfl rfl (hb hby at_262) t (XS.icmpNo X42.here hx rfl (hb hby at_263) rfl (teq (by simp only [hla2, hca1, hca2, hca3, hca4, hub0, hub1, hub2, hub3, own_nn, own_pre4])).2 (XS.iload X42.here hx rfl (hb hby at_266) rfl (XS.aload X42.here hx rfl (hb hby at_268) rfl rfl (XS.iconst X42.here hx rfl (hb hby at_270) k))))) ?_
    obtain ⟨cl78, Ar78, aq78, aS78, aN78, aH78, aG78⟩ := id V_b14_42
    have hin78 : ¬ ((4 : Int32) < 0 ∨ cl78.slots.size ≤ ((4 : Int32)).toNatClampNeg) := inb_of aS78 ⟨by decide, by decide⟩
    have hat78 : cl78.slots[((4 : Int32)).toNatClampNeg]? = some (.int ca4) := aH78.at hin78 rfl
    refine own_step (U' := T42.setTop (mkF m 280 #[iv p0, iv p1, iv p2, iv p3, iv p4, iv p5, rv b1, iv ca1, iv ca2, iv ca3, iv ca4, rv b14, iv (2 : Int32), iv (4 : Int32), rv b20, rv ab23, iv la1, iv la2, iv la3] [(.int (1 : Int32))])) (fun t k => X42.iaload hx (j := (4 : Int32)) (v := (.int ca4)) Ar78.1 (State.isArrayOf_alike hZ.alike Ar78.2.1) Ar78.2.2 hin78 hat78 (g := (mkF m 271 #[iv p0, iv p1, iv p2, iv p3, iv p4, iv p5, rv b1, iv ca1, iv ca2, iv ca3, iv ca4, rv b14, iv (2 : Int32), iv (4 : Int32), rv b20, rv ab23, iv la1, iv la2, iv la3] [(.int (4 : Int32)), (.ref b14), (.int la3)])) rfl rfl (hb hby at_271) t (XS.icmpNo X42.here hx rfl (hb hby at_272) rfl (teq (by simp only [hla3, hca1, hca2, hca3, hca4, hub0, hub1, hub2, hub3, own_nn, own_pre4])).2 (XS.iconst X42.here hx rfl (hb hby at_275) (XS.goto X42.here hx rfl (pc0 := 276) (pc' := 280) rfl (hb hby at_276) (by decide) (by decide) k)))) ?_
    exact own_out X42 (v := (some (.int (1 : Int32)))) hlk (own_nv Bd.returns) (by exact ⟨rfl, N42⟩) (by decide) (by decide) (fun fs hr => retN X42 hx (t := .boolean) Bd.returns (by simp) (hb hby at_280) hr)
  · skip
    refine own_step (U' := T42.setTop (mkF m 252 #[iv p0, iv p1, iv p2, iv p3, iv p4, iv p5, rv b1, iv ca1, iv ca2, iv ca3, iv ca4, rv b14, iv (3 : Int32), iv (3 : Int32), rv b20, rv ab23, iv la1, iv la2, iv la3] [(.int (3 : Int32)), (.ref b14), (.int la1)])) (fun t k => XS.iload X42.here hx rfl (hb hby at_246) rfl (XS.aload X42.here hx rfl (hb hby at_248) rfl rfl (XS.iload X42.here hx rfl (hb hby at_250) rfl k))) ?_
    obtain ⟨cl79, Ar79, aq79, aS79, aN79, aH79, aG79⟩ := id V_b14_42
    have hin79 : ¬ ((3 : Int32) < 0 ∨ cl79.slots.size ≤ ((3 : Int32)).toNatClampNeg) := inb_of aS79 ⟨by decide, by decide⟩
    have hat79 : cl79.slots[((3 : Int32)).toNatClampNeg]? = some (.int ca3) := aH79.at hin79 rfl
    refine own_step (U' := T42.setTop (mkF m 262 #[iv p0, iv p1, iv p2, iv p3, iv p4, iv p5, rv b1, iv ca1, iv ca2, iv ca3, iv ca4, rv b14, iv (3 : Int32), iv (3 : Int32), rv b20, rv ab23, iv la1, iv la2, iv la3] [(.int (3 : Int32)), (.ref b14), (.int la2)])) (fun t k => X42.iaload hx (j := (3 : Int32)) (v := (.int ca3)) Ar79.1 (State.isArrayOf_alike hZ.alike Ar79.2.1) Ar79.2.2 hin79 hat79 (g := (mkF m 252 #[iv p0, iv p1, iv p2, iv p3, iv p4, iv p5, rv b1, iv ca1, iv ca2, iv ca3, iv ca4, rv b14, iv (3 : Int32), iv (3 : Int32), rv b20, rv ab23, iv la1, iv la2, iv la3] [(.int (3 : Int32)), (.ref b14), (.int la1)])) rfl rfl (hb hby at_252) t (XS.icmpNo X42.here hx rfl (hb hby at_253) rfl (teq (by simp only [hla1, hca1, hca2, hca3, hca4, hub0, hub1, hub2, hub3, own_nn, own_pre3])).2 (XS.iload X42.here hx rfl (hb hby at_256) rfl (XS.aload X42.here hx rfl (hb hby at_258) rfl rfl (XS.iload X42.here hx rfl (hb hby at_260) rfl k))))) ?_
    obtain ⟨cl80, Ar80, aq80, aS80, aN80, aH80, aG80⟩ := id V_b14_42
    have hin80 : ¬ ((3 : Int32) < 0 ∨ cl80.slots.size ≤ ((3 : Int32)).toNatClampNeg) := inb_of aS80 ⟨by decide, by decide⟩
    have hat80 : cl80.slots[((3 : Int32)).toNatClampNeg]? = some (.int ca3) := aH80.at hin80 rfl
    refine own_step (U' := T42.setTop (mkF m 271 #[iv p0, iv p1, iv p2, iv p3, iv p4, iv p5, rv b1, iv ca1, iv ca2, iv ca3, iv ca4, rv b14, iv (3 : Int32), iv (3 : Int32), rv b20, rv ab23, iv la1, iv la2, iv la3] [(.int (4 : Int32)), (.ref b14), (.int la3)])) (fun t k => X42.iaload hx (j := (3 : Int32)) (v := (.int ca3)) Ar80.1 (State.isArrayOf_alike hZ.alike Ar80.2.1) Ar80.2.2 hin80 hat80 (g := (mkF m 262 #[iv p0, iv p1, iv p2, iv p3, iv p4, iv p5, rv b1, iv ca1, iv ca2, iv ca3, iv ca4, rv b14, iv (3 : Int32), iv (3 : Int32), rv b20, rv ab23, iv la1, iv la2, iv la3] [(.int (3 : Int32)), (.ref b14), (.int la2)])) rfl rfl (hb hby at_262) t (XS.icmpNo X42.here hx rfl (hb hby at_263) rfl (teq (by simp only [hla2, hca1, hca2, hca3, hca4, hub0, hub1, hub2, hub3, own_nn, own_pre3])).2 (XS.iload X42.here hx rfl (hb hby at_266) rfl (XS.aload X42.here hx rfl (hb hby at_268) rfl rfl (XS.iconst X42.here hx rfl (hb hby at_270) k))))) ?_
    obtain ⟨cl81, Ar81, aq81, aS81, aN81, aH81, aG81⟩ := id V_b14_42
    have hin81 : ¬ ((4 : Int32) < 0 ∨ cl81.slots.size ≤ ((4 : Int32)).toNatClampNeg) := inb_of aS81 ⟨by decide, by decide⟩
    have hat81 : cl81.slots[((4 : Int32)).toNatClampNeg]? = some (.int ca4) := aH81.at hin81 rfl
    refine own_step (U' := T42.setTop (mkF m 280 #[iv p0, iv p1, iv p2, iv p3, iv p4, iv p5, rv b1, iv ca1, iv ca2, iv ca3, iv ca4, rv b14, iv (3 : Int32), iv (3 : Int32), rv b20, rv ab23, iv la1, iv la2, iv la3] [(.int (1 : Int32))])) (fun t k => X42.iaload hx (j := (4 : Int32)) (v := (.int ca4)) Ar81.1 (State.isArrayOf_alike hZ.alike Ar81.2.1) Ar81.2.2 hin81 hat81 (g := (mkF m 271 #[iv p0, iv p1, iv p2, iv p3, iv p4, iv p5, rv b1, iv ca1, iv ca2, iv ca3, iv ca4, rv b14, iv (3 : Int32), iv (3 : Int32), rv b20, rv ab23, iv la1, iv la2, iv la3] [(.int (4 : Int32)), (.ref b14), (.int la3)])) rfl rfl (hb hby at_271) t (XS.icmpNo X42.here hx rfl (hb hby at_272) rfl (teq (by simp only [hla3, hca1, hca2, hca3, hca4, hub0, hub1, hub2, hub3, own_nn, own_pre4])).2 (XS.iconst X42.here hx rfl (hb hby at_275) (XS.goto X42.here hx rfl (pc0 := 276) (pc' := 280) rfl (hb hby at_276) (by decide) (by decide) k)))) ?_
    exact own_out X42 (v := (some (.int (1 : Int32)))) hlk (own_nv Bd.returns) (by exact ⟨rfl, N42⟩) (by decide) (by decide) (fun fs hr => retN X42 hx (t := .boolean) Bd.returns (by simp) (hb hby at_280) hr)
  · skip
    refine own_step (U' := T42.setTop (mkF m 252 #[iv p0, iv p1, iv p2, iv p3, iv p4, iv p5, rv b1, iv ca1, iv ca2, iv ca3, iv ca4, rv b14, iv (3 : Int32), iv (4 : Int32), rv b20, rv ab23, iv la1, iv la2, iv la3] [(.int (3 : Int32)), (.ref b14), (.int la1)])) (fun t k => XS.iload X42.here hx rfl (hb hby at_246) rfl (XS.aload X42.here hx rfl (hb hby at_248) rfl rfl (XS.iload X42.here hx rfl (hb hby at_250) rfl k))) ?_
    obtain ⟨cl82, Ar82, aq82, aS82, aN82, aH82, aG82⟩ := id V_b14_42
    have hin82 : ¬ ((3 : Int32) < 0 ∨ cl82.slots.size ≤ ((3 : Int32)).toNatClampNeg) := inb_of aS82 ⟨by decide, by decide⟩
    have hat82 : cl82.slots[((3 : Int32)).toNatClampNeg]? = some (.int ca3) := aH82.at hin82 rfl
    refine own_step (U' := T42.setTop (mkF m 262 #[iv p0, iv p1, iv p2, iv p3, iv p4, iv p5, rv b1, iv ca1, iv ca2, iv ca3, iv ca4, rv b14, iv (3 : Int32), iv (4 : Int32), rv b20, rv ab23, iv la1, iv la2, iv la3] [(.int (4 : Int32)), (.ref b14), (.int la2)])) (fun t k => X42.iaload hx (j := (3 : Int32)) (v := (.int ca3)) Ar82.1 (State.isArrayOf_alike hZ.alike Ar82.2.1) Ar82.2.2 hin82 hat82 (g := (mkF m 252 #[iv p0, iv p1, iv p2, iv p3, iv p4, iv p5, rv b1, iv ca1, iv ca2, iv ca3, iv ca4, rv b14, iv (3 : Int32), iv (4 : Int32), rv b20, rv ab23, iv la1, iv la2, iv la3] [(.int (3 : Int32)), (.ref b14), (.int la1)])) rfl rfl (hb hby at_252) t (XS.icmpNo X42.here hx rfl (hb hby at_253) rfl (teq (by simp only [hla1, hca1, hca2, hca3, hca4, hub0, hub1, hub2, hub3, own_nn, own_pre3])).2 (XS.iload X42.here hx rfl (hb hby at_256) rfl (XS.aload X42.here hx rfl (hb hby at_258) rfl rfl (XS.iload X42.here hx rfl (hb hby at_260) rfl k))))) ?_
    obtain ⟨cl83, Ar83, aq83, aS83, aN83, aH83, aG83⟩ := id V_b14_42
    have hin83 : ¬ ((4 : Int32) < 0 ∨ cl83.slots.size ≤ ((4 : Int32)).toNatClampNeg) := inb_of aS83 ⟨by decide, by decide⟩
    have hat83 : cl83.slots[((4 : Int32)).toNatClampNeg]? = some (.int ca4) := aH83.at hin83 rfl
    refine own_step (U' := T42.setTop (mkF m 271 #[iv p0, iv p1, iv p2, iv p3, iv p4, iv p5, rv b1, iv ca1, iv ca2, iv ca3, iv ca4, rv b14, iv (3 : Int32), iv (4 : Int32), rv b20, rv ab23, iv la1, iv la2, iv la3] [(.int (4 : Int32)), (.ref b14), (.int la3)])) (fun t k => X42.iaload hx (j := (4 : Int32)) (v := (.int ca4)) Ar83.1 (State.isArrayOf_alike hZ.alike Ar83.2.1) Ar83.2.2 hin83 hat83 (g := (mkF m 262 #[iv p0, iv p1, iv p2, iv p3, iv p4, iv p5, rv b1, iv ca1, iv ca2, iv ca3, iv ca4, rv b14, iv (3 : Int32), iv (4 : Int32), rv b20, rv ab23, iv la1, iv la2, iv la3] [(.int (4 : Int32)), (.ref b14), (.int la2)])) rfl rfl (hb hby at_262) t (XS.icmpNo X42.here hx rfl (hb hby at_263) rfl (teq (by simp only [hla2, hca1, hca2, hca3, hca4, hub0, hub1, hub2, hub3, own_nn, own_pre4])).2 (XS.iload X42.here hx rfl (hb hby at_266) rfl (XS.aload X42.here hx rfl (hb hby at_268) rfl rfl (XS.iconst X42.here hx rfl (hb hby at_270) k))))) ?_
    obtain ⟨cl84, Ar84, aq84, aS84, aN84, aH84, aG84⟩ := id V_b14_42
    have hin84 : ¬ ((4 : Int32) < 0 ∨ cl84.slots.size ≤ ((4 : Int32)).toNatClampNeg) := inb_of aS84 ⟨by decide, by decide⟩
    have hat84 : cl84.slots[((4 : Int32)).toNatClampNeg]? = some (.int ca4) := aH84.at hin84 rfl
    refine own_step (U' := T42.setTop (mkF m 280 #[iv p0, iv p1, iv p2, iv p3, iv p4, iv p5, rv b1, iv ca1, iv ca2, iv ca3, iv ca4, rv b14, iv (3 : Int32), iv (4 : Int32), rv b20, rv ab23, iv la1, iv la2, iv la3] [(.int (1 : Int32))])) (fun t k => X42.iaload hx (j := (4 : Int32)) (v := (.int ca4)) Ar84.1 (State.isArrayOf_alike hZ.alike Ar84.2.1) Ar84.2.2 hin84 hat84 (g := (mkF m 271 #[iv p0, iv p1, iv p2, iv p3, iv p4, iv p5, rv b1, iv ca1, iv ca2, iv ca3, iv ca4, rv b14, iv (3 : Int32), iv (4 : Int32), rv b20, rv ab23, iv la1, iv la2, iv la3] [(.int (4 : Int32)), (.ref b14), (.int la3)])) rfl rfl (hb hby at_271) t (XS.icmpNo X42.here hx rfl (hb hby at_272) rfl (teq (by simp only [hla3, hca1, hca2, hca3, hca4, hub0, hub1, hub2, hub3, own_nn, own_pre4])).2 (XS.iconst X42.here hx rfl (hb hby at_275) (XS.goto X42.here hx rfl (pc0 := 276) (pc' := 280) rfl (hb hby at_276) (by decide) (by decide) k)))) ?_
    exact own_out X42 (v := (some (.int (1 : Int32)))) hlk (own_nv Bd.returns) (by exact ⟨rfl, N42⟩) (by decide) (by decide) (fun fs hr => retN X42 hx (t := .boolean) Bd.returns (by simp) (hb hby at_280) hr)
  · skip
    refine own_step (U' := T42.setTop (mkF m 252 #[iv p0, iv p1, iv p2, iv p3, iv p4, iv p5, rv b1, iv ca1, iv ca2, iv ca3, iv ca4, rv b14, iv (4 : Int32), iv (4 : Int32), rv b20, rv ab23, iv la1, iv la2, iv la3] [(.int (4 : Int32)), (.ref b14), (.int la1)])) (fun t k => XS.iload X42.here hx rfl (hb hby at_246) rfl (XS.aload X42.here hx rfl (hb hby at_248) rfl rfl (XS.iload X42.here hx rfl (hb hby at_250) rfl k))) ?_
    obtain ⟨cl85, Ar85, aq85, aS85, aN85, aH85, aG85⟩ := id V_b14_42
    have hin85 : ¬ ((4 : Int32) < 0 ∨ cl85.slots.size ≤ ((4 : Int32)).toNatClampNeg) := inb_of aS85 ⟨by decide, by decide⟩
    have hat85 : cl85.slots[((4 : Int32)).toNatClampNeg]? = some (.int ca4) := aH85.at hin85 rfl
    refine own_step (U' := T42.setTop (mkF m 262 #[iv p0, iv p1, iv p2, iv p3, iv p4, iv p5, rv b1, iv ca1, iv ca2, iv ca3, iv ca4, rv b14, iv (4 : Int32), iv (4 : Int32), rv b20, rv ab23, iv la1, iv la2, iv la3] [(.int (4 : Int32)), (.ref b14), (.int la2)])) (fun t k => X42.iaload hx (j := (4 : Int32)) (v := (.int ca4)) Ar85.1 (State.isArrayOf_alike hZ.alike Ar85.2.1) Ar85.2.2 hin85 hat85 (g := (mkF m 252 #[iv p0, iv p1, iv p2, iv p3, iv p4, iv p5, rv b1, iv ca1, iv ca2, iv ca3, iv ca4, rv b14, iv (4 : Int32), iv (4 : Int32), rv b20, rv ab23, iv la1, iv la2, iv la3] [(.int (4 : Int32)), (.ref b14), (.int la1)])) rfl rfl (hb hby at_252) t (XS.icmpNo X42.here hx rfl (hb hby at_253) rfl (teq (by simp only [hla1, hca1, hca2, hca3, hca4, hub0, hub1, hub2, hub3, own_nn, own_pre4])).2 (XS.iload X42.here hx rfl (hb hby at_256) rfl (XS.aload X42.here hx rfl (hb hby at_258) rfl rfl (XS.iload X42.here hx rfl (hb hby at_260) rfl k))))) ?_
    obtain ⟨cl86, Ar86, aq86, aS86, aN86, aH86, aG86⟩ := id V_b14_42
    have hin86 : ¬ ((4 : Int32) < 0 ∨ cl86.slots.size ≤ ((4 : Int32)).toNatClampNeg) := inb_of aS86 ⟨by decide, by decide⟩
    have hat86 : cl86.slots[((4 : Int32)).toNatClampNeg]? = some (.int ca4) := aH86.at hin86 rfl
    refine own_step (U' := T42.setTop (mkF m 271 #[iv p0, iv p1, iv p2, iv p3, iv p4, iv p5, rv b1, iv ca1, iv ca2, iv ca3, iv ca4, rv b14, iv (4 : Int32), iv (4 : Int32), rv b20, rv ab23, iv la1, iv la2, iv la3] [(.int (4 : Int32)), (.ref b14), (.int la3)])) (fun t k => X42.iaload hx (j := (4 : Int32)) (v := (.int ca4)) Ar86.1 (State.isArrayOf_alike hZ.alike Ar86.2.1) Ar86.2.2 hin86 hat86 (g := (mkF m 262 #[iv p0, iv p1, iv p2, iv p3, iv p4, iv p5, rv b1, iv ca1, iv ca2, iv ca3, iv ca4, rv b14, iv (4 : Int32), iv (4 : Int32), rv b20, rv ab23, iv la1, iv la2, iv la3] [(.int (4 : Int32)), (.ref b14), (.int la2)])) rfl rfl (hb hby at_262) t (XS.icmpNo X42.here hx rfl (hb hby at_263) rfl (teq (by simp only [hla2, hca1, hca2, hca3, hca4, hub0, hub1, hub2, hub3, own_nn, own_pre4])).2 (XS.iload X42.here hx rfl (hb hby at_266) rfl (XS.aload X42.here hx rfl (hb hby at_268) rfl rfl (XS.iconst X42.here hx rfl (hb hby at_270) k))))) ?_
    obtain ⟨cl87, Ar87, aq87, aS87, aN87, aH87, aG87⟩ := id V_b14_42
    have hin87 : ¬ ((4 : Int32) < 0 ∨ cl87.slots.size ≤ ((4 : Int32)).toNatClampNeg) := inb_of aS87 ⟨by decide, by decide⟩
    have hat87 : cl87.slots[((4 : Int32)).toNatClampNeg]? = some (.int ca4) := aH87.at hin87 rfl
    refine own_step (U' := T42.setTop (mkF m 280 #[iv p0, iv p1, iv p2, iv p3, iv p4, iv p5, rv b1, iv ca1, iv ca2, iv ca3, iv ca4, rv b14, iv (4 : Int32), iv (4 : Int32), rv b20, rv ab23, iv la1, iv la2, iv la3] [(.int (1 : Int32))])) (fun t k => X42.iaload hx (j := (4 : Int32)) (v := (.int ca4)) Ar87.1 (State.isArrayOf_alike hZ.alike Ar87.2.1) Ar87.2.2 hin87 hat87 (g := (mkF m 271 #[iv p0, iv p1, iv p2, iv p3, iv p4, iv p5, rv b1, iv ca1, iv ca2, iv ca3, iv ca4, rv b14, iv (4 : Int32), iv (4 : Int32), rv b20, rv ab23, iv la1, iv la2, iv la3] [(.int (4 : Int32)), (.ref b14), (.int la3)])) rfl rfl (hb hby at_271) t (XS.icmpNo X42.here hx rfl (hb hby at_272) rfl (teq (by simp only [hla3, hca1, hca2, hca3, hca4, hub0, hub1, hub2, hub3, own_nn, own_pre4])).2 (XS.iconst X42.here hx rfl (hb hby at_275) (XS.goto X42.here hx rfl (pc0 := 276) (pc' := 280) rfl (hb hby at_276) (by decide) (by decide) k)))) ?_
    exact own_out X42 (v := (some (.int (1 : Int32)))) hlk (own_nv Bd.returns) (by exact ⟨rfl, N42⟩) (by decide) (by decide) (fun fs hr => retN X42 hx (t := .boolean) Bd.returns (by simp) (hb hby at_280) hr)
set_option maxRecDepth 65536 in
set_option maxHeartbeats 40000000 in
theorem comes_1 {Post : Tables → Env → Array Value → State → Outcome → State → Prop} (hpost : ∀ tb e args s v u, (limb_1_1.after args s (.returned v) u = true ∧ limb_1_2.after args s (.returned v) u = true ∧ True) → FrameEnd s (.returned v) u (Jvm.fieldLocs frame_1_writes args s ++ Jvm.arrayLocs frame_1_arrays args s ++ Jvm.staticLocs frame_1_statics s) 32 161344 → Post tb e args s (.returned v) u) :
    ArmFor flags0 classFile x code maxLocals ret World_1 tables_1 room_1 Calls_1 rest_1 Pre_1 Post := by
  intro l hfl _ _ p e ha hc hk s m args below hf hA hF happ hP
  obtain ⟨hcalls, hrest, hpre⟩ := hP
  obtain ⟨-, -, -, hnamed, -, -, -, hat⟩ := (Spec.applies_iff hf).mp happ
  obtain ⟨hg, hn⟩ := and_e (Cond.before_iff.mp (show (Jvm.Cond.and given_1 narrow_1).before args s = true from hpre))
  obtain ⟨gc, gr0⟩ := and_e hg
  obtain ⟨ga0, gr1⟩ := and_e gr0
  obtain ⟨ga1, gr2⟩ := and_e gr1
  obtain ⟨ga2, gr3⟩ := and_e gr2
  obtain ⟨ga3, gr4⟩ := and_e gr3
  obtain ⟨ga4, gr5⟩ := and_e gr4
  obtain ⟨w0, w1, w2, w3, w4, w5, rfl⟩ : ∃ w0 w1 w2 w3 w4 w5 : Value, args = #[w0, w1, w2, w3, w4, w5] := by
    have hs : args.size = 6 := by simpa [Cond.value, given_1] using gc
    obtain ⟨L⟩ := args
    match L, hs with
    | [w0, w1, w2, w3, w4, w5], _ => exact ⟨w0, w1, w2, w3, w4, w5, rfl⟩
  have hw := fun d (hd : d ∈ tables_1) => atoms_spec (ws := Jvm.Cond.code x code maxLocals ret :: tables_1) hat d (List.mem_cons_of_mem _ hd)
  have hfit : Fit s := fun {y c} hc i hi => by
    obtain ⟨ha, rfl⟩ := Array.getElem?_eq_some_iff.mp hc
    have q := List.all_eq_true.mp ((Array.all_eq_true_iff_forall_mem.mp hF) _ (Array.getElem_mem ha)) i (List.mem_range.mpr hi)
    simpa [Array.getElem?_eq_getElem hi] using q
  obtain ⟨i0, ei0⟩ := is_v ga0
  obtain rfl : w0 = (.int i0) := Option.some.inj ei0
  obtain ⟨i1, ei1⟩ := is_v ga1
  obtain rfl : w1 = (.int i1) := Option.some.inj ei1
  obtain ⟨i2, ei2⟩ := is_v ga2
  obtain rfl : w2 = (.int i2) := Option.some.inj ei2
  obtain ⟨i3, ei3⟩ := is_v ga3
  obtain rfl : w3 = (.int i3) := Option.some.inj ei3
  obtain ⟨i4, ei4⟩ := is_v ga4
  obtain rfl : w4 = (.int i4) := Option.some.inj ei4
  obtain ⟨i5, ei5⟩ := is_v gr5
  obtain rfl : w5 = (.int i5) := Option.some.inj ei5
  obtain ⟨n, o, h1, h2, h3, _, L, rfl, ⟨rfl, N⟩, hq⟩ := rm0 l s _ hw tables_1 i0 i1 i2 i3 i4 i5  s.heap s.heap.size (Nat.le_refl _)  p e ha hc hk s m _ below hf ((Spec.applies_iff_loose hf).mp happ).1 ⟨rfl, State.Warmed39.refl s, rfl⟩ trivial
  refine ⟨n, _, h1, h2, h3, hpost _ _ _ _ _ _ ⟨Cond.after_iff.mpr rfl, Cond.after_iff.mpr (eq_i res_at (Term.int_eval (1)) rfl), trivial⟩ ⟨hq.1, hq.2.1, (hq.2.2.sift fun y hy => Or.inr (N y hy)).mono (by decide) (by decide)⟩⟩
theorem main_1_1 : Claimed_1_1 := comes_1 fun _ _ _ _ _ _ h hF => ⟨h.1, hF⟩
theorem main_1_2 : Claimed_1_2 := comes_1 fun _ _ _ _ _ _ h hF => ⟨h.2.1, hF⟩
end Jvm.Pilot.@@N@@
namespace Jvm.Pilot.@@N@@
open Jvm Jvm.ClassFile Sem Op Lib Jvm.Free Jvm.Stand Jvm.Pilot.@@N@@.Jvm.D
/-! MADE BY PROGRAM (witnessworld.py) out of the Statement's table words and the real class files: 17 classes; the members and pool entries that the words name. The judged class is class 1, her method 3. -/
namespace start1
open Jvm.ClassFile
def u (s : String) : CpInfo := .utf8 (stringToUtf16 s)
/-- a pool by its gaps: so many unusable entries, then the entry; so many at the end -/
def gap : Nat → List CpInfo → List CpInfo
  | 0, r => r
  | n + 1, r => .unusable :: gap n r
def poolList (es : List (Nat × CpInfo)) (last : Nat) : List CpInfo := es.foldr (fun e r => gap e.1 (e.2 :: r)) (gap last [])
def pool (es : List (Nat × CpInfo)) (last : Nat) : Array CpInfo := ⟨poolList es last⟩
def fileOf (pool : Array CpInfo) (this : Nat) (attrs : Array Attribute := #[]) (ms : Array MethodInfo := #[]) (fl : Nat := 33) (sup : Nat := 0) (ifs : Array Nat := #[]) (fds : Array FieldInfo := #[]) : ClassFile where
  minorVersion := 0
  majorVersion := 65
  constantPool := pool
  accessFlags := fl
  thisClass := this
  superClass := sup
  interfaces := ifs
  fields := fds
  methods := ms
  attributes := attrs
def plain (name : String) (sup : Option ClassId) : Class where
  name := name
  kind := .ordinary
  loader := none
  accessFlags := 33
  super := sup
  interfaces := #[]
  cf := none
  fields := #[]
  methods := #[]
  instanceTypes := #[]
  staticTypes := #[]
  resolved := #[]
  callSites := []
  init := .initialized
  statics := none
  mirror := none

def pool0 : Array CpInfo := pool [(5, u "<init>"), (0, u "()V"), (1, .class_ 10), (1, u "java/lang/Object")] 113

def k0c0 : Code := { maxStack := 0, maxLocals := 1, code := object_method_1_code, exceptionTable := #[], attributes := #[] }
def k0m0 : Method := { name := "<init>", desc := "()V", sig := { parameters := [], returnType := none }, accessFlags := 1, code := some k0c0 }
/-- java/lang/Object -/
def k0 : Class := { plain "java/lang/Object" none with
  accessFlags := 33
  interfaces := #[]
  cf := some (fileOf pool0 8 #[] #[{ accessFlags := 1, nameIndex := 5, descriptorIndex := 6, attributes := #[] }] 33 0 #[] #[])
  fields := #[]
  methods := #[k0m0]
  instanceTypes := #[]
  staticTypes := #[]
  resolved := Array.replicate 124 none
  statics := none }

def pool1 : Array CpInfo := pool [(2, .class_ 4), (0, .nameAndType 5 6), (0, u "java/lang/Object"), (0, u "<init>"), (0, u "()V"), (0, .methodref 8 9), (0, .class_ 10), (0, .nameAndType 11 12), (0, u "com/example/palisade/palisade/xml/XmlCursorLinePinLaw"), (0, u "pick"), (0, u "(I)B"), (0, .methodref 8 14), (0, .nameAndType 15 16), (0, u "end"), (0, u "([BI)I"), (0, .integer 2147483647), (0, .class_ 19), (0, u "com/example/palisade/palisade/xml/XmlCursor"), (0, .class_ 21), (0, u "com/example/palisade/palisade/xml/KnownTexts"), (0, .methodref 20 3), (0, .methodref 18 24), (0, .nameAndType 5 25), (0, u "(Lcom/example/palisade/palisade/xml/KnownTexts;)V"), (0, .methodref 18 27), (0, .nameAndType 28 29), (0, u "restart"), (0, u "(Ljava/io/InputStream;)V"), (0, .methodref 18 31), (0, .nameAndType 32 33), (0, u "nameBytes"), (0, u "()[B"), (0, .methodref 18 35), (0, .nameAndType 36 37), (0, u "skip"), (0, u "(I)V"), (0, .methodref 18 39), (0, .nameAndType 40 41), (0, u "line"), (0, u "()I"), (3, u "law"), (0, u "(IIIIII)Z")] 6

def k1m0 : Method := { name := "<init>", desc := "()V", sig := { parameters := [], returnType := none }, accessFlags := 2, code := none }
def k1c1 : Code := { maxStack := 2, maxLocals := 2, code := method_2_code, exceptionTable := #[], attributes := #[] }
def k1m1 : Method := { name := "pick", desc := "(I)B", sig := { parameters := [.int], returnType := some .byte }, accessFlags := 10, code := some k1c1 }
def k1c2 : Code := { maxStack := 3, maxLocals := 2, code := method_3_code, exceptionTable := #[], attributes := #[] }
def k1m2 : Method := { name := "end", desc := "([BI)I", sig := { parameters := [(.array .byte), .int], returnType := some .int }, accessFlags := 10, code := some k1c2 }
def k1c3 : Code := { maxStack := 4, maxLocals := 19, code := code, exceptionTable := #[], attributes := #[] }
def k1m3 : Method := { name := "law", desc := "(IIIIII)Z", sig := { parameters := [.int, .int, .int, .int, .int, .int], returnType := some .boolean }, accessFlags := 9, code := some k1c3 }
/-- com/example/palisade/palisade/xml/XmlCursorLinePinLaw -/
def k1 : Class := { plain "com/example/palisade/palisade/xml/XmlCursorLinePinLaw" (some 0) with
  accessFlags := 49
  interfaces := #[]
  cf := some (fileOf pool1 8 #[] #[{ accessFlags := 2, nameIndex := 5, descriptorIndex := 6, attributes := #[] }, { accessFlags := 10, nameIndex := 11, descriptorIndex := 12, attributes := #[] }, { accessFlags := 10, nameIndex := 15, descriptorIndex := 16, attributes := #[] }, { accessFlags := 9, nameIndex := 45, descriptorIndex := 46, attributes := #[] }] 49 2 #[] #[])
  fields := #[]
  methods := #[k1m0, k1m1, k1m2, k1m3]
  instanceTypes := #[]
  staticTypes := #[]
  resolved := Array.replicate 53 none
  statics := none }

def pool2 : Array CpInfo := pool [(1, .methodref 2 3), (0, .class_ 4), (0, .nameAndType 5 6), (0, u "java/lang/Object"), (0, u "<init>"), (0, u "()V"), (0, .class_ 8), (0, u "com/example/palisade/palisade/xml/XmlCursor"), (0, .integer 65536), (0, .fieldref 7 11), (0, .nameAndType 12 13), (0, u "bytes"), (0, u "[B"), (0, .fieldref 7 15), (0, .nameAndType 16 17), (0, u "keep"), (0, u "I"), (0, .fieldref 7 19), (0, .nameAndType 20 13), (0, u "piece"), (0, .fieldref 7 22), (0, .nameAndType 23 24), (0, u "pieceAscii"), (0, u "Z"), (0, .fieldref 7 26), (0, .nameAndType 27 28), (0, u "known"), (0, u "Lcom/example/palisade/palisade/xml/KnownTexts;"), (0, .fieldref 7 30), (0, .nameAndType 31 32), (0, u "in"), (0, u "Ljava/io/InputStream;"), (0, .fieldref 7 34), (0, .nameAndType 35 17), (0, u "position"), (0, .fieldref 7 37), (0, .nameAndType 38 17), (0, u "limit"), (0, .fieldref 7 40), (0, .nameAndType 41 24), (0, u "endOfInput"), (0, .fieldref 7 43), (0, .nameAndType 44 24), (0, u "endsInsideCharacter"), (0, .fieldref 7 46), (0, .nameAndType 47 24), (0, u "endInView"), (0, .fieldref 7 49), (0, .nameAndType 50 51), (0, u "unfinished"), (0, u "Ljava/lang/String;"), (0, .fieldref 7 53), (0, .nameAndType 54 55), (0, u "unfinishedName"), (0, u "Ljava/lang/CharSequence;"), (0, .fieldref 7 57), (0, .nameAndType 58 17), (0, u "line"), (0, .fieldref 7 60), (0, .nameAndType 61 17), (0, u "counted"), (0, .fieldref 7 63), (0, .nameAndType 64 24), (0, u "afterCarriageReturn"), (0, .fieldref 7 66), (0, .nameAndType 67 24), (0, u "afterLineEnd"), (6, u "()I"), (102, u "ASCII"), (13, u "nameHash"), (2, u "nameColon"), (2, u "nameColonTwice"), (54, u "(I)V"), (67, u "IN_TEXT"), (4, u "skip"), (7, u "pieceLength"), (19, u "BUFFER_SIZE"), (1, u "NAME_START"), (0, u "B"), (1, u "NAME_PART"), (1, u "SPACE"), (1, u "PLAIN_TEXT"), (1, u "PLAIN_VALUE"), (1, u "PLAIN"), (1, u "LINE_FEED"), (0, u "SECOND_LOOK"), (0, u "(Lcom/example/palisade/palisade/xml/KnownTexts;)V"), (2, u "restart"), (0, u "(Ljava/io/InputStream;)V"), (26, u "nameBytes"), (0, u "()[B")] 55

def k2c0 : Code := { maxStack := 2, maxLocals := 2, code := prog_148_method_1_code, exceptionTable := #[], attributes := #[] }
def k2m0 : Method := { name := "<init>", desc := "(Lcom/example/palisade/palisade/xml/KnownTexts;)V", sig := { parameters := [(.object "com/example/palisade/palisade/xml/KnownTexts")], returnType := none }, accessFlags := 0, code := some k2c0 }
def k2c1 : Code := { maxStack := 2, maxLocals := 2, code := prog_148_method_2_code, exceptionTable := #[], attributes := #[] }
def k2m1 : Method := { name := "restart", desc := "(Ljava/io/InputStream;)V", sig := { parameters := [(.object "java/io/InputStream")], returnType := none }, accessFlags := 0, code := some k2c1 }
def k2c2 : Code := { maxStack := 3, maxLocals := 2, code := prog_148_method_6_code, exceptionTable := #[], attributes := #[] }
def k2m2 : Method := { name := "skip", desc := "(I)V", sig := { parameters := [.int], returnType := none }, accessFlags := 0, code := some k2c2 }
def k2c3 : Code := { maxStack := 4, maxLocals := 8, code := prog_148_method_16_code, exceptionTable := #[], attributes := #[] }
def k2m3 : Method := { name := "line", desc := "()I", sig := { parameters := [], returnType := some .int }, accessFlags := 0, code := some k2c3 }
def k2c4 : Code := { maxStack := 1, maxLocals := 1, code := prog_148_method_41_code, exceptionTable := #[], attributes := #[] }
def k2m4 : Method := { name := "nameBytes", desc := "()[B", sig := { parameters := [], returnType := some (.array .byte) }, accessFlags := 0, code := some k2c4 }
/-- com/example/palisade/palisade/xml/XmlCursor -/
def k2 : Class := { plain "com/example/palisade/palisade/xml/XmlCursor" (some 0) with
  accessFlags := 48
  interfaces := #[]
  cf := some (fileOf pool2 7 #[] #[{ accessFlags := 0, nameIndex := 5, descriptorIndex := 370, attributes := #[] }, { accessFlags := 0, nameIndex := 373, descriptorIndex := 374, attributes := #[] }, { accessFlags := 0, nameIndex := 325, descriptorIndex := 252, attributes := #[] }, { accessFlags := 0, nameIndex := 58, descriptorIndex := 74, attributes := #[] }, { accessFlags := 0, nameIndex := 401, descriptorIndex := 402, attributes := #[] }] 48 2 #[] #[{ accessFlags := 26, nameIndex := 353, descriptorIndex := 17, attributes := #[] }, { accessFlags := 26, nameIndex := 355, descriptorIndex := 356, attributes := #[] }, { accessFlags := 26, nameIndex := 358, descriptorIndex := 356, attributes := #[] }, { accessFlags := 26, nameIndex := 360, descriptorIndex := 356, attributes := #[] }, { accessFlags := 26, nameIndex := 362, descriptorIndex := 356, attributes := #[] }, { accessFlags := 26, nameIndex := 364, descriptorIndex := 356, attributes := #[] }, { accessFlags := 26, nameIndex := 177, descriptorIndex := 13, attributes := #[] }, { accessFlags := 26, nameIndex := 366, descriptorIndex := 356, attributes := #[] }, { accessFlags := 26, nameIndex := 368, descriptorIndex := 356, attributes := #[] }, { accessFlags := 26, nameIndex := 369, descriptorIndex := 356, attributes := #[] }, { accessFlags := 26, nameIndex := 320, descriptorIndex := 13, attributes := #[] }, { accessFlags := 18, nameIndex := 27, descriptorIndex := 28, attributes := #[] }, { accessFlags := 2, nameIndex := 31, descriptorIndex := 32, attributes := #[] }, { accessFlags := 2, nameIndex := 12, descriptorIndex := 13, attributes := #[] }, { accessFlags := 2, nameIndex := 35, descriptorIndex := 17, attributes := #[] }, { accessFlags := 2, nameIndex := 38, descriptorIndex := 17, attributes := #[] }, { accessFlags := 2, nameIndex := 16, descriptorIndex := 17, attributes := #[] }, { accessFlags := 2, nameIndex := 41, descriptorIndex := 24, attributes := #[] }, { accessFlags := 2, nameIndex := 44, descriptorIndex := 24, attributes := #[] }, { accessFlags := 2, nameIndex := 47, descriptorIndex := 24, attributes := #[] }, { accessFlags := 2, nameIndex := 50, descriptorIndex := 51, attributes := #[] }, { accessFlags := 2, nameIndex := 54, descriptorIndex := 55, attributes := #[] }, { accessFlags := 2, nameIndex := 58, descriptorIndex := 17, attributes := #[] }, { accessFlags := 2, nameIndex := 61, descriptorIndex := 17, attributes := #[] }, { accessFlags := 2, nameIndex := 64, descriptorIndex := 24, attributes := #[] }, { accessFlags := 2, nameIndex := 67, descriptorIndex := 24, attributes := #[] }, { accessFlags := 2, nameIndex := 191, descriptorIndex := 17, attributes := #[] }, { accessFlags := 2, nameIndex := 194, descriptorIndex := 17, attributes := #[] }, { accessFlags := 2, nameIndex := 197, descriptorIndex := 24, attributes := #[] }, { accessFlags := 2, nameIndex := 20, descriptorIndex := 13, attributes := #[] }, { accessFlags := 2, nameIndex := 333, descriptorIndex := 17, attributes := #[] }, { accessFlags := 2, nameIndex := 23, descriptorIndex := 24, attributes := #[] }])
  fields := #[{ name := "BUFFER_SIZE", type := .int, accessFlags := 26, slot := 0, constantValue := 0 }, { name := "NAME_START", type := .byte, accessFlags := 26, slot := 1, constantValue := 0 }, { name := "NAME_PART", type := .byte, accessFlags := 26, slot := 2, constantValue := 0 }, { name := "SPACE", type := .byte, accessFlags := 26, slot := 3, constantValue := 0 }, { name := "PLAIN_TEXT", type := .byte, accessFlags := 26, slot := 4, constantValue := 0 }, { name := "PLAIN_VALUE", type := .byte, accessFlags := 26, slot := 5, constantValue := 0 }, { name := "ASCII", type := (.array .byte), accessFlags := 26, slot := 6, constantValue := 0 }, { name := "PLAIN", type := .byte, accessFlags := 26, slot := 7, constantValue := 0 }, { name := "LINE_FEED", type := .byte, accessFlags := 26, slot := 8, constantValue := 0 }, { name := "SECOND_LOOK", type := .byte, accessFlags := 26, slot := 9, constantValue := 0 }, { name := "IN_TEXT", type := (.array .byte), accessFlags := 26, slot := 10, constantValue := 0 }, { name := "known", type := (.object "com/example/palisade/palisade/xml/KnownTexts"), accessFlags := 18, slot := 0, constantValue := 0 }, { name := "in", type := (.object "java/io/InputStream"), accessFlags := 2, slot := 1, constantValue := 0 }, { name := "bytes", type := (.array .byte), accessFlags := 2, slot := 2, constantValue := 0 }, { name := "position", type := .int, accessFlags := 2, slot := 3, constantValue := 0 }, { name := "limit", type := .int, accessFlags := 2, slot := 4, constantValue := 0 }, { name := "keep", type := .int, accessFlags := 2, slot := 5, constantValue := 0 }, { name := "endOfInput", type := .boolean, accessFlags := 2, slot := 6, constantValue := 0 }, { name := "endsInsideCharacter", type := .boolean, accessFlags := 2, slot := 7, constantValue := 0 }, { name := "endInView", type := .boolean, accessFlags := 2, slot := 8, constantValue := 0 }, { name := "unfinished", type := (.object "java/lang/String"), accessFlags := 2, slot := 9, constantValue := 0 }, { name := "unfinishedName", type := (.object "java/lang/CharSequence"), accessFlags := 2, slot := 10, constantValue := 0 }, { name := "line", type := .int, accessFlags := 2, slot := 11, constantValue := 0 }, { name := "counted", type := .int, accessFlags := 2, slot := 12, constantValue := 0 }, { name := "afterCarriageReturn", type := .boolean, accessFlags := 2, slot := 13, constantValue := 0 }, { name := "afterLineEnd", type := .boolean, accessFlags := 2, slot := 14, constantValue := 0 }, { name := "nameHash", type := .int, accessFlags := 2, slot := 15, constantValue := 0 }, { name := "nameColon", type := .int, accessFlags := 2, slot := 16, constantValue := 0 }, { name := "nameColonTwice", type := .boolean, accessFlags := 2, slot := 17, constantValue := 0 }, { name := "piece", type := (.array .byte), accessFlags := 2, slot := 18, constantValue := 0 }, { name := "pieceLength", type := .int, accessFlags := 2, slot := 19, constantValue := 0 }, { name := "pieceAscii", type := .boolean, accessFlags := 2, slot := 20, constantValue := 0 }]
  methods := #[k2m0, k2m1, k2m2, k2m3, k2m4]
  instanceTypes := #[(.object "com/example/palisade/palisade/xml/KnownTexts"), (.object "java/io/InputStream"), (.array .byte), .int, .int, .int, .boolean, .boolean, .boolean, (.object "java/lang/String"), (.object "java/lang/CharSequence"), .int, .int, .boolean, .boolean, .int, .int, .boolean, (.array .byte), .int, .boolean]
  staticTypes := #[.int, .byte, .byte, .byte, .byte, .byte, (.array .byte), .byte, .byte, .byte, (.array .byte)]
  resolved := Array.replicate 458 none
  statics := none }

def pool3 : Array CpInfo := pool [(1, .class_ 2), (0, u "com/example/palisade/palisade/xml/NamespaceBindings$Texts"), (0, .class_ 4), (0, u "java/lang/Object"), (5, .class_ 11), (0, u "com/example/palisade/palisade/xml/NamespaceBindings")] 2

/-- com/example/palisade/palisade/xml/NamespaceBindings$Texts -/
def k3 : Class := { plain "com/example/palisade/palisade/xml/NamespaceBindings$Texts" (some 0) with
  accessFlags := 1536
  interfaces := #[]
  cf := some (fileOf pool3 1 #[.nestHost 10] #[] 1536 3 #[] #[])
  fields := #[]
  methods := #[]
  instanceTypes := #[]
  staticTypes := #[]
  resolved := Array.replicate 14 none
  statics := none }

def pool4 : Array CpInfo := pool [(1, .methodref 2 3), (0, .class_ 4), (0, .nameAndType 5 6), (0, u "java/lang/Object"), (0, u "<init>"), (0, u "()V"), (0, .class_ 8), (0, u "com/example/palisade/palisade/xml/KnownTexts"), (0, .class_ 10), (0, u "[B"), (0, .fieldref 7 12), (0, .nameAndType 13 14), (0, u "knownBytes"), (0, u "[[B"), (0, .class_ 16), (0, u "java/lang/String"), (0, .fieldref 7 18), (0, .nameAndType 19 20), (0, u "known"), (0, u "[Ljava/lang/String;"), (0, .integer 65536), (0, .fieldref 7 23), (0, .nameAndType 24 10), (0, u "metOnce"), (0, .fieldref 7 26), (0, .nameAndType 27 10), (0, u "metOnceLengths"), (18, u "POWERS_OF_31"), (0, u "[I"), (36, .class_ 85), (0, u "com/example/palisade/palisade/xml/NamespaceBindings$Texts"), (0, u "LONGEST"), (0, u "I"), (2, u "SIZE")] 16

def k4c0 : Code := { maxStack := 2, maxLocals := 1, code := prog_141_method_1_code, exceptionTable := #[], attributes := #[] }
def k4m0 : Method := { name := "<init>", desc := "()V", sig := { parameters := [], returnType := none }, accessFlags := 0, code := some k4c0 }
/-- com/example/palisade/palisade/xml/KnownTexts -/
def k4 : Class := { plain "com/example/palisade/palisade/xml/KnownTexts" (some 0) with
  accessFlags := 48
  interfaces := #[3]
  cf := some (fileOf pool4 7 #[] #[{ accessFlags := 0, nameIndex := 5, descriptorIndex := 6, attributes := #[] }] 48 2 #[84] #[{ accessFlags := 24, nameIndex := 86, descriptorIndex := 87, attributes := #[] }, { accessFlags := 26, nameIndex := 90, descriptorIndex := 87, attributes := #[] }, { accessFlags := 26, nameIndex := 46, descriptorIndex := 47, attributes := #[] }, { accessFlags := 18, nameIndex := 13, descriptorIndex := 14, attributes := #[] }, { accessFlags := 18, nameIndex := 19, descriptorIndex := 20, attributes := #[] }, { accessFlags := 18, nameIndex := 24, descriptorIndex := 10, attributes := #[] }, { accessFlags := 18, nameIndex := 27, descriptorIndex := 10, attributes := #[] }])
  fields := #[{ name := "LONGEST", type := .int, accessFlags := 24, slot := 0, constantValue := 0 }, { name := "SIZE", type := .int, accessFlags := 26, slot := 1, constantValue := 0 }, { name := "POWERS_OF_31", type := (.array .int), accessFlags := 26, slot := 2, constantValue := 0 }, { name := "knownBytes", type := (.array (.array .byte)), accessFlags := 18, slot := 0, constantValue := 0 }, { name := "known", type := (.array (.object "java/lang/String")), accessFlags := 18, slot := 1, constantValue := 0 }, { name := "metOnce", type := (.array .byte), accessFlags := 18, slot := 2, constantValue := 0 }, { name := "metOnceLengths", type := (.array .byte), accessFlags := 18, slot := 3, constantValue := 0 }]
  methods := #[k4m0]
  instanceTypes := #[(.array (.array .byte)), (.array (.object "java/lang/String")), (.array .byte), (.array .byte)]
  staticTypes := #[.int, .int, (.array .int)]
  resolved := Array.replicate 107 none
  statics := none }

def pool5 : Array CpInfo := pool [(1, .class_ 2), (0, u "java/io/Serializable"), (0, .class_ 4), (0, u "java/lang/Object")] 2

/-- java/io/Serializable -/
def k5 : Class := { plain "java/io/Serializable" (some 0) with
  accessFlags := 1537
  interfaces := #[]
  cf := some (fileOf pool5 1 #[] #[] 1537 3 #[] #[])
  fields := #[]
  methods := #[]
  instanceTypes := #[]
  staticTypes := #[]
  resolved := Array.replicate 7 none
  statics := none }

def pool6 : Array CpInfo := pool [(1, .class_ 2), (0, u "java/lang/Comparable"), (0, .class_ 4), (0, u "java/lang/Object")] 7

/-- java/lang/Comparable -/
def k6 : Class := { plain "java/lang/Comparable" (some 0) with
  accessFlags := 1537
  interfaces := #[]
  cf := some (fileOf pool6 1 #[] #[] 1537 3 #[] #[])
  fields := #[]
  methods := #[]
  instanceTypes := #[]
  staticTypes := #[]
  resolved := Array.replicate 12 none
  statics := none }

def pool7 : Array CpInfo := pool [(2, .class_ 4), (1, u "java/lang/CharSequence"), (42, .class_ 48), (0, u "java/lang/CharSequence$1CodePointIterator"), (10, .class_ 60), (0, u "java/lang/CharSequence$1CharIterator"), (5, .class_ 67), (0, u "java/lang/Object")] 63

/-- java/lang/CharSequence -/
def k7 : Class := { plain "java/lang/CharSequence" (some 0) with
  accessFlags := 1537
  interfaces := #[]
  cf := some (fileOf pool7 2 #[.nestMembers #[47, 59]] #[] 1537 66 #[] #[])
  fields := #[]
  methods := #[]
  instanceTypes := #[]
  staticTypes := #[]
  resolved := Array.replicate 131 none
  statics := none }

def pool8 : Array CpInfo := pool [(1, .class_ 2), (0, u "java/lang/constant/Constable"), (0, .class_ 4), (0, u "java/lang/Object")] 6

/-- java/lang/constant/Constable -/
def k8 : Class := { plain "java/lang/constant/Constable" (some 0) with
  accessFlags := 1537
  interfaces := #[]
  cf := some (fileOf pool8 1 #[] #[] 1537 3 #[] #[])
  fields := #[]
  methods := #[]
  instanceTypes := #[]
  staticTypes := #[]
  resolved := Array.replicate 11 none
  statics := none }

def pool9 : Array CpInfo := pool [(1, .class_ 2), (0, u "java/lang/constant/ConstantDesc"), (0, .class_ 4), (0, u "java/lang/Object")] 32

/-- java/lang/constant/ConstantDesc -/
def k9 : Class := { plain "java/lang/constant/ConstantDesc" (some 0) with
  accessFlags := 1537
  interfaces := #[]
  cf := some (fileOf pool9 1 #[] #[] 1537 3 #[] #[])
  fields := #[]
  methods := #[]
  instanceTypes := #[]
  staticTypes := #[]
  resolved := Array.replicate 37 none
  statics := none }

def pool10 : Array CpInfo := pool [(2, .class_ 4), (1, u "java/lang/Object"), (0, u "<init>"), (0, u "()V"), (3, .class_ 12), (1, u "java/lang/String"), (0, u "value"), (0, u "[B"), (2, u "coder"), (0, u "B"), (2, u "hash"), (0, u "I"), (2, u "hashIsZero"), (0, u "Z"), (13, u "COMPACT_STRINGS"), (534, .class_ 576), (0, u "java/lang/CharSequence"), (22, u "CASE_INSENSITIVE_ORDER"), (0, u "Ljava/util/Comparator;"), (500, u "serialPersistentFields"), (0, u "[Ljava/io/ObjectStreamField;"), (0, .class_ 1104), (0, u "java/lang/String$CaseInsensitiveComparator"), (1, .class_ 1107), (0, u "java/io/Serializable"), (0, .class_ 1109), (0, u "java/lang/Comparable"), (0, .class_ 1111), (0, u "java/lang/constant/Constable"), (0, .class_ 1113), (0, u "java/lang/constant/ConstantDesc"), (2, u "serialVersionUID"), (0, u "J"), (3, u "REPL"), (0, u "C"), (2, u "LATIN1"), (1, u "UTF16")] 323

def k10m0 : Method := { name := "<init>", desc := "()V", sig := { parameters := [], returnType := none }, accessFlags := 1, code := none }
/-- java/lang/String -/
def k10 : Class := { plain "java/lang/String" (some 0) with
  accessFlags := 49
  interfaces := #[5, 6, 7, 8, 9]
  cf := some (fileOf pool10 10 #[.nestMembers #[1103]] #[{ accessFlags := 1, nameIndex := 5, descriptorIndex := 6, attributes := #[] }] 49 2 #[1106, 1108, 575, 1110, 1112] #[{ accessFlags := 18, nameIndex := 13, descriptorIndex := 14, attributes := #[] }, { accessFlags := 18, nameIndex := 17, descriptorIndex := 18, attributes := #[] }, { accessFlags := 2, nameIndex := 21, descriptorIndex := 22, attributes := #[] }, { accessFlags := 2, nameIndex := 25, descriptorIndex := 26, attributes := #[] }, { accessFlags := 26, nameIndex := 1116, descriptorIndex := 1117, attributes := #[] }, { accessFlags := 24, nameIndex := 40, descriptorIndex := 26, attributes := #[] }, { accessFlags := 26, nameIndex := 1101, descriptorIndex := 1102, attributes := #[] }, { accessFlags := 26, nameIndex := 1121, descriptorIndex := 1122, attributes := #[] }, { accessFlags := 25, nameIndex := 599, descriptorIndex := 600, attributes := #[] }, { accessFlags := 24, nameIndex := 1125, descriptorIndex := 18, attributes := #[] }, { accessFlags := 24, nameIndex := 1127, descriptorIndex := 18, attributes := #[] }])
  fields := #[{ name := "value", type := (.array .byte), accessFlags := 18, slot := 0, constantValue := 0 }, { name := "coder", type := .byte, accessFlags := 18, slot := 1, constantValue := 0 }, { name := "hash", type := .int, accessFlags := 2, slot := 2, constantValue := 0 }, { name := "hashIsZero", type := .boolean, accessFlags := 2, slot := 3, constantValue := 0 }, { name := "serialVersionUID", type := .long, accessFlags := 26, slot := 0, constantValue := 0 }, { name := "COMPACT_STRINGS", type := .boolean, accessFlags := 24, slot := 1, constantValue := 0 }, { name := "serialPersistentFields", type := (.array (.object "java/io/ObjectStreamField")), accessFlags := 26, slot := 2, constantValue := 0 }, { name := "REPL", type := .char, accessFlags := 26, slot := 3, constantValue := 0 }, { name := "CASE_INSENSITIVE_ORDER", type := (.object "java/util/Comparator"), accessFlags := 25, slot := 4, constantValue := 0 }, { name := "LATIN1", type := .byte, accessFlags := 24, slot := 5, constantValue := 0 }, { name := "UTF16", type := .byte, accessFlags := 24, slot := 6, constantValue := 0 }]
  methods := #[k10m0]
  instanceTypes := #[(.array .byte), .byte, .int, .boolean]
  staticTypes := #[.long, .boolean, (.array (.object "java/io/ObjectStreamField")), .char, (.object "java/util/Comparator"), .byte, .byte]
  resolved := Array.replicate 1451 none
  statics := none }

def pool11 : Array CpInfo := pool [(1, u "java/lang/Cloneable"), (0, .class_ 1), (0, u "java/lang/Object"), (0, .class_ 3)] 3

/-- java/lang/Cloneable -/
def k11 : Class := { plain "java/lang/Cloneable" (some 0) with
  accessFlags := 1537
  interfaces := #[]
  cf := some (fileOf pool11 2 #[] #[] 1537 4 #[] #[])
  fields := #[]
  methods := #[]
  instanceTypes := #[]
  staticTypes := #[]
  resolved := Array.replicate 8 none
  statics := none }

/-- the primitive byte -/
def k12 : Class := { plain "byte" none with kind := .primitive 'B', accessFlags := 0x411 }
/-- [B -/
def k13 : Class := { plain "[B" (some 0) with kind := .array 12 .byte, interfaces := #[11, 5], accessFlags := 1041 }

/-- the primitive int -/
def k14 : Class := { plain "int" none with kind := .primitive 'I', accessFlags := 0x411 }
/-- [I -/
def k15 : Class := { plain "[I" (some 0) with kind := .array 14 .int, interfaces := #[11, 5], accessFlags := 1041 }

/-- [Ljava/lang/String; -/
def k16 : Class := { plain "[Ljava/lang/String;" (some 0) with kind := .array 10 (.object "java/lang/String"), interfaces := #[11, 5], accessFlags := 1041 }
/-- [[B -/
def k17 : Class := { plain "[[B" (some 0) with kind := .array 13 (.array .byte), interfaces := #[11, 5], accessFlags := 1041 }

def heap : Heap := #[]
def classes : Array Class := #[k0, k1, k2, k3, k4, k5, k6, k7, k8, k9, k10, k11, k12, k13, k14, k15, k16, k17]
def interned : List (Array UInt16 × Addr) := []
def slotsUsed : Nat := 0
def theMethod : MethodId := ⟨1, 3⟩
def args0 : Array Value := #[.int 5, .int 6, .int 7, .int 8, .int 9, .int 10]
def aboutOver (below : List Frame) : State where
  vm := { classes := classes, interned := interned.toArray }
  heap := heap
  slotsUsed := slotsUsed
  threads := #[{ frames := .invoking theMethod args0 :: below }]
def below0 : List Frame := [.native { method := ⟨0, 0⟩, args := #[] }]
def about1 : State := aboutOver below0
def p0 : Program := .bare "" "" ""
def e0 : Env := launch0.env 0 0 0
theorem w_frames : about1.frames = Frame.invoking theMethod args0 :: below0 := rfl
set_option maxRecDepth 65536 in
theorem w_args : argsFit about1.vm theMethod args0 = true := by decide +kernel
set_option maxRecDepth 65536 in
theorem w_heap : heapFits about1 = true := by decide +kernel
set_option maxRecDepth 65536 in
theorem w_runnable : about1.curStatus? = some .runnable := by decide +kernel
set_option maxRecDepth 65536 in
theorem w_alone : about1.alone = true := by decide +kernel
set_option maxRecDepth 65536 in
theorem w_named : about1.methodNamed? x = some theMethod := by decide +kernel
set_option maxRecDepth 65536 in
theorem w_hears : about1.hears theMethod below0 = true := by decide +kernel
set_option maxRecDepth 65536 in
theorem w_ripe : about1.ripe theMethod args0 below0 = true := by decide +kernel
theorem w_running : about1.status = .running := rfl
set_option maxRecDepth 65536 in
theorem w_room : about1.hasRoom e0.platform room_1 = true :=
  launch0.hasRoom_least _ room_1 (by decide +kernel) (by decide +kernel) (by decide +kernel) (by decide +kernel) (by decide +kernel) (by decide +kernel)
theorem allAtoms_all (ts : List Jvm.Cond) (a : Array Jvm.Value) (st : Jvm.State) : (allAtoms ts).before a st = ts.all (fun c => c.before a st) := by
  induction ts with
  | nil => rfl
  | cons c t ih =>
    show (Jvm.Cond.and c (allAtoms t)).before a st = _
    rw [Jvm.Cond.before_and, ih, List.all_cons]
def words1 : List Jvm.Cond := Jvm.Cond.code x code maxLocals ret :: tables_1
/-- a 'code' word, met by the world's own term for the bytes: nothing is compared byte by byte -/
theorem code_word {y : MethodName} {bytes : ByteArray} {mx : Nat} {rt : Option FieldType} {a : Array Value} {s : State} {m : MethodId} {meth : Method} {c : Code} (h1 : s.methodNamed? y = some m) (h2 : s.vm.method? m = some meth) (h3 : meth.code = some c) (h4 : c.code = bytes)
    (h5 : (c.maxLocals == mx && c.exceptionTable.isEmpty && decide (c.maxStack ≤ mostOperands) && decide (meth.sig.returnType = rt) && !meth.locks && decide (parseMethodDescriptor y.desc = some meth.sig)) = true) : (Jvm.Cond.code y bytes mx rt).before a s = true := by
  simp only [Bool.and_eq_true, beq_iff_eq, Bool.not_eq_true', decide_eq_true_eq] at h5
  obtain ⟨⟨⟨⟨⟨g1, g2⟩, g3⟩, g4⟩, g5⟩, g6⟩ := h5
  simp [Cond.before, Cond.holds, Cond.value, h1, h2, h3, h4, g1, g2, g3, g4, g5, g6]
def isCode : Jvm.Cond → Bool
  | .code _ _ _ _ => true
  | _ => false
theorem all_split {L : List Jvm.Cond} {P : Jvm.Cond → Bool} (h1 : L.all (fun c => isCode c || P c) = true) (h2 : ∀ c ∈ L.filter isCode, P c = true) : L.all P = true := by
  refine List.all_eq_true.mpr fun c hc => ?_
  have h := List.all_eq_true.mp h1 c hc
  rcases Bool.eq_false_or_eq_true (isCode c) with hi | hi
  · exact h2 c (List.mem_filter.mpr ⟨hc, hi⟩)
  · simpa [hi] using h
set_option maxRecDepth 65536 in
theorem w_c0 : (Jvm.Cond.code x code maxLocals ret).before args0 about1 = true := code_word (m := ⟨1, 3⟩) (meth := k1m3) (c := k1c3) (by decide +kernel) rfl rfl rfl (by decide +kernel)
set_option maxRecDepth 65536 in
theorem w_c1 : (Jvm.Cond.code ({ cls := "com/example/palisade/palisade/xml/XmlCursorLinePinLaw", name := "pick", desc := "(I)B" } : Jvm.MethodName) method_2_code (2 : Nat) (Option.some Jvm.ClassFile.FieldType.byte)).before args0 about1 = true := code_word (m := ⟨1, 1⟩) (meth := k1m1) (c := k1c1) (by decide +kernel) rfl rfl rfl (by decide +kernel)
set_option maxRecDepth 65536 in
theorem w_c2 : (Jvm.Cond.code ({ cls := "com/example/palisade/palisade/xml/XmlCursorLinePinLaw", name := "end", desc := "([BI)I" } : Jvm.MethodName) method_3_code (2 : Nat) (Option.some Jvm.ClassFile.FieldType.int)).before args0 about1 = true := code_word (m := ⟨1, 2⟩) (meth := k1m2) (c := k1c2) (by decide +kernel) rfl rfl rfl (by decide +kernel)
set_option maxRecDepth 65536 in
theorem w_c3 : (Jvm.Cond.code ({ cls := "com/example/palisade/palisade/xml/KnownTexts", name := "<init>", desc := "()V" } : Jvm.MethodName) prog_141_method_1_code (1 : Nat) (Option.none : Option Jvm.ClassFile.FieldType)).before args0 about1 = true := code_word (m := ⟨4, 0⟩) (meth := k4m0) (c := k4c0) (by decide +kernel) rfl rfl rfl (by decide +kernel)
set_option maxRecDepth 65536 in
theorem w_c4 : (Jvm.Cond.code ({ cls := "java/lang/Object", name := "<init>", desc := "()V" } : Jvm.MethodName) object_method_1_code (1 : Nat) (Option.none : Option Jvm.ClassFile.FieldType)).before args0 about1 = true := code_word (m := ⟨0, 0⟩) (meth := k0m0) (c := k0c0) (by decide +kernel) rfl rfl rfl (by decide +kernel)
set_option maxRecDepth 65536 in
theorem w_c5 : (Jvm.Cond.code ({ cls := "com/example/palisade/palisade/xml/XmlCursor", name := "<init>", desc := "(Lcom/example/palisade/palisade/xml/KnownTexts;)V" } : Jvm.MethodName) prog_148_method_1_code (2 : Nat) (Option.none : Option Jvm.ClassFile.FieldType)).before args0 about1 = true := code_word (m := ⟨2, 0⟩) (meth := k2m0) (c := k2c0) (by decide +kernel) rfl rfl rfl (by decide +kernel)
set_option maxRecDepth 65536 in
theorem w_c6 : (Jvm.Cond.code ({ cls := "com/example/palisade/palisade/xml/XmlCursor", name := "restart", desc := "(Ljava/io/InputStream;)V" } : Jvm.MethodName) prog_148_method_2_code (2 : Nat) (Option.none : Option Jvm.ClassFile.FieldType)).before args0 about1 = true := code_word (m := ⟨2, 1⟩) (meth := k2m1) (c := k2c1) (by decide +kernel) rfl rfl rfl (by decide +kernel)
set_option maxRecDepth 65536 in
theorem w_c7 : (Jvm.Cond.code ({ cls := "com/example/palisade/palisade/xml/XmlCursor", name := "nameBytes", desc := "()[B" } : Jvm.MethodName) prog_148_method_41_code (1 : Nat) (Option.some (Jvm.ClassFile.FieldType.array Jvm.ClassFile.FieldType.byte))).before args0 about1 = true := code_word (m := ⟨2, 4⟩) (meth := k2m4) (c := k2c4) (by decide +kernel) rfl rfl rfl (by decide +kernel)
set_option maxRecDepth 65536 in
theorem w_c8 : (Jvm.Cond.code ({ cls := "com/example/palisade/palisade/xml/XmlCursor", name := "skip", desc := "(I)V" } : Jvm.MethodName) prog_148_method_6_code (2 : Nat) (Option.none : Option Jvm.ClassFile.FieldType)).before args0 about1 = true := code_word (m := ⟨2, 2⟩) (meth := k2m2) (c := k2c2) (by decide +kernel) rfl rfl rfl (by decide +kernel)
set_option maxRecDepth 65536 in
theorem w_c9 : (Jvm.Cond.code ({ cls := "com/example/palisade/palisade/xml/XmlCursor", name := "line", desc := "()I" } : Jvm.MethodName) prog_148_method_16_code (8 : Nat) (Option.some Jvm.ClassFile.FieldType.int)).before args0 about1 = true := code_word (m := ⟨2, 3⟩) (meth := k2m3) (c := k2c3) (by decide +kernel) rfl rfl rfl (by decide +kernel)
def codes1 : List Jvm.Cond := [Jvm.Cond.code x code maxLocals ret, Jvm.Cond.code ({ cls := "com/example/palisade/palisade/xml/XmlCursorLinePinLaw", name := "pick", desc := "(I)B" } : Jvm.MethodName) method_2_code (2 : Nat) (Option.some Jvm.ClassFile.FieldType.byte), Jvm.Cond.code ({ cls := "com/example/palisade/palisade/xml/XmlCursorLinePinLaw", name := "end", desc := "([BI)I" } : Jvm.MethodName) method_3_code (2 : Nat) (Option.some Jvm.ClassFile.FieldType.int), Jvm.Cond.code ({ cls := "com/example/palisade/palisade/xml/KnownTexts", name := "<init>", desc := "()V" } : Jvm.MethodName) prog_141_method_1_code (1 : Nat) (Option.none : Option Jvm.ClassFile.FieldType), Jvm.Cond.code ({ cls := "java/lang/Object", name := "<init>", desc := "()V" } : Jvm.MethodName) object_method_1_code (1 : Nat) (Option.none : Option Jvm.ClassFile.FieldType), Jvm.Cond.code ({ cls := "com/example/palisade/palisade/xml/XmlCursor", name := "<init>", desc := "(Lcom/example/palisade/palisade/xml/KnownTexts;)V" } : Jvm.MethodName) prog_148_method_1_code (2 : Nat) (Option.none : Option Jvm.ClassFile.FieldType), Jvm.Cond.code ({ cls := "com/example/palisade/palisade/xml/XmlCursor", name := "restart", desc := "(Ljava/io/InputStream;)V" } : Jvm.MethodName) prog_148_method_2_code (2 : Nat) (Option.none : Option Jvm.ClassFile.FieldType), Jvm.Cond.code ({ cls := "com/example/palisade/palisade/xml/XmlCursor", name := "nameBytes", desc := "()[B" } : Jvm.MethodName) prog_148_method_41_code (1 : Nat) (Option.some (Jvm.ClassFile.FieldType.array Jvm.ClassFile.FieldType.byte)), Jvm.Cond.code ({ cls := "com/example/palisade/palisade/xml/XmlCursor", name := "skip", desc := "(I)V" } : Jvm.MethodName) prog_148_method_6_code (2 : Nat) (Option.none : Option Jvm.ClassFile.FieldType), Jvm.Cond.code ({ cls := "com/example/palisade/palisade/xml/XmlCursor", name := "line", desc := "()I" } : Jvm.MethodName) prog_148_method_16_code (8 : Nat) (Option.some Jvm.ClassFile.FieldType.int)]
set_option maxRecDepth 65536 in
theorem codes_eq : words1.filter isCode = codes1 := rfl
theorem w_codes : ∀ c ∈ words1.filter isCode, c.before args0 about1 = true := by
  rw [codes_eq]
  intro c hc
  simp only [codes1, List.mem_cons, List.not_mem_nil, or_false] at hc
  rcases hc with rfl | rfl | rfl | rfl | rfl | rfl | rfl | rfl | rfl | rfl
  · exact w_c0
  · exact w_c1
  · exact w_c2
  · exact w_c3
  · exact w_c4
  · exact w_c5
  · exact w_c6
  · exact w_c7
  · exact w_c8
  · exact w_c9
set_option maxRecDepth 65536 in
theorem w_t1 : (words1.take 24).all (fun c => isCode c || c.before args0 about1) = true := by decide +kernel
set_option maxRecDepth 65536 in
theorem w_t2 : ((words1.drop 24).take 24).all (fun c => isCode c || c.before args0 about1) = true := by decide +kernel
set_option maxRecDepth 65536 in
theorem w_t3 : (((words1.drop 24).drop 24).take 24).all (fun c => isCode c || c.before args0 about1) = true := by decide +kernel
set_option maxRecDepth 65536 in
theorem w_t4 : (((words1.drop 24).drop 24).drop 24).all (fun c => isCode c || c.before args0 about1) = true := by decide +kernel
theorem w_tables : (allAtoms (Jvm.Cond.code x code maxLocals ret :: tables_1)).before args0 about1 = true := by
  rw [allAtoms_all]
  show words1.all (fun c => c.before args0 about1) = true
  refine all_split ?_ w_codes
  rw [← List.take_append_drop 24 words1, List.all_append, w_t1, ← List.take_append_drop 24 (words1.drop 24), List.all_append, w_t2, ← List.take_append_drop 24 ((words1.drop 24).drop 24), List.all_append, w_t3, w_t4]
  rfl
set_option maxRecDepth 65536 in
theorem w_case : (Jvm.Cond.and given_1 narrow_1).before args0 about1 = true := by decide +kernel
theorem w_applies : (headSpec (Jvm.Cond.code x code maxLocals ret :: tables_1) room_1).applies x e0.platform about1 = true :=
  (Spec.applies_iff w_frames).mpr ⟨w_running, w_runnable, w_alone, w_named, w_hears, w_ripe, w_room, w_tables⟩
theorem atStart : AtStart classFile x code maxLocals ret World_1 tables_1 room_1 Calls_1 rest_1 Pre_1 launch0 p0 e0 about1 theMethod args0 below0 :=
  ⟨lists_1, trivial, launch0.admits_env _ _ _, launch0.least_env, fairChoices_fair.cas, fairChoices_fair.clock, w_frames, w_args, w_heap, w_applies, trivial, trivial, w_case⟩
end start1
theorem witness_1 : WitnessClaimed_1 := ⟨start1.p0, start1.e0, start1.about1, start1.theMethod, start1.args0, start1.below0, start1.atStart⟩
end Jvm.Pilot.@@N@@
