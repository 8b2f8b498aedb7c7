import JvmDerived
import JvmDerived.Pilot.@@N@@Statement
import JvmDerived.Pilot.@@N@@Code
set_option linter.unusedVariables false
set_option linter.unusedSimpArgs false
namespace Jvm.RoadKit
open Sem ClassFile Op Lib Jvm.Stand Jvm.Free Jvm.LawKit
section New
variable {p : Program} {l : Launch} {e : Env} {R : Room} {s : State} {m : MethodId} {args : Array Value} {below : List Frame} {meth : Method} {c : Code} {T : State} {locs : List Loc} {cells slots : Nat}
theorem retI (X : Stand p l e R s m args below meth c T locs cells slots) (hx : p.tables.exec = Jvm.exec) {pc : Nat} {Ls : Array Slot} {z : Int32} {rest : List Value} (hret : meth.sig.returnType = some .int) (hd : decode c.code pc = .ok (.ireturn, 1)) {fs : List Frame}
    (hl : ∀ (f : JFrame) (acts : List Action), f.method = m → f.locked = none → f.entered = [] → (doReturn e (T.setTop f) acts (some (.int z))).1 = T.setFrames fs) : Steps p.tables e below (T.setTop (mkF m pc Ls (.int z :: rest))) (T.setFrames fs) := by
  have hm' : T.vm.method? m = some meth := X.method'
  have hn : narrow .int (.int z) = .int z := rfl
  show Steps p.tables e below (T.setTop { method := m, pc := pc, locals := Ls, stack := _ :: rest, locked := none }) _
  jvm_step X.here [X.here.top, hx, hd, hm', hret, hn]
  first | (intro acts; rw [hl _ acts rfl rfl rfl]) | rw [hl _ _ rfl rfl rfl]
  exact Steps.refl _
end New
end Jvm.RoadKit
namespace Jvm.Pilot.@@N@@
open Jvm Jvm.ClassFile Sem Op Lib Jvm.Free Jvm.Stand Jvm.LawKit Jvm.RoadKit Bundle Jvm.Pilot.@@N@@.Jvm.D
theorem own_w {a0 : Array Value} {Z : State} (hw : ∀ d ∈ tables_1, d.before a0 Z = true) (i : Nat) {d : Jvm.Cond} (h : tables_1[i]? = some d) : d.before a0 Z = true := hw d (List.mem_of_getElem? h)
/-- from U the run comes to the method's end, and Q holds there -/
def own_Go (tb : Tables) (e : Env) (below : List Frame) (s : State) (C N : Nat) (Q : Option Value → Heap → List Loc → Prop) (U : State) : Prop :=
  ∃ t o, Steps tb e below U t ∧ t.status = .running ∧ Ended t below o ∧ ∃ v L, o = .returned v ∧ Q v t.heap L ∧ FrameEnd s o t L C N
theorem own_step {tb : Tables} {e : Env} {below : List Frame} {s : State} {C N : Nat} {Q : Option Value → Heap → List Loc → Prop} {U U' : State} (h : ∀ t, Steps tb e below U' t → Steps tb e below U t) (k : own_Go tb e below s C N Q U') : own_Go tb e below s C N Q U := by
  obtain ⟨t, o, h1, h2⟩ := k
  exact ⟨t, o, h t h1, h2⟩
theorem own_steps {tb : Tables} {e : Env} {below : List Frame} {s : State} {C N : Nat} {Q : Option Value → Heap → List Loc → Prop} {U U' : State} (h : Steps tb e below U U') (k : own_Go tb e below s C N Q U') : own_Go tb e below s C N Q U := own_step (fun _ q => h.trans q) k
theorem own_out {p : Program} {l : Launch} {e : Env} {R : Room} {s : State} {m : MethodId} {args : Array Value} {below : List Frame} {meth : Method} {c : Code} {T : State} {locs : List Loc} {cells slots : Nat} (X : Stand p l e R s m args below meth c T locs cells slots) {v : Option Value}
    (hlk : meth.locks = false) (hv : meth.sig.returnType = none → v = none) {C N : Nat} {Q : Option Value → Heap → List Loc → Prop} (hQ : Q v T.heap locs) (hC : cells ≤ C) (hN : slots ≤ N) {U : State}
    (k : ∀ fs, (∀ (f : JFrame) (acts : List Action), f.method = m → f.locked = none → f.entered = [] → (doReturn e (T.setTop f) acts v).1 = T.setFrames fs) → Steps p.tables e below U (T.setFrames fs)) : own_Go p.tables e below s C N Q U := by
  obtain ⟨fs, hr, hrun, hended, hW, hsame⟩ := X.leave hv hlk
  exact ⟨_, _, k fs hr, hrun, hended, _, _, rfl, hQ, ⟨_, rfl⟩, hW, hsame.mono hC hN⟩
theorem own_exaP {Z : State} {h : Heap} {a : Addr} {C : String} (E : Exa Z h a C) : ∀ c : Cell, h[a]? = some c → c.vm.isStatics = false := fun c hc => by
  obtain ⟨cell, k, h1, -, -, h4, -⟩ := E
  cases h1.symm.trans hc; exact h4
theorem own_staK {Z : State} {h h' : Heap} {C n d : String} {v : Value} {ws : List Addr} (S : Sta Z h C n d v) (K : Keep h h' ws) (q : ∀ w ∈ ws, ∀ c : Cell, h[w]? = some c → c.vm.isStatics = false) : Sta Z h' C n d v := by
  obtain ⟨cf, i, k, f, st, cell, h1, h2, h3, h4, h5, h6, h7⟩ := S
  exact ⟨cf, i, k, f, st, cell, h1, h2, h3, h4, K.2.1 st cell h5 (fun z => by have := q st z cell h5; rw [h6] at this; cases this), h6, h7⟩
theorem own_anyF {Z : State} {a0 : Array Value} {h : Heap} {a : Addr} {C O n d O' n' d' : String} {v' : Value} {k : Nat} (E : Exa Z h a C) (F : Fld Z h a O' n' d' v') (wi : (Cond.instantiable C k).before a0 Z = true) (L : Laid Z a0 C O n d) : ∃ v, Fld Z h a O n d v :=
  fld_laid E (by obtain ⟨cell, _, _, _, _, h1, _, _, h4, _⟩ := F; exact ⟨cell, h1, h4⟩) wi L
theorem own_nv {meth : Method} {t : FieldType} (h : meth.sig.returnType = some t) {v : Option Value} : meth.sig.returnType = none → v = none := fun q => by rw [h] at q; cases q
theorem pd___B_Z : parseMethodDescriptor "([B)Z" = some ⟨[(.array .byte)], some .boolean⟩ := by decide +kernel
theorem pd__I_Z : parseMethodDescriptor "(I)Z" = some ⟨[.int], some .boolean⟩ := by decide +kernel
theorem d2_0 : decode method_2_code 0 = .ok (.iload_n 0, 1) := by decide +kernel
theorem d2_1 : decode method_2_code 1 = .ok (.sipush 255, 3) := by decide +kernel
theorem d2_4 : decode method_2_code 4 = .ok (.iand, 1) := by decide +kernel
theorem d2_5 : decode method_2_code 5 = .ok (.istore_n 1, 1) := by decide +kernel
theorem d2_6 : decode method_2_code 6 = .ok (.iload_n 1, 1) := by decide +kernel
theorem d2_7 : decode method_2_code 7 = .ok (.bipush 29, 2) := by decide +kernel
theorem d2_9 : decode method_2_code 9 = .ok (.if_icmp .lt 13, 3) := by decide +kernel
theorem d2_12 : decode method_2_code 12 = .ok (.iload_n 1, 1) := by decide +kernel
theorem d2_13 : decode method_2_code 13 = .ok (.bipush 31, 2) := by decide +kernel
theorem d2_15 : decode method_2_code 15 = .ok (.if_icmp .gt 7, 3) := by decide +kernel
theorem d2_18 : decode method_2_code 18 = .ok (.iconst 1, 1) := by decide +kernel
theorem d2_19 : decode method_2_code 19 = .ok (.goto 4, 3) := by decide +kernel
theorem d2_22 : decode method_2_code 22 = .ok (.iconst 0, 1) := by decide +kernel
theorem d2_23 : decode method_2_code 23 = .ok (.ireturn, 1) := by decide +kernel
theorem pn_2 : plainName "com/example/tallyfield/tallyfield/marc/Iso2709HoldsStructuralBytePinLaw" = true := by first | (simp [plainName, overriddenIn]; done) | decide +kernel
theorem ef_2 (m : MethodId) (p0 : Int32) : entryFrame m #[(.int p0)] 2 = mkF m 0 #[iv p0, .unset] [] := by first | (simp [entryFrame, mkF, argsToLocals, Value.category]; done) | rfl
def F2 (p0 : Int32) : Int32 :=
  if (p0 &&& (255 : Int32)) < (29 : Int32) then
    (0 : Int32)
  else
    if (31 : Int32) < (p0 &&& (255 : Int32)) then
      (0 : Int32)
    else
      (1 : Int32)
def Q2 (Z : State) (p0 : Int32) (h0 : Heap) (n0 : Nat) (v : Option Value) (h : Heap) (L : List Loc) : Prop := v = some (.int (F2 p0)) ∧ Fr n0 L ∧ h = h0
set_option maxRecDepth 65536 in
set_option maxHeartbeats 40000000 in
theorem rm2 (l : Launch) (Z : State) (a0 : Array Value) (hw : ∀ d ∈ tables_1, d.before a0 Z = true) (ws : List Jvm.Cond) (p0 : Int32) (h0 : Heap) (n0 : Nat) (Z0 : n0 ≤ h0.size) :
    MetFree l (⟨"com/example/tallyfield/tallyfield/marc/Iso2709HoldsStructuralBytePinLaw", "structural", "(I)Z"⟩ : MethodName) (head1 (Jvm.Cond.code (⟨"com/example/tallyfield/tallyfield/marc/Iso2709HoldsStructuralBytePinLaw", "structural", "(I)Z"⟩ : MethodName) method_2_code 2 (some .boolean) :: ws) ({ frames := 0, cells := 0, slots := 0, locals := 0 } : Room)) (fun a U => a = #[(.int p0)] ∧ Z.Warmed39 U.vm ∧ U.heap = h0) (fun _ _ _ _ _ => True) (fun _ U o U' => ∃ v L, o = .returned v ∧ Q2 Z p0 h0 n0 v U'.heap L ∧ FrameEnd U o U' L ({ frames := 0, cells := 0, slots := 0, locals := 0 } : Room).cells ({ frames := 0, cells := 0, slots := 0, locals := 0 } : Room).slots) := by
  refine MetFree.of_bodySF (plainFor_of_name pn_2) hisR ?_
  intro p e s m args below meth c s₁ Bd hml0 hP hK
  obtain ⟨rfl, hZ, hh⟩ := hP
  have hx := Bd.exec
  have hby := Bd.bytes
  have hml : c.maxLocals = 2 := hml0
  have hown : s.vm.findClass "com/example/tallyfield/tallyfield/marc/Iso2709HoldsStructuralBytePinLaw" = some m.cls := findClass_of_methodNamed Bd.named
  have hnm := (name_of_methodNamed Bd.named Bd.method).1
  have hlk : meth.locks = false := Bd.notSynchronized
  have X0 : Stand p l e ({ frames := 0, cells := 0, slots := 0, locals := 0 } : Room) s m #[(.int p0)] below meth c s₁ [] 0 0 := Stand.of_body Bd
  have e0 : s₁.heap = h0 := by rw [← hh, Bd.state]; rfl
  have N0 := Fr.nil n0
  have KK0 := Keep.refl h0 []
  show own_Go p.tables e below s 0 0 (Q2 Z p0 h0 n0) (s₁.setTop (entryFrame m #[(.int p0)] 2))
  rw [ef_2]
  refine own_step (U' := s₁.setTop (mkF m 9 #[iv p0, iv (p0 &&& (255 : Int32))] [(.int (29 : Int32)), (.int (p0 &&& (255 : Int32)))])) (fun t k => XS.iloadN X0.here hx rfl (hb hby d2_0) rfl (XS.sipush X0.here hx rfl (hb hby d2_1) (XS.iand X0.here hx rfl (hb hby d2_4) rfl (XS.istoreN X0.here hx rfl (hb hby d2_5) rfl (l' := #[iv p0, iv (p0 &&& (255 : Int32))]) rfl (XS.iloadN X0.here hx rfl (hb hby d2_6) rfl (XS.bipush X0.here hx rfl (hb hby d2_7) k)))))) ?_
  by_cases hc9_1 : (p0 &&& (255 : Int32)) < (29 : Int32)
  · refine own_step (U' := s₁.setTop (mkF m 23 #[iv p0, iv (p0 &&& (255 : Int32))] [(.int (0 : Int32))])) (fun t k => XS.icmpYes X0.here hx rfl (pc0 := 9) (pc' := 22) rfl (hb hby d2_9) rfl (tlt hc9_1).1 (by decide) (by decide) (XS.iconst X0.here hx rfl (hb hby d2_22) k)) ?_
    exact own_out X0 (v := (some (.int (0 : Int32)))) hlk (own_nv Bd.returns) (by rw [e0]; exact ⟨by rw [show (F2 p0) = (0 : Int32) from (by simp only [F2, if_pos hc9_1])], N0, rfl⟩) (by decide) (by decide) (fun fs hr => retN X0 hx (t := .boolean) Bd.returns (by simp) (hb hby d2_23) hr)
  · refine own_step (U' := s₁.setTop (mkF m 15 #[iv p0, iv (p0 &&& (255 : Int32))] [(.int (31 : Int32)), (.int (p0 &&& (255 : Int32)))])) (fun t k => XS.icmpNo X0.here hx rfl (hb hby d2_9) rfl (flt hc9_1).1 (XS.iloadN X0.here hx rfl (hb hby d2_12) rfl (XS.bipush X0.here hx rfl (hb hby d2_13) k))) ?_
    by_cases hc15_2 : (31 : Int32) < (p0 &&& (255 : Int32))
    · refine own_step (U' := s₁.setTop (mkF m 23 #[iv p0, iv (p0 &&& (255 : Int32))] [(.int (0 : Int32))])) (fun t k => XS.icmpYes X0.here hx rfl (pc0 := 15) (pc' := 22) rfl (hb hby d2_15) rfl (tlt hc15_2).2.2.1 (by decide) (by decide) (XS.iconst X0.here hx rfl (hb hby d2_22) k)) ?_
      exact own_out X0 (v := (some (.int (0 : Int32)))) hlk (own_nv Bd.returns) (by rw [e0]; exact ⟨by rw [show (F2 p0) = (0 : Int32) from (by simp only [F2, if_neg hc9_1, if_pos hc15_2])], N0, rfl⟩) (by decide) (by decide) (fun fs hr => retN X0 hx (t := .boolean) Bd.returns (by simp) (hb hby d2_23) hr)
    · refine own_step (U' := s₁.setTop (mkF m 23 #[iv p0, iv (p0 &&& (255 : Int32))] [(.int (1 : Int32))])) (fun t k => XS.icmpNo X0.here hx rfl (hb hby d2_15) rfl (flt hc15_2).2.2.1 (XS.iconst X0.here hx rfl (hb hby d2_18) (XS.goto X0.here hx rfl (pc0 := 19) (pc' := 23) rfl (hb hby d2_19) (by decide) (by decide) k))) ?_
      exact own_out X0 (v := (some (.int (1 : Int32)))) hlk (own_nv Bd.returns) (by rw [e0]; exact ⟨by rw [show (F2 p0) = (1 : Int32) from (by simp only [F2, if_neg hc9_1, if_neg hc15_2])], N0, rfl⟩) (by decide) (by decide) (fun fs hr => retN X0 hx (t := .boolean) Bd.returns (by simp) (hb hby d2_23) hr)
theorem d1_0 : decode prog_36_method_2_code 0 = .ok (.aload_n 0, 1) := by decide +kernel
theorem d1_1 : decode prog_36_method_2_code 1 = .ok (.astore_n 1, 1) := by decide +kernel
theorem d1_2 : decode prog_36_method_2_code 2 = .ok (.aload_n 1, 1) := by decide +kernel
theorem d1_3 : decode prog_36_method_2_code 3 = .ok (.arraylength, 1) := by decide +kernel
theorem d1_4 : decode prog_36_method_2_code 4 = .ok (.istore_n 2, 1) := by decide +kernel
theorem d1_5 : decode prog_36_method_2_code 5 = .ok (.iconst 0, 1) := by decide +kernel
theorem d1_6 : decode prog_36_method_2_code 6 = .ok (.istore_n 3, 1) := by decide +kernel
theorem d1_7 : decode prog_36_method_2_code 7 = .ok (.iload_n 3, 1) := by decide +kernel
theorem d1_8 : decode prog_36_method_2_code 8 = .ok (.iload_n 2, 1) := by decide +kernel
theorem d1_9 : decode prog_36_method_2_code 9 = .ok (.if_icmp .ge 37, 3) := by decide +kernel
theorem d1_12 : decode prog_36_method_2_code 12 = .ok (.aload_n 1, 1) := by decide +kernel
theorem d1_13 : decode prog_36_method_2_code 13 = .ok (.iload_n 3, 1) := by decide +kernel
theorem d1_14 : decode prog_36_method_2_code 14 = .ok (.baload, 1) := by decide +kernel
theorem d1_15 : decode prog_36_method_2_code 15 = .ok (.istore 4, 2) := by decide +kernel
theorem d1_17 : decode prog_36_method_2_code 17 = .ok (.iload 4, 2) := by decide +kernel
theorem d1_19 : decode prog_36_method_2_code 19 = .ok (.bipush 29, 2) := by decide +kernel
theorem d1_21 : decode prog_36_method_2_code 21 = .ok (.if_icmp .eq 17, 3) := by decide +kernel
theorem d1_24 : decode prog_36_method_2_code 24 = .ok (.iload 4, 2) := by decide +kernel
theorem d1_26 : decode prog_36_method_2_code 26 = .ok (.bipush 30, 2) := by decide +kernel
theorem d1_28 : decode prog_36_method_2_code 28 = .ok (.if_icmp .eq 10, 3) := by decide +kernel
theorem d1_31 : decode prog_36_method_2_code 31 = .ok (.iload 4, 2) := by decide +kernel
theorem d1_33 : decode prog_36_method_2_code 33 = .ok (.bipush 31, 2) := by decide +kernel
theorem d1_35 : decode prog_36_method_2_code 35 = .ok (.if_icmp .ne 5, 3) := by decide +kernel
theorem d1_38 : decode prog_36_method_2_code 38 = .ok (.iconst 1, 1) := by decide +kernel
theorem d1_39 : decode prog_36_method_2_code 39 = .ok (.ireturn, 1) := by decide +kernel
theorem d1_40 : decode prog_36_method_2_code 40 = .ok (.iinc 3 1, 3) := by decide +kernel
theorem d1_43 : decode prog_36_method_2_code 43 = .ok (.goto (-36), 3) := by decide +kernel
theorem d1_46 : decode prog_36_method_2_code 46 = .ok (.iconst 0, 1) := by decide +kernel
theorem d1_47 : decode prog_36_method_2_code 47 = .ok (.ireturn, 1) := by decide +kernel
theorem pn_1 : plainName "com/example/tallyfield/tallyfield/marc/Iso2709" = true := by first | (simp [plainName, overriddenIn]; done) | decide +kernel
theorem ef_1k5 (m : MethodId) (r0 : Addr) : entryFrame m #[(.ref r0)] 5 = mkF m 0 #[rv r0, .unset, .unset, .unset, .unset] [] := by first | (simp [entryFrame, mkF, argsToLocals, Value.category]; done) | rfl
def F1k5 (w0 : Int32) (w1 : Int32) (w2 : Int32) (w3 : Int32) (w4 : Int32) : Int32 :=
  if w0 = (29 : Int32) then
    (1 : Int32)
  else
    if w0 = (30 : Int32) then
      (1 : Int32)
    else
      if w0 = (31 : Int32) then
        (1 : Int32)
      else
        if w1 = (29 : Int32) then
          (1 : Int32)
        else
          if w1 = (30 : Int32) then
            (1 : Int32)
          else
            if w1 = (31 : Int32) then
              (1 : Int32)
            else
              if w2 = (29 : Int32) then
                (1 : Int32)
              else
                if w2 = (30 : Int32) then
                  (1 : Int32)
                else
                  if w2 = (31 : Int32) then
                    (1 : Int32)
                  else
                    if w3 = (29 : Int32) then
                      (1 : Int32)
                    else
                      if w3 = (30 : Int32) then
                        (1 : Int32)
                      else
                        if w3 = (31 : Int32) then
                          (1 : Int32)
                        else
                          if w4 = (29 : Int32) then
                            (1 : Int32)
                          else
                            if w4 = (30 : Int32) then
                              (1 : Int32)
                            else
                              if w4 = (31 : Int32) then
                                (1 : Int32)
                              else
                                (0 : Int32)
def Q1k5 (Z : State) (r0 : Addr) (w0 : Int32) (w1 : Int32) (w2 : Int32) (w3 : Int32) (w4 : Int32) (k_r0 : ClassId) (h0 : Heap) (n0 : Nat) (v : Option Value) (h : Heap) (L : List Loc) : Prop := v = some (.int (F1k5 w0 w1 w2 w3 w4)) ∧ Fr n0 L ∧ h = h0
set_option maxRecDepth 65536 in
set_option maxHeartbeats 40000000 in
theorem rm1k5 (l : Launch) (Z : State) (a0 : Array Value) (hw : ∀ d ∈ tables_1, d.before a0 Z = true) (ws : List Jvm.Cond) (r0 : Addr) (w0 : Int32) (w1 : Int32) (w2 : Int32) (w3 : Int32) (w4 : Int32) (k_r0 : ClassId) (h0 : Heap) (n0 : Nat) (Z0 : n0 ≤ h0.size) (V_r0 : Arv Z h0 r0 k_r0 .byte (5 : Int32) [(.int w0), (.int w1), (.int w2), (.int w3), (.int w4)] (.int (0 : Int32))) :
    MetFree l (⟨"com/example/tallyfield/tallyfield/marc/Iso2709", "holdsStructuralByte", "([B)Z"⟩ : MethodName) (head1 (Jvm.Cond.code (⟨"com/example/tallyfield/tallyfield/marc/Iso2709", "holdsStructuralByte", "([B)Z"⟩ : MethodName) prog_36_method_2_code 5 (some .boolean) :: ws) ({ frames := 0, cells := 0, slots := 0, locals := 0 } : Room)) (fun a U => a = #[(.ref r0)] ∧ Z.Warmed39 U.vm ∧ U.heap = h0) (fun _ _ _ _ _ => True) (fun _ U o U' => ∃ v L, o = .returned v ∧ Q1k5 Z r0 w0 w1 w2 w3 w4 k_r0 h0 n0 v U'.heap L ∧ FrameEnd U o U' L ({ frames := 0, cells := 0, slots := 0, locals := 0 } : Room).cells ({ frames := 0, cells := 0, slots := 0, locals := 0 } : Room).slots) := by
  refine MetFree.of_bodySF (plainFor_of_name pn_1) hisR ?_
  intro p e s m args below meth c s₁ Bd hml0 hP hK
  obtain ⟨rfl, hZ, hh⟩ := hP
  have hx := Bd.exec
  have hby := Bd.bytes
  have hml : c.maxLocals = 5 := hml0
  have hown : s.vm.findClass "com/example/tallyfield/tallyfield/marc/Iso2709" = some m.cls := findClass_of_methodNamed Bd.named
  have hnm := (name_of_methodNamed Bd.named Bd.method).1
  have hlk : meth.locks = false := Bd.notSynchronized
  have X0 : Stand p l e ({ frames := 0, cells := 0, slots := 0, locals := 0 } : Room) s m #[(.ref r0)] below meth c s₁ [] 0 0 := Stand.of_body Bd
  have e0 : s₁.heap = h0 := by rw [← hh, Bd.state]; rfl
  have N0 := Fr.nil n0
  have KK0 := Keep.refl h0 []
  show own_Go p.tables e below s 0 0 (Q1k5 Z r0 w0 w1 w2 w3 w4 k_r0 h0 n0) (s₁.setTop (entryFrame m #[(.ref r0)] 5))
  rw [ef_1k5]
  refine own_step (U' := s₁.setTop (mkF m 3 #[rv r0, rv r0, .unset, .unset, .unset] [(.ref r0)])) (fun t k => XS.aloadN X0.here hx rfl (hb hby d1_0) rfl rfl (XS.astoreN X0.here hx rfl (hb hby d1_1) rfl rfl (l' := #[rv r0, rv r0, .unset, .unset, .unset]) rfl (XS.aloadN X0.here hx rfl (hb hby d1_2) rfl rfl k))) ?_
  obtain ⟨cl1, Ar1, aq1, aS1, aN1, aH1, aG1⟩ := id V_r0
  have hl1 := len_of aS1 aN1
  refine own_step (U' := s₁.setTop (mkF m 13 #[rv r0, rv r0, iv (5 : Int32), iv (0 : Int32), .unset] [(.ref r0)])) (fun t k => X0.arraylength hx (by rw [e0]; exact Ar1.1) (State.isArrayOf_alike hZ.alike Ar1.2.1) (g := (mkF m 3 #[rv r0, rv r0, .unset, .unset, .unset] [(.ref r0)])) rfl rfl (hb hby d1_3) t (by rw [hl1]; exact (XS.istoreN X0.here hx rfl (hb hby d1_4) rfl (l' := #[rv r0, rv r0, iv (5 : Int32), .unset, .unset]) rfl (XS.iconst X0.here hx rfl (hb hby d1_5) (XS.istoreN X0.here hx rfl (hb hby d1_6) rfl (l' := #[rv r0, rv r0, iv (5 : Int32), iv (0 : Int32), .unset]) rfl (XS.iloadN X0.here hx rfl (hb hby d1_7) rfl (XS.iloadN X0.here hx rfl (hb hby d1_8) rfl (XS.icmpNo X0.here hx rfl (hb hby d1_9) rfl (by decide) (XS.aloadN X0.here hx rfl (hb hby d1_12) rfl rfl k))))))))) ?_
  refine own_step (U' := s₁.setTop (mkF m 14 #[rv r0, rv r0, iv (5 : Int32), iv (0 : Int32), .unset] [(.int (0 : Int32)), (.ref r0)])) (fun t k => XS.iloadN X0.here hx rfl (hb hby d1_13) rfl k) ?_
  obtain ⟨cl2, Ar2, aq2, aS2, aN2, aH2, aG2⟩ := id V_r0
  have hin2 : ¬ ((0 : Int32) < 0 ∨ cl2.slots.size ≤ ((0 : Int32)).toNatClampNeg) := inb_of aS2 ⟨by decide, by decide⟩
  have hat2 : cl2.slots[((0 : Int32)).toNatClampNeg]? = some (.int w0) := aH2.at hin2 rfl
  refine own_step (U' := s₁.setTop (mkF m 21 #[rv r0, rv r0, iv (5 : Int32), iv (0 : Int32), iv w0] [(.int (29 : Int32)), (.int w0)])) (fun t k => X0.baloadBytes hx (j := (0 : Int32)) (v := (.int w0)) (by rw [e0]; exact Ar2.1) (State.isArrayOf_alike hZ.alike Ar2.2.1) Ar2.2.2 hin2 hat2 (g := (mkF m 14 #[rv r0, rv r0, iv (5 : Int32), iv (0 : Int32), .unset] [(.int (0 : Int32)), (.ref r0)])) rfl rfl (hb hby d1_14) t (XS.istore X0.here hx rfl (hb hby d1_15) rfl (l' := #[rv r0, rv r0, iv (5 : Int32), iv (0 : Int32), iv w0]) rfl (XS.iload X0.here hx rfl (hb hby d1_17) rfl (XS.bipush X0.here hx rfl (hb hby d1_19) k)))) ?_
  by_cases hc21_3 : w0 = (29 : Int32)
  · refine own_step (U' := s₁.setTop (mkF m 39 #[rv r0, rv r0, iv (5 : Int32), iv (0 : Int32), iv w0] [(.int (1 : Int32))])) (fun t k => XS.icmpYes X0.here hx rfl (pc0 := 21) (pc' := 38) rfl (hb hby d1_21) rfl (teq hc21_3).1 (by decide) (by decide) (XS.iconst X0.here hx rfl (hb hby d1_38) k)) ?_
    exact own_out X0 (v := (some (.int (1 : Int32)))) hlk (own_nv Bd.returns) (by rw [e0]; exact ⟨by rw [show (F1k5 w0 w1 w2 w3 w4) = (1 : Int32) from (by simp only [F1k5, if_pos hc21_3])], N0, rfl⟩) (by decide) (by decide) (fun fs hr => retN X0 hx (t := .boolean) Bd.returns (by simp) (hb hby d1_39) hr)
  · refine own_step (U' := s₁.setTop (mkF m 28 #[rv r0, rv r0, iv (5 : Int32), iv (0 : Int32), iv w0] [(.int (30 : Int32)), (.int w0)])) (fun t k => XS.icmpNo X0.here hx rfl (hb hby d1_21) rfl (feq hc21_3).1 (XS.iload X0.here hx rfl (hb hby d1_24) rfl (XS.bipush X0.here hx rfl (hb hby d1_26) k))) ?_
    by_cases hc28_4 : w0 = (30 : Int32)
    · refine own_step (U' := s₁.setTop (mkF m 39 #[rv r0, rv r0, iv (5 : Int32), iv (0 : Int32), iv w0] [(.int (1 : Int32))])) (fun t k => XS.icmpYes X0.here hx rfl (pc0 := 28) (pc' := 38) rfl (hb hby d1_28) rfl (teq hc28_4).1 (by decide) (by decide) (XS.iconst X0.here hx rfl (hb hby d1_38) k)) ?_
      exact own_out X0 (v := (some (.int (1 : Int32)))) hlk (own_nv Bd.returns) (by rw [e0]; exact ⟨by rw [show (F1k5 w0 w1 w2 w3 w4) = (1 : Int32) from (by simp only [F1k5, if_neg hc21_3, if_pos hc28_4])], N0, rfl⟩) (by decide) (by decide) (fun fs hr => retN X0 hx (t := .boolean) Bd.returns (by simp) (hb hby d1_39) hr)
    · refine own_step (U' := s₁.setTop (mkF m 35 #[rv r0, rv r0, iv (5 : Int32), iv (0 : Int32), iv w0] [(.int (31 : Int32)), (.int w0)])) (fun t k => XS.icmpNo X0.here hx rfl (hb hby d1_28) rfl (feq hc28_4).1 (XS.iload X0.here hx rfl (hb hby d1_31) rfl (XS.bipush X0.here hx rfl (hb hby d1_33) k))) ?_
      by_cases hc35_5 : w0 = (31 : Int32)
      · refine own_step (U' := s₁.setTop (mkF m 39 #[rv r0, rv r0, iv (5 : Int32), iv (0 : Int32), iv w0] [(.int (1 : Int32))])) (fun t k => XS.icmpNo X0.here hx rfl (hb hby d1_35) rfl (teq hc35_5).2 (XS.iconst X0.here hx rfl (hb hby d1_38) k)) ?_
        exact own_out X0 (v := (some (.int (1 : Int32)))) hlk (own_nv Bd.returns) (by rw [e0]; exact ⟨by rw [show (F1k5 w0 w1 w2 w3 w4) = (1 : Int32) from (by simp only [F1k5, if_neg hc21_3, if_neg hc28_4, if_pos hc35_5])], N0, rfl⟩) (by decide) (by decide) (fun fs hr => retN X0 hx (t := .boolean) Bd.returns (by simp) (hb hby d1_39) hr)
      · refine own_step (U' := s₁.setTop (mkF m 14 #[rv r0, rv r0, iv (5 : Int32), iv (1 : Int32), iv w0] [(.int (1 : Int32)), (.ref r0)])) (fun t k => XS.icmpYes X0.here hx rfl (pc0 := 35) (pc' := 40) rfl (hb hby d1_35) rfl (feq hc35_5).2 (by decide) (by decide) (XS.iinc X0.here hx rfl (hb hby d1_40) rfl (l' := #[rv r0, rv r0, iv (5 : Int32), iv (1 : Int32), iv w0]) rfl (XS.goto X0.here hx rfl (pc0 := 43) (pc' := 7) rfl (hb hby d1_43) (by decide) (by decide) (XS.iloadN X0.here hx rfl (hb hby d1_7) rfl (XS.iloadN X0.here hx rfl (hb hby d1_8) rfl (XS.icmpNo X0.here hx rfl (hb hby d1_9) rfl (by decide) (XS.aloadN X0.here hx rfl (hb hby d1_12) rfl rfl (XS.iloadN X0.here hx rfl (hb hby d1_13) rfl k)))))))) ?_
        obtain ⟨cl6, Ar6, aq6, aS6, aN6, aH6, aG6⟩ := id V_r0
        have hin6 : ¬ ((1 : Int32) < 0 ∨ cl6.slots.size ≤ ((1 : Int32)).toNatClampNeg) := inb_of aS6 ⟨by decide, by decide⟩
        have hat6 : cl6.slots[((1 : Int32)).toNatClampNeg]? = some (.int w1) := aH6.at hin6 rfl
        refine own_step (U' := s₁.setTop (mkF m 21 #[rv r0, rv r0, iv (5 : Int32), iv (1 : Int32), iv w1] [(.int (29 : Int32)), (.int w1)])) (fun t k => X0.baloadBytes hx (j := (1 : Int32)) (v := (.int w1)) (by rw [e0]; exact Ar6.1) (State.isArrayOf_alike hZ.alike Ar6.2.1) Ar6.2.2 hin6 hat6 (g := (mkF m 14 #[rv r0, rv r0, iv (5 : Int32), iv (1 : Int32), iv w0] [(.int (1 : Int32)), (.ref r0)])) rfl rfl (hb hby d1_14) t (XS.istore X0.here hx rfl (hb hby d1_15) rfl (l' := #[rv r0, rv r0, iv (5 : Int32), iv (1 : Int32), iv w1]) rfl (XS.iload X0.here hx rfl (hb hby d1_17) rfl (XS.bipush X0.here hx rfl (hb hby d1_19) k)))) ?_
        by_cases hc21_7 : w1 = (29 : Int32)
        · refine own_step (U' := s₁.setTop (mkF m 39 #[rv r0, rv r0, iv (5 : Int32), iv (1 : Int32), iv w1] [(.int (1 : Int32))])) (fun t k => XS.icmpYes X0.here hx rfl (pc0 := 21) (pc' := 38) rfl (hb hby d1_21) rfl (teq hc21_7).1 (by decide) (by decide) (XS.iconst X0.here hx rfl (hb hby d1_38) k)) ?_
          exact own_out X0 (v := (some (.int (1 : Int32)))) hlk (own_nv Bd.returns) (by rw [e0]; exact ⟨by rw [show (F1k5 w0 w1 w2 w3 w4) = (1 : Int32) from (by simp only [F1k5, if_neg hc21_3, if_neg hc28_4, if_neg hc35_5, if_pos hc21_7])], N0, rfl⟩) (by decide) (by decide) (fun fs hr => retN X0 hx (t := .boolean) Bd.returns (by simp) (hb hby d1_39) hr)
        · refine own_step (U' := s₁.setTop (mkF m 28 #[rv r0, rv r0, iv (5 : Int32), iv (1 : Int32), iv w1] [(.int (30 : Int32)), (.int w1)])) (fun t k => XS.icmpNo X0.here hx rfl (hb hby d1_21) rfl (feq hc21_7).1 (XS.iload X0.here hx rfl (hb hby d1_24) rfl (XS.bipush X0.here hx rfl (hb hby d1_26) k))) ?_
          by_cases hc28_8 : w1 = (30 : Int32)
          · refine own_step (U' := s₁.setTop (mkF m 39 #[rv r0, rv r0, iv (5 : Int32), iv (1 : Int32), iv w1] [(.int (1 : Int32))])) (fun t k => XS.icmpYes X0.here hx rfl (pc0 := 28) (pc' := 38) rfl (hb hby d1_28) rfl (teq hc28_8).1 (by decide) (by decide) (XS.iconst X0.here hx rfl (hb hby d1_38) k)) ?_
            exact own_out X0 (v := (some (.int (1 : Int32)))) hlk (own_nv Bd.returns) (by rw [e0]; exact ⟨by rw [show (F1k5 w0 w1 w2 w3 w4) = (1 : Int32) from (by simp only [F1k5, if_neg hc21_3, if_neg hc28_4, if_neg hc35_5, if_neg hc21_7, if_pos hc28_8])], N0, rfl⟩) (by decide) (by decide) (fun fs hr => retN X0 hx (t := .boolean) Bd.returns (by simp) (hb hby d1_39) hr)
          · refine own_step (U' := s₁.setTop (mkF m 35 #[rv r0, rv r0, iv (5 : Int32), iv (1 : Int32), iv w1] [(.int (31 : Int32)), (.int w1)])) (fun t k => XS.icmpNo X0.here hx rfl (hb hby d1_28) rfl (feq hc28_8).1 (XS.iload X0.here hx rfl (hb hby d1_31) rfl (XS.bipush X0.here hx rfl (hb hby d1_33) k))) ?_
            by_cases hc35_9 : w1 = (31 : Int32)
            · refine own_step (U' := s₁.setTop (mkF m 39 #[rv r0, rv r0, iv (5 : Int32), iv (1 : Int32), iv w1] [(.int (1 : Int32))])) (fun t k => XS.icmpNo X0.here hx rfl (hb hby d1_35) rfl (teq hc35_9).2 (XS.iconst X0.here hx rfl (hb hby d1_38) k)) ?_
              exact own_out X0 (v := (some (.int (1 : Int32)))) hlk (own_nv Bd.returns) (by rw [e0]; exact ⟨by rw [show (F1k5 w0 w1 w2 w3 w4) = (1 : Int32) from (by simp only [F1k5, if_neg hc21_3, if_neg hc28_4, if_neg hc35_5, if_neg hc21_7, if_neg hc28_8, if_pos hc35_9])], N0, rfl⟩) (by decide) (by decide) (fun fs hr => retN X0 hx (t := .boolean) Bd.returns (by simp) (hb hby d1_39) hr)
            · refine own_step (U' := s₁.setTop (mkF m 14 #[rv r0, rv r0, iv (5 : Int32), iv (2 : Int32), iv w1] [(.int (2 : Int32)), (.ref r0)])) (fun t k => XS.icmpYes X0.here hx rfl (pc0 := 35) (pc' := 40) rfl (hb hby d1_35) rfl (feq hc35_9).2 (by decide) (by decide) (XS.iinc X0.here hx rfl (hb hby d1_40) rfl (l' := #[rv r0, rv r0, iv (5 : Int32), iv (2 : Int32), iv w1]) rfl (XS.goto X0.here hx rfl (pc0 := 43) (pc' := 7) rfl (hb hby d1_43) (by decide) (by decide) (XS.iloadN X0.here hx rfl (hb hby d1_7) rfl (XS.iloadN X0.here hx rfl (hb hby d1_8) rfl (XS.icmpNo X0.here hx rfl (hb hby d1_9) rfl (by decide) (XS.aloadN X0.here hx rfl (hb hby d1_12) rfl rfl (XS.iloadN X0.here hx rfl (hb hby d1_13) rfl k)))))))) ?_
              obtain ⟨cl10, Ar10, aq10, aS10, aN10, aH10, aG10⟩ := id V_r0
              have hin10 : ¬ ((2 : Int32) < 0 ∨ cl10.slots.size ≤ ((2 : Int32)).toNatClampNeg) := inb_of aS10 ⟨by decide, by decide⟩
              have hat10 : cl10.slots[((2 : Int32)).toNatClampNeg]? = some (.int w2) := aH10.at hin10 rfl
              refine own_step (U' := s₁.setTop (mkF m 21 #[rv r0, rv r0, iv (5 : Int32), iv (2 : Int32), iv w2] [(.int (29 : Int32)), (.int w2)])) (fun t k => X0.baloadBytes hx (j := (2 : Int32)) (v := (.int w2)) (by rw [e0]; exact Ar10.1) (State.isArrayOf_alike hZ.alike Ar10.2.1) Ar10.2.2 hin10 hat10 (g := (mkF m 14 #[rv r0, rv r0, iv (5 : Int32), iv (2 : Int32), iv w1] [(.int (2 : Int32)), (.ref r0)])) rfl rfl (hb hby d1_14) t (XS.istore X0.here hx rfl (hb hby d1_15) rfl (l' := #[rv r0, rv r0, iv (5 : Int32), iv (2 : Int32), iv w2]) rfl (XS.iload X0.here hx rfl (hb hby d1_17) rfl (XS.bipush X0.here hx rfl (hb hby d1_19) k)))) ?_
              by_cases hc21_11 : w2 = (29 : Int32)
              · refine own_step (U' := s₁.setTop (mkF m 39 #[rv r0, rv r0, iv (5 : Int32), iv (2 : Int32), iv w2] [(.int (1 : Int32))])) (fun t k => XS.icmpYes X0.here hx rfl (pc0 := 21) (pc' := 38) rfl (hb hby d1_21) rfl (teq hc21_11).1 (by decide) (by decide) (XS.iconst X0.here hx rfl (hb hby d1_38) k)) ?_
                exact own_out X0 (v := (some (.int (1 : Int32)))) hlk (own_nv Bd.returns) (by rw [e0]; exact ⟨by rw [show (F1k5 w0 w1 w2 w3 w4) = (1 : Int32) from (by simp only [F1k5, if_neg hc21_3, if_neg hc28_4, if_neg hc35_5, if_neg hc21_7, if_neg hc28_8, if_neg hc35_9, if_pos hc21_11])], N0, rfl⟩) (by decide) (by decide) (fun fs hr => retN X0 hx (t := .boolean) Bd.returns (by simp) (hb hby d1_39) hr)
              · refine own_step (U' := s₁.setTop (mkF m 28 #[rv r0, rv r0, iv (5 : Int32), iv (2 : Int32), iv w2] [(.int (30 : Int32)), (.int w2)])) (fun t k => XS.icmpNo X0.here hx rfl (hb hby d1_21) rfl (feq hc21_11).1 (XS.iload X0.here hx rfl (hb hby d1_24) rfl (XS.bipush X0.here hx rfl (hb hby d1_26) k))) ?_
                by_cases hc28_12 : w2 = (30 : Int32)
                · refine own_step (U' := s₁.setTop (mkF m 39 #[rv r0, rv r0, iv (5 : Int32), iv (2 : Int32), iv w2] [(.int (1 : Int32))])) (fun t k => XS.icmpYes X0.here hx rfl (pc0 := 28) (pc' := 38) rfl (hb hby d1_28) rfl (teq hc28_12).1 (by decide) (by decide) (XS.iconst X0.here hx rfl (hb hby d1_38) k)) ?_
                  exact own_out X0 (v := (some (.int (1 : Int32)))) hlk (own_nv Bd.returns) (by rw [e0]; exact ⟨by rw [show (F1k5 w0 w1 w2 w3 w4) = (1 : Int32) from (by simp only [F1k5, if_neg hc21_3, if_neg hc28_4, if_neg hc35_5, if_neg hc21_7, if_neg hc28_8, if_neg hc35_9, if_neg hc21_11, if_pos hc28_12])], N0, rfl⟩) (by decide) (by decide) (fun fs hr => retN X0 hx (t := .boolean) Bd.returns (by simp) (hb hby d1_39) hr)
                · refine own_step (U' := s₁.setTop (mkF m 35 #[rv r0, rv r0, iv (5 : Int32), iv (2 : Int32), iv w2] [(.int (31 : Int32)), (.int w2)])) (fun t k => XS.icmpNo X0.here hx rfl (hb hby d1_28) rfl (feq hc28_12).1 (XS.iload X0.here hx rfl (hb hby d1_31) rfl (XS.bipush X0.here hx rfl (hb hby d1_33) k))) ?_
                  by_cases hc35_13 : w2 = (31 : Int32)
                  · refine own_step (U' := s₁.setTop (mkF m 39 #[rv r0, rv r0, iv (5 : Int32), iv (2 : Int32), iv w2] [(.int (1 : Int32))])) (fun t k => XS.icmpNo X0.here hx rfl (hb hby d1_35) rfl (teq hc35_13).2 (XS.iconst X0.here hx rfl (hb hby d1_38) k)) ?_
                    exact own_out X0 (v := (some (.int (1 : Int32)))) hlk (own_nv Bd.returns) (by rw [e0]; exact ⟨by rw [show (F1k5 w0 w1 w2 w3 w4) = (1 : Int32) from (by simp only [F1k5, if_neg hc21_3, if_neg hc28_4, if_neg hc35_5, if_neg hc21_7, if_neg hc28_8, if_neg hc35_9, if_neg hc21_11, if_neg hc28_12, if_pos hc35_13])], N0, rfl⟩) (by decide) (by decide) (fun fs hr => retN X0 hx (t := .boolean) Bd.returns (by simp) (hb hby d1_39) hr)
                  · refine own_step (U' := s₁.setTop (mkF m 14 #[rv r0, rv r0, iv (5 : Int32), iv (3 : Int32), iv w2] [(.int (3 : Int32)), (.ref r0)])) (fun t k => XS.icmpYes X0.here hx rfl (pc0 := 35) (pc' := 40) rfl (hb hby d1_35) rfl (feq hc35_13).2 (by decide) (by decide) (XS.iinc X0.here hx rfl (hb hby d1_40) rfl (l' := #[rv r0, rv r0, iv (5 : Int32), iv (3 : Int32), iv w2]) rfl (XS.goto X0.here hx rfl (pc0 := 43) (pc' := 7) rfl (hb hby d1_43) (by decide) (by decide) (XS.iloadN X0.here hx rfl (hb hby d1_7) rfl (XS.iloadN X0.here hx rfl (hb hby d1_8) rfl (XS.icmpNo X0.here hx rfl (hb hby d1_9) rfl (by decide) (XS.aloadN X0.here hx rfl (hb hby d1_12) rfl rfl (XS.iloadN X0.here hx rfl (hb hby d1_13) rfl k)))))))) ?_
                    obtain ⟨cl14, Ar14, aq14, aS14, aN14, aH14, aG14⟩ := id V_r0
                    have hin14 : ¬ ((3 : Int32) < 0 ∨ cl14.slots.size ≤ ((3 : Int32)).toNatClampNeg) := inb_of aS14 ⟨by decide, by decide⟩
                    have hat14 : cl14.slots[((3 : Int32)).toNatClampNeg]? = some (.int w3) := aH14.at hin14 rfl
                    refine own_step (U' := s₁.setTop (mkF m 21 #[rv r0, rv r0, iv (5 : Int32), iv (3 : Int32), iv w3] [(.int (29 : Int32)), (.int w3)])) (fun t k => X0.baloadBytes hx (j := (3 : Int32)) (v := (.int w3)) (by rw [e0]; exact Ar14.1) (State.isArrayOf_alike hZ.alike Ar14.2.1) Ar14.2.2 hin14 hat14 (g := (mkF m 14 #[rv r0, rv r0, iv (5 : Int32), iv (3 : Int32), iv w2] [(.int (3 : Int32)), (.ref r0)])) rfl rfl (hb hby d1_14) t (XS.istore X0.here hx rfl (hb hby d1_15) rfl (l' := #[rv r0, rv r0, iv (5 : Int32), iv (3 : Int32), iv w3]) rfl (XS.iload X0.here hx rfl (hb hby d1_17) rfl (XS.bipush X0.here hx rfl (hb hby d1_19) k)))) ?_
                    by_cases hc21_15 : w3 = (29 : Int32)
                    · refine own_step (U' := s₁.setTop (mkF m 39 #[rv r0, rv r0, iv (5 : Int32), iv (3 : Int32), iv w3] [(.int (1 : Int32))])) (fun t k => XS.icmpYes X0.here hx rfl (pc0 := 21) (pc' := 38) rfl (hb hby d1_21) rfl (teq hc21_15).1 (by decide) (by decide) (XS.iconst X0.here hx rfl (hb hby d1_38) k)) ?_
                      exact own_out X0 (v := (some (.int (1 : Int32)))) hlk (own_nv Bd.returns) (by rw [e0]; exact ⟨by rw [show (F1k5 w0 w1 w2 w3 w4) = (1 : Int32) from (by simp only [F1k5, if_neg hc21_3, if_neg hc28_4, if_neg hc35_5, if_neg hc21_7, if_neg hc28_8, if_neg hc35_9, if_neg hc21_11, if_neg hc28_12, if_neg hc35_13, if_pos hc21_15])], N0, rfl⟩) (by decide) (by decide) (fun fs hr => retN X0 hx (t := .boolean) Bd.returns (by simp) (hb hby d1_39) hr)
                    · refine own_step (U' := s₁.setTop (mkF m 28 #[rv r0, rv r0, iv (5 : Int32), iv (3 : Int32), iv w3] [(.int (30 : Int32)), (.int w3)])) (fun t k => XS.icmpNo X0.here hx rfl (hb hby d1_21) rfl (feq hc21_15).1 (XS.iload X0.here hx rfl (hb hby d1_24) rfl (XS.bipush X0.here hx rfl (hb hby d1_26) k))) ?_
                      by_cases hc28_16 : w3 = (30 : Int32)
                      · refine own_step (U' := s₁.setTop (mkF m 39 #[rv r0, rv r0, iv (5 : Int32), iv (3 : Int32), iv w3] [(.int (1 : Int32))])) (fun t k => XS.icmpYes X0.here hx rfl (pc0 := 28) (pc' := 38) rfl (hb hby d1_28) rfl (teq hc28_16).1 (by decide) (by decide) (XS.iconst X0.here hx rfl (hb hby d1_38) k)) ?_
                        exact own_out X0 (v := (some (.int (1 : Int32)))) hlk (own_nv Bd.returns) (by rw [e0]; exact ⟨by rw [show (F1k5 w0 w1 w2 w3 w4) = (1 : Int32) from (by simp only [F1k5, if_neg hc21_3, if_neg hc28_4, if_neg hc35_5, if_neg hc21_7, if_neg hc28_8, if_neg hc35_9, if_neg hc21_11, if_neg hc28_12, if_neg hc35_13, if_neg hc21_15, if_pos hc28_16])], N0, rfl⟩) (by decide) (by decide) (fun fs hr => retN X0 hx (t := .boolean) Bd.returns (by simp) (hb hby d1_39) hr)
                      · refine own_step (U' := s₁.setTop (mkF m 35 #[rv r0, rv r0, iv (5 : Int32), iv (3 : Int32), iv w3] [(.int (31 : Int32)), (.int w3)])) (fun t k => XS.icmpNo X0.here hx rfl (hb hby d1_28) rfl (feq hc28_16).1 (XS.iload X0.here hx rfl (hb hby d1_31) rfl (XS.bipush X0.here hx rfl (hb hby d1_33) k))) ?_
                        by_cases hc35_17 : w3 = (31 : Int32)
                        · refine own_step (U' := s₁.setTop (mkF m 39 #[rv r0, rv r0, iv (5 : Int32), iv (3 : Int32), iv w3] [(.int (1 : Int32))])) (fun t k => XS.icmpNo X0.here hx rfl (hb hby d1_35) rfl (teq hc35_17).2 (XS.iconst X0.here hx rfl (hb hby d1_38) k)) ?_
                          exact own_out X0 (v := (some (.int (1 : Int32)))) hlk (own_nv Bd.returns) (by rw [e0]; exact ⟨by rw [show (F1k5 w0 w1 w2 w3 w4) = (1 : Int32) from (by simp only [F1k5, if_neg hc21_3, if_neg hc28_4, if_neg hc35_5, if_neg hc21_7, if_neg hc28_8, if_neg hc35_9, if_neg hc21_11, if_neg hc28_12, if_neg hc35_13, if_neg hc21_15, if_neg hc28_16, if_pos hc35_17])], N0, rfl⟩) (by decide) (by decide) (fun fs hr => retN X0 hx (t := .boolean) Bd.returns (by simp) (hb hby d1_39) hr)
                        · refine own_step (U' := s₁.setTop (mkF m 14 #[rv r0, rv r0, iv (5 : Int32), iv (4 : Int32), iv w3] [(.int (4 : Int32)), (.ref r0)])) (fun t k => XS.icmpYes X0.here hx rfl (pc0 := 35) (pc' := 40) rfl (hb hby d1_35) rfl (feq hc35_17).2 (by decide) (by decide) (XS.iinc X0.here hx rfl (hb hby d1_40) rfl (l' := #[rv r0, rv r0, iv (5 : Int32), iv (4 : Int32), iv w3]) rfl (XS.goto X0.here hx rfl (pc0 := 43) (pc' := 7) rfl (hb hby d1_43) (by decide) (by decide) (XS.iloadN X0.here hx rfl (hb hby d1_7) rfl (XS.iloadN X0.here hx rfl (hb hby d1_8) rfl (XS.icmpNo X0.here hx rfl (hb hby d1_9) rfl (by decide) (XS.aloadN X0.here hx rfl (hb hby d1_12) rfl rfl (XS.iloadN X0.here hx rfl (hb hby d1_13) rfl k)))))))) ?_
                          obtain ⟨cl18, Ar18, aq18, aS18, aN18, aH18, aG18⟩ := id V_r0
                          have hin18 : ¬ ((4 : Int32) < 0 ∨ cl18.slots.size ≤ ((4 : Int32)).toNatClampNeg) := inb_of aS18 ⟨by decide, by decide⟩
                          have hat18 : cl18.slots[((4 : Int32)).toNatClampNeg]? = some (.int w4) := aH18.at hin18 rfl
                          refine own_step (U' := s₁.setTop (mkF m 21 #[rv r0, rv r0, iv (5 : Int32), iv (4 : Int32), iv w4] [(.int (29 : Int32)), (.int w4)])) (fun t k => X0.baloadBytes hx (j := (4 : Int32)) (v := (.int w4)) (by rw [e0]; exact Ar18.1) (State.isArrayOf_alike hZ.alike Ar18.2.1) Ar18.2.2 hin18 hat18 (g := (mkF m 14 #[rv r0, rv r0, iv (5 : Int32), iv (4 : Int32), iv w3] [(.int (4 : Int32)), (.ref r0)])) rfl rfl (hb hby d1_14) t (XS.istore X0.here hx rfl (hb hby d1_15) rfl (l' := #[rv r0, rv r0, iv (5 : Int32), iv (4 : Int32), iv w4]) rfl (XS.iload X0.here hx rfl (hb hby d1_17) rfl (XS.bipush X0.here hx rfl (hb hby d1_19) k)))) ?_
                          by_cases hc21_19 : w4 = (29 : Int32)
                          · refine own_step (U' := s₁.setTop (mkF m 39 #[rv r0, rv r0, iv (5 : Int32), iv (4 : Int32), iv w4] [(.int (1 : Int32))])) (fun t k => XS.icmpYes X0.here hx rfl (pc0 := 21) (pc' := 38) rfl (hb hby d1_21) rfl (teq hc21_19).1 (by decide) (by decide) (XS.iconst X0.here hx rfl (hb hby d1_38) k)) ?_
                            exact own_out X0 (v := (some (.int (1 : Int32)))) hlk (own_nv Bd.returns) (by rw [e0]; exact ⟨by rw [show (F1k5 w0 w1 w2 w3 w4) = (1 : Int32) from (by simp only [F1k5, if_neg hc21_3, if_neg hc28_4, if_neg hc35_5, if_neg hc21_7, if_neg hc28_8, if_neg hc35_9, if_neg hc21_11, if_neg hc28_12, if_neg hc35_13, if_neg hc21_15, if_neg hc28_16, if_neg hc35_17, if_pos hc21_19])], N0, rfl⟩) (by decide) (by decide) (fun fs hr => retN X0 hx (t := .boolean) Bd.returns (by simp) (hb hby d1_39) hr)
                          · refine own_step (U' := s₁.setTop (mkF m 28 #[rv r0, rv r0, iv (5 : Int32), iv (4 : Int32), iv w4] [(.int (30 : Int32)), (.int w4)])) (fun t k => XS.icmpNo X0.here hx rfl (hb hby d1_21) rfl (feq hc21_19).1 (XS.iload X0.here hx rfl (hb hby d1_24) rfl (XS.bipush X0.here hx rfl (hb hby d1_26) k))) ?_
                            by_cases hc28_20 : w4 = (30 : Int32)
                            · refine own_step (U' := s₁.setTop (mkF m 39 #[rv r0, rv r0, iv (5 : Int32), iv (4 : Int32), iv w4] [(.int (1 : Int32))])) (fun t k => XS.icmpYes X0.here hx rfl (pc0 := 28) (pc' := 38) rfl (hb hby d1_28) rfl (teq hc28_20).1 (by decide) (by decide) (XS.iconst X0.here hx rfl (hb hby d1_38) k)) ?_
                              exact own_out X0 (v := (some (.int (1 : Int32)))) hlk (own_nv Bd.returns) (by rw [e0]; exact ⟨by rw [show (F1k5 w0 w1 w2 w3 w4) = (1 : Int32) from (by simp only [F1k5, if_neg hc21_3, if_neg hc28_4, if_neg hc35_5, if_neg hc21_7, if_neg hc28_8, if_neg hc35_9, if_neg hc21_11, if_neg hc28_12, if_neg hc35_13, if_neg hc21_15, if_neg hc28_16, if_neg hc35_17, if_neg hc21_19, if_pos hc28_20])], N0, rfl⟩) (by decide) (by decide) (fun fs hr => retN X0 hx (t := .boolean) Bd.returns (by simp) (hb hby d1_39) hr)
                            · refine own_step (U' := s₁.setTop (mkF m 35 #[rv r0, rv r0, iv (5 : Int32), iv (4 : Int32), iv w4] [(.int (31 : Int32)), (.int w4)])) (fun t k => XS.icmpNo X0.here hx rfl (hb hby d1_28) rfl (feq hc28_20).1 (XS.iload X0.here hx rfl (hb hby d1_31) rfl (XS.bipush X0.here hx rfl (hb hby d1_33) k))) ?_
                              by_cases hc35_21 : w4 = (31 : Int32)
                              · refine own_step (U' := s₁.setTop (mkF m 39 #[rv r0, rv r0, iv (5 : Int32), iv (4 : Int32), iv w4] [(.int (1 : Int32))])) (fun t k => XS.icmpNo X0.here hx rfl (hb hby d1_35) rfl (teq hc35_21).2 (XS.iconst X0.here hx rfl (hb hby d1_38) k)) ?_
                                exact own_out X0 (v := (some (.int (1 : Int32)))) hlk (own_nv Bd.returns) (by rw [e0]; exact ⟨by rw [show (F1k5 w0 w1 w2 w3 w4) = (1 : Int32) from (by simp only [F1k5, if_neg hc21_3, if_neg hc28_4, if_neg hc35_5, if_neg hc21_7, if_neg hc28_8, if_neg hc35_9, if_neg hc21_11, if_neg hc28_12, if_neg hc35_13, if_neg hc21_15, if_neg hc28_16, if_neg hc35_17, if_neg hc21_19, if_neg hc28_20, if_pos hc35_21])], N0, rfl⟩) (by decide) (by decide) (fun fs hr => retN X0 hx (t := .boolean) Bd.returns (by simp) (hb hby d1_39) hr)
                              · refine own_step (U' := s₁.setTop (mkF m 47 #[rv r0, rv r0, iv (5 : Int32), iv (5 : Int32), iv w4] [(.int (0 : Int32))])) (fun t k => XS.icmpYes X0.here hx rfl (pc0 := 35) (pc' := 40) rfl (hb hby d1_35) rfl (feq hc35_21).2 (by decide) (by decide) (XS.iinc X0.here hx rfl (hb hby d1_40) rfl (l' := #[rv r0, rv r0, iv (5 : Int32), iv (5 : Int32), iv w4]) rfl (XS.goto X0.here hx rfl (pc0 := 43) (pc' := 7) rfl (hb hby d1_43) (by decide) (by decide) (XS.iloadN X0.here hx rfl (hb hby d1_7) rfl (XS.iloadN X0.here hx rfl (hb hby d1_8) rfl (XS.icmpYes X0.here hx rfl (pc0 := 9) (pc' := 46) rfl (hb hby d1_9) rfl (by decide) (by decide) (by decide) (XS.iconst X0.here hx rfl (hb hby d1_46) k))))))) ?_
                                exact own_out X0 (v := (some (.int (0 : Int32)))) hlk (own_nv Bd.returns) (by rw [e0]; exact ⟨by rw [show (F1k5 w0 w1 w2 w3 w4) = (0 : Int32) from (by simp only [F1k5, if_neg hc21_3, if_neg hc28_4, if_neg hc35_5, if_neg hc21_7, if_neg hc28_8, if_neg hc35_9, if_neg hc21_11, if_neg hc28_12, if_neg hc35_13, if_neg hc21_15, if_neg hc28_16, if_neg hc35_17, if_neg hc21_19, if_neg hc28_20, if_neg hc35_21])], N0, rfl⟩) (by decide) (by decide) (fun fs hr => retN X0 hx (t := .boolean) Bd.returns (by simp) (hb hby d1_47) hr)
theorem ef_1k4 (m : MethodId) (r0 : Addr) : entryFrame m #[(.ref r0)] 5 = mkF m 0 #[rv r0, .unset, .unset, .unset, .unset] [] := by first | (simp [entryFrame, mkF, argsToLocals, Value.category]; done) | rfl
def F1k4 (w0 : Int32) (w1 : Int32) (w2 : Int32) (w3 : Int32) : Int32 :=
  if w0 = (29 : Int32) then
    (1 : Int32)
  else
    if w0 = (30 : Int32) then
      (1 : Int32)
    else
      if w0 = (31 : Int32) then
        (1 : Int32)
      else
        if w1 = (29 : Int32) then
          (1 : Int32)
        else
          if w1 = (30 : Int32) then
            (1 : Int32)
          else
            if w1 = (31 : Int32) then
              (1 : Int32)
            else
              if w2 = (29 : Int32) then
                (1 : Int32)
              else
                if w2 = (30 : Int32) then
                  (1 : Int32)
                else
                  if w2 = (31 : Int32) then
                    (1 : Int32)
                  else
                    if w3 = (29 : Int32) then
                      (1 : Int32)
                    else
                      if w3 = (30 : Int32) then
                        (1 : Int32)
                      else
                        if w3 = (31 : Int32) then
                          (1 : Int32)
                        else
                          (0 : Int32)
def Q1k4 (Z : State) (r0 : Addr) (w0 : Int32) (w1 : Int32) (w2 : Int32) (w3 : Int32) (k_r0 : ClassId) (h0 : Heap) (n0 : Nat) (v : Option Value) (h : Heap) (L : List Loc) : Prop := v = some (.int (F1k4 w0 w1 w2 w3)) ∧ Fr n0 L ∧ h = h0
set_option maxRecDepth 65536 in
set_option maxHeartbeats 40000000 in
theorem rm1k4 (l : Launch) (Z : State) (a0 : Array Value) (hw : ∀ d ∈ tables_1, d.before a0 Z = true) (ws : List Jvm.Cond) (r0 : Addr) (w0 : Int32) (w1 : Int32) (w2 : Int32) (w3 : Int32) (k_r0 : ClassId) (h0 : Heap) (n0 : Nat) (Z0 : n0 ≤ h0.size) (V_r0 : Arv Z h0 r0 k_r0 .byte (4 : Int32) [(.int w0), (.int w1), (.int w2), (.int w3)] (.int (0 : Int32))) :
    MetFree l (⟨"com/example/tallyfield/tallyfield/marc/Iso2709", "holdsStructuralByte", "([B)Z"⟩ : MethodName) (head1 (Jvm.Cond.code (⟨"com/example/tallyfield/tallyfield/marc/Iso2709", "holdsStructuralByte", "([B)Z"⟩ : MethodName) prog_36_method_2_code 5 (some .boolean) :: ws) ({ frames := 0, cells := 0, slots := 0, locals := 0 } : Room)) (fun a U => a = #[(.ref r0)] ∧ Z.Warmed39 U.vm ∧ U.heap = h0) (fun _ _ _ _ _ => True) (fun _ U o U' => ∃ v L, o = .returned v ∧ Q1k4 Z r0 w0 w1 w2 w3 k_r0 h0 n0 v U'.heap L ∧ FrameEnd U o U' L ({ frames := 0, cells := 0, slots := 0, locals := 0 } : Room).cells ({ frames := 0, cells := 0, slots := 0, locals := 0 } : Room).slots) := by
  refine MetFree.of_bodySF (plainFor_of_name pn_1) hisR ?_
  intro p e s m args below meth c s₁ Bd hml0 hP hK
  obtain ⟨rfl, hZ, hh⟩ := hP
  have hx := Bd.exec
  have hby := Bd.bytes
  have hml : c.maxLocals = 5 := hml0
  have hown : s.vm.findClass "com/example/tallyfield/tallyfield/marc/Iso2709" = some m.cls := findClass_of_methodNamed Bd.named
  have hnm := (name_of_methodNamed Bd.named Bd.method).1
  have hlk : meth.locks = false := Bd.notSynchronized
  have X0 : Stand p l e ({ frames := 0, cells := 0, slots := 0, locals := 0 } : Room) s m #[(.ref r0)] below meth c s₁ [] 0 0 := Stand.of_body Bd
  have e0 : s₁.heap = h0 := by rw [← hh, Bd.state]; rfl
  have N0 := Fr.nil n0
  have KK0 := Keep.refl h0 []
  show own_Go p.tables e below s 0 0 (Q1k4 Z r0 w0 w1 w2 w3 k_r0 h0 n0) (s₁.setTop (entryFrame m #[(.ref r0)] 5))
  rw [ef_1k4]
  refine own_step (U' := s₁.setTop (mkF m 3 #[rv r0, rv r0, .unset, .unset, .unset] [(.ref r0)])) (fun t k => XS.aloadN X0.here hx rfl (hb hby d1_0) rfl rfl (XS.astoreN X0.here hx rfl (hb hby d1_1) rfl rfl (l' := #[rv r0, rv r0, .unset, .unset, .unset]) rfl (XS.aloadN X0.here hx rfl (hb hby d1_2) rfl rfl k))) ?_
  obtain ⟨cl1, Ar1, aq1, aS1, aN1, aH1, aG1⟩ := id V_r0
  have hl1 := len_of aS1 aN1
  refine own_step (U' := s₁.setTop (mkF m 13 #[rv r0, rv r0, iv (4 : Int32), iv (0 : Int32), .unset] [(.ref r0)])) (fun t k => X0.arraylength hx (by rw [e0]; exact Ar1.1) (State.isArrayOf_alike hZ.alike Ar1.2.1) (g := (mkF m 3 #[rv r0, rv r0, .unset, .unset, .unset] [(.ref r0)])) rfl rfl (hb hby d1_3) t (by rw [hl1]; exact (XS.istoreN X0.here hx rfl (hb hby d1_4) rfl (l' := #[rv r0, rv r0, iv (4 : Int32), .unset, .unset]) rfl (XS.iconst X0.here hx rfl (hb hby d1_5) (XS.istoreN X0.here hx rfl (hb hby d1_6) rfl (l' := #[rv r0, rv r0, iv (4 : Int32), iv (0 : Int32), .unset]) rfl (XS.iloadN X0.here hx rfl (hb hby d1_7) rfl (XS.iloadN X0.here hx rfl (hb hby d1_8) rfl (XS.icmpNo X0.here hx rfl (hb hby d1_9) rfl (by decide) (XS.aloadN X0.here hx rfl (hb hby d1_12) rfl rfl k))))))))) ?_
  refine own_step (U' := s₁.setTop (mkF m 14 #[rv r0, rv r0, iv (4 : Int32), iv (0 : Int32), .unset] [(.int (0 : Int32)), (.ref r0)])) (fun t k => XS.iloadN X0.here hx rfl (hb hby d1_13) rfl k) ?_
  obtain ⟨cl2, Ar2, aq2, aS2, aN2, aH2, aG2⟩ := id V_r0
  have hin2 : ¬ ((0 : Int32) < 0 ∨ cl2.slots.size ≤ ((0 : Int32)).toNatClampNeg) := inb_of aS2 ⟨by decide, by decide⟩
  have hat2 : cl2.slots[((0 : Int32)).toNatClampNeg]? = some (.int w0) := aH2.at hin2 rfl
  refine own_step (U' := s₁.setTop (mkF m 21 #[rv r0, rv r0, iv (4 : Int32), iv (0 : Int32), iv w0] [(.int (29 : Int32)), (.int w0)])) (fun t k => X0.baloadBytes hx (j := (0 : Int32)) (v := (.int w0)) (by rw [e0]; exact Ar2.1) (State.isArrayOf_alike hZ.alike Ar2.2.1) Ar2.2.2 hin2 hat2 (g := (mkF m 14 #[rv r0, rv r0, iv (4 : Int32), iv (0 : Int32), .unset] [(.int (0 : Int32)), (.ref r0)])) rfl rfl (hb hby d1_14) t (XS.istore X0.here hx rfl (hb hby d1_15) rfl (l' := #[rv r0, rv r0, iv (4 : Int32), iv (0 : Int32), iv w0]) rfl (XS.iload X0.here hx rfl (hb hby d1_17) rfl (XS.bipush X0.here hx rfl (hb hby d1_19) k)))) ?_
  by_cases hc21_3 : w0 = (29 : Int32)
  · refine own_step (U' := s₁.setTop (mkF m 39 #[rv r0, rv r0, iv (4 : Int32), iv (0 : Int32), iv w0] [(.int (1 : Int32))])) (fun t k => XS.icmpYes X0.here hx rfl (pc0 := 21) (pc' := 38) rfl (hb hby d1_21) rfl (teq hc21_3).1 (by decide) (by decide) (XS.iconst X0.here hx rfl (hb hby d1_38) k)) ?_
    exact own_out X0 (v := (some (.int (1 : Int32)))) hlk (own_nv Bd.returns) (by rw [e0]; exact ⟨by rw [show (F1k4 w0 w1 w2 w3) = (1 : Int32) from (by simp only [F1k4, if_pos hc21_3])], N0, rfl⟩) (by decide) (by decide) (fun fs hr => retN X0 hx (t := .boolean) Bd.returns (by simp) (hb hby d1_39) hr)
  · refine own_step (U' := s₁.setTop (mkF m 28 #[rv r0, rv r0, iv (4 : Int32), iv (0 : Int32), iv w0] [(.int (30 : Int32)), (.int w0)])) (fun t k => XS.icmpNo X0.here hx rfl (hb hby d1_21) rfl (feq hc21_3).1 (XS.iload X0.here hx rfl (hb hby d1_24) rfl (XS.bipush X0.here hx rfl (hb hby d1_26) k))) ?_
    by_cases hc28_4 : w0 = (30 : Int32)
    · refine own_step (U' := s₁.setTop (mkF m 39 #[rv r0, rv r0, iv (4 : Int32), iv (0 : Int32), iv w0] [(.int (1 : Int32))])) (fun t k => XS.icmpYes X0.here hx rfl (pc0 := 28) (pc' := 38) rfl (hb hby d1_28) rfl (teq hc28_4).1 (by decide) (by decide) (XS.iconst X0.here hx rfl (hb hby d1_38) k)) ?_
      exact own_out X0 (v := (some (.int (1 : Int32)))) hlk (own_nv Bd.returns) (by rw [e0]; exact ⟨by rw [show (F1k4 w0 w1 w2 w3) = (1 : Int32) from (by simp only [F1k4, if_neg hc21_3, if_pos hc28_4])], N0, rfl⟩) (by decide) (by decide) (fun fs hr => retN X0 hx (t := .boolean) Bd.returns (by simp) (hb hby d1_39) hr)
    · refine own_step (U' := s₁.setTop (mkF m 35 #[rv r0, rv r0, iv (4 : Int32), iv (0 : Int32), iv w0] [(.int (31 : Int32)), (.int w0)])) (fun t k => XS.icmpNo X0.here hx rfl (hb hby d1_28) rfl (feq hc28_4).1 (XS.iload X0.here hx rfl (hb hby d1_31) rfl (XS.bipush X0.here hx rfl (hb hby d1_33) k))) ?_
      by_cases hc35_5 : w0 = (31 : Int32)
      · refine own_step (U' := s₁.setTop (mkF m 39 #[rv r0, rv r0, iv (4 : Int32), iv (0 : Int32), iv w0] [(.int (1 : Int32))])) (fun t k => XS.icmpNo X0.here hx rfl (hb hby d1_35) rfl (teq hc35_5).2 (XS.iconst X0.here hx rfl (hb hby d1_38) k)) ?_
        exact own_out X0 (v := (some (.int (1 : Int32)))) hlk (own_nv Bd.returns) (by rw [e0]; exact ⟨by rw [show (F1k4 w0 w1 w2 w3) = (1 : Int32) from (by simp only [F1k4, if_neg hc21_3, if_neg hc28_4, if_pos hc35_5])], N0, rfl⟩) (by decide) (by decide) (fun fs hr => retN X0 hx (t := .boolean) Bd.returns (by simp) (hb hby d1_39) hr)
      · refine own_step (U' := s₁.setTop (mkF m 14 #[rv r0, rv r0, iv (4 : Int32), iv (1 : Int32), iv w0] [(.int (1 : Int32)), (.ref r0)])) (fun t k => XS.icmpYes X0.here hx rfl (pc0 := 35) (pc' := 40) rfl (hb hby d1_35) rfl (feq hc35_5).2 (by decide) (by decide) (XS.iinc X0.here hx rfl (hb hby d1_40) rfl (l' := #[rv r0, rv r0, iv (4 : Int32), iv (1 : Int32), iv w0]) rfl (XS.goto X0.here hx rfl (pc0 := 43) (pc' := 7) rfl (hb hby d1_43) (by decide) (by decide) (XS.iloadN X0.here hx rfl (hb hby d1_7) rfl (XS.iloadN X0.here hx rfl (hb hby d1_8) rfl (XS.icmpNo X0.here hx rfl (hb hby d1_9) rfl (by decide) (XS.aloadN X0.here hx rfl (hb hby d1_12) rfl rfl (XS.iloadN X0.here hx rfl (hb hby d1_13) rfl k)))))))) ?_
        obtain ⟨cl6, Ar6, aq6, aS6, aN6, aH6, aG6⟩ := id V_r0
        have hin6 : ¬ ((1 : Int32) < 0 ∨ cl6.slots.size ≤ ((1 : Int32)).toNatClampNeg) := inb_of aS6 ⟨by decide, by decide⟩
        have hat6 : cl6.slots[((1 : Int32)).toNatClampNeg]? = some (.int w1) := aH6.at hin6 rfl
        refine own_step (U' := s₁.setTop (mkF m 21 #[rv r0, rv r0, iv (4 : Int32), iv (1 : Int32), iv w1] [(.int (29 : Int32)), (.int w1)])) (fun t k => X0.baloadBytes hx (j := (1 : Int32)) (v := (.int w1)) (by rw [e0]; exact Ar6.1) (State.isArrayOf_alike hZ.alike Ar6.2.1) Ar6.2.2 hin6 hat6 (g := (mkF m 14 #[rv r0, rv r0, iv (4 : Int32), iv (1 : Int32), iv w0] [(.int (1 : Int32)), (.ref r0)])) rfl rfl (hb hby d1_14) t (XS.istore X0.here hx rfl (hb hby d1_15) rfl (l' := #[rv r0, rv r0, iv (4 : Int32), iv (1 : Int32), iv w1]) rfl (XS.iload X0.here hx rfl (hb hby d1_17) rfl (XS.bipush X0.here hx rfl (hb hby d1_19) k)))) ?_
        by_cases hc21_7 : w1 = (29 : Int32)
        · refine own_step (U' := s₁.setTop (mkF m 39 #[rv r0, rv r0, iv (4 : Int32), iv (1 : Int32), iv w1] [(.int (1 : Int32))])) (fun t k => XS.icmpYes X0.here hx rfl (pc0 := 21) (pc' := 38) rfl (hb hby d1_21) rfl (teq hc21_7).1 (by decide) (by decide) (XS.iconst X0.here hx rfl (hb hby d1_38) k)) ?_
          exact own_out X0 (v := (some (.int (1 : Int32)))) hlk (own_nv Bd.returns) (by rw [e0]; exact ⟨by rw [show (F1k4 w0 w1 w2 w3) = (1 : Int32) from (by simp only [F1k4, if_neg hc21_3, if_neg hc28_4, if_neg hc35_5, if_pos hc21_7])], N0, rfl⟩) (by decide) (by decide) (fun fs hr => retN X0 hx (t := .boolean) Bd.returns (by simp) (hb hby d1_39) hr)
        · refine own_step (U' := s₁.setTop (mkF m 28 #[rv r0, rv r0, iv (4 : Int32), iv (1 : Int32), iv w1] [(.int (30 : Int32)), (.int w1)])) (fun t k => XS.icmpNo X0.here hx rfl (hb hby d1_21) rfl (feq hc21_7).1 (XS.iload X0.here hx rfl (hb hby d1_24) rfl (XS.bipush X0.here hx rfl (hb hby d1_26) k))) ?_
          by_cases hc28_8 : w1 = (30 : Int32)
          · refine own_step (U' := s₁.setTop (mkF m 39 #[rv r0, rv r0, iv (4 : Int32), iv (1 : Int32), iv w1] [(.int (1 : Int32))])) (fun t k => XS.icmpYes X0.here hx rfl (pc0 := 28) (pc' := 38) rfl (hb hby d1_28) rfl (teq hc28_8).1 (by decide) (by decide) (XS.iconst X0.here hx rfl (hb hby d1_38) k)) ?_
            exact own_out X0 (v := (some (.int (1 : Int32)))) hlk (own_nv Bd.returns) (by rw [e0]; exact ⟨by rw [show (F1k4 w0 w1 w2 w3) = (1 : Int32) from (by simp only [F1k4, if_neg hc21_3, if_neg hc28_4, if_neg hc35_5, if_neg hc21_7, if_pos hc28_8])], N0, rfl⟩) (by decide) (by decide) (fun fs hr => retN X0 hx (t := .boolean) Bd.returns (by simp) (hb hby d1_39) hr)
          · refine own_step (U' := s₁.setTop (mkF m 35 #[rv r0, rv r0, iv (4 : Int32), iv (1 : Int32), iv w1] [(.int (31 : Int32)), (.int w1)])) (fun t k => XS.icmpNo X0.here hx rfl (hb hby d1_28) rfl (feq hc28_8).1 (XS.iload X0.here hx rfl (hb hby d1_31) rfl (XS.bipush X0.here hx rfl (hb hby d1_33) k))) ?_
            by_cases hc35_9 : w1 = (31 : Int32)
            · refine own_step (U' := s₁.setTop (mkF m 39 #[rv r0, rv r0, iv (4 : Int32), iv (1 : Int32), iv w1] [(.int (1 : Int32))])) (fun t k => XS.icmpNo X0.here hx rfl (hb hby d1_35) rfl (teq hc35_9).2 (XS.iconst X0.here hx rfl (hb hby d1_38) k)) ?_
              exact own_out X0 (v := (some (.int (1 : Int32)))) hlk (own_nv Bd.returns) (by rw [e0]; exact ⟨by rw [show (F1k4 w0 w1 w2 w3) = (1 : Int32) from (by simp only [F1k4, if_neg hc21_3, if_neg hc28_4, if_neg hc35_5, if_neg hc21_7, if_neg hc28_8, if_pos hc35_9])], N0, rfl⟩) (by decide) (by decide) (fun fs hr => retN X0 hx (t := .boolean) Bd.returns (by simp) (hb hby d1_39) hr)
            · refine own_step (U' := s₁.setTop (mkF m 14 #[rv r0, rv r0, iv (4 : Int32), iv (2 : Int32), iv w1] [(.int (2 : Int32)), (.ref r0)])) (fun t k => XS.icmpYes X0.here hx rfl (pc0 := 35) (pc' := 40) rfl (hb hby d1_35) rfl (feq hc35_9).2 (by decide) (by decide) (XS.iinc X0.here hx rfl (hb hby d1_40) rfl (l' := #[rv r0, rv r0, iv (4 : Int32), iv (2 : Int32), iv w1]) rfl (XS.goto X0.here hx rfl (pc0 := 43) (pc' := 7) rfl (hb hby d1_43) (by decide) (by decide) (XS.iloadN X0.here hx rfl (hb hby d1_7) rfl (XS.iloadN X0.here hx rfl (hb hby d1_8) rfl (XS.icmpNo X0.here hx rfl (hb hby d1_9) rfl (by decide) (XS.aloadN X0.here hx rfl (hb hby d1_12) rfl rfl (XS.iloadN X0.here hx rfl (hb hby d1_13) rfl k)))))))) ?_
              obtain ⟨cl10, Ar10, aq10, aS10, aN10, aH10, aG10⟩ := id V_r0
              have hin10 : ¬ ((2 : Int32) < 0 ∨ cl10.slots.size ≤ ((2 : Int32)).toNatClampNeg) := inb_of aS10 ⟨by decide, by decide⟩
              have hat10 : cl10.slots[((2 : Int32)).toNatClampNeg]? = some (.int w2) := aH10.at hin10 rfl
              refine own_step (U' := s₁.setTop (mkF m 21 #[rv r0, rv r0, iv (4 : Int32), iv (2 : Int32), iv w2] [(.int (29 : Int32)), (.int w2)])) (fun t k => X0.baloadBytes hx (j := (2 : Int32)) (v := (.int w2)) (by rw [e0]; exact Ar10.1) (State.isArrayOf_alike hZ.alike Ar10.2.1) Ar10.2.2 hin10 hat10 (g := (mkF m 14 #[rv r0, rv r0, iv (4 : Int32), iv (2 : Int32), iv w1] [(.int (2 : Int32)), (.ref r0)])) rfl rfl (hb hby d1_14) t (XS.istore X0.here hx rfl (hb hby d1_15) rfl (l' := #[rv r0, rv r0, iv (4 : Int32), iv (2 : Int32), iv w2]) rfl (XS.iload X0.here hx rfl (hb hby d1_17) rfl (XS.bipush X0.here hx rfl (hb hby d1_19) k)))) ?_
              by_cases hc21_11 : w2 = (29 : Int32)
              · refine own_step (U' := s₁.setTop (mkF m 39 #[rv r0, rv r0, iv (4 : Int32), iv (2 : Int32), iv w2] [(.int (1 : Int32))])) (fun t k => XS.icmpYes X0.here hx rfl (pc0 := 21) (pc' := 38) rfl (hb hby d1_21) rfl (teq hc21_11).1 (by decide) (by decide) (XS.iconst X0.here hx rfl (hb hby d1_38) k)) ?_
                exact own_out X0 (v := (some (.int (1 : Int32)))) hlk (own_nv Bd.returns) (by rw [e0]; exact ⟨by rw [show (F1k4 w0 w1 w2 w3) = (1 : Int32) from (by simp only [F1k4, if_neg hc21_3, if_neg hc28_4, if_neg hc35_5, if_neg hc21_7, if_neg hc28_8, if_neg hc35_9, if_pos hc21_11])], N0, rfl⟩) (by decide) (by decide) (fun fs hr => retN X0 hx (t := .boolean) Bd.returns (by simp) (hb hby d1_39) hr)
              · refine own_step (U' := s₁.setTop (mkF m 28 #[rv r0, rv r0, iv (4 : Int32), iv (2 : Int32), iv w2] [(.int (30 : Int32)), (.int w2)])) (fun t k => XS.icmpNo X0.here hx rfl (hb hby d1_21) rfl (feq hc21_11).1 (XS.iload X0.here hx rfl (hb hby d1_24) rfl (XS.bipush X0.here hx rfl (hb hby d1_26) k))) ?_
                by_cases hc28_12 : w2 = (30 : Int32)
                · refine own_step (U' := s₁.setTop (mkF m 39 #[rv r0, rv r0, iv (4 : Int32), iv (2 : Int32), iv w2] [(.int (1 : Int32))])) (fun t k => XS.icmpYes X0.here hx rfl (pc0 := 28) (pc' := 38) rfl (hb hby d1_28) rfl (teq hc28_12).1 (by decide) (by decide) (XS.iconst X0.here hx rfl (hb hby d1_38) k)) ?_
                  exact own_out X0 (v := (some (.int (1 : Int32)))) hlk (own_nv Bd.returns) (by rw [e0]; exact ⟨by rw [show (F1k4 w0 w1 w2 w3) = (1 : Int32) from (by simp only [F1k4, if_neg hc21_3, if_neg hc28_4, if_neg hc35_5, if_neg hc21_7, if_neg hc28_8, if_neg hc35_9, if_neg hc21_11, if_pos hc28_12])], N0, rfl⟩) (by decide) (by decide) (fun fs hr => retN X0 hx (t := .boolean) Bd.returns (by simp) (hb hby d1_39) hr)
                · refine own_step (U' := s₁.setTop (mkF m 35 #[rv r0, rv r0, iv (4 : Int32), iv (2 : Int32), iv w2] [(.int (31 : Int32)), (.int w2)])) (fun t k => XS.icmpNo X0.here hx rfl (hb hby d1_28) rfl (feq hc28_12).1 (XS.iload X0.here hx rfl (hb hby d1_31) rfl (XS.bipush X0.here hx rfl (hb hby d1_33) k))) ?_
                  by_cases hc35_13 : w2 = (31 : Int32)
                  · refine own_step (U' := s₁.setTop (mkF m 39 #[rv r0, rv r0, iv (4 : Int32), iv (2 : Int32), iv w2] [(.int (1 : Int32))])) (fun t k => XS.icmpNo X0.here hx rfl (hb hby d1_35) rfl (teq hc35_13).2 (XS.iconst X0.here hx rfl (hb hby d1_38) k)) ?_
                    exact own_out X0 (v := (some (.int (1 : Int32)))) hlk (own_nv Bd.returns) (by rw [e0]; exact ⟨by rw [show (F1k4 w0 w1 w2 w3) = (1 : Int32) from (by simp only [F1k4, if_neg hc21_3, if_neg hc28_4, if_neg hc35_5, if_neg hc21_7, if_neg hc28_8, if_neg hc35_9, if_neg hc21_11, if_neg hc28_12, if_pos hc35_13])], N0, rfl⟩) (by decide) (by decide) (fun fs hr => retN X0 hx (t := .boolean) Bd.returns (by simp) (hb hby d1_39) hr)
                  · refine own_step (U' := s₁.setTop (mkF m 14 #[rv r0, rv r0, iv (4 : Int32), iv (3 : Int32), iv w2] [(.int (3 : Int32)), (.ref r0)])) (fun t k => XS.icmpYes X0.here hx rfl (pc0 := 35) (pc' := 40) rfl (hb hby d1_35) rfl (feq hc35_13).2 (by decide) (by decide) (XS.iinc X0.here hx rfl (hb hby d1_40) rfl (l' := #[rv r0, rv r0, iv (4 : Int32), iv (3 : Int32), iv w2]) rfl (XS.goto X0.here hx rfl (pc0 := 43) (pc' := 7) rfl (hb hby d1_43) (by decide) (by decide) (XS.iloadN X0.here hx rfl (hb hby d1_7) rfl (XS.iloadN X0.here hx rfl (hb hby d1_8) rfl (XS.icmpNo X0.here hx rfl (hb hby d1_9) rfl (by decide) (XS.aloadN X0.here hx rfl (hb hby d1_12) rfl rfl (XS.iloadN X0.here hx rfl (hb hby d1_13) rfl k)))))))) ?_
                    obtain ⟨cl14, Ar14, aq14, aS14, aN14, aH14, aG14⟩ := id V_r0
                    have hin14 : ¬ ((3 : Int32) < 0 ∨ cl14.slots.size ≤ ((3 : Int32)).toNatClampNeg) := inb_of aS14 ⟨by decide, by decide⟩
                    have hat14 : cl14.slots[((3 : Int32)).toNatClampNeg]? = some (.int w3) := aH14.at hin14 rfl
                    refine own_step (U' := s₁.setTop (mkF m 21 #[rv r0, rv r0, iv (4 : Int32), iv (3 : Int32), iv w3] [(.int (29 : Int32)), (.int w3)])) (fun t k => X0.baloadBytes hx (j := (3 : Int32)) (v := (.int w3)) (by rw [e0]; exact Ar14.1) (State.isArrayOf_alike hZ.alike Ar14.2.1) Ar14.2.2 hin14 hat14 (g := (mkF m 14 #[rv r0, rv r0, iv (4 : Int32), iv (3 : Int32), iv w2] [(.int (3 : Int32)), (.ref r0)])) rfl rfl (hb hby d1_14) t (XS.istore X0.here hx rfl (hb hby d1_15) rfl (l' := #[rv r0, rv r0, iv (4 : Int32), iv (3 : Int32), iv w3]) rfl (XS.iload X0.here hx rfl (hb hby d1_17) rfl (XS.bipush X0.here hx rfl (hb hby d1_19) k)))) ?_
                    by_cases hc21_15 : w3 = (29 : Int32)
                    · refine own_step (U' := s₁.setTop (mkF m 39 #[rv r0, rv r0, iv (4 : Int32), iv (3 : Int32), iv w3] [(.int (1 : Int32))])) (fun t k => XS.icmpYes X0.here hx rfl (pc0 := 21) (pc' := 38) rfl (hb hby d1_21) rfl (teq hc21_15).1 (by decide) (by decide) (XS.iconst X0.here hx rfl (hb hby d1_38) k)) ?_
                      exact own_out X0 (v := (some (.int (1 : Int32)))) hlk (own_nv Bd.returns) (by rw [e0]; exact ⟨by rw [show (F1k4 w0 w1 w2 w3) = (1 : Int32) from (by simp only [F1k4, if_neg hc21_3, if_neg hc28_4, if_neg hc35_5, if_neg hc21_7, if_neg hc28_8, if_neg hc35_9, if_neg hc21_11, if_neg hc28_12, if_neg hc35_13, if_pos hc21_15])], N0, rfl⟩) (by decide) (by decide) (fun fs hr => retN X0 hx (t := .boolean) Bd.returns (by simp) (hb hby d1_39) hr)
                    · refine own_step (U' := s₁.setTop (mkF m 28 #[rv r0, rv r0, iv (4 : Int32), iv (3 : Int32), iv w3] [(.int (30 : Int32)), (.int w3)])) (fun t k => XS.icmpNo X0.here hx rfl (hb hby d1_21) rfl (feq hc21_15).1 (XS.iload X0.here hx rfl (hb hby d1_24) rfl (XS.bipush X0.here hx rfl (hb hby d1_26) k))) ?_
                      by_cases hc28_16 : w3 = (30 : Int32)
                      · refine own_step (U' := s₁.setTop (mkF m 39 #[rv r0, rv r0, iv (4 : Int32), iv (3 : Int32), iv w3] [(.int (1 : Int32))])) (fun t k => XS.icmpYes X0.here hx rfl (pc0 := 28) (pc' := 38) rfl (hb hby d1_28) rfl (teq hc28_16).1 (by decide) (by decide) (XS.iconst X0.here hx rfl (hb hby d1_38) k)) ?_
                        exact own_out X0 (v := (some (.int (1 : Int32)))) hlk (own_nv Bd.returns) (by rw [e0]; exact ⟨by rw [show (F1k4 w0 w1 w2 w3) = (1 : Int32) from (by simp only [F1k4, if_neg hc21_3, if_neg hc28_4, if_neg hc35_5, if_neg hc21_7, if_neg hc28_8, if_neg hc35_9, if_neg hc21_11, if_neg hc28_12, if_neg hc35_13, if_neg hc21_15, if_pos hc28_16])], N0, rfl⟩) (by decide) (by decide) (fun fs hr => retN X0 hx (t := .boolean) Bd.returns (by simp) (hb hby d1_39) hr)
                      · refine own_step (U' := s₁.setTop (mkF m 35 #[rv r0, rv r0, iv (4 : Int32), iv (3 : Int32), iv w3] [(.int (31 : Int32)), (.int w3)])) (fun t k => XS.icmpNo X0.here hx rfl (hb hby d1_28) rfl (feq hc28_16).1 (XS.iload X0.here hx rfl (hb hby d1_31) rfl (XS.bipush X0.here hx rfl (hb hby d1_33) k))) ?_
                        by_cases hc35_17 : w3 = (31 : Int32)
                        · refine own_step (U' := s₁.setTop (mkF m 39 #[rv r0, rv r0, iv (4 : Int32), iv (3 : Int32), iv w3] [(.int (1 : Int32))])) (fun t k => XS.icmpNo X0.here hx rfl (hb hby d1_35) rfl (teq hc35_17).2 (XS.iconst X0.here hx rfl (hb hby d1_38) k)) ?_
                          exact own_out X0 (v := (some (.int (1 : Int32)))) hlk (own_nv Bd.returns) (by rw [e0]; exact ⟨by rw [show (F1k4 w0 w1 w2 w3) = (1 : Int32) from (by simp only [F1k4, if_neg hc21_3, if_neg hc28_4, if_neg hc35_5, if_neg hc21_7, if_neg hc28_8, if_neg hc35_9, if_neg hc21_11, if_neg hc28_12, if_neg hc35_13, if_neg hc21_15, if_neg hc28_16, if_pos hc35_17])], N0, rfl⟩) (by decide) (by decide) (fun fs hr => retN X0 hx (t := .boolean) Bd.returns (by simp) (hb hby d1_39) hr)
                        · refine own_step (U' := s₁.setTop (mkF m 47 #[rv r0, rv r0, iv (4 : Int32), iv (4 : Int32), iv w3] [(.int (0 : Int32))])) (fun t k => XS.icmpYes X0.here hx rfl (pc0 := 35) (pc' := 40) rfl (hb hby d1_35) rfl (feq hc35_17).2 (by decide) (by decide) (XS.iinc X0.here hx rfl (hb hby d1_40) rfl (l' := #[rv r0, rv r0, iv (4 : Int32), iv (4 : Int32), iv w3]) rfl (XS.goto X0.here hx rfl (pc0 := 43) (pc' := 7) rfl (hb hby d1_43) (by decide) (by decide) (XS.iloadN X0.here hx rfl (hb hby d1_7) rfl (XS.iloadN X0.here hx rfl (hb hby d1_8) rfl (XS.icmpYes X0.here hx rfl (pc0 := 9) (pc' := 46) rfl (hb hby d1_9) rfl (by decide) (by decide) (by decide) (XS.iconst X0.here hx rfl (hb hby d1_46) k))))))) ?_
                          exact own_out X0 (v := (some (.int (0 : Int32)))) hlk (own_nv Bd.returns) (by rw [e0]; exact ⟨by rw [show (F1k4 w0 w1 w2 w3) = (0 : Int32) from (by simp only [F1k4, if_neg hc21_3, if_neg hc28_4, if_neg hc35_5, if_neg hc21_7, if_neg hc28_8, if_neg hc35_9, if_neg hc21_11, if_neg hc28_12, if_neg hc35_13, if_neg hc21_15, if_neg hc28_16, if_neg hc35_17])], N0, rfl⟩) (by decide) (by decide) (fun fs hr => retN X0 hx (t := .boolean) Bd.returns (by simp) (hb hby d1_47) hr)
theorem ef_1k3 (m : MethodId) (r0 : Addr) : entryFrame m #[(.ref r0)] 5 = mkF m 0 #[rv r0, .unset, .unset, .unset, .unset] [] := by first | (simp [entryFrame, mkF, argsToLocals, Value.category]; done) | rfl
def F1k3 (w0 : Int32) (w1 : Int32) (w2 : Int32) : Int32 :=
  if w0 = (29 : Int32) then
    (1 : Int32)
  else
    if w0 = (30 : Int32) then
      (1 : Int32)
    else
      if w0 = (31 : Int32) then
        (1 : Int32)
      else
        if w1 = (29 : Int32) then
          (1 : Int32)
        else
          if w1 = (30 : Int32) then
            (1 : Int32)
          else
            if w1 = (31 : Int32) then
              (1 : Int32)
            else
              if w2 = (29 : Int32) then
                (1 : Int32)
              else
                if w2 = (30 : Int32) then
                  (1 : Int32)
                else
                  if w2 = (31 : Int32) then
                    (1 : Int32)
                  else
                    (0 : Int32)
def Q1k3 (Z : State) (r0 : Addr) (w0 : Int32) (w1 : Int32) (w2 : Int32) (k_r0 : ClassId) (h0 : Heap) (n0 : Nat) (v : Option Value) (h : Heap) (L : List Loc) : Prop := v = some (.int (F1k3 w0 w1 w2)) ∧ Fr n0 L ∧ h = h0
set_option maxRecDepth 65536 in
set_option maxHeartbeats 40000000 in
theorem rm1k3 (l : Launch) (Z : State) (a0 : Array Value) (hw : ∀ d ∈ tables_1, d.before a0 Z = true) (ws : List Jvm.Cond) (r0 : Addr) (w0 : Int32) (w1 : Int32) (w2 : Int32) (k_r0 : ClassId) (h0 : Heap) (n0 : Nat) (Z0 : n0 ≤ h0.size) (V_r0 : Arv Z h0 r0 k_r0 .byte (3 : Int32) [(.int w0), (.int w1), (.int w2)] (.int (0 : Int32))) :
    MetFree l (⟨"com/example/tallyfield/tallyfield/marc/Iso2709", "holdsStructuralByte", "([B)Z"⟩ : MethodName) (head1 (Jvm.Cond.code (⟨"com/example/tallyfield/tallyfield/marc/Iso2709", "holdsStructuralByte", "([B)Z"⟩ : MethodName) prog_36_method_2_code 5 (some .boolean) :: ws) ({ frames := 0, cells := 0, slots := 0, locals := 0 } : Room)) (fun a U => a = #[(.ref r0)] ∧ Z.Warmed39 U.vm ∧ U.heap = h0) (fun _ _ _ _ _ => True) (fun _ U o U' => ∃ v L, o = .returned v ∧ Q1k3 Z r0 w0 w1 w2 k_r0 h0 n0 v U'.heap L ∧ FrameEnd U o U' L ({ frames := 0, cells := 0, slots := 0, locals := 0 } : Room).cells ({ frames := 0, cells := 0, slots := 0, locals := 0 } : Room).slots) := by
  refine MetFree.of_bodySF (plainFor_of_name pn_1) hisR ?_
  intro p e s m args below meth c s₁ Bd hml0 hP hK
  obtain ⟨rfl, hZ, hh⟩ := hP
  have hx := Bd.exec
  have hby := Bd.bytes
  have hml : c.maxLocals = 5 := hml0
  have hown : s.vm.findClass "com/example/tallyfield/tallyfield/marc/Iso2709" = some m.cls := findClass_of_methodNamed Bd.named
  have hnm := (name_of_methodNamed Bd.named Bd.method).1
  have hlk : meth.locks = false := Bd.notSynchronized
  have X0 : Stand p l e ({ frames := 0, cells := 0, slots := 0, locals := 0 } : Room) s m #[(.ref r0)] below meth c s₁ [] 0 0 := Stand.of_body Bd
  have e0 : s₁.heap = h0 := by rw [← hh, Bd.state]; rfl
  have N0 := Fr.nil n0
  have KK0 := Keep.refl h0 []
  show own_Go p.tables e below s 0 0 (Q1k3 Z r0 w0 w1 w2 k_r0 h0 n0) (s₁.setTop (entryFrame m #[(.ref r0)] 5))
  rw [ef_1k3]
  refine own_step (U' := s₁.setTop (mkF m 3 #[rv r0, rv r0, .unset, .unset, .unset] [(.ref r0)])) (fun t k => XS.aloadN X0.here hx rfl (hb hby d1_0) rfl rfl (XS.astoreN X0.here hx rfl (hb hby d1_1) rfl rfl (l' := #[rv r0, rv r0, .unset, .unset, .unset]) rfl (XS.aloadN X0.here hx rfl (hb hby d1_2) rfl rfl k))) ?_
  obtain ⟨cl1, Ar1, aq1, aS1, aN1, aH1, aG1⟩ := id V_r0
  have hl1 := len_of aS1 aN1
  refine own_step (U' := s₁.setTop (mkF m 13 #[rv r0, rv r0, iv (3 : Int32), iv (0 : Int32), .unset] [(.ref r0)])) (fun t k => X0.arraylength hx (by rw [e0]; exact Ar1.1) (State.isArrayOf_alike hZ.alike Ar1.2.1) (g := (mkF m 3 #[rv r0, rv r0, .unset, .unset, .unset] [(.ref r0)])) rfl rfl (hb hby d1_3) t (by rw [hl1]; exact (XS.istoreN X0.here hx rfl (hb hby d1_4) rfl (l' := #[rv r0, rv r0, iv (3 : Int32), .unset, .unset]) rfl (XS.iconst X0.here hx rfl (hb hby d1_5) (XS.istoreN X0.here hx rfl (hb hby d1_6) rfl (l' := #[rv r0, rv r0, iv (3 : Int32), iv (0 : Int32), .unset]) rfl (XS.iloadN X0.here hx rfl (hb hby d1_7) rfl (XS.iloadN X0.here hx rfl (hb hby d1_8) rfl (XS.icmpNo X0.here hx rfl (hb hby d1_9) rfl (by decide) (XS.aloadN X0.here hx rfl (hb hby d1_12) rfl rfl k))))))))) ?_
  refine own_step (U' := s₁.setTop (mkF m 14 #[rv r0, rv r0, iv (3 : Int32), iv (0 : Int32), .unset] [(.int (0 : Int32)), (.ref r0)])) (fun t k => XS.iloadN X0.here hx rfl (hb hby d1_13) rfl k) ?_
  obtain ⟨cl2, Ar2, aq2, aS2, aN2, aH2, aG2⟩ := id V_r0
  have hin2 : ¬ ((0 : Int32) < 0 ∨ cl2.slots.size ≤ ((0 : Int32)).toNatClampNeg) := inb_of aS2 ⟨by decide, by decide⟩
  have hat2 : cl2.slots[((0 : Int32)).toNatClampNeg]? = some (.int w0) := aH2.at hin2 rfl
  refine own_step (U' := s₁.setTop (mkF m 21 #[rv r0, rv r0, iv (3 : Int32), iv (0 : Int32), iv w0] [(.int (29 : Int32)), (.int w0)])) (fun t k => X0.baloadBytes hx (j := (0 : Int32)) (v := (.int w0)) (by rw [e0]; exact Ar2.1) (State.isArrayOf_alike hZ.alike Ar2.2.1) Ar2.2.2 hin2 hat2 (g := (mkF m 14 #[rv r0, rv r0, iv (3 : Int32), iv (0 : Int32), .unset] [(.int (0 : Int32)), (.ref r0)])) rfl rfl (hb hby d1_14) t (XS.istore X0.here hx rfl (hb hby d1_15) rfl (l' := #[rv r0, rv r0, iv (3 : Int32), iv (0 : Int32), iv w0]) rfl (XS.iload X0.here hx rfl (hb hby d1_17) rfl (XS.bipush X0.here hx rfl (hb hby d1_19) k)))) ?_
  by_cases hc21_3 : w0 = (29 : Int32)
  · refine own_step (U' := s₁.setTop (mkF m 39 #[rv r0, rv r0, iv (3 : Int32), iv (0 : Int32), iv w0] [(.int (1 : Int32))])) (fun t k => XS.icmpYes X0.here hx rfl (pc0 := 21) (pc' := 38) rfl (hb hby d1_21) rfl (teq hc21_3).1 (by decide) (by decide) (XS.iconst X0.here hx rfl (hb hby d1_38) k)) ?_
    exact own_out X0 (v := (some (.int (1 : Int32)))) hlk (own_nv Bd.returns) (by rw [e0]; exact ⟨by rw [show (F1k3 w0 w1 w2) = (1 : Int32) from (by simp only [F1k3, if_pos hc21_3])], N0, rfl⟩) (by decide) (by decide) (fun fs hr => retN X0 hx (t := .boolean) Bd.returns (by simp) (hb hby d1_39) hr)
  · refine own_step (U' := s₁.setTop (mkF m 28 #[rv r0, rv r0, iv (3 : Int32), iv (0 : Int32), iv w0] [(.int (30 : Int32)), (.int w0)])) (fun t k => XS.icmpNo X0.here hx rfl (hb hby d1_21) rfl (feq hc21_3).1 (XS.iload X0.here hx rfl (hb hby d1_24) rfl (XS.bipush X0.here hx rfl (hb hby d1_26) k))) ?_
    by_cases hc28_4 : w0 = (30 : Int32)
    · refine own_step (U' := s₁.setTop (mkF m 39 #[rv r0, rv r0, iv (3 : Int32), iv (0 : Int32), iv w0] [(.int (1 : Int32))])) (fun t k => XS.icmpYes X0.here hx rfl (pc0 := 28) (pc' := 38) rfl (hb hby d1_28) rfl (teq hc28_4).1 (by decide) (by decide) (XS.iconst X0.here hx rfl (hb hby d1_38) k)) ?_
      exact own_out X0 (v := (some (.int (1 : Int32)))) hlk (own_nv Bd.returns) (by rw [e0]; exact ⟨by rw [show (F1k3 w0 w1 w2) = (1 : Int32) from (by simp only [F1k3, if_neg hc21_3, if_pos hc28_4])], N0, rfl⟩) (by decide) (by decide) (fun fs hr => retN X0 hx (t := .boolean) Bd.returns (by simp) (hb hby d1_39) hr)
    · refine own_step (U' := s₁.setTop (mkF m 35 #[rv r0, rv r0, iv (3 : Int32), iv (0 : Int32), iv w0] [(.int (31 : Int32)), (.int w0)])) (fun t k => XS.icmpNo X0.here hx rfl (hb hby d1_28) rfl (feq hc28_4).1 (XS.iload X0.here hx rfl (hb hby d1_31) rfl (XS.bipush X0.here hx rfl (hb hby d1_33) k))) ?_
      by_cases hc35_5 : w0 = (31 : Int32)
      · refine own_step (U' := s₁.setTop (mkF m 39 #[rv r0, rv r0, iv (3 : Int32), iv (0 : Int32), iv w0] [(.int (1 : Int32))])) (fun t k => XS.icmpNo X0.here hx rfl (hb hby d1_35) rfl (teq hc35_5).2 (XS.iconst X0.here hx rfl (hb hby d1_38) k)) ?_
        exact own_out X0 (v := (some (.int (1 : Int32)))) hlk (own_nv Bd.returns) (by rw [e0]; exact ⟨by rw [show (F1k3 w0 w1 w2) = (1 : Int32) from (by simp only [F1k3, if_neg hc21_3, if_neg hc28_4, if_pos hc35_5])], N0, rfl⟩) (by decide) (by decide) (fun fs hr => retN X0 hx (t := .boolean) Bd.returns (by simp) (hb hby d1_39) hr)
      · refine own_step (U' := s₁.setTop (mkF m 14 #[rv r0, rv r0, iv (3 : Int32), iv (1 : Int32), iv w0] [(.int (1 : Int32)), (.ref r0)])) (fun t k => XS.icmpYes X0.here hx rfl (pc0 := 35) (pc' := 40) rfl (hb hby d1_35) rfl (feq hc35_5).2 (by decide) (by decide) (XS.iinc X0.here hx rfl (hb hby d1_40) rfl (l' := #[rv r0, rv r0, iv (3 : Int32), iv (1 : Int32), iv w0]) rfl (XS.goto X0.here hx rfl (pc0 := 43) (pc' := 7) rfl (hb hby d1_43) (by decide) (by decide) (XS.iloadN X0.here hx rfl (hb hby d1_7) rfl (XS.iloadN X0.here hx rfl (hb hby d1_8) rfl (XS.icmpNo X0.here hx rfl (hb hby d1_9) rfl (by decide) (XS.aloadN X0.here hx rfl (hb hby d1_12) rfl rfl (XS.iloadN X0.here hx rfl (hb hby d1_13) rfl k)))))))) ?_
        obtain ⟨cl6, Ar6, aq6, aS6, aN6, aH6, aG6⟩ := id V_r0
        have hin6 : ¬ ((1 : Int32) < 0 ∨ cl6.slots.size ≤ ((1 : Int32)).toNatClampNeg) := inb_of aS6 ⟨by decide, by decide⟩
        have hat6 : cl6.slots[((1 : Int32)).toNatClampNeg]? = some (.int w1) := aH6.at hin6 rfl
        refine own_step (U' := s₁.setTop (mkF m 21 #[rv r0, rv r0, iv (3 : Int32), iv (1 : Int32), iv w1] [(.int (29 : Int32)), (.int w1)])) (fun t k => X0.baloadBytes hx (j := (1 : Int32)) (v := (.int w1)) (by rw [e0]; exact Ar6.1) (State.isArrayOf_alike hZ.alike Ar6.2.1) Ar6.2.2 hin6 hat6 (g := (mkF m 14 #[rv r0, rv r0, iv (3 : Int32), iv (1 : Int32), iv w0] [(.int (1 : Int32)), (.ref r0)])) rfl rfl (hb hby d1_14) t (XS.istore X0.here hx rfl (hb hby d1_15) rfl (l' := #[rv r0, rv r0, iv (3 : Int32), iv (1 : Int32), iv w1]) rfl (XS.iload X0.here hx rfl (hb hby d1_17) rfl (XS.bipush X0.here hx rfl (hb hby d1_19) k)))) ?_
        by_cases hc21_7 : w1 = (29 : Int32)
        · refine own_step (U' := s₁.setTop (mkF m 39 #[rv r0, rv r0, iv (3 : Int32), iv (1 : Int32), iv w1] [(.int (1 : Int32))])) (fun t k => XS.icmpYes X0.here hx rfl (pc0 := 21) (pc' := 38) rfl (hb hby d1_21) rfl (teq hc21_7).1 (by decide) (by decide) (XS.iconst X0.here hx rfl (hb hby d1_38) k)) ?_
          exact own_out X0 (v := (some (.int (1 : Int32)))) hlk (own_nv Bd.returns) (by rw [e0]; exact ⟨by rw [show (F1k3 w0 w1 w2) = (1 : Int32) from (by simp only [F1k3, if_neg hc21_3, if_neg hc28_4, if_neg hc35_5, if_pos hc21_7])], N0, rfl⟩) (by decide) (by decide) (fun fs hr => retN X0 hx (t := .boolean) Bd.returns (by simp) (hb hby d1_39) hr)
        · refine own_step (U' := s₁.setTop (mkF m 28 #[rv r0, rv r0, iv (3 : Int32), iv (1 : Int32), iv w1] [(.int (30 : Int32)), (.int w1)])) (fun t k => XS.icmpNo X0.here hx rfl (hb hby d1_21) rfl (feq hc21_7).1 (XS.iload X0.here hx rfl (hb hby d1_24) rfl (XS.bipush X0.here hx rfl (hb hby d1_26) k))) ?_
          by_cases hc28_8 : w1 = (30 : Int32)
          · refine own_step (U' := s₁.setTop (mkF m 39 #[rv r0, rv r0, iv (3 : Int32), iv (1 : Int32), iv w1] [(.int (1 : Int32))])) (fun t k => XS.icmpYes X0.here hx rfl (pc0 := 28) (pc' := 38) rfl (hb hby d1_28) rfl (teq hc28_8).1 (by decide) (by decide) (XS.iconst X0.here hx rfl (hb hby d1_38) k)) ?_
            exact own_out X0 (v := (some (.int (1 : Int32)))) hlk (own_nv Bd.returns) (by rw [e0]; exact ⟨by rw [show (F1k3 w0 w1 w2) = (1 : Int32) from (by simp only [F1k3, if_neg hc21_3, if_neg hc28_4, if_neg hc35_5, if_neg hc21_7, if_pos hc28_8])], N0, rfl⟩) (by decide) (by decide) (fun fs hr => retN X0 hx (t := .boolean) Bd.returns (by simp) (hb hby d1_39) hr)
          · refine own_step (U' := s₁.setTop (mkF m 35 #[rv r0, rv r0, iv (3 : Int32), iv (1 : Int32), iv w1] [(.int (31 : Int32)), (.int w1)])) (fun t k => XS.icmpNo X0.here hx rfl (hb hby d1_28) rfl (feq hc28_8).1 (XS.iload X0.here hx rfl (hb hby d1_31) rfl (XS.bipush X0.here hx rfl (hb hby d1_33) k))) ?_
            by_cases hc35_9 : w1 = (31 : Int32)
            · refine own_step (U' := s₁.setTop (mkF m 39 #[rv r0, rv r0, iv (3 : Int32), iv (1 : Int32), iv w1] [(.int (1 : Int32))])) (fun t k => XS.icmpNo X0.here hx rfl (hb hby d1_35) rfl (teq hc35_9).2 (XS.iconst X0.here hx rfl (hb hby d1_38) k)) ?_
              exact own_out X0 (v := (some (.int (1 : Int32)))) hlk (own_nv Bd.returns) (by rw [e0]; exact ⟨by rw [show (F1k3 w0 w1 w2) = (1 : Int32) from (by simp only [F1k3, if_neg hc21_3, if_neg hc28_4, if_neg hc35_5, if_neg hc21_7, if_neg hc28_8, if_pos hc35_9])], N0, rfl⟩) (by decide) (by decide) (fun fs hr => retN X0 hx (t := .boolean) Bd.returns (by simp) (hb hby d1_39) hr)
            · refine own_step (U' := s₁.setTop (mkF m 14 #[rv r0, rv r0, iv (3 : Int32), iv (2 : Int32), iv w1] [(.int (2 : Int32)), (.ref r0)])) (fun t k => XS.icmpYes X0.here hx rfl (pc0 := 35) (pc' := 40) rfl (hb hby d1_35) rfl (feq hc35_9).2 (by decide) (by decide) (XS.iinc X0.here hx rfl (hb hby d1_40) rfl (l' := #[rv r0, rv r0, iv (3 : Int32), iv (2 : Int32), iv w1]) rfl (XS.goto X0.here hx rfl (pc0 := 43) (pc' := 7) rfl (hb hby d1_43) (by decide) (by decide) (XS.iloadN X0.here hx rfl (hb hby d1_7) rfl (XS.iloadN X0.here hx rfl (hb hby d1_8) rfl (XS.icmpNo X0.here hx rfl (hb hby d1_9) rfl (by decide) (XS.aloadN X0.here hx rfl (hb hby d1_12) rfl rfl (XS.iloadN X0.here hx rfl (hb hby d1_13) rfl k)))))))) ?_
              obtain ⟨cl10, Ar10, aq10, aS10, aN10, aH10, aG10⟩ := id V_r0
              have hin10 : ¬ ((2 : Int32) < 0 ∨ cl10.slots.size ≤ ((2 : Int32)).toNatClampNeg) := inb_of aS10 ⟨by decide, by decide⟩
              have hat10 : cl10.slots[((2 : Int32)).toNatClampNeg]? = some (.int w2) := aH10.at hin10 rfl
              refine own_step (U' := s₁.setTop (mkF m 21 #[rv r0, rv r0, iv (3 : Int32), iv (2 : Int32), iv w2] [(.int (29 : Int32)), (.int w2)])) (fun t k => X0.baloadBytes hx (j := (2 : Int32)) (v := (.int w2)) (by rw [e0]; exact Ar10.1) (State.isArrayOf_alike hZ.alike Ar10.2.1) Ar10.2.2 hin10 hat10 (g := (mkF m 14 #[rv r0, rv r0, iv (3 : Int32), iv (2 : Int32), iv w1] [(.int (2 : Int32)), (.ref r0)])) rfl rfl (hb hby d1_14) t (XS.istore X0.here hx rfl (hb hby d1_15) rfl (l' := #[rv r0, rv r0, iv (3 : Int32), iv (2 : Int32), iv w2]) rfl (XS.iload X0.here hx rfl (hb hby d1_17) rfl (XS.bipush X0.here hx rfl (hb hby d1_19) k)))) ?_
              by_cases hc21_11 : w2 = (29 : Int32)
              · refine own_step (U' := s₁.setTop (mkF m 39 #[rv r0, rv r0, iv (3 : Int32), iv (2 : Int32), iv w2] [(.int (1 : Int32))])) (fun t k => XS.icmpYes X0.here hx rfl (pc0 := 21) (pc' := 38) rfl (hb hby d1_21) rfl (teq hc21_11).1 (by decide) (by decide) (XS.iconst X0.here hx rfl (hb hby d1_38) k)) ?_
                exact own_out X0 (v := (some (.int (1 : Int32)))) hlk (own_nv Bd.returns) (by rw [e0]; exact ⟨by rw [show (F1k3 w0 w1 w2) = (1 : Int32) from (by simp only [F1k3, if_neg hc21_3, if_neg hc28_4, if_neg hc35_5, if_neg hc21_7, if_neg hc28_8, if_neg hc35_9, if_pos hc21_11])], N0, rfl⟩) (by decide) (by decide) (fun fs hr => retN X0 hx (t := .boolean) Bd.returns (by simp) (hb hby d1_39) hr)
              · refine own_step (U' := s₁.setTop (mkF m 28 #[rv r0, rv r0, iv (3 : Int32), iv (2 : Int32), iv w2] [(.int (30 : Int32)), (.int w2)])) (fun t k => XS.icmpNo X0.here hx rfl (hb hby d1_21) rfl (feq hc21_11).1 (XS.iload X0.here hx rfl (hb hby d1_24) rfl (XS.bipush X0.here hx rfl (hb hby d1_26) k))) ?_
                by_cases hc28_12 : w2 = (30 : Int32)
                · refine own_step (U' := s₁.setTop (mkF m 39 #[rv r0, rv r0, iv (3 : Int32), iv (2 : Int32), iv w2] [(.int (1 : Int32))])) (fun t k => XS.icmpYes X0.here hx rfl (pc0 := 28) (pc' := 38) rfl (hb hby d1_28) rfl (teq hc28_12).1 (by decide) (by decide) (XS.iconst X0.here hx rfl (hb hby d1_38) k)) ?_
                  exact own_out X0 (v := (some (.int (1 : Int32)))) hlk (own_nv Bd.returns) (by rw [e0]; exact ⟨by rw [show (F1k3 w0 w1 w2) = (1 : Int32) from (by simp only [F1k3, if_neg hc21_3, if_neg hc28_4, if_neg hc35_5, if_neg hc21_7, if_neg hc28_8, if_neg hc35_9, if_neg hc21_11, if_pos hc28_12])], N0, rfl⟩) (by decide) (by decide) (fun fs hr => retN X0 hx (t := .boolean) Bd.returns (by simp) (hb hby d1_39) hr)
                · refine own_step (U' := s₁.setTop (mkF m 35 #[rv r0, rv r0, iv (3 : Int32), iv (2 : Int32), iv w2] [(.int (31 : Int32)), (.int w2)])) (fun t k => XS.icmpNo X0.here hx rfl (hb hby d1_28) rfl (feq hc28_12).1 (XS.iload X0.here hx rfl (hb hby d1_31) rfl (XS.bipush X0.here hx rfl (hb hby d1_33) k))) ?_
                  by_cases hc35_13 : w2 = (31 : Int32)
                  · refine own_step (U' := s₁.setTop (mkF m 39 #[rv r0, rv r0, iv (3 : Int32), iv (2 : Int32), iv w2] [(.int (1 : Int32))])) (fun t k => XS.icmpNo X0.here hx rfl (hb hby d1_35) rfl (teq hc35_13).2 (XS.iconst X0.here hx rfl (hb hby d1_38) k)) ?_
                    exact own_out X0 (v := (some (.int (1 : Int32)))) hlk (own_nv Bd.returns) (by rw [e0]; exact ⟨by rw [show (F1k3 w0 w1 w2) = (1 : Int32) from (by simp only [F1k3, if_neg hc21_3, if_neg hc28_4, if_neg hc35_5, if_neg hc21_7, if_neg hc28_8, if_neg hc35_9, if_neg hc21_11, if_neg hc28_12, if_pos hc35_13])], N0, rfl⟩) (by decide) (by decide) (fun fs hr => retN X0 hx (t := .boolean) Bd.returns (by simp) (hb hby d1_39) hr)
                  · refine own_step (U' := s₁.setTop (mkF m 47 #[rv r0, rv r0, iv (3 : Int32), iv (3 : Int32), iv w2] [(.int (0 : Int32))])) (fun t k => XS.icmpYes X0.here hx rfl (pc0 := 35) (pc' := 40) rfl (hb hby d1_35) rfl (feq hc35_13).2 (by decide) (by decide) (XS.iinc X0.here hx rfl (hb hby d1_40) rfl (l' := #[rv r0, rv r0, iv (3 : Int32), iv (3 : Int32), iv w2]) rfl (XS.goto X0.here hx rfl (pc0 := 43) (pc' := 7) rfl (hb hby d1_43) (by decide) (by decide) (XS.iloadN X0.here hx rfl (hb hby d1_7) rfl (XS.iloadN X0.here hx rfl (hb hby d1_8) rfl (XS.icmpYes X0.here hx rfl (pc0 := 9) (pc' := 46) rfl (hb hby d1_9) rfl (by decide) (by decide) (by decide) (XS.iconst X0.here hx rfl (hb hby d1_46) k))))))) ?_
                    exact own_out X0 (v := (some (.int (0 : Int32)))) hlk (own_nv Bd.returns) (by rw [e0]; exact ⟨by rw [show (F1k3 w0 w1 w2) = (0 : Int32) from (by simp only [F1k3, if_neg hc21_3, if_neg hc28_4, if_neg hc35_5, if_neg hc21_7, if_neg hc28_8, if_neg hc35_9, if_neg hc21_11, if_neg hc28_12, if_neg hc35_13])], N0, rfl⟩) (by decide) (by decide) (fun fs hr => retN X0 hx (t := .boolean) Bd.returns (by simp) (hb hby d1_47) hr)
theorem ef_1k2 (m : MethodId) (r0 : Addr) : entryFrame m #[(.ref r0)] 5 = mkF m 0 #[rv r0, .unset, .unset, .unset, .unset] [] := by first | (simp [entryFrame, mkF, argsToLocals, Value.category]; done) | rfl
def F1k2 (w0 : Int32) (w1 : Int32) : Int32 :=
  if w0 = (29 : Int32) then
    (1 : Int32)
  else
    if w0 = (30 : Int32) then
      (1 : Int32)
    else
      if w0 = (31 : Int32) then
        (1 : Int32)
      else
        if w1 = (29 : Int32) then
          (1 : Int32)
        else
          if w1 = (30 : Int32) then
            (1 : Int32)
          else
            if w1 = (31 : Int32) then
              (1 : Int32)
            else
              (0 : Int32)
def Q1k2 (Z : State) (r0 : Addr) (w0 : Int32) (w1 : Int32) (k_r0 : ClassId) (h0 : Heap) (n0 : Nat) (v : Option Value) (h : Heap) (L : List Loc) : Prop := v = some (.int (F1k2 w0 w1)) ∧ Fr n0 L ∧ h = h0
set_option maxRecDepth 65536 in
set_option maxHeartbeats 40000000 in
theorem rm1k2 (l : Launch) (Z : State) (a0 : Array Value) (hw : ∀ d ∈ tables_1, d.before a0 Z = true) (ws : List Jvm.Cond) (r0 : Addr) (w0 : Int32) (w1 : Int32) (k_r0 : ClassId) (h0 : Heap) (n0 : Nat) (Z0 : n0 ≤ h0.size) (V_r0 : Arv Z h0 r0 k_r0 .byte (2 : Int32) [(.int w0), (.int w1)] (.int (0 : Int32))) :
    MetFree l (⟨"com/example/tallyfield/tallyfield/marc/Iso2709", "holdsStructuralByte", "([B)Z"⟩ : MethodName) (head1 (Jvm.Cond.code (⟨"com/example/tallyfield/tallyfield/marc/Iso2709", "holdsStructuralByte", "([B)Z"⟩ : MethodName) prog_36_method_2_code 5 (some .boolean) :: ws) ({ frames := 0, cells := 0, slots := 0, locals := 0 } : Room)) (fun a U => a = #[(.ref r0)] ∧ Z.Warmed39 U.vm ∧ U.heap = h0) (fun _ _ _ _ _ => True) (fun _ U o U' => ∃ v L, o = .returned v ∧ Q1k2 Z r0 w0 w1 k_r0 h0 n0 v U'.heap L ∧ FrameEnd U o U' L ({ frames := 0, cells := 0, slots := 0, locals := 0 } : Room).cells ({ frames := 0, cells := 0, slots := 0, locals := 0 } : Room).slots) := by
  refine MetFree.of_bodySF (plainFor_of_name pn_1) hisR ?_
  intro p e s m args below meth c s₁ Bd hml0 hP hK
  obtain ⟨rfl, hZ, hh⟩ := hP
  have hx := Bd.exec
  have hby := Bd.bytes
  have hml : c.maxLocals = 5 := hml0
  have hown : s.vm.findClass "com/example/tallyfield/tallyfield/marc/Iso2709" = some m.cls := findClass_of_methodNamed Bd.named
  have hnm := (name_of_methodNamed Bd.named Bd.method).1
  have hlk : meth.locks = false := Bd.notSynchronized
  have X0 : Stand p l e ({ frames := 0, cells := 0, slots := 0, locals := 0 } : Room) s m #[(.ref r0)] below meth c s₁ [] 0 0 := Stand.of_body Bd
  have e0 : s₁.heap = h0 := by rw [← hh, Bd.state]; rfl
  have N0 := Fr.nil n0
  have KK0 := Keep.refl h0 []
  show own_Go p.tables e below s 0 0 (Q1k2 Z r0 w0 w1 k_r0 h0 n0) (s₁.setTop (entryFrame m #[(.ref r0)] 5))
  rw [ef_1k2]
  refine own_step (U' := s₁.setTop (mkF m 3 #[rv r0, rv r0, .unset, .unset, .unset] [(.ref r0)])) (fun t k => XS.aloadN X0.here hx rfl (hb hby d1_0) rfl rfl (XS.astoreN X0.here hx rfl (hb hby d1_1) rfl rfl (l' := #[rv r0, rv r0, .unset, .unset, .unset]) rfl (XS.aloadN X0.here hx rfl (hb hby d1_2) rfl rfl k))) ?_
  obtain ⟨cl1, Ar1, aq1, aS1, aN1, aH1, aG1⟩ := id V_r0
  have hl1 := len_of aS1 aN1
  refine own_step (U' := s₁.setTop (mkF m 13 #[rv r0, rv r0, iv (2 : Int32), iv (0 : Int32), .unset] [(.ref r0)])) (fun t k => X0.arraylength hx (by rw [e0]; exact Ar1.1) (State.isArrayOf_alike hZ.alike Ar1.2.1) (g := (mkF m 3 #[rv r0, rv r0, .unset, .unset, .unset] [(.ref r0)])) rfl rfl (hb hby d1_3) t (by rw [hl1]; exact (XS.istoreN X0.here hx rfl (hb hby d1_4) rfl (l' := #[rv r0, rv r0, iv (2 : Int32), .unset, .unset]) rfl (XS.iconst X0.here hx rfl (hb hby d1_5) (XS.istoreN X0.here hx rfl (hb hby d1_6) rfl (l' := #[rv r0, rv r0, iv (2 : Int32), iv (0 : Int32), .unset]) rfl (XS.iloadN X0.here hx rfl (hb hby d1_7) rfl (XS.iloadN X0.here hx rfl (hb hby d1_8) rfl (XS.icmpNo X0.here hx rfl (hb hby d1_9) rfl (by decide) (XS.aloadN X0.here hx rfl (hb hby d1_12) rfl rfl k))))))))) ?_
  refine own_step (U' := s₁.setTop (mkF m 14 #[rv r0, rv r0, iv (2 : Int32), iv (0 : Int32), .unset] [(.int (0 : Int32)), (.ref r0)])) (fun t k => XS.iloadN X0.here hx rfl (hb hby d1_13) rfl k) ?_
  obtain ⟨cl2, Ar2, aq2, aS2, aN2, aH2, aG2⟩ := id V_r0
  have hin2 : ¬ ((0 : Int32) < 0 ∨ cl2.slots.size ≤ ((0 : Int32)).toNatClampNeg) := inb_of aS2 ⟨by decide, by decide⟩
  have hat2 : cl2.slots[((0 : Int32)).toNatClampNeg]? = some (.int w0) := aH2.at hin2 rfl
  refine own_step (U' := s₁.setTop (mkF m 21 #[rv r0, rv r0, iv (2 : Int32), iv (0 : Int32), iv w0] [(.int (29 : Int32)), (.int w0)])) (fun t k => X0.baloadBytes hx (j := (0 : Int32)) (v := (.int w0)) (by rw [e0]; exact Ar2.1) (State.isArrayOf_alike hZ.alike Ar2.2.1) Ar2.2.2 hin2 hat2 (g := (mkF m 14 #[rv r0, rv r0, iv (2 : Int32), iv (0 : Int32), .unset] [(.int (0 : Int32)), (.ref r0)])) rfl rfl (hb hby d1_14) t (XS.istore X0.here hx rfl (hb hby d1_15) rfl (l' := #[rv r0, rv r0, iv (2 : Int32), iv (0 : Int32), iv w0]) rfl (XS.iload X0.here hx rfl (hb hby d1_17) rfl (XS.bipush X0.here hx rfl (hb hby d1_19) k)))) ?_
  by_cases hc21_3 : w0 = (29 : Int32)
  · refine own_step (U' := s₁.setTop (mkF m 39 #[rv r0, rv r0, iv (2 : Int32), iv (0 : Int32), iv w0] [(.int (1 : Int32))])) (fun t k => XS.icmpYes X0.here hx rfl (pc0 := 21) (pc' := 38) rfl (hb hby d1_21) rfl (teq hc21_3).1 (by decide) (by decide) (XS.iconst X0.here hx rfl (hb hby d1_38) k)) ?_
    exact own_out X0 (v := (some (.int (1 : Int32)))) hlk (own_nv Bd.returns) (by rw [e0]; exact ⟨by rw [show (F1k2 w0 w1) = (1 : Int32) from (by simp only [F1k2, if_pos hc21_3])], N0, rfl⟩) (by decide) (by decide) (fun fs hr => retN X0 hx (t := .boolean) Bd.returns (by simp) (hb hby d1_39) hr)
  · refine own_step (U' := s₁.setTop (mkF m 28 #[rv r0, rv r0, iv (2 : Int32), iv (0 : Int32), iv w0] [(.int (30 : Int32)), (.int w0)])) (fun t k => XS.icmpNo X0.here hx rfl (hb hby d1_21) rfl (feq hc21_3).1 (XS.iload X0.here hx rfl (hb hby d1_24) rfl (XS.bipush X0.here hx rfl (hb hby d1_26) k))) ?_
    by_cases hc28_4 : w0 = (30 : Int32)
    · refine own_step (U' := s₁.setTop (mkF m 39 #[rv r0, rv r0, iv (2 : Int32), iv (0 : Int32), iv w0] [(.int (1 : Int32))])) (fun t k => XS.icmpYes X0.here hx rfl (pc0 := 28) (pc' := 38) rfl (hb hby d1_28) rfl (teq hc28_4).1 (by decide) (by decide) (XS.iconst X0.here hx rfl (hb hby d1_38) k)) ?_
      exact own_out X0 (v := (some (.int (1 : Int32)))) hlk (own_nv Bd.returns) (by rw [e0]; exact ⟨by rw [show (F1k2 w0 w1) = (1 : Int32) from (by simp only [F1k2, if_neg hc21_3, if_pos hc28_4])], N0, rfl⟩) (by decide) (by decide) (fun fs hr => retN X0 hx (t := .boolean) Bd.returns (by simp) (hb hby d1_39) hr)
    · refine own_step (U' := s₁.setTop (mkF m 35 #[rv r0, rv r0, iv (2 : Int32), iv (0 : Int32), iv w0] [(.int (31 : Int32)), (.int w0)])) (fun t k => XS.icmpNo X0.here hx rfl (hb hby d1_28) rfl (feq hc28_4).1 (XS.iload X0.here hx rfl (hb hby d1_31) rfl (XS.bipush X0.here hx rfl (hb hby d1_33) k))) ?_
      by_cases hc35_5 : w0 = (31 : Int32)
      · refine own_step (U' := s₁.setTop (mkF m 39 #[rv r0, rv r0, iv (2 : Int32), iv (0 : Int32), iv w0] [(.int (1 : Int32))])) (fun t k => XS.icmpNo X0.here hx rfl (hb hby d1_35) rfl (teq hc35_5).2 (XS.iconst X0.here hx rfl (hb hby d1_38) k)) ?_
        exact own_out X0 (v := (some (.int (1 : Int32)))) hlk (own_nv Bd.returns) (by rw [e0]; exact ⟨by rw [show (F1k2 w0 w1) = (1 : Int32) from (by simp only [F1k2, if_neg hc21_3, if_neg hc28_4, if_pos hc35_5])], N0, rfl⟩) (by decide) (by decide) (fun fs hr => retN X0 hx (t := .boolean) Bd.returns (by simp) (hb hby d1_39) hr)
      · refine own_step (U' := s₁.setTop (mkF m 14 #[rv r0, rv r0, iv (2 : Int32), iv (1 : Int32), iv w0] [(.int (1 : Int32)), (.ref r0)])) (fun t k => XS.icmpYes X0.here hx rfl (pc0 := 35) (pc' := 40) rfl (hb hby d1_35) rfl (feq hc35_5).2 (by decide) (by decide) (XS.iinc X0.here hx rfl (hb hby d1_40) rfl (l' := #[rv r0, rv r0, iv (2 : Int32), iv (1 : Int32), iv w0]) rfl (XS.goto X0.here hx rfl (pc0 := 43) (pc' := 7) rfl (hb hby d1_43) (by decide) (by decide) (XS.iloadN X0.here hx rfl (hb hby d1_7) rfl (XS.iloadN X0.here hx rfl (hb hby d1_8) rfl (XS.icmpNo X0.here hx rfl (hb hby d1_9) rfl (by decide) (XS.aloadN X0.here hx rfl (hb hby d1_12) rfl rfl (XS.iloadN X0.here hx rfl (hb hby d1_13) rfl k)))))))) ?_
        obtain ⟨cl6, Ar6, aq6, aS6, aN6, aH6, aG6⟩ := id V_r0
        have hin6 : ¬ ((1 : Int32) < 0 ∨ cl6.slots.size ≤ ((1 : Int32)).toNatClampNeg) := inb_of aS6 ⟨by decide, by decide⟩
        have hat6 : cl6.slots[((1 : Int32)).toNatClampNeg]? = some (.int w1) := aH6.at hin6 rfl
        refine own_step (U' := s₁.setTop (mkF m 21 #[rv r0, rv r0, iv (2 : Int32), iv (1 : Int32), iv w1] [(.int (29 : Int32)), (.int w1)])) (fun t k => X0.baloadBytes hx (j := (1 : Int32)) (v := (.int w1)) (by rw [e0]; exact Ar6.1) (State.isArrayOf_alike hZ.alike Ar6.2.1) Ar6.2.2 hin6 hat6 (g := (mkF m 14 #[rv r0, rv r0, iv (2 : Int32), iv (1 : Int32), iv w0] [(.int (1 : Int32)), (.ref r0)])) rfl rfl (hb hby d1_14) t (XS.istore X0.here hx rfl (hb hby d1_15) rfl (l' := #[rv r0, rv r0, iv (2 : Int32), iv (1 : Int32), iv w1]) rfl (XS.iload X0.here hx rfl (hb hby d1_17) rfl (XS.bipush X0.here hx rfl (hb hby d1_19) k)))) ?_
        by_cases hc21_7 : w1 = (29 : Int32)
        · refine own_step (U' := s₁.setTop (mkF m 39 #[rv r0, rv r0, iv (2 : Int32), iv (1 : Int32), iv w1] [(.int (1 : Int32))])) (fun t k => XS.icmpYes X0.here hx rfl (pc0 := 21) (pc' := 38) rfl (hb hby d1_21) rfl (teq hc21_7).1 (by decide) (by decide) (XS.iconst X0.here hx rfl (hb hby d1_38) k)) ?_
          exact own_out X0 (v := (some (.int (1 : Int32)))) hlk (own_nv Bd.returns) (by rw [e0]; exact ⟨by rw [show (F1k2 w0 w1) = (1 : Int32) from (by simp only [F1k2, if_neg hc21_3, if_neg hc28_4, if_neg hc35_5, if_pos hc21_7])], N0, rfl⟩) (by decide) (by decide) (fun fs hr => retN X0 hx (t := .boolean) Bd.returns (by simp) (hb hby d1_39) hr)
        · refine own_step (U' := s₁.setTop (mkF m 28 #[rv r0, rv r0, iv (2 : Int32), iv (1 : Int32), iv w1] [(.int (30 : Int32)), (.int w1)])) (fun t k => XS.icmpNo X0.here hx rfl (hb hby d1_21) rfl (feq hc21_7).1 (XS.iload X0.here hx rfl (hb hby d1_24) rfl (XS.bipush X0.here hx rfl (hb hby d1_26) k))) ?_
          by_cases hc28_8 : w1 = (30 : Int32)
          · refine own_step (U' := s₁.setTop (mkF m 39 #[rv r0, rv r0, iv (2 : Int32), iv (1 : Int32), iv w1] [(.int (1 : Int32))])) (fun t k => XS.icmpYes X0.here hx rfl (pc0 := 28) (pc' := 38) rfl (hb hby d1_28) rfl (teq hc28_8).1 (by decide) (by decide) (XS.iconst X0.here hx rfl (hb hby d1_38) k)) ?_
            exact own_out X0 (v := (some (.int (1 : Int32)))) hlk (own_nv Bd.returns) (by rw [e0]; exact ⟨by rw [show (F1k2 w0 w1) = (1 : Int32) from (by simp only [F1k2, if_neg hc21_3, if_neg hc28_4, if_neg hc35_5, if_neg hc21_7, if_pos hc28_8])], N0, rfl⟩) (by decide) (by decide) (fun fs hr => retN X0 hx (t := .boolean) Bd.returns (by simp) (hb hby d1_39) hr)
          · refine own_step (U' := s₁.setTop (mkF m 35 #[rv r0, rv r0, iv (2 : Int32), iv (1 : Int32), iv w1] [(.int (31 : Int32)), (.int w1)])) (fun t k => XS.icmpNo X0.here hx rfl (hb hby d1_28) rfl (feq hc28_8).1 (XS.iload X0.here hx rfl (hb hby d1_31) rfl (XS.bipush X0.here hx rfl (hb hby d1_33) k))) ?_
            by_cases hc35_9 : w1 = (31 : Int32)
            · refine own_step (U' := s₁.setTop (mkF m 39 #[rv r0, rv r0, iv (2 : Int32), iv (1 : Int32), iv w1] [(.int (1 : Int32))])) (fun t k => XS.icmpNo X0.here hx rfl (hb hby d1_35) rfl (teq hc35_9).2 (XS.iconst X0.here hx rfl (hb hby d1_38) k)) ?_
              exact own_out X0 (v := (some (.int (1 : Int32)))) hlk (own_nv Bd.returns) (by rw [e0]; exact ⟨by rw [show (F1k2 w0 w1) = (1 : Int32) from (by simp only [F1k2, if_neg hc21_3, if_neg hc28_4, if_neg hc35_5, if_neg hc21_7, if_neg hc28_8, if_pos hc35_9])], N0, rfl⟩) (by decide) (by decide) (fun fs hr => retN X0 hx (t := .boolean) Bd.returns (by simp) (hb hby d1_39) hr)
            · refine own_step (U' := s₁.setTop (mkF m 47 #[rv r0, rv r0, iv (2 : Int32), iv (2 : Int32), iv w1] [(.int (0 : Int32))])) (fun t k => XS.icmpYes X0.here hx rfl (pc0 := 35) (pc' := 40) rfl (hb hby d1_35) rfl (feq hc35_9).2 (by decide) (by decide) (XS.iinc X0.here hx rfl (hb hby d1_40) rfl (l' := #[rv r0, rv r0, iv (2 : Int32), iv (2 : Int32), iv w1]) rfl (XS.goto X0.here hx rfl (pc0 := 43) (pc' := 7) rfl (hb hby d1_43) (by decide) (by decide) (XS.iloadN X0.here hx rfl (hb hby d1_7) rfl (XS.iloadN X0.here hx rfl (hb hby d1_8) rfl (XS.icmpYes X0.here hx rfl (pc0 := 9) (pc' := 46) rfl (hb hby d1_9) rfl (by decide) (by decide) (by decide) (XS.iconst X0.here hx rfl (hb hby d1_46) k))))))) ?_
              exact own_out X0 (v := (some (.int (0 : Int32)))) hlk (own_nv Bd.returns) (by rw [e0]; exact ⟨by rw [show (F1k2 w0 w1) = (0 : Int32) from (by simp only [F1k2, if_neg hc21_3, if_neg hc28_4, if_neg hc35_5, if_neg hc21_7, if_neg hc28_8, if_neg hc35_9])], N0, rfl⟩) (by decide) (by decide) (fun fs hr => retN X0 hx (t := .boolean) Bd.returns (by simp) (hb hby d1_47) hr)
theorem ef_1k1 (m : MethodId) (r0 : Addr) : entryFrame m #[(.ref r0)] 5 = mkF m 0 #[rv r0, .unset, .unset, .unset, .unset] [] := by first | (simp [entryFrame, mkF, argsToLocals, Value.category]; done) | rfl
def F1k1 (w0 : Int32) : Int32 :=
  if w0 = (29 : Int32) then
    (1 : Int32)
  else
    if w0 = (30 : Int32) then
      (1 : Int32)
    else
      if w0 = (31 : Int32) then
        (1 : Int32)
      else
        (0 : Int32)
def Q1k1 (Z : State) (r0 : Addr) (w0 : Int32) (k_r0 : ClassId) (h0 : Heap) (n0 : Nat) (v : Option Value) (h : Heap) (L : List Loc) : Prop := v = some (.int (F1k1 w0)) ∧ Fr n0 L ∧ h = h0
set_option maxRecDepth 65536 in
set_option maxHeartbeats 40000000 in
theorem rm1k1 (l : Launch) (Z : State) (a0 : Array Value) (hw : ∀ d ∈ tables_1, d.before a0 Z = true) (ws : List Jvm.Cond) (r0 : Addr) (w0 : Int32) (k_r0 : ClassId) (h0 : Heap) (n0 : Nat) (Z0 : n0 ≤ h0.size) (V_r0 : Arv Z h0 r0 k_r0 .byte (1 : Int32) [(.int w0)] (.int (0 : Int32))) :
    MetFree l (⟨"com/example/tallyfield/tallyfield/marc/Iso2709", "holdsStructuralByte", "([B)Z"⟩ : MethodName) (head1 (Jvm.Cond.code (⟨"com/example/tallyfield/tallyfield/marc/Iso2709", "holdsStructuralByte", "([B)Z"⟩ : MethodName) prog_36_method_2_code 5 (some .boolean) :: ws) ({ frames := 0, cells := 0, slots := 0, locals := 0 } : Room)) (fun a U => a = #[(.ref r0)] ∧ Z.Warmed39 U.vm ∧ U.heap = h0) (fun _ _ _ _ _ => True) (fun _ U o U' => ∃ v L, o = .returned v ∧ Q1k1 Z r0 w0 k_r0 h0 n0 v U'.heap L ∧ FrameEnd U o U' L ({ frames := 0, cells := 0, slots := 0, locals := 0 } : Room).cells ({ frames := 0, cells := 0, slots := 0, locals := 0 } : Room).slots) := by
  refine MetFree.of_bodySF (plainFor_of_name pn_1) hisR ?_
  intro p e s m args below meth c s₁ Bd hml0 hP hK
  obtain ⟨rfl, hZ, hh⟩ := hP
  have hx := Bd.exec
  have hby := Bd.bytes
  have hml : c.maxLocals = 5 := hml0
  have hown : s.vm.findClass "com/example/tallyfield/tallyfield/marc/Iso2709" = some m.cls := findClass_of_methodNamed Bd.named
  have hnm := (name_of_methodNamed Bd.named Bd.method).1
  have hlk : meth.locks = false := Bd.notSynchronized
  have X0 : Stand p l e ({ frames := 0, cells := 0, slots := 0, locals := 0 } : Room) s m #[(.ref r0)] below meth c s₁ [] 0 0 := Stand.of_body Bd
  have e0 : s₁.heap = h0 := by rw [← hh, Bd.state]; rfl
  have N0 := Fr.nil n0
  have KK0 := Keep.refl h0 []
  show own_Go p.tables e below s 0 0 (Q1k1 Z r0 w0 k_r0 h0 n0) (s₁.setTop (entryFrame m #[(.ref r0)] 5))
  rw [ef_1k1]
  refine own_step (U' := s₁.setTop (mkF m 3 #[rv r0, rv r0, .unset, .unset, .unset] [(.ref r0)])) (fun t k => XS.aloadN X0.here hx rfl (hb hby d1_0) rfl rfl (XS.astoreN X0.here hx rfl (hb hby d1_1) rfl rfl (l' := #[rv r0, rv r0, .unset, .unset, .unset]) rfl (XS.aloadN X0.here hx rfl (hb hby d1_2) rfl rfl k))) ?_
  obtain ⟨cl1, Ar1, aq1, aS1, aN1, aH1, aG1⟩ := id V_r0
  have hl1 := len_of aS1 aN1
  refine own_step (U' := s₁.setTop (mkF m 13 #[rv r0, rv r0, iv (1 : Int32), iv (0 : Int32), .unset] [(.ref r0)])) (fun t k => X0.arraylength hx (by rw [e0]; exact Ar1.1) (State.isArrayOf_alike hZ.alike Ar1.2.1) (g := (mkF m 3 #[rv r0, rv r0, .unset, .unset, .unset] [(.ref r0)])) rfl rfl (hb hby d1_3) t (by rw [hl1]; exact (XS.istoreN X0.here hx rfl (hb hby d1_4) rfl (l' := #[rv r0, rv r0, iv (1 : Int32), .unset, .unset]) rfl (XS.iconst X0.here hx rfl (hb hby d1_5) (XS.istoreN X0.here hx rfl (hb hby d1_6) rfl (l' := #[rv r0, rv r0, iv (1 : Int32), iv (0 : Int32), .unset]) rfl (XS.iloadN X0.here hx rfl (hb hby d1_7) rfl (XS.iloadN X0.here hx rfl (hb hby d1_8) rfl (XS.icmpNo X0.here hx rfl (hb hby d1_9) rfl (by decide) (XS.aloadN X0.here hx rfl (hb hby d1_12) rfl rfl k))))))))) ?_
  refine own_step (U' := s₁.setTop (mkF m 14 #[rv r0, rv r0, iv (1 : Int32), iv (0 : Int32), .unset] [(.int (0 : Int32)), (.ref r0)])) (fun t k => XS.iloadN X0.here hx rfl (hb hby d1_13) rfl k) ?_
  obtain ⟨cl2, Ar2, aq2, aS2, aN2, aH2, aG2⟩ := id V_r0
  have hin2 : ¬ ((0 : Int32) < 0 ∨ cl2.slots.size ≤ ((0 : Int32)).toNatClampNeg) := inb_of aS2 ⟨by decide, by decide⟩
  have hat2 : cl2.slots[((0 : Int32)).toNatClampNeg]? = some (.int w0) := aH2.at hin2 rfl
  refine own_step (U' := s₁.setTop (mkF m 21 #[rv r0, rv r0, iv (1 : Int32), iv (0 : Int32), iv w0] [(.int (29 : Int32)), (.int w0)])) (fun t k => X0.baloadBytes hx (j := (0 : Int32)) (v := (.int w0)) (by rw [e0]; exact Ar2.1) (State.isArrayOf_alike hZ.alike Ar2.2.1) Ar2.2.2 hin2 hat2 (g := (mkF m 14 #[rv r0, rv r0, iv (1 : Int32), iv (0 : Int32), .unset] [(.int (0 : Int32)), (.ref r0)])) rfl rfl (hb hby d1_14) t (XS.istore X0.here hx rfl (hb hby d1_15) rfl (l' := #[rv r0, rv r0, iv (1 : Int32), iv (0 : Int32), iv w0]) rfl (XS.iload X0.here hx rfl (hb hby d1_17) rfl (XS.bipush X0.here hx rfl (hb hby d1_19) k)))) ?_
  by_cases hc21_3 : w0 = (29 : Int32)
  · refine own_step (U' := s₁.setTop (mkF m 39 #[rv r0, rv r0, iv (1 : Int32), iv (0 : Int32), iv w0] [(.int (1 : Int32))])) (fun t k => XS.icmpYes X0.here hx rfl (pc0 := 21) (pc' := 38) rfl (hb hby d1_21) rfl (teq hc21_3).1 (by decide) (by decide) (XS.iconst X0.here hx rfl (hb hby d1_38) k)) ?_
    exact own_out X0 (v := (some (.int (1 : Int32)))) hlk (own_nv Bd.returns) (by rw [e0]; exact ⟨by rw [show (F1k1 w0) = (1 : Int32) from (by simp only [F1k1, if_pos hc21_3])], N0, rfl⟩) (by decide) (by decide) (fun fs hr => retN X0 hx (t := .boolean) Bd.returns (by simp) (hb hby d1_39) hr)
  · refine own_step (U' := s₁.setTop (mkF m 28 #[rv r0, rv r0, iv (1 : Int32), iv (0 : Int32), iv w0] [(.int (30 : Int32)), (.int w0)])) (fun t k => XS.icmpNo X0.here hx rfl (hb hby d1_21) rfl (feq hc21_3).1 (XS.iload X0.here hx rfl (hb hby d1_24) rfl (XS.bipush X0.here hx rfl (hb hby d1_26) k))) ?_
    by_cases hc28_4 : w0 = (30 : Int32)
    · refine own_step (U' := s₁.setTop (mkF m 39 #[rv r0, rv r0, iv (1 : Int32), iv (0 : Int32), iv w0] [(.int (1 : Int32))])) (fun t k => XS.icmpYes X0.here hx rfl (pc0 := 28) (pc' := 38) rfl (hb hby d1_28) rfl (teq hc28_4).1 (by decide) (by decide) (XS.iconst X0.here hx rfl (hb hby d1_38) k)) ?_
      exact own_out X0 (v := (some (.int (1 : Int32)))) hlk (own_nv Bd.returns) (by rw [e0]; exact ⟨by rw [show (F1k1 w0) = (1 : Int32) from (by simp only [F1k1, if_neg hc21_3, if_pos hc28_4])], N0, rfl⟩) (by decide) (by decide) (fun fs hr => retN X0 hx (t := .boolean) Bd.returns (by simp) (hb hby d1_39) hr)
    · refine own_step (U' := s₁.setTop (mkF m 35 #[rv r0, rv r0, iv (1 : Int32), iv (0 : Int32), iv w0] [(.int (31 : Int32)), (.int w0)])) (fun t k => XS.icmpNo X0.here hx rfl (hb hby d1_28) rfl (feq hc28_4).1 (XS.iload X0.here hx rfl (hb hby d1_31) rfl (XS.bipush X0.here hx rfl (hb hby d1_33) k))) ?_
      by_cases hc35_5 : w0 = (31 : Int32)
      · refine own_step (U' := s₁.setTop (mkF m 39 #[rv r0, rv r0, iv (1 : Int32), iv (0 : Int32), iv w0] [(.int (1 : Int32))])) (fun t k => XS.icmpNo X0.here hx rfl (hb hby d1_35) rfl (teq hc35_5).2 (XS.iconst X0.here hx rfl (hb hby d1_38) k)) ?_
        exact own_out X0 (v := (some (.int (1 : Int32)))) hlk (own_nv Bd.returns) (by rw [e0]; exact ⟨by rw [show (F1k1 w0) = (1 : Int32) from (by simp only [F1k1, if_neg hc21_3, if_neg hc28_4, if_pos hc35_5])], N0, rfl⟩) (by decide) (by decide) (fun fs hr => retN X0 hx (t := .boolean) Bd.returns (by simp) (hb hby d1_39) hr)
      · refine own_step (U' := s₁.setTop (mkF m 47 #[rv r0, rv r0, iv (1 : Int32), iv (1 : Int32), iv w0] [(.int (0 : Int32))])) (fun t k => XS.icmpYes X0.here hx rfl (pc0 := 35) (pc' := 40) rfl (hb hby d1_35) rfl (feq hc35_5).2 (by decide) (by decide) (XS.iinc X0.here hx rfl (hb hby d1_40) rfl (l' := #[rv r0, rv r0, iv (1 : Int32), iv (1 : Int32), iv w0]) rfl (XS.goto X0.here hx rfl (pc0 := 43) (pc' := 7) rfl (hb hby d1_43) (by decide) (by decide) (XS.iloadN X0.here hx rfl (hb hby d1_7) rfl (XS.iloadN X0.here hx rfl (hb hby d1_8) rfl (XS.icmpYes X0.here hx rfl (pc0 := 9) (pc' := 46) rfl (hb hby d1_9) rfl (by decide) (by decide) (by decide) (XS.iconst X0.here hx rfl (hb hby d1_46) k))))))) ?_
        exact own_out X0 (v := (some (.int (0 : Int32)))) hlk (own_nv Bd.returns) (by rw [e0]; exact ⟨by rw [show (F1k1 w0) = (0 : Int32) from (by simp only [F1k1, if_neg hc21_3, if_neg hc28_4, if_neg hc35_5])], N0, rfl⟩) (by decide) (by decide) (fun fs hr => retN X0 hx (t := .boolean) Bd.returns (by simp) (hb hby d1_47) hr)
theorem ef_1k0 (m : MethodId) (r0 : Addr) : entryFrame m #[(.ref r0)] 5 = mkF m 0 #[rv r0, .unset, .unset, .unset, .unset] [] := by first | (simp [entryFrame, mkF, argsToLocals, Value.category]; done) | rfl
def F1k0  : Int32 :=
  (0 : Int32)
def Q1k0 (Z : State) (r0 : Addr) (k_r0 : ClassId) (h0 : Heap) (n0 : Nat) (v : Option Value) (h : Heap) (L : List Loc) : Prop := v = some (.int F1k0) ∧ Fr n0 L ∧ h = h0
set_option maxRecDepth 65536 in
set_option maxHeartbeats 40000000 in
theorem rm1k0 (l : Launch) (Z : State) (a0 : Array Value) (hw : ∀ d ∈ tables_1, d.before a0 Z = true) (ws : List Jvm.Cond) (r0 : Addr) (k_r0 : ClassId) (h0 : Heap) (n0 : Nat) (Z0 : n0 ≤ h0.size) (V_r0 : Arv Z h0 r0 k_r0 .byte (0 : Int32) [] (.int (0 : Int32))) :
    MetFree l (⟨"com/example/tallyfield/tallyfield/marc/Iso2709", "holdsStructuralByte", "([B)Z"⟩ : MethodName) (head1 (Jvm.Cond.code (⟨"com/example/tallyfield/tallyfield/marc/Iso2709", "holdsStructuralByte", "([B)Z"⟩ : MethodName) prog_36_method_2_code 5 (some .boolean) :: ws) ({ frames := 0, cells := 0, slots := 0, locals := 0 } : Room)) (fun a U => a = #[(.ref r0)] ∧ Z.Warmed39 U.vm ∧ U.heap = h0) (fun _ _ _ _ _ => True) (fun _ U o U' => ∃ v L, o = .returned v ∧ Q1k0 Z r0 k_r0 h0 n0 v U'.heap L ∧ FrameEnd U o U' L ({ frames := 0, cells := 0, slots := 0, locals := 0 } : Room).cells ({ frames := 0, cells := 0, slots := 0, locals := 0 } : Room).slots) := by
  refine MetFree.of_bodySF (plainFor_of_name pn_1) hisR ?_
  intro p e s m args below meth c s₁ Bd hml0 hP hK
  obtain ⟨rfl, hZ, hh⟩ := hP
  have hx := Bd.exec
  have hby := Bd.bytes
  have hml : c.maxLocals = 5 := hml0
  have hown : s.vm.findClass "com/example/tallyfield/tallyfield/marc/Iso2709" = some m.cls := findClass_of_methodNamed Bd.named
  have hnm := (name_of_methodNamed Bd.named Bd.method).1
  have hlk : meth.locks = false := Bd.notSynchronized
  have X0 : Stand p l e ({ frames := 0, cells := 0, slots := 0, locals := 0 } : Room) s m #[(.ref r0)] below meth c s₁ [] 0 0 := Stand.of_body Bd
  have e0 : s₁.heap = h0 := by rw [← hh, Bd.state]; rfl
  have N0 := Fr.nil n0
  have KK0 := Keep.refl h0 []
  show own_Go p.tables e below s 0 0 (Q1k0 Z r0 k_r0 h0 n0) (s₁.setTop (entryFrame m #[(.ref r0)] 5))
  rw [ef_1k0]
  refine own_step (U' := s₁.setTop (mkF m 3 #[rv r0, rv r0, .unset, .unset, .unset] [(.ref r0)])) (fun t k => XS.aloadN X0.here hx rfl (hb hby d1_0) rfl rfl (XS.astoreN X0.here hx rfl (hb hby d1_1) rfl rfl (l' := #[rv r0, rv r0, .unset, .unset, .unset]) rfl (XS.aloadN X0.here hx rfl (hb hby d1_2) rfl rfl k))) ?_
  obtain ⟨cl1, Ar1, aq1, aS1, aN1, aH1, aG1⟩ := id V_r0
  have hl1 := len_of aS1 aN1
  refine own_step (U' := s₁.setTop (mkF m 47 #[rv r0, rv r0, iv (0 : Int32), iv (0 : Int32), .unset] [(.int (0 : Int32))])) (fun t k => X0.arraylength hx (by rw [e0]; exact Ar1.1) (State.isArrayOf_alike hZ.alike Ar1.2.1) (g := (mkF m 3 #[rv r0, rv r0, .unset, .unset, .unset] [(.ref r0)])) rfl rfl (hb hby d1_3) t (by rw [hl1]; exact (XS.istoreN X0.here hx rfl (hb hby d1_4) rfl (l' := #[rv r0, rv r0, iv (0 : Int32), .unset, .unset]) rfl (XS.iconst X0.here hx rfl (hb hby d1_5) (XS.istoreN X0.here hx rfl (hb hby d1_6) rfl (l' := #[rv r0, rv r0, iv (0 : Int32), iv (0 : Int32), .unset]) rfl (XS.iloadN X0.here hx rfl (hb hby d1_7) rfl (XS.iloadN X0.here hx rfl (hb hby d1_8) rfl (XS.icmpYes X0.here hx rfl (pc0 := 9) (pc' := 46) rfl (hb hby d1_9) rfl (by decide) (by decide) (by decide) (XS.iconst X0.here hx rfl (hb hby d1_46) k))))))))) ?_
  exact own_out X0 (v := (some (.int (0 : Int32)))) hlk (own_nv Bd.returns) (by rw [e0]; exact ⟨by rw [show F1k0 = (0 : Int32) from (by simp only [F1k0])], N0, rfl⟩) (by decide) (by decide) (fun fs hr => retN X0 hx (t := .boolean) Bd.returns (by simp) (hb hby d1_47) hr)

theorem own_n (x : Int32) : ((x &&& (2147483647 : Int32)) % (6 : Int32)) = (0 : Int32) ∨ ((x &&& (2147483647 : Int32)) % (6 : Int32)) = (1 : Int32) ∨ ((x &&& (2147483647 : Int32)) % (6 : Int32)) = (2 : Int32) ∨ ((x &&& (2147483647 : Int32)) % (6 : Int32)) = (3 : Int32) ∨ ((x &&& (2147483647 : Int32)) % (6 : Int32)) = (4 : Int32) ∨ ((x &&& (2147483647 : Int32)) % (6 : Int32)) = (5 : Int32) := by
  have m := c_mask x 2147483647 31 (by decide) (by decide)
  have q := (c_irem (x &&& 2147483647) 6 6 (by decide)).1 (by omega)
  have e0 : (0 : Int32).toInt = 0 := by decide
  have e1 : (1 : Int32).toInt = 1 := by decide
  have e2 : (2 : Int32).toInt = 2 := by decide
  have e3 : (3 : Int32).toInt = 3 := by decide
  have e4 : (4 : Int32).toInt = 4 := by decide
  have e5 : (5 : Int32).toInt = 5 := by decide
  simp only [← Int32.toInt_inj]
  omega
theorem own_elem (a u v : Int32) (h : u = v) : (if (nar .byte (a.toInt8.toInt32)) = (29 : Int32) then (1 : Int32) else (if (nar .byte (a.toInt8.toInt32)) = (30 : Int32) then (1 : Int32) else (if (nar .byte (a.toInt8.toInt32)) = (31 : Int32) then (1 : Int32) else u))) = (if (F2 a) = (0 : Int32) then v else (1 : Int32)) := by
  have e : nar .byte (a.toInt8.toInt32) = a.toInt8.toInt32.toInt8.toInt32 := rfl
  rw [e]
  have c1 := c_i2b a
  have c2 := c_i2b a.toInt8.toInt32
  have m := c_mask a 255 8 (by decide) (by decide)
  have e29 : (29 : Int32).toInt = 29 := by decide
  have e30 : (30 : Int32).toInt = 30 := by decide
  have e31 : (31 : Int32).toInt = 31 := by decide
  generalize a.toInt8.toInt32.toInt8.toInt32 = y at *
  subst h
  have yes : ¬ (a &&& 255) < 29 → ¬ 31 < (a &&& 255) → ¬ F2 a = (0 : Int32) := fun q1 q2 => by simp only [F2, if_neg q1, if_neg q2]; decide
  have no1 : (a &&& 255) < 29 → F2 a = (0 : Int32) := fun q1 => by simp only [F2, if_pos q1]
  have no2 : ¬ (a &&& 255) < 29 → 31 < (a &&& 255) → F2 a = (0 : Int32) := fun q1 q2 => by simp only [F2, if_neg q1, if_pos q2]
  by_cases h1 : y = 29
  · rw [if_pos h1, if_neg (yes (by rw [Int32.lt_iff_toInt_lt]; rw [h1] at c2; omega) (by rw [Int32.lt_iff_toInt_lt]; rw [h1] at c2; omega))]
  · rw [if_neg h1]
    by_cases h2 : y = 30
    · rw [if_pos h2, if_neg (yes (by rw [Int32.lt_iff_toInt_lt]; rw [h2] at c2; omega) (by rw [Int32.lt_iff_toInt_lt]; rw [h2] at c2; omega))]
    · rw [if_neg h2]
      by_cases h3 : y = 31
      · rw [if_pos h3, if_neg (yes (by rw [Int32.lt_iff_toInt_lt]; rw [h3] at c2; omega) (by rw [Int32.lt_iff_toInt_lt]; rw [h3] at c2; omega))]
      · rw [if_neg h3]
        rw [← Int32.toInt_inj] at h1 h2 h3
        by_cases q : (a &&& 255) < 29
        · rw [if_pos (no1 q)]
        · rw [if_pos (no2 q (by rw [Int32.lt_iff_toInt_lt] at q ⊢; omega))]

theorem pn_0 : plainName "com/example/tallyfield/tallyfield/marc/Iso2709HoldsStructuralBytePinLaw" = true := by first | (simp [plainName, overriddenIn]; done) | decide +kernel
theorem ef_0 (m : MethodId) (p0 : Int32) (p1 : Int32) (p2 : Int32) (p3 : Int32) (p4 : Int32) (p5 : Int32) : entryFrame m #[(.int p0), (.int p1), (.int p2), (.int p3), (.int p4), (.int p5)] maxLocals = mkF m 0 #[iv p0, iv p1, iv p2, iv p3, iv p4, iv p5, .unset, .unset, .unset] [] := by first | (simp [entryFrame, mkF, argsToLocals, Value.category, maxLocals]; done) | rfl
def Q0 (Z : State) (p0 : Int32) (p1 : Int32) (p2 : Int32) (p3 : Int32) (p4 : Int32) (p5 : Int32) (h0 : Heap) (n0 : Nat) (v : Option Value) (h : Heap) (L : List Loc) : Prop := v = some (.int 1) ∧ Fr n0 L
set_option maxRecDepth 65536 in
set_option maxHeartbeats 40000000 in
theorem rm0 (l : Launch) (Z : State) (a0 : Array Value) (hw : ∀ d ∈ tables_1, d.before a0 Z = true) (ws : List Jvm.Cond) (p0 : Int32) (p1 : Int32) (p2 : Int32) (p3 : Int32) (p4 : Int32) (p5 : Int32) (h0 : Heap) (n0 : Nat) (Z0 : n0 ≤ h0.size) :
    MetFree l x (head1 (Jvm.Cond.code x code maxLocals ret :: ws) room_1) (fun a U => a = #[(.int p0), (.int p1), (.int p2), (.int p3), (.int p4), (.int p5)] ∧ Z.Warmed39 U.vm ∧ U.heap = h0) (fun _ _ _ _ _ => True) (fun _ U o U' => ∃ v L, o = .returned v ∧ Q0 Z p0 p1 p2 p3 p4 p5 h0 n0 v U'.heap L ∧ FrameEnd U o U' L 16 128) := by
  refine MetFree.of_bodySF (plainFor_of_name pn_0) hisR ?_
  intro p e s m args below meth c s₁ Bd hml0 hP hK
  obtain ⟨rfl, hZ, hh⟩ := hP
  have hx := Bd.exec
  have hby := Bd.bytes
  have hml : c.maxLocals = 9 := hml0
  have hown : s.vm.findClass "com/example/tallyfield/tallyfield/marc/Iso2709HoldsStructuralBytePinLaw" = some m.cls := findClass_of_methodNamed Bd.named
  have hnm := (name_of_methodNamed Bd.named Bd.method).1
  have hlk : meth.locks = false := Bd.notSynchronized
  have X0 : Stand p l e room_1 s m #[(.int p0), (.int p1), (.int p2), (.int p3), (.int p4), (.int p5)] below meth c s₁ [] 0 0 := Stand.of_body Bd
  have e0 : s₁.heap = h0 := by rw [← hh, Bd.state]; rfl
  have N0 := Fr.nil n0
  have KK0 := Keep.refl h0 []
  show own_Go p.tables e below s 16 128 (Q0 Z p0 p1 p2 p3 p4 p5 h0 n0) (s₁.setTop (entryFrame m #[(.int p0), (.int p1), (.int p2), (.int p3), (.int p4), (.int p5)] maxLocals))
  rw [ef_0]
  refine own_step (U' := s₁.setTop (mkF m 7 #[iv p0, iv p1, iv p2, iv p3, iv p4, iv p5, .unset, .unset, .unset] [(.int ((p0 &&& (2147483647 : Int32)) % (6 : Int32)))])) (fun t k => XS.iloadN X0.here hx rfl (hb hby at_0) rfl (X0.ldcInt hx hown (mvT hZ (own_w hw 0 rfl)) (g := (mkF m 1 #[iv p0, iv p1, iv p2, iv p3, iv p4, iv p5, .unset, .unset, .unset] [(.int p0)])) rfl (hb hby at_1) t (XS.iand X0.here hx rfl (hb hby at_3) rfl (XS.bipush X0.here hx rfl (hb hby at_4) (iremM X0 hx rfl (hb hby at_6) rfl (by decide) k))))) ?_
  rcases own_n p0 with hn0 | hn1 | hn2 | hn3 | hn4 | hn5
  · rw [hn0]
    refine own_step (U' := s₁.setTop (mkF m 11 #[iv p0, iv p1, iv p2, iv p3, iv p4, iv p5, iv (0 : Int32), .unset, .unset] [(.int (0 : Int32))])) (fun t k => XS.istore X0.here hx rfl (hb hby at_7) rfl (l' := #[iv p0, iv p1, iv p2, iv p3, iv p4, iv p5, iv (0 : Int32), .unset, .unset]) rfl (XS.iload X0.here hx rfl (hb hby at_9) rfl k)) ?_
    obtain ⟨T1, h1, k1, X1, e1, E1, A1, st1⟩ := newP X0 hx hZ (own_w hw 1 rfl) e0 (g := (mkF m 11 #[iv p0, iv p1, iv p2, iv p3, iv p4, iv p5, iv (0 : Int32), .unset, .unset] [(.int (0 : Int32))])) rfl (hb hby at_11) rfl (by decide) (cap := 0) (by decide) (by decide) (by decide) (by decide)
    obtain ⟨b1, g1⟩ : ∃ z, z = h0.size := ⟨_, rfl⟩
    have ge_b1 : n0 ≤ b1 := Nat.le_trans Z0 (Nat.le_of_eq g1.symm)
    have sz_b1 : h0.size ≤ b1 := Nat.le_trans KK0.1 (Nat.le_of_eq g1.symm)
    rw [← g1] at A1 st1
    have V_b1 : Arv Z h1 b1 k1 .byte (0 : Int32) [] (.int (0 : Int32)) := (Arv.new A1 (by decide)).pad (pad_rep [] (.int (0 : Int32)) 0)
    have Z1 : n0 ≤ h1.size := Nat.le_trans Z0 E1.1
    have KK1 := KK0.ext E1
    refine own_step (U' := T1.setTop (mkF m 13 #[iv p0, iv p1, iv p2, iv p3, iv p4, iv p5, iv (0 : Int32), .unset, .unset] [(.ref b1)])) st1 ?_
    refine own_step (U' := T1.setTop (mkF m 41 #[iv p0, iv p1, iv p2, iv p3, iv p4, iv p5, iv (0 : Int32), rv b1, .unset] [(.int (2 : Int32)), (.int (0 : Int32))])) (fun t k => XS.astore X1.here hx rfl (hb hby at_13) rfl rfl (l' := #[iv p0, iv p1, iv p2, iv p3, iv p4, iv p5, iv (0 : Int32), rv b1, .unset]) rfl (XS.iload X1.here hx rfl (hb hby at_15) rfl (XS.ifYes X1.here hx rfl (pc0 := 17) (pc' := 26) rfl (hb hby at_17) rfl (by decide) (by decide) (by decide) (XS.iload X1.here hx rfl (hb hby at_26) rfl (XS.iconst X1.here hx rfl (hb hby at_28) (XS.icmpYes X1.here hx rfl (pc0 := 29) (pc' := 38) rfl (hb hby at_29) rfl (by decide) (by decide) (by decide) (XS.iload X1.here hx rfl (hb hby at_38) rfl (XS.iconst X1.here hx rfl (hb hby at_40) k)))))))) ?_
    refine own_step (U' := T1.setTop (mkF m 78 #[iv p0, iv p1, iv p2, iv p3, iv p4, iv p5, iv (0 : Int32), rv b1, .unset] [(.int (0 : Int32))])) (fun t k => XS.icmpYes X1.here hx rfl (pc0 := 41) (pc' := 50) rfl (hb hby at_41) rfl (by decide) (by decide) (by decide) (XS.iload X1.here hx rfl (hb hby at_50) rfl (XS.iconst X1.here hx rfl (hb hby at_52) (XS.icmpYes X1.here hx rfl (pc0 := 53) (pc' := 63) rfl (hb hby at_53) rfl (by decide) (by decide) (by decide) (XS.iload X1.here hx rfl (hb hby at_63) rfl (XS.iconst X1.here hx rfl (hb hby at_65) (XS.icmpYes X1.here hx rfl (pc0 := 66) (pc' := 76) rfl (hb hby at_66) rfl (by decide) (by decide) (by decide) (XS.iload X1.here hx rfl (hb hby at_76) rfl k)))))))) ?_
    refine own_step (U' := T1.setTop (mkF m 116 #[iv p0, iv p1, iv p2, iv p3, iv p4, iv p5, iv (0 : Int32), rv b1, .unset] [(.int (0 : Int32))])) (fun t k => XS.ifYes X1.here hx rfl (pc0 := 78) (pc' := 88) rfl (hb hby at_78) rfl (by decide) (by decide) (by decide) (XS.iload X1.here hx rfl (hb hby at_88) rfl (XS.iconst X1.here hx rfl (hb hby at_90) (XS.icmpYes X1.here hx rfl (pc0 := 91) (pc' := 101) rfl (hb hby at_91) rfl (by decide) (by decide) (by decide) (XS.iload X1.here hx rfl (hb hby at_101) rfl (XS.iconst X1.here hx rfl (hb hby at_103) (XS.icmpYes X1.here hx rfl (pc0 := 104) (pc' := 114) rfl (hb hby at_104) rfl (by decide) (by decide) (by decide) (XS.iload X1.here hx rfl (hb hby at_114) rfl k)))))))) ?_
    refine own_step (U' := T1.setTop (mkF m 151 #[iv p0, iv p1, iv p2, iv p3, iv p4, iv p5, iv (0 : Int32), rv b1, iv (0 : Int32)] [(.ref b1)])) (fun t k => XS.iconst X1.here hx rfl (hb hby at_116) (XS.icmpYes X1.here hx rfl (pc0 := 117) (pc' := 128) rfl (hb hby at_117) rfl (by decide) (by decide) (by decide) (XS.iload X1.here hx rfl (hb hby at_128) rfl (XS.iconst X1.here hx rfl (hb hby at_130) (XS.icmpYes X1.here hx rfl (pc0 := 131) (pc' := 146) rfl (hb hby at_131) rfl (by decide) (by decide) (by decide) (XS.iconst X1.here hx rfl (hb hby at_146) (XS.istore X1.here hx rfl (hb hby at_147) rfl (l' := #[iv p0, iv p1, iv p2, iv p3, iv p4, iv p5, iv (0 : Int32), rv b1, iv (0 : Int32)]) rfl (XS.aload X1.here hx rfl (hb hby at_149) rfl rfl k)))))))) ?_
    obtain ⟨_, _, ⟨T2, L2, k2, n2⟩, -, X2, ⟨Lc2, hQ2, l2, y2, z2⟩, st2⟩ := Jvm.LawKit.callS X1 hx (y := (⟨"com/example/tallyfield/tallyfield/marc/Iso2709", "holdsStructuralByte", "([B)Z"⟩ : MethodName)) hown (mvT hZ (own_w hw 2 rfl)) (mvT hZ (own_w hw 3 rfl)) (mvT hZ (own_w hw 4 rfl)) (mvT hZ (own_w hw 5 rfl)) (by decide) (backOf (W := 0) (rm1k0 l Z a0 hw [] b1 k1 h1 n0 Z1 V_b1) hZ (own_w hw 5 rfl) (own_w hw 4 rfl) (by decide) (by decide)) (g := (mkF m 151 #[iv p0, iv p1, iv p2, iv p3, iv p4, iv p5, iv (0 : Int32), rv b1, iv (0 : Int32)] [(.ref b1)])) rfl (by rw [hml]; rfl) (argsL := [(.ref b1)]) (rest := []) (lenOf pd___B_Z rfl) rfl (by show 2 * 0 + _ ≤ _; exact Nat.le_of_eq rfl) (hb hby at_151) (fun _ _ => ⟨rfl, e1, (by decide : 1 + 0 ≤ _), (by decide : 0 + 0 ≤ _)⟩)
    dsimp only [Pt.U, Pt.locs, Pt.cells, Pt.slots] at X2 l2 y2 z2 st2 hQ2
    subst l2 y2 z2
    obtain ⟨rfl, N2q, eq2⟩ := hQ2
    have N2 := Fr.app N0 N2q
    refine own_step (U' := T2.setTop (mkF m 154 #[iv p0, iv p1, iv p2, iv p3, iv p4, iv p5, iv (0 : Int32), rv b1, iv (0 : Int32)] [(.int F1k0)])) st2 ?_
    refine own_step (U' := T2.setTop (mkF m 164 #[iv p0, iv p1, iv p2, iv p3, iv p4, iv p5, iv (0 : Int32), rv b1, iv (0 : Int32)] [(.int (1 : Int32))])) (fun t k => XS.iload X2.here hx rfl (hb hby at_154) rfl (XS.icmpNo X2.here hx rfl (hb hby at_156) rfl (teq (rfl : F1k0 = (0 : Int32))).2 (XS.iconst X2.here hx rfl (hb hby at_159) (XS.goto X2.here hx rfl (pc0 := 160) (pc' := 164) rfl (hb hby at_160) (by decide) (by decide) k)))) ?_
    exact own_out X2 (v := (some (.int (1 : Int32)))) hlk (own_nv Bd.returns) (by rw [eq2]; exact ⟨rfl, N2⟩) (by decide) (by decide) (fun fs hr => retN X2 hx (t := .boolean) Bd.returns (by simp) (hb hby at_164) hr)
  · rw [hn1]
    refine own_step (U' := s₁.setTop (mkF m 11 #[iv p0, iv p1, iv p2, iv p3, iv p4, iv p5, iv (1 : Int32), .unset, .unset] [(.int (1 : Int32))])) (fun t k => XS.istore X0.here hx rfl (hb hby at_7) rfl (l' := #[iv p0, iv p1, iv p2, iv p3, iv p4, iv p5, iv (1 : Int32), .unset, .unset]) rfl (XS.iload X0.here hx rfl (hb hby at_9) rfl k)) ?_
    obtain ⟨T3, h3, k3, X3, e3, E3, A3, st3⟩ := newP X0 hx hZ (own_w hw 1 rfl) e0 (g := (mkF m 11 #[iv p0, iv p1, iv p2, iv p3, iv p4, iv p5, iv (1 : Int32), .unset, .unset] [(.int (1 : Int32))])) rfl (hb hby at_11) rfl (by decide) (cap := 1) (by decide) (by decide) (by decide) (by decide)
    obtain ⟨b3, g3⟩ : ∃ z, z = h0.size := ⟨_, rfl⟩
    have ge_b3 : n0 ≤ b3 := Nat.le_trans Z0 (Nat.le_of_eq g3.symm)
    have sz_b3 : h0.size ≤ b3 := Nat.le_trans KK0.1 (Nat.le_of_eq g3.symm)
    rw [← g3] at A3 st3
    have V_b3 : Arv Z h3 b3 k3 .byte (1 : Int32) [(.int (0 : Int32))] (.int (0 : Int32)) := (Arv.new A3 (by decide)).pad (pad_rep [] (.int (0 : Int32)) 1)
    have Z3 : n0 ≤ h3.size := Nat.le_trans Z0 E3.1
    have KK3 := KK0.ext E3
    refine own_step (U' := T3.setTop (mkF m 13 #[iv p0, iv p1, iv p2, iv p3, iv p4, iv p5, iv (1 : Int32), .unset, .unset] [(.ref b3)])) st3 ?_
    refine own_step (U' := T3.setTop (mkF m 25 #[iv p0, iv p1, iv p2, iv p3, iv p4, iv p5, iv (1 : Int32), rv b3, .unset] [(.int (p1.toInt8.toInt32)), (.int (0 : Int32)), (.ref b3)])) (fun t k => XS.astore X3.here hx rfl (hb hby at_13) rfl rfl (l' := #[iv p0, iv p1, iv p2, iv p3, iv p4, iv p5, iv (1 : Int32), rv b3, .unset]) rfl (XS.iload X3.here hx rfl (hb hby at_15) rfl (XS.ifNo X3.here hx rfl (hb hby at_17) rfl (by decide) (XS.aload X3.here hx rfl (hb hby at_20) rfl rfl (XS.iconst X3.here hx rfl (hb hby at_22) (XS.iloadN X3.here hx rfl (hb hby at_23) rfl (XS.i2b X3.here hx rfl (hb hby at_24) rfl k))))))) ?_
    obtain ⟨cl4, Ar4, aq4, aS4, aN4, aH4, aG4⟩ := id V_b3
    have hin4 : ¬ ((0 : Int32) < 0 ∨ cl4.slots.size ≤ ((0 : Int32)).toNatClampNeg) := inb_of aS4 ⟨by decide, by decide⟩
    obtain ⟨T4, h4, X4, e4, W4, st4⟩ := stB X3 hx hZ e3 Ar4 (j := (0 : Int32)) hin4 (g := (mkF m 25 #[iv p0, iv p1, iv p2, iv p3, iv p4, iv p5, iv (1 : Int32), rv b3, .unset] [(.int (p1.toInt8.toInt32)), (.int (0 : Int32)), (.ref b3)])) rfl rfl (hb hby at_25)
    have V_b3_4 : Arv Z h4 b3 k3 .byte (1 : Int32) [(.int (nar .byte (p1.toInt8.toInt32)))] (.int (0 : Int32)) := Arv.set Ar4 aq4 aS4 aN4 aH4 aG4 (fits_nar_byte _) W4 0 rfl (Nat.le_of_ble_eq_true rfl)
    have Z4 : n0 ≤ h4.size := Nat.le_trans Z3 (Keep.of_wr W4).1
    have KK4 := KK3.wr W4 (Or.inr sz_b3)
    have N4 := Fr.snoc X4 N0 ge_b3
    refine own_step (U' := T4.setTop (mkF m 26 #[iv p0, iv p1, iv p2, iv p3, iv p4, iv p5, iv (1 : Int32), rv b3, .unset] [])) st4 ?_
    refine own_step (U' := T4.setTop (mkF m 53 #[iv p0, iv p1, iv p2, iv p3, iv p4, iv p5, iv (1 : Int32), rv b3, .unset] [(.int (3 : Int32)), (.int (1 : Int32))])) (fun t k => XS.iload X4.here hx rfl (hb hby at_26) rfl (XS.iconst X4.here hx rfl (hb hby at_28) (XS.icmpYes X4.here hx rfl (pc0 := 29) (pc' := 38) rfl (hb hby at_29) rfl (by decide) (by decide) (by decide) (XS.iload X4.here hx rfl (hb hby at_38) rfl (XS.iconst X4.here hx rfl (hb hby at_40) (XS.icmpYes X4.here hx rfl (pc0 := 41) (pc' := 50) rfl (hb hby at_41) rfl (by decide) (by decide) (by decide) (XS.iload X4.here hx rfl (hb hby at_50) rfl (XS.iconst X4.here hx rfl (hb hby at_52) k)))))))) ?_
    refine own_step (U' := T4.setTop (mkF m 82 #[iv p0, iv p1, iv p2, iv p3, iv p4, iv p5, iv (1 : Int32), rv b3, .unset] [(.int p1)])) (fun t k => XS.icmpYes X4.here hx rfl (pc0 := 53) (pc' := 63) rfl (hb hby at_53) rfl (by decide) (by decide) (by decide) (XS.iload X4.here hx rfl (hb hby at_63) rfl (XS.iconst X4.here hx rfl (hb hby at_65) (XS.icmpYes X4.here hx rfl (pc0 := 66) (pc' := 76) rfl (hb hby at_66) rfl (by decide) (by decide) (by decide) (XS.iload X4.here hx rfl (hb hby at_76) rfl (XS.ifNo X4.here hx rfl (hb hby at_78) rfl (by decide) (XS.iloadN X4.here hx rfl (hb hby at_81) rfl k))))))) ?_
    obtain ⟨_, _, ⟨T5, L5, k5, n5⟩, -, X5, ⟨Lc5, hQ5, l5, y5, z5⟩, st5⟩ := Jvm.LawKit.callS X4 hx (y := (⟨"com/example/tallyfield/tallyfield/marc/Iso2709HoldsStructuralBytePinLaw", "structural", "(I)Z"⟩ : MethodName)) hown (mvT hZ (own_w hw 6 rfl)) (mvT hZ (own_w hw 7 rfl)) (mvT hZ (own_w hw 8 rfl)) (mvT hZ (own_w hw 9 rfl)) (by decide) (backOf (W := 0) (rm2 l Z a0 hw [] p1 h4 n0 Z4) hZ (own_w hw 9 rfl) (own_w hw 8 rfl) (by decide) (by decide)) (g := (mkF m 82 #[iv p0, iv p1, iv p2, iv p3, iv p4, iv p5, iv (1 : Int32), rv b3, .unset] [(.int p1)])) rfl (by rw [hml]; rfl) (argsL := [(.int p1)]) (rest := []) (lenOf pd__I_Z rfl) rfl (by show 2 * 0 + _ ≤ _; exact Nat.le_of_eq rfl) (hb hby at_82) (fun _ _ => ⟨rfl, e4, (by decide : 1 + 0 ≤ _), (by decide : 1 + 0 ≤ _)⟩)
    dsimp only [Pt.U, Pt.locs, Pt.cells, Pt.slots] at X5 l5 y5 z5 st5 hQ5
    subst l5 y5 z5
    obtain ⟨rfl, N5q, eq5⟩ := hQ5
    have N5 := Fr.app N4 N5q
    refine own_step (U' := T5.setTop (mkF m 85 #[iv p0, iv p1, iv p2, iv p3, iv p4, iv p5, iv (1 : Int32), rv b3, .unset] [(.int (F2 p1))])) st5 ?_
    obtain ⟨v147_7, hv147_7⟩ : ∃ v : Int32, v = (if (F2 p1) = (0 : Int32) then (0 : Int32) else (1 : Int32)) := ⟨_, rfl⟩
    have K147_8 : ∀ (T' : State) (locs' : List Loc) (X' : Stand p l e room_1 s m #[(.int p0), (.int p1), (.int p2), (.int p3), (.int p4), (.int p5)] below meth c T' locs' 1 1) (N' : Fr n0 locs') (e' : T'.heap = h4), own_Go p.tables e below s 16 128 (Q0 Z p0 p1 p2 p3 p4 p5 h0 n0) (T'.setTop (mkF m 147 #[iv p0, iv p1, iv p2, iv p3, iv p4, iv p5, iv (1 : Int32), rv b3, .unset] [(.int v147_7)])) := by
      intro T8 L8 X8 N8 e8
      refine own_step (U' := T8.setTop (mkF m 151 #[iv p0, iv p1, iv p2, iv p3, iv p4, iv p5, iv (1 : Int32), rv b3, iv v147_7] [(.ref b3)])) (fun t k => XS.istore X8.here hx rfl (hb hby at_147) rfl (l' := #[iv p0, iv p1, iv p2, iv p3, iv p4, iv p5, iv (1 : Int32), rv b3, iv v147_7]) rfl (XS.aload X8.here hx rfl (hb hby at_149) rfl rfl k)) ?_
      obtain ⟨_, _, ⟨T9, L9, k9, n9⟩, -, X9, ⟨Lc9, hQ9, l9, y9, z9⟩, st9⟩ := Jvm.LawKit.callS X8 hx (y := (⟨"com/example/tallyfield/tallyfield/marc/Iso2709", "holdsStructuralByte", "([B)Z"⟩ : MethodName)) hown (mvT hZ (own_w hw 2 rfl)) (mvT hZ (own_w hw 3 rfl)) (mvT hZ (own_w hw 4 rfl)) (mvT hZ (own_w hw 5 rfl)) (by decide) (backOf (W := 0) (rm1k1 l Z a0 hw [] b3 (nar .byte (p1.toInt8.toInt32)) k3 h4 n0 Z4 V_b3_4) hZ (own_w hw 5 rfl) (own_w hw 4 rfl) (by decide) (by decide)) (g := (mkF m 151 #[iv p0, iv p1, iv p2, iv p3, iv p4, iv p5, iv (1 : Int32), rv b3, iv v147_7] [(.ref b3)])) rfl (by rw [hml]; rfl) (argsL := [(.ref b3)]) (rest := []) (lenOf pd___B_Z rfl) rfl (by show 2 * 0 + _ ≤ _; exact Nat.le_of_eq rfl) (hb hby at_151) (fun _ _ => ⟨rfl, e8, (by decide : 1 + 0 ≤ _), (by decide : 1 + 0 ≤ _)⟩)
      dsimp only [Pt.U, Pt.locs, Pt.cells, Pt.slots] at X9 l9 y9 z9 st9 hQ9
      subst l9 y9 z9
      obtain ⟨rfl, N9q, eq9⟩ := hQ9
      have N9 := Fr.app N8 N9q
      refine own_step (U' := T9.setTop (mkF m 154 #[iv p0, iv p1, iv p2, iv p3, iv p4, iv p5, iv (1 : Int32), rv b3, iv v147_7] [(.int (F1k1 (nar .byte (p1.toInt8.toInt32))))])) st9 ?_
      refine own_step (U' := T9.setTop (mkF m 164 #[iv p0, iv p1, iv p2, iv p3, iv p4, iv p5, iv (1 : Int32), rv b3, iv v147_7] [(.int (1 : Int32))])) (fun t k => XS.iload X9.here hx rfl (hb hby at_154) rfl (XS.icmpNo X9.here hx rfl (hb hby at_156) rfl (teq ((own_elem p1 _ _ rfl).trans hv147_7.symm)).2 (XS.iconst X9.here hx rfl (hb hby at_159) (XS.goto X9.here hx rfl (pc0 := 160) (pc' := 164) rfl (hb hby at_160) (by decide) (by decide) k)))) ?_
      exact own_out X9 (v := (some (.int (1 : Int32)))) hlk (own_nv Bd.returns) (by rw [eq9]; exact ⟨rfl, N9⟩) (by decide) (by decide) (fun fs hr => retN X9 hx (t := .boolean) Bd.returns (by simp) (hb hby at_164) hr)
    by_cases hc85_10 : (F2 p1) = (0 : Int32)
    · refine own_step (U' := T5.setTop (mkF m 116 #[iv p0, iv p1, iv p2, iv p3, iv p4, iv p5, iv (1 : Int32), rv b3, .unset] [(.int (1 : Int32))])) (fun t k => XS.ifNo X5.here hx rfl (hb hby at_85) rfl ((if0 _ _).trans (teq hc85_10).2) (XS.iload X5.here hx rfl (hb hby at_88) rfl (XS.iconst X5.here hx rfl (hb hby at_90) (XS.icmpYes X5.here hx rfl (pc0 := 91) (pc' := 101) rfl (hb hby at_91) rfl (by decide) (by decide) (by decide) (XS.iload X5.here hx rfl (hb hby at_101) rfl (XS.iconst X5.here hx rfl (hb hby at_103) (XS.icmpYes X5.here hx rfl (pc0 := 104) (pc' := 114) rfl (hb hby at_104) rfl (by decide) (by decide) (by decide) (XS.iload X5.here hx rfl (hb hby at_114) rfl k)))))))) ?_
      refine own_step (U' := T5.setTop (mkF m 147 #[iv p0, iv p1, iv p2, iv p3, iv p4, iv p5, iv (1 : Int32), rv b3, .unset] [(.int (0 : Int32))])) (fun t k => XS.iconst X5.here hx rfl (hb hby at_116) (XS.icmpYes X5.here hx rfl (pc0 := 117) (pc' := 128) rfl (hb hby at_117) rfl (by decide) (by decide) (by decide) (XS.iload X5.here hx rfl (hb hby at_128) rfl (XS.iconst X5.here hx rfl (hb hby at_130) (XS.icmpYes X5.here hx rfl (pc0 := 131) (pc' := 146) rfl (hb hby at_131) rfl (by decide) (by decide) (by decide) (XS.iconst X5.here hx rfl (hb hby at_146) k)))))) ?_
      have q_v147_7 : v147_7 = (0 : Int32) := by rw [hv147_7, if_pos hc85_10]
      rw [q_v147_7] at K147_8
      exact K147_8 _ _ X5 N5 eq5
    · refine own_step (U' := T5.setTop (mkF m 147 #[iv p0, iv p1, iv p2, iv p3, iv p4, iv p5, iv (1 : Int32), rv b3, .unset] [(.int (1 : Int32))])) (fun t k => XS.ifYes X5.here hx rfl (pc0 := 85) (pc' := 142) rfl (hb hby at_85) rfl ((if0 _ _).trans (feq hc85_10).2) (by decide) (by decide) (XS.iconst X5.here hx rfl (hb hby at_142) (XS.goto X5.here hx rfl (pc0 := 143) (pc' := 147) rfl (hb hby at_143) (by decide) (by decide) k))) ?_
      have q_v147_7 : v147_7 = (1 : Int32) := by rw [hv147_7, if_neg hc85_10]
      rw [q_v147_7] at K147_8
      exact K147_8 _ _ X5 N5 eq5
  · rw [hn2]
    refine own_step (U' := s₁.setTop (mkF m 11 #[iv p0, iv p1, iv p2, iv p3, iv p4, iv p5, iv (2 : Int32), .unset, .unset] [(.int (2 : Int32))])) (fun t k => XS.istore X0.here hx rfl (hb hby at_7) rfl (l' := #[iv p0, iv p1, iv p2, iv p3, iv p4, iv p5, iv (2 : Int32), .unset, .unset]) rfl (XS.iload X0.here hx rfl (hb hby at_9) rfl k)) ?_
    obtain ⟨T11, h11, k11, X11, e11, E11, A11, st11⟩ := newP X0 hx hZ (own_w hw 1 rfl) e0 (g := (mkF m 11 #[iv p0, iv p1, iv p2, iv p3, iv p4, iv p5, iv (2 : Int32), .unset, .unset] [(.int (2 : Int32))])) rfl (hb hby at_11) rfl (by decide) (cap := 2) (by decide) (by decide) (by decide) (by decide)
    obtain ⟨b11, g11⟩ : ∃ z, z = h0.size := ⟨_, rfl⟩
    have ge_b11 : n0 ≤ b11 := Nat.le_trans Z0 (Nat.le_of_eq g11.symm)
    have sz_b11 : h0.size ≤ b11 := Nat.le_trans KK0.1 (Nat.le_of_eq g11.symm)
    rw [← g11] at A11 st11
    have V_b11 : Arv Z h11 b11 k11 .byte (2 : Int32) [(.int (0 : Int32)), (.int (0 : Int32))] (.int (0 : Int32)) := (Arv.new A11 (by decide)).pad (pad_rep [] (.int (0 : Int32)) 2)
    have Z11 : n0 ≤ h11.size := Nat.le_trans Z0 E11.1
    have KK11 := KK0.ext E11
    refine own_step (U' := T11.setTop (mkF m 13 #[iv p0, iv p1, iv p2, iv p3, iv p4, iv p5, iv (2 : Int32), .unset, .unset] [(.ref b11)])) st11 ?_
    refine own_step (U' := T11.setTop (mkF m 25 #[iv p0, iv p1, iv p2, iv p3, iv p4, iv p5, iv (2 : Int32), rv b11, .unset] [(.int (p1.toInt8.toInt32)), (.int (0 : Int32)), (.ref b11)])) (fun t k => XS.astore X11.here hx rfl (hb hby at_13) rfl rfl (l' := #[iv p0, iv p1, iv p2, iv p3, iv p4, iv p5, iv (2 : Int32), rv b11, .unset]) rfl (XS.iload X11.here hx rfl (hb hby at_15) rfl (XS.ifNo X11.here hx rfl (hb hby at_17) rfl (by decide) (XS.aload X11.here hx rfl (hb hby at_20) rfl rfl (XS.iconst X11.here hx rfl (hb hby at_22) (XS.iloadN X11.here hx rfl (hb hby at_23) rfl (XS.i2b X11.here hx rfl (hb hby at_24) rfl k))))))) ?_
    obtain ⟨cl12, Ar12, aq12, aS12, aN12, aH12, aG12⟩ := id V_b11
    have hin12 : ¬ ((0 : Int32) < 0 ∨ cl12.slots.size ≤ ((0 : Int32)).toNatClampNeg) := inb_of aS12 ⟨by decide, by decide⟩
    obtain ⟨T12, h12, X12, e12, W12, st12⟩ := stB X11 hx hZ e11 Ar12 (j := (0 : Int32)) hin12 (g := (mkF m 25 #[iv p0, iv p1, iv p2, iv p3, iv p4, iv p5, iv (2 : Int32), rv b11, .unset] [(.int (p1.toInt8.toInt32)), (.int (0 : Int32)), (.ref b11)])) rfl rfl (hb hby at_25)
    have V_b11_12 : Arv Z h12 b11 k11 .byte (2 : Int32) [(.int (nar .byte (p1.toInt8.toInt32))), (.int (0 : Int32))] (.int (0 : Int32)) := Arv.set Ar12 aq12 aS12 aN12 aH12 aG12 (fits_nar_byte _) W12 0 rfl (Nat.le_of_ble_eq_true rfl)
    have Z12 : n0 ≤ h12.size := Nat.le_trans Z11 (Keep.of_wr W12).1
    have KK12 := KK11.wr W12 (Or.inr sz_b11)
    have N12 := Fr.snoc X12 N0 ge_b11
    refine own_step (U' := T12.setTop (mkF m 26 #[iv p0, iv p1, iv p2, iv p3, iv p4, iv p5, iv (2 : Int32), rv b11, .unset] [])) st12 ?_
    refine own_step (U' := T12.setTop (mkF m 37 #[iv p0, iv p1, iv p2, iv p3, iv p4, iv p5, iv (2 : Int32), rv b11, .unset] [(.int (p2.toInt8.toInt32)), (.int (1 : Int32)), (.ref b11)])) (fun t k => XS.iload X12.here hx rfl (hb hby at_26) rfl (XS.iconst X12.here hx rfl (hb hby at_28) (XS.icmpNo X12.here hx rfl (hb hby at_29) rfl (by decide) (XS.aload X12.here hx rfl (hb hby at_32) rfl rfl (XS.iconst X12.here hx rfl (hb hby at_34) (XS.iloadN X12.here hx rfl (hb hby at_35) rfl (XS.i2b X12.here hx rfl (hb hby at_36) rfl k))))))) ?_
    obtain ⟨cl13, Ar13, aq13, aS13, aN13, aH13, aG13⟩ := id V_b11_12
    have hin13 : ¬ ((1 : Int32) < 0 ∨ cl13.slots.size ≤ ((1 : Int32)).toNatClampNeg) := inb_of aS13 ⟨by decide, by decide⟩
    obtain ⟨T13, h13, X13, e13, W13, st13⟩ := stB X12 hx hZ e12 Ar13 (j := (1 : Int32)) hin13 (g := (mkF m 37 #[iv p0, iv p1, iv p2, iv p3, iv p4, iv p5, iv (2 : Int32), rv b11, .unset] [(.int (p2.toInt8.toInt32)), (.int (1 : Int32)), (.ref b11)])) rfl rfl (hb hby at_37)
    have V_b11_13 : Arv Z h13 b11 k11 .byte (2 : Int32) [(.int (nar .byte (p1.toInt8.toInt32))), (.int (nar .byte (p2.toInt8.toInt32)))] (.int (0 : Int32)) := Arv.set Ar13 aq13 aS13 aN13 aH13 aG13 (fits_nar_byte _) W13 1 rfl (Nat.le_of_ble_eq_true rfl)
    have Z13 : n0 ≤ h13.size := Nat.le_trans Z12 (Keep.of_wr W13).1
    have KK13 := KK12.wr W13 (Or.inr sz_b11)
    have N13 := Fr.snoc X13 N12 ge_b11
    refine own_step (U' := T13.setTop (mkF m 38 #[iv p0, iv p1, iv p2, iv p3, iv p4, iv p5, iv (2 : Int32), rv b11, .unset] [])) st13 ?_
    refine own_step (U' := T13.setTop (mkF m 66 #[iv p0, iv p1, iv p2, iv p3, iv p4, iv p5, iv (2 : Int32), rv b11, .unset] [(.int (4 : Int32)), (.int (2 : Int32))])) (fun t k => XS.iload X13.here hx rfl (hb hby at_38) rfl (XS.iconst X13.here hx rfl (hb hby at_40) (XS.icmpYes X13.here hx rfl (pc0 := 41) (pc' := 50) rfl (hb hby at_41) rfl (by decide) (by decide) (by decide) (XS.iload X13.here hx rfl (hb hby at_50) rfl (XS.iconst X13.here hx rfl (hb hby at_52) (XS.icmpYes X13.here hx rfl (pc0 := 53) (pc' := 63) rfl (hb hby at_53) rfl (by decide) (by decide) (by decide) (XS.iload X13.here hx rfl (hb hby at_63) rfl (XS.iconst X13.here hx rfl (hb hby at_65) k)))))))) ?_
    refine own_step (U' := T13.setTop (mkF m 82 #[iv p0, iv p1, iv p2, iv p3, iv p4, iv p5, iv (2 : Int32), rv b11, .unset] [(.int p1)])) (fun t k => XS.icmpYes X13.here hx rfl (pc0 := 66) (pc' := 76) rfl (hb hby at_66) rfl (by decide) (by decide) (by decide) (XS.iload X13.here hx rfl (hb hby at_76) rfl (XS.ifNo X13.here hx rfl (hb hby at_78) rfl (by decide) (XS.iloadN X13.here hx rfl (hb hby at_81) rfl k)))) ?_
    obtain ⟨_, _, ⟨T14, L14, k14, n14⟩, -, X14, ⟨Lc14, hQ14, l14, y14, z14⟩, st14⟩ := Jvm.LawKit.callS X13 hx (y := (⟨"com/example/tallyfield/tallyfield/marc/Iso2709HoldsStructuralBytePinLaw", "structural", "(I)Z"⟩ : MethodName)) hown (mvT hZ (own_w hw 6 rfl)) (mvT hZ (own_w hw 7 rfl)) (mvT hZ (own_w hw 8 rfl)) (mvT hZ (own_w hw 9 rfl)) (by decide) (backOf (W := 0) (rm2 l Z a0 hw [] p1 h13 n0 Z13) hZ (own_w hw 9 rfl) (own_w hw 8 rfl) (by decide) (by decide)) (g := (mkF m 82 #[iv p0, iv p1, iv p2, iv p3, iv p4, iv p5, iv (2 : Int32), rv b11, .unset] [(.int p1)])) rfl (by rw [hml]; rfl) (argsL := [(.int p1)]) (rest := []) (lenOf pd__I_Z rfl) rfl (by show 2 * 0 + _ ≤ _; exact Nat.le_of_eq rfl) (hb hby at_82) (fun _ _ => ⟨rfl, e13, (by decide : 1 + 0 ≤ _), (by decide : 2 + 0 ≤ _)⟩)
    dsimp only [Pt.U, Pt.locs, Pt.cells, Pt.slots] at X14 l14 y14 z14 st14 hQ14
    subst l14 y14 z14
    obtain ⟨rfl, N14q, eq14⟩ := hQ14
    have N14 := Fr.app N13 N14q
    refine own_step (U' := T14.setTop (mkF m 85 #[iv p0, iv p1, iv p2, iv p3, iv p4, iv p5, iv (2 : Int32), rv b11, .unset] [(.int (F2 p1))])) st14 ?_
    obtain ⟨v147_18, hv147_18⟩ : ∃ v : Int32, v = (if (F2 p1) = (0 : Int32) then (if (F2 p2) = (0 : Int32) then (0 : Int32) else (1 : Int32)) else (1 : Int32)) := ⟨_, rfl⟩
    have K147_19 : ∀ (T' : State) (locs' : List Loc) (X' : Stand p l e room_1 s m #[(.int p0), (.int p1), (.int p2), (.int p3), (.int p4), (.int p5)] below meth c T' locs' 1 2) (N' : Fr n0 locs') (e' : T'.heap = h13), own_Go p.tables e below s 16 128 (Q0 Z p0 p1 p2 p3 p4 p5 h0 n0) (T'.setTop (mkF m 147 #[iv p0, iv p1, iv p2, iv p3, iv p4, iv p5, iv (2 : Int32), rv b11, .unset] [(.int v147_18)])) := by
      intro T19 L19 X19 N19 e19
      refine own_step (U' := T19.setTop (mkF m 151 #[iv p0, iv p1, iv p2, iv p3, iv p4, iv p5, iv (2 : Int32), rv b11, iv v147_18] [(.ref b11)])) (fun t k => XS.istore X19.here hx rfl (hb hby at_147) rfl (l' := #[iv p0, iv p1, iv p2, iv p3, iv p4, iv p5, iv (2 : Int32), rv b11, iv v147_18]) rfl (XS.aload X19.here hx rfl (hb hby at_149) rfl rfl k)) ?_
      obtain ⟨_, _, ⟨T20, L20, k20, n20⟩, -, X20, ⟨Lc20, hQ20, l20, y20, z20⟩, st20⟩ := Jvm.LawKit.callS X19 hx (y := (⟨"com/example/tallyfield/tallyfield/marc/Iso2709", "holdsStructuralByte", "([B)Z"⟩ : MethodName)) hown (mvT hZ (own_w hw 2 rfl)) (mvT hZ (own_w hw 3 rfl)) (mvT hZ (own_w hw 4 rfl)) (mvT hZ (own_w hw 5 rfl)) (by decide) (backOf (W := 0) (rm1k2 l Z a0 hw [] b11 (nar .byte (p1.toInt8.toInt32)) (nar .byte (p2.toInt8.toInt32)) k11 h13 n0 Z13 V_b11_13) hZ (own_w hw 5 rfl) (own_w hw 4 rfl) (by decide) (by decide)) (g := (mkF m 151 #[iv p0, iv p1, iv p2, iv p3, iv p4, iv p5, iv (2 : Int32), rv b11, iv v147_18] [(.ref b11)])) rfl (by rw [hml]; rfl) (argsL := [(.ref b11)]) (rest := []) (lenOf pd___B_Z rfl) rfl (by show 2 * 0 + _ ≤ _; exact Nat.le_of_eq rfl) (hb hby at_151) (fun _ _ => ⟨rfl, e19, (by decide : 1 + 0 ≤ _), (by decide : 2 + 0 ≤ _)⟩)
      dsimp only [Pt.U, Pt.locs, Pt.cells, Pt.slots] at X20 l20 y20 z20 st20 hQ20
      subst l20 y20 z20
      obtain ⟨rfl, N20q, eq20⟩ := hQ20
      have N20 := Fr.app N19 N20q
      refine own_step (U' := T20.setTop (mkF m 154 #[iv p0, iv p1, iv p2, iv p3, iv p4, iv p5, iv (2 : Int32), rv b11, iv v147_18] [(.int (F1k2 (nar .byte (p1.toInt8.toInt32)) (nar .byte (p2.toInt8.toInt32))))])) st20 ?_
      refine own_step (U' := T20.setTop (mkF m 164 #[iv p0, iv p1, iv p2, iv p3, iv p4, iv p5, iv (2 : Int32), rv b11, iv v147_18] [(.int (1 : Int32))])) (fun t k => XS.iload X20.here hx rfl (hb hby at_154) rfl (XS.icmpNo X20.here hx rfl (hb hby at_156) rfl (teq ((own_elem p1 _ _ (own_elem p2 _ _ rfl)).trans hv147_18.symm)).2 (XS.iconst X20.here hx rfl (hb hby at_159) (XS.goto X20.here hx rfl (pc0 := 160) (pc' := 164) rfl (hb hby at_160) (by decide) (by decide) k)))) ?_
      exact own_out X20 (v := (some (.int (1 : Int32)))) hlk (own_nv Bd.returns) (by rw [eq20]; exact ⟨rfl, N20⟩) (by decide) (by decide) (fun fs hr => retN X20 hx (t := .boolean) Bd.returns (by simp) (hb hby at_164) hr)
    by_cases hc85_21 : (F2 p1) = (0 : Int32)
    · refine own_step (U' := T14.setTop (mkF m 95 #[iv p0, iv p1, iv p2, iv p3, iv p4, iv p5, iv (2 : Int32), rv b11, .unset] [(.int p2)])) (fun t k => XS.ifNo X14.here hx rfl (hb hby at_85) rfl ((if0 _ _).trans (teq hc85_21).2) (XS.iload X14.here hx rfl (hb hby at_88) rfl (XS.iconst X14.here hx rfl (hb hby at_90) (XS.icmpNo X14.here hx rfl (hb hby at_91) rfl (by decide) (XS.iloadN X14.here hx rfl (hb hby at_94) rfl k))))) ?_
      obtain ⟨_, _, ⟨T22, L22, k22, n22⟩, -, X22, ⟨Lc22, hQ22, l22, y22, z22⟩, st22⟩ := Jvm.LawKit.callS X14 hx (y := (⟨"com/example/tallyfield/tallyfield/marc/Iso2709HoldsStructuralBytePinLaw", "structural", "(I)Z"⟩ : MethodName)) hown (mvT hZ (own_w hw 6 rfl)) (mvT hZ (own_w hw 7 rfl)) (mvT hZ (own_w hw 8 rfl)) (mvT hZ (own_w hw 9 rfl)) (by decide) (backOf (W := 0) (rm2 l Z a0 hw [] p2 h13 n0 Z13) hZ (own_w hw 9 rfl) (own_w hw 8 rfl) (by decide) (by decide)) (g := (mkF m 95 #[iv p0, iv p1, iv p2, iv p3, iv p4, iv p5, iv (2 : Int32), rv b11, .unset] [(.int p2)])) rfl (by rw [hml]; rfl) (argsL := [(.int p2)]) (rest := []) (lenOf pd__I_Z rfl) rfl (by show 2 * 0 + _ ≤ _; exact Nat.le_of_eq rfl) (hb hby at_95) (fun _ _ => ⟨rfl, eq14, (by decide : 1 + 0 ≤ _), (by decide : 2 + 0 ≤ _)⟩)
      dsimp only [Pt.U, Pt.locs, Pt.cells, Pt.slots] at X22 l22 y22 z22 st22 hQ22
      subst l22 y22 z22
      obtain ⟨rfl, N22q, eq22⟩ := hQ22
      have N22 := Fr.app N14 N22q
      refine own_step (U' := T22.setTop (mkF m 98 #[iv p0, iv p1, iv p2, iv p3, iv p4, iv p5, iv (2 : Int32), rv b11, .unset] [(.int (F2 p2))])) st22 ?_
      by_cases hc98_23 : (F2 p2) = (0 : Int32)
      · refine own_step (U' := T22.setTop (mkF m 130 #[iv p0, iv p1, iv p2, iv p3, iv p4, iv p5, iv (2 : Int32), rv b11, .unset] [(.int (2 : Int32))])) (fun t k => XS.ifNo X22.here hx rfl (hb hby at_98) rfl ((if0 _ _).trans (teq hc98_23).2) (XS.iload X22.here hx rfl (hb hby at_101) rfl (XS.iconst X22.here hx rfl (hb hby at_103) (XS.icmpYes X22.here hx rfl (pc0 := 104) (pc' := 114) rfl (hb hby at_104) rfl (by decide) (by decide) (by decide) (XS.iload X22.here hx rfl (hb hby at_114) rfl (XS.iconst X22.here hx rfl (hb hby at_116) (XS.icmpYes X22.here hx rfl (pc0 := 117) (pc' := 128) rfl (hb hby at_117) rfl (by decide) (by decide) (by decide) (XS.iload X22.here hx rfl (hb hby at_128) rfl k)))))))) ?_
        refine own_step (U' := T22.setTop (mkF m 147 #[iv p0, iv p1, iv p2, iv p3, iv p4, iv p5, iv (2 : Int32), rv b11, .unset] [(.int (0 : Int32))])) (fun t k => XS.iconst X22.here hx rfl (hb hby at_130) (XS.icmpYes X22.here hx rfl (pc0 := 131) (pc' := 146) rfl (hb hby at_131) rfl (by decide) (by decide) (by decide) (XS.iconst X22.here hx rfl (hb hby at_146) k))) ?_
        have q_v147_18 : v147_18 = (0 : Int32) := by rw [hv147_18, if_pos hc85_21, if_pos hc98_23]
        rw [q_v147_18] at K147_19
        exact K147_19 _ _ X22 N22 eq22
      · refine own_step (U' := T22.setTop (mkF m 147 #[iv p0, iv p1, iv p2, iv p3, iv p4, iv p5, iv (2 : Int32), rv b11, .unset] [(.int (1 : Int32))])) (fun t k => XS.ifYes X22.here hx rfl (pc0 := 98) (pc' := 142) rfl (hb hby at_98) rfl ((if0 _ _).trans (feq hc98_23).2) (by decide) (by decide) (XS.iconst X22.here hx rfl (hb hby at_142) (XS.goto X22.here hx rfl (pc0 := 143) (pc' := 147) rfl (hb hby at_143) (by decide) (by decide) k))) ?_
        have q_v147_18 : v147_18 = (1 : Int32) := by rw [hv147_18, if_pos hc85_21, if_neg hc98_23]
        rw [q_v147_18] at K147_19
        exact K147_19 _ _ X22 N22 eq22
    · refine own_step (U' := T14.setTop (mkF m 147 #[iv p0, iv p1, iv p2, iv p3, iv p4, iv p5, iv (2 : Int32), rv b11, .unset] [(.int (1 : Int32))])) (fun t k => XS.ifYes X14.here hx rfl (pc0 := 85) (pc' := 142) rfl (hb hby at_85) rfl ((if0 _ _).trans (feq hc85_21).2) (by decide) (by decide) (XS.iconst X14.here hx rfl (hb hby at_142) (XS.goto X14.here hx rfl (pc0 := 143) (pc' := 147) rfl (hb hby at_143) (by decide) (by decide) k))) ?_
      have q_v147_18 : v147_18 = (1 : Int32) := by rw [hv147_18, if_neg hc85_21]
      rw [q_v147_18] at K147_19
      exact K147_19 _ _ X14 N14 eq14
  · rw [hn3]
    refine own_step (U' := s₁.setTop (mkF m 11 #[iv p0, iv p1, iv p2, iv p3, iv p4, iv p5, iv (3 : Int32), .unset, .unset] [(.int (3 : Int32))])) (fun t k => XS.istore X0.here hx rfl (hb hby at_7) rfl (l' := #[iv p0, iv p1, iv p2, iv p3, iv p4, iv p5, iv (3 : Int32), .unset, .unset]) rfl (XS.iload X0.here hx rfl (hb hby at_9) rfl k)) ?_
    obtain ⟨T24, h24, k24, X24, e24, E24, A24, st24⟩ := newP X0 hx hZ (own_w hw 1 rfl) e0 (g := (mkF m 11 #[iv p0, iv p1, iv p2, iv p3, iv p4, iv p5, iv (3 : Int32), .unset, .unset] [(.int (3 : Int32))])) rfl (hb hby at_11) rfl (by decide) (cap := 3) (by decide) (by decide) (by decide) (by decide)
    obtain ⟨b24, g24⟩ : ∃ z, z = h0.size := ⟨_, rfl⟩
    have ge_b24 : n0 ≤ b24 := Nat.le_trans Z0 (Nat.le_of_eq g24.symm)
    have sz_b24 : h0.size ≤ b24 := Nat.le_trans KK0.1 (Nat.le_of_eq g24.symm)
    rw [← g24] at A24 st24
    have V_b24 : Arv Z h24 b24 k24 .byte (3 : Int32) [(.int (0 : Int32)), (.int (0 : Int32)), (.int (0 : Int32))] (.int (0 : Int32)) := (Arv.new A24 (by decide)).pad (pad_rep [] (.int (0 : Int32)) 3)
    have Z24 : n0 ≤ h24.size := Nat.le_trans Z0 E24.1
    have KK24 := KK0.ext E24
    refine own_step (U' := T24.setTop (mkF m 13 #[iv p0, iv p1, iv p2, iv p3, iv p4, iv p5, iv (3 : Int32), .unset, .unset] [(.ref b24)])) st24 ?_
    refine own_step (U' := T24.setTop (mkF m 25 #[iv p0, iv p1, iv p2, iv p3, iv p4, iv p5, iv (3 : Int32), rv b24, .unset] [(.int (p1.toInt8.toInt32)), (.int (0 : Int32)), (.ref b24)])) (fun t k => XS.astore X24.here hx rfl (hb hby at_13) rfl rfl (l' := #[iv p0, iv p1, iv p2, iv p3, iv p4, iv p5, iv (3 : Int32), rv b24, .unset]) rfl (XS.iload X24.here hx rfl (hb hby at_15) rfl (XS.ifNo X24.here hx rfl (hb hby at_17) rfl (by decide) (XS.aload X24.here hx rfl (hb hby at_20) rfl rfl (XS.iconst X24.here hx rfl (hb hby at_22) (XS.iloadN X24.here hx rfl (hb hby at_23) rfl (XS.i2b X24.here hx rfl (hb hby at_24) rfl k))))))) ?_
    obtain ⟨cl25, Ar25, aq25, aS25, aN25, aH25, aG25⟩ := id V_b24
    have hin25 : ¬ ((0 : Int32) < 0 ∨ cl25.slots.size ≤ ((0 : Int32)).toNatClampNeg) := inb_of aS25 ⟨by decide, by decide⟩
    obtain ⟨T25, h25, X25, e25, W25, st25⟩ := stB X24 hx hZ e24 Ar25 (j := (0 : Int32)) hin25 (g := (mkF m 25 #[iv p0, iv p1, iv p2, iv p3, iv p4, iv p5, iv (3 : Int32), rv b24, .unset] [(.int (p1.toInt8.toInt32)), (.int (0 : Int32)), (.ref b24)])) rfl rfl (hb hby at_25)
    have V_b24_25 : Arv Z h25 b24 k24 .byte (3 : Int32) [(.int (nar .byte (p1.toInt8.toInt32))), (.int (0 : Int32)), (.int (0 : Int32))] (.int (0 : Int32)) := Arv.set Ar25 aq25 aS25 aN25 aH25 aG25 (fits_nar_byte _) W25 0 rfl (Nat.le_of_ble_eq_true rfl)
    have Z25 : n0 ≤ h25.size := Nat.le_trans Z24 (Keep.of_wr W25).1
    have KK25 := KK24.wr W25 (Or.inr sz_b24)
    have N25 := Fr.snoc X25 N0 ge_b24
    refine own_step (U' := T25.setTop (mkF m 26 #[iv p0, iv p1, iv p2, iv p3, iv p4, iv p5, iv (3 : Int32), rv b24, .unset] [])) st25 ?_
    refine own_step (U' := T25.setTop (mkF m 37 #[iv p0, iv p1, iv p2, iv p3, iv p4, iv p5, iv (3 : Int32), rv b24, .unset] [(.int (p2.toInt8.toInt32)), (.int (1 : Int32)), (.ref b24)])) (fun t k => XS.iload X25.here hx rfl (hb hby at_26) rfl (XS.iconst X25.here hx rfl (hb hby at_28) (XS.icmpNo X25.here hx rfl (hb hby at_29) rfl (by decide) (XS.aload X25.here hx rfl (hb hby at_32) rfl rfl (XS.iconst X25.here hx rfl (hb hby at_34) (XS.iloadN X25.here hx rfl (hb hby at_35) rfl (XS.i2b X25.here hx rfl (hb hby at_36) rfl k))))))) ?_
    obtain ⟨cl26, Ar26, aq26, aS26, aN26, aH26, aG26⟩ := id V_b24_25
    have hin26 : ¬ ((1 : Int32) < 0 ∨ cl26.slots.size ≤ ((1 : Int32)).toNatClampNeg) := inb_of aS26 ⟨by decide, by decide⟩
    obtain ⟨T26, h26, X26, e26, W26, st26⟩ := stB X25 hx hZ e25 Ar26 (j := (1 : Int32)) hin26 (g := (mkF m 37 #[iv p0, iv p1, iv p2, iv p3, iv p4, iv p5, iv (3 : Int32), rv b24, .unset] [(.int (p2.toInt8.toInt32)), (.int (1 : Int32)), (.ref b24)])) rfl rfl (hb hby at_37)
    have V_b24_26 : Arv Z h26 b24 k24 .byte (3 : Int32) [(.int (nar .byte (p1.toInt8.toInt32))), (.int (nar .byte (p2.toInt8.toInt32))), (.int (0 : Int32))] (.int (0 : Int32)) := Arv.set Ar26 aq26 aS26 aN26 aH26 aG26 (fits_nar_byte _) W26 1 rfl (Nat.le_of_ble_eq_true rfl)
    have Z26 : n0 ≤ h26.size := Nat.le_trans Z25 (Keep.of_wr W26).1
    have KK26 := KK25.wr W26 (Or.inr sz_b24)
    have N26 := Fr.snoc X26 N25 ge_b24
    refine own_step (U' := T26.setTop (mkF m 38 #[iv p0, iv p1, iv p2, iv p3, iv p4, iv p5, iv (3 : Int32), rv b24, .unset] [])) st26 ?_
    refine own_step (U' := T26.setTop (mkF m 49 #[iv p0, iv p1, iv p2, iv p3, iv p4, iv p5, iv (3 : Int32), rv b24, .unset] [(.int (p3.toInt8.toInt32)), (.int (2 : Int32)), (.ref b24)])) (fun t k => XS.iload X26.here hx rfl (hb hby at_38) rfl (XS.iconst X26.here hx rfl (hb hby at_40) (XS.icmpNo X26.here hx rfl (hb hby at_41) rfl (by decide) (XS.aload X26.here hx rfl (hb hby at_44) rfl rfl (XS.iconst X26.here hx rfl (hb hby at_46) (XS.iloadN X26.here hx rfl (hb hby at_47) rfl (XS.i2b X26.here hx rfl (hb hby at_48) rfl k))))))) ?_
    obtain ⟨cl27, Ar27, aq27, aS27, aN27, aH27, aG27⟩ := id V_b24_26
    have hin27 : ¬ ((2 : Int32) < 0 ∨ cl27.slots.size ≤ ((2 : Int32)).toNatClampNeg) := inb_of aS27 ⟨by decide, by decide⟩
    obtain ⟨T27, h27, X27, e27, W27, st27⟩ := stB X26 hx hZ e26 Ar27 (j := (2 : Int32)) hin27 (g := (mkF m 49 #[iv p0, iv p1, iv p2, iv p3, iv p4, iv p5, iv (3 : Int32), rv b24, .unset] [(.int (p3.toInt8.toInt32)), (.int (2 : Int32)), (.ref b24)])) rfl rfl (hb hby at_49)
    have V_b24_27 : Arv Z h27 b24 k24 .byte (3 : Int32) [(.int (nar .byte (p1.toInt8.toInt32))), (.int (nar .byte (p2.toInt8.toInt32))), (.int (nar .byte (p3.toInt8.toInt32)))] (.int (0 : Int32)) := Arv.set Ar27 aq27 aS27 aN27 aH27 aG27 (fits_nar_byte _) W27 2 rfl (Nat.le_of_ble_eq_true rfl)
    have Z27 : n0 ≤ h27.size := Nat.le_trans Z26 (Keep.of_wr W27).1
    have KK27 := KK26.wr W27 (Or.inr sz_b24)
    have N27 := Fr.snoc X27 N26 ge_b24
    refine own_step (U' := T27.setTop (mkF m 50 #[iv p0, iv p1, iv p2, iv p3, iv p4, iv p5, iv (3 : Int32), rv b24, .unset] [])) st27 ?_
    refine own_step (U' := T27.setTop (mkF m 81 #[iv p0, iv p1, iv p2, iv p3, iv p4, iv p5, iv (3 : Int32), rv b24, .unset] [])) (fun t k => XS.iload X27.here hx rfl (hb hby at_50) rfl (XS.iconst X27.here hx rfl (hb hby at_52) (XS.icmpYes X27.here hx rfl (pc0 := 53) (pc' := 63) rfl (hb hby at_53) rfl (by decide) (by decide) (by decide) (XS.iload X27.here hx rfl (hb hby at_63) rfl (XS.iconst X27.here hx rfl (hb hby at_65) (XS.icmpYes X27.here hx rfl (pc0 := 66) (pc' := 76) rfl (hb hby at_66) rfl (by decide) (by decide) (by decide) (XS.iload X27.here hx rfl (hb hby at_76) rfl (XS.ifNo X27.here hx rfl (hb hby at_78) rfl (by decide) k)))))))) ?_
    refine own_step (U' := T27.setTop (mkF m 82 #[iv p0, iv p1, iv p2, iv p3, iv p4, iv p5, iv (3 : Int32), rv b24, .unset] [(.int p1)])) (fun t k => XS.iloadN X27.here hx rfl (hb hby at_81) rfl k) ?_
    obtain ⟨_, _, ⟨T28, L28, k28, n28⟩, -, X28, ⟨Lc28, hQ28, l28, y28, z28⟩, st28⟩ := Jvm.LawKit.callS X27 hx (y := (⟨"com/example/tallyfield/tallyfield/marc/Iso2709HoldsStructuralBytePinLaw", "structural", "(I)Z"⟩ : MethodName)) hown (mvT hZ (own_w hw 6 rfl)) (mvT hZ (own_w hw 7 rfl)) (mvT hZ (own_w hw 8 rfl)) (mvT hZ (own_w hw 9 rfl)) (by decide) (backOf (W := 0) (rm2 l Z a0 hw [] p1 h27 n0 Z27) hZ (own_w hw 9 rfl) (own_w hw 8 rfl) (by decide) (by decide)) (g := (mkF m 82 #[iv p0, iv p1, iv p2, iv p3, iv p4, iv p5, iv (3 : Int32), rv b24, .unset] [(.int p1)])) rfl (by rw [hml]; rfl) (argsL := [(.int p1)]) (rest := []) (lenOf pd__I_Z rfl) rfl (by show 2 * 0 + _ ≤ _; exact Nat.le_of_eq rfl) (hb hby at_82) (fun _ _ => ⟨rfl, e27, (by decide : 1 + 0 ≤ _), (by decide : 3 + 0 ≤ _)⟩)
    dsimp only [Pt.U, Pt.locs, Pt.cells, Pt.slots] at X28 l28 y28 z28 st28 hQ28
    subst l28 y28 z28
    obtain ⟨rfl, N28q, eq28⟩ := hQ28
    have N28 := Fr.app N27 N28q
    refine own_step (U' := T28.setTop (mkF m 85 #[iv p0, iv p1, iv p2, iv p3, iv p4, iv p5, iv (3 : Int32), rv b24, .unset] [(.int (F2 p1))])) st28 ?_
    obtain ⟨v147_34, hv147_34⟩ : ∃ v : Int32, v = (if (F2 p1) = (0 : Int32) then (if (F2 p2) = (0 : Int32) then (if (F2 p3) = (0 : Int32) then (0 : Int32) else (1 : Int32)) else (1 : Int32)) else (1 : Int32)) := ⟨_, rfl⟩
    have K147_35 : ∀ (T' : State) (locs' : List Loc) (X' : Stand p l e room_1 s m #[(.int p0), (.int p1), (.int p2), (.int p3), (.int p4), (.int p5)] below meth c T' locs' 1 3) (N' : Fr n0 locs') (e' : T'.heap = h27), own_Go p.tables e below s 16 128 (Q0 Z p0 p1 p2 p3 p4 p5 h0 n0) (T'.setTop (mkF m 147 #[iv p0, iv p1, iv p2, iv p3, iv p4, iv p5, iv (3 : Int32), rv b24, .unset] [(.int v147_34)])) := by
      intro T35 L35 X35 N35 e35
      refine own_step (U' := T35.setTop (mkF m 151 #[iv p0, iv p1, iv p2, iv p3, iv p4, iv p5, iv (3 : Int32), rv b24, iv v147_34] [(.ref b24)])) (fun t k => XS.istore X35.here hx rfl (hb hby at_147) rfl (l' := #[iv p0, iv p1, iv p2, iv p3, iv p4, iv p5, iv (3 : Int32), rv b24, iv v147_34]) rfl (XS.aload X35.here hx rfl (hb hby at_149) rfl rfl k)) ?_
      obtain ⟨_, _, ⟨T36, L36, k36, n36⟩, -, X36, ⟨Lc36, hQ36, l36, y36, z36⟩, st36⟩ := Jvm.LawKit.callS X35 hx (y := (⟨"com/example/tallyfield/tallyfield/marc/Iso2709", "holdsStructuralByte", "([B)Z"⟩ : MethodName)) hown (mvT hZ (own_w hw 2 rfl)) (mvT hZ (own_w hw 3 rfl)) (mvT hZ (own_w hw 4 rfl)) (mvT hZ (own_w hw 5 rfl)) (by decide) (backOf (W := 0) (rm1k3 l Z a0 hw [] b24 (nar .byte (p1.toInt8.toInt32)) (nar .byte (p2.toInt8.toInt32)) (nar .byte (p3.toInt8.toInt32)) k24 h27 n0 Z27 V_b24_27) hZ (own_w hw 5 rfl) (own_w hw 4 rfl) (by decide) (by decide)) (g := (mkF m 151 #[iv p0, iv p1, iv p2, iv p3, iv p4, iv p5, iv (3 : Int32), rv b24, iv v147_34] [(.ref b24)])) rfl (by rw [hml]; rfl) (argsL := [(.ref b24)]) (rest := []) (lenOf pd___B_Z rfl) rfl (by show 2 * 0 + _ ≤ _; exact Nat.le_of_eq rfl) (hb hby at_151) (fun _ _ => ⟨rfl, e35, (by decide : 1 + 0 ≤ _), (by decide : 3 + 0 ≤ _)⟩)
      dsimp only [Pt.U, Pt.locs, Pt.cells, Pt.slots] at X36 l36 y36 z36 st36 hQ36
      subst l36 y36 z36
      obtain ⟨rfl, N36q, eq36⟩ := hQ36
      have N36 := Fr.app N35 N36q
      refine own_step (U' := T36.setTop (mkF m 154 #[iv p0, iv p1, iv p2, iv p3, iv p4, iv p5, iv (3 : Int32), rv b24, iv v147_34] [(.int (F1k3 (nar .byte (p1.toInt8.toInt32)) (nar .byte (p2.toInt8.toInt32)) (nar .byte (p3.toInt8.toInt32))))])) st36 ?_
      refine own_step (U' := T36.setTop (mkF m 164 #[iv p0, iv p1, iv p2, iv p3, iv p4, iv p5, iv (3 : Int32), rv b24, iv v147_34] [(.int (1 : Int32))])) (fun t k => XS.iload X36.here hx rfl (hb hby at_154) rfl (XS.icmpNo X36.here hx rfl (hb hby at_156) rfl (teq ((own_elem p1 _ _ (own_elem p2 _ _ (own_elem p3 _ _ rfl))).trans hv147_34.symm)).2 (XS.iconst X36.here hx rfl (hb hby at_159) (XS.goto X36.here hx rfl (pc0 := 160) (pc' := 164) rfl (hb hby at_160) (by decide) (by decide) k)))) ?_
      exact own_out X36 (v := (some (.int (1 : Int32)))) hlk (own_nv Bd.returns) (by rw [eq36]; exact ⟨rfl, N36⟩) (by decide) (by decide) (fun fs hr => retN X36 hx (t := .boolean) Bd.returns (by simp) (hb hby at_164) hr)
    by_cases hc85_37 : (F2 p1) = (0 : Int32)
    · refine own_step (U' := T28.setTop (mkF m 95 #[iv p0, iv p1, iv p2, iv p3, iv p4, iv p5, iv (3 : Int32), rv b24, .unset] [(.int p2)])) (fun t k => XS.ifNo X28.here hx rfl (hb hby at_85) rfl ((if0 _ _).trans (teq hc85_37).2) (XS.iload X28.here hx rfl (hb hby at_88) rfl (XS.iconst X28.here hx rfl (hb hby at_90) (XS.icmpNo X28.here hx rfl (hb hby at_91) rfl (by decide) (XS.iloadN X28.here hx rfl (hb hby at_94) rfl k))))) ?_
      obtain ⟨_, _, ⟨T38, L38, k38, n38⟩, -, X38, ⟨Lc38, hQ38, l38, y38, z38⟩, st38⟩ := Jvm.LawKit.callS X28 hx (y := (⟨"com/example/tallyfield/tallyfield/marc/Iso2709HoldsStructuralBytePinLaw", "structural", "(I)Z"⟩ : MethodName)) hown (mvT hZ (own_w hw 6 rfl)) (mvT hZ (own_w hw 7 rfl)) (mvT hZ (own_w hw 8 rfl)) (mvT hZ (own_w hw 9 rfl)) (by decide) (backOf (W := 0) (rm2 l Z a0 hw [] p2 h27 n0 Z27) hZ (own_w hw 9 rfl) (own_w hw 8 rfl) (by decide) (by decide)) (g := (mkF m 95 #[iv p0, iv p1, iv p2, iv p3, iv p4, iv p5, iv (3 : Int32), rv b24, .unset] [(.int p2)])) rfl (by rw [hml]; rfl) (argsL := [(.int p2)]) (rest := []) (lenOf pd__I_Z rfl) rfl (by show 2 * 0 + _ ≤ _; exact Nat.le_of_eq rfl) (hb hby at_95) (fun _ _ => ⟨rfl, eq28, (by decide : 1 + 0 ≤ _), (by decide : 3 + 0 ≤ _)⟩)
      dsimp only [Pt.U, Pt.locs, Pt.cells, Pt.slots] at X38 l38 y38 z38 st38 hQ38
      subst l38 y38 z38
      obtain ⟨rfl, N38q, eq38⟩ := hQ38
      have N38 := Fr.app N28 N38q
      refine own_step (U' := T38.setTop (mkF m 98 #[iv p0, iv p1, iv p2, iv p3, iv p4, iv p5, iv (3 : Int32), rv b24, .unset] [(.int (F2 p2))])) st38 ?_
      by_cases hc98_39 : (F2 p2) = (0 : Int32)
      · refine own_step (U' := T38.setTop (mkF m 108 #[iv p0, iv p1, iv p2, iv p3, iv p4, iv p5, iv (3 : Int32), rv b24, .unset] [(.int p3)])) (fun t k => XS.ifNo X38.here hx rfl (hb hby at_98) rfl ((if0 _ _).trans (teq hc98_39).2) (XS.iload X38.here hx rfl (hb hby at_101) rfl (XS.iconst X38.here hx rfl (hb hby at_103) (XS.icmpNo X38.here hx rfl (hb hby at_104) rfl (by decide) (XS.iloadN X38.here hx rfl (hb hby at_107) rfl k))))) ?_
        obtain ⟨_, _, ⟨T40, L40, k40, n40⟩, -, X40, ⟨Lc40, hQ40, l40, y40, z40⟩, st40⟩ := Jvm.LawKit.callS X38 hx (y := (⟨"com/example/tallyfield/tallyfield/marc/Iso2709HoldsStructuralBytePinLaw", "structural", "(I)Z"⟩ : MethodName)) hown (mvT hZ (own_w hw 6 rfl)) (mvT hZ (own_w hw 7 rfl)) (mvT hZ (own_w hw 8 rfl)) (mvT hZ (own_w hw 9 rfl)) (by decide) (backOf (W := 0) (rm2 l Z a0 hw [] p3 h27 n0 Z27) hZ (own_w hw 9 rfl) (own_w hw 8 rfl) (by decide) (by decide)) (g := (mkF m 108 #[iv p0, iv p1, iv p2, iv p3, iv p4, iv p5, iv (3 : Int32), rv b24, .unset] [(.int p3)])) rfl (by rw [hml]; rfl) (argsL := [(.int p3)]) (rest := []) (lenOf pd__I_Z rfl) rfl (by show 2 * 0 + _ ≤ _; exact Nat.le_of_eq rfl) (hb hby at_108) (fun _ _ => ⟨rfl, eq38, (by decide : 1 + 0 ≤ _), (by decide : 3 + 0 ≤ _)⟩)
        dsimp only [Pt.U, Pt.locs, Pt.cells, Pt.slots] at X40 l40 y40 z40 st40 hQ40
        subst l40 y40 z40
        obtain ⟨rfl, N40q, eq40⟩ := hQ40
        have N40 := Fr.app N38 N40q
        refine own_step (U' := T40.setTop (mkF m 111 #[iv p0, iv p1, iv p2, iv p3, iv p4, iv p5, iv (3 : Int32), rv b24, .unset] [(.int (F2 p3))])) st40 ?_
        by_cases hc111_41 : (F2 p3) = (0 : Int32)
        · refine own_step (U' := T40.setTop (mkF m 147 #[iv p0, iv p1, iv p2, iv p3, iv p4, iv p5, iv (3 : Int32), rv b24, .unset] [(.int (0 : Int32))])) (fun t k => XS.ifNo X40.here hx rfl (hb hby at_111) rfl ((if0 _ _).trans (teq hc111_41).2) (XS.iload X40.here hx rfl (hb hby at_114) rfl (XS.iconst X40.here hx rfl (hb hby at_116) (XS.icmpYes X40.here hx rfl (pc0 := 117) (pc' := 128) rfl (hb hby at_117) rfl (by decide) (by decide) (by decide) (XS.iload X40.here hx rfl (hb hby at_128) rfl (XS.iconst X40.here hx rfl (hb hby at_130) (XS.icmpYes X40.here hx rfl (pc0 := 131) (pc' := 146) rfl (hb hby at_131) rfl (by decide) (by decide) (by decide) (XS.iconst X40.here hx rfl (hb hby at_146) k)))))))) ?_
          have q_v147_34 : v147_34 = (0 : Int32) := by rw [hv147_34, if_pos hc85_37, if_pos hc98_39, if_pos hc111_41]
          rw [q_v147_34] at K147_35
          exact K147_35 _ _ X40 N40 eq40
        · refine own_step (U' := T40.setTop (mkF m 147 #[iv p0, iv p1, iv p2, iv p3, iv p4, iv p5, iv (3 : Int32), rv b24, .unset] [(.int (1 : Int32))])) (fun t k => XS.ifYes X40.here hx rfl (pc0 := 111) (pc' := 142) rfl (hb hby at_111) rfl ((if0 _ _).trans (feq hc111_41).2) (by decide) (by decide) (XS.iconst X40.here hx rfl (hb hby at_142) (XS.goto X40.here hx rfl (pc0 := 143) (pc' := 147) rfl (hb hby at_143) (by decide) (by decide) k))) ?_
          have q_v147_34 : v147_34 = (1 : Int32) := by rw [hv147_34, if_pos hc85_37, if_pos hc98_39, if_neg hc111_41]
          rw [q_v147_34] at K147_35
          exact K147_35 _ _ X40 N40 eq40
      · refine own_step (U' := T38.setTop (mkF m 147 #[iv p0, iv p1, iv p2, iv p3, iv p4, iv p5, iv (3 : Int32), rv b24, .unset] [(.int (1 : Int32))])) (fun t k => XS.ifYes X38.here hx rfl (pc0 := 98) (pc' := 142) rfl (hb hby at_98) rfl ((if0 _ _).trans (feq hc98_39).2) (by decide) (by decide) (XS.iconst X38.here hx rfl (hb hby at_142) (XS.goto X38.here hx rfl (pc0 := 143) (pc' := 147) rfl (hb hby at_143) (by decide) (by decide) k))) ?_
        have q_v147_34 : v147_34 = (1 : Int32) := by rw [hv147_34, if_pos hc85_37, if_neg hc98_39]
        rw [q_v147_34] at K147_35
        exact K147_35 _ _ X38 N38 eq38
    · refine own_step (U' := T28.setTop (mkF m 147 #[iv p0, iv p1, iv p2, iv p3, iv p4, iv p5, iv (3 : Int32), rv b24, .unset] [(.int (1 : Int32))])) (fun t k => XS.ifYes X28.here hx rfl (pc0 := 85) (pc' := 142) rfl (hb hby at_85) rfl ((if0 _ _).trans (feq hc85_37).2) (by decide) (by decide) (XS.iconst X28.here hx rfl (hb hby at_142) (XS.goto X28.here hx rfl (pc0 := 143) (pc' := 147) rfl (hb hby at_143) (by decide) (by decide) k))) ?_
      have q_v147_34 : v147_34 = (1 : Int32) := by rw [hv147_34, if_neg hc85_37]
      rw [q_v147_34] at K147_35
      exact K147_35 _ _ X28 N28 eq28
  · rw [hn4]
    refine own_step (U' := s₁.setTop (mkF m 11 #[iv p0, iv p1, iv p2, iv p3, iv p4, iv p5, iv (4 : Int32), .unset, .unset] [(.int (4 : Int32))])) (fun t k => XS.istore X0.here hx rfl (hb hby at_7) rfl (l' := #[iv p0, iv p1, iv p2, iv p3, iv p4, iv p5, iv (4 : Int32), .unset, .unset]) rfl (XS.iload X0.here hx rfl (hb hby at_9) rfl k)) ?_
    obtain ⟨T42, h42, k42, X42, e42, E42, A42, st42⟩ := newP X0 hx hZ (own_w hw 1 rfl) e0 (g := (mkF m 11 #[iv p0, iv p1, iv p2, iv p3, iv p4, iv p5, iv (4 : Int32), .unset, .unset] [(.int (4 : Int32))])) rfl (hb hby at_11) rfl (by decide) (cap := 4) (by decide) (by decide) (by decide) (by decide)
    obtain ⟨b42, g42⟩ : ∃ z, z = h0.size := ⟨_, rfl⟩
    have ge_b42 : n0 ≤ b42 := Nat.le_trans Z0 (Nat.le_of_eq g42.symm)
    have sz_b42 : h0.size ≤ b42 := Nat.le_trans KK0.1 (Nat.le_of_eq g42.symm)
    rw [← g42] at A42 st42
    have V_b42 : Arv Z h42 b42 k42 .byte (4 : Int32) [(.int (0 : Int32)), (.int (0 : Int32)), (.int (0 : Int32)), (.int (0 : Int32))] (.int (0 : Int32)) := (Arv.new A42 (by decide)).pad (pad_rep [] (.int (0 : Int32)) 4)
    have Z42 : n0 ≤ h42.size := Nat.le_trans Z0 E42.1
    have KK42 := KK0.ext E42
    refine own_step (U' := T42.setTop (mkF m 13 #[iv p0, iv p1, iv p2, iv p3, iv p4, iv p5, iv (4 : Int32), .unset, .unset] [(.ref b42)])) st42 ?_
    refine own_step (U' := T42.setTop (mkF m 25 #[iv p0, iv p1, iv p2, iv p3, iv p4, iv p5, iv (4 : Int32), rv b42, .unset] [(.int (p1.toInt8.toInt32)), (.int (0 : Int32)), (.ref b42)])) (fun t k => XS.astore X42.here hx rfl (hb hby at_13) rfl rfl (l' := #[iv p0, iv p1, iv p2, iv p3, iv p4, iv p5, iv (4 : Int32), rv b42, .unset]) rfl (XS.iload X42.here hx rfl (hb hby at_15) rfl (XS.ifNo X42.here hx rfl (hb hby at_17) rfl (by decide) (XS.aload X42.here hx rfl (hb hby at_20) rfl rfl (XS.iconst X42.here hx rfl (hb hby at_22) (XS.iloadN X42.here hx rfl (hb hby at_23) rfl (XS.i2b X42.here hx rfl (hb hby at_24) rfl k))))))) ?_
    obtain ⟨cl43, Ar43, aq43, aS43, aN43, aH43, aG43⟩ := id V_b42
    have hin43 : ¬ ((0 : Int32) < 0 ∨ cl43.slots.size ≤ ((0 : Int32)).toNatClampNeg) := inb_of aS43 ⟨by decide, by decide⟩
    obtain ⟨T43, h43, X43, e43, W43, st43⟩ := stB X42 hx hZ e42 Ar43 (j := (0 : Int32)) hin43 (g := (mkF m 25 #[iv p0, iv p1, iv p2, iv p3, iv p4, iv p5, iv (4 : Int32), rv b42, .unset] [(.int (p1.toInt8.toInt32)), (.int (0 : Int32)), (.ref b42)])) rfl rfl (hb hby at_25)
    have V_b42_43 : Arv Z h43 b42 k42 .byte (4 : Int32) [(.int (nar .byte (p1.toInt8.toInt32))), (.int (0 : Int32)), (.int (0 : Int32)), (.int (0 : Int32))] (.int (0 : Int32)) := Arv.set Ar43 aq43 aS43 aN43 aH43 aG43 (fits_nar_byte _) W43 0 rfl (Nat.le_of_ble_eq_true rfl)
    have Z43 : n0 ≤ h43.size := Nat.le_trans Z42 (Keep.of_wr W43).1
    have KK43 := KK42.wr W43 (Or.inr sz_b42)
    have N43 := Fr.snoc X43 N0 ge_b42
    refine own_step (U' := T43.setTop (mkF m 26 #[iv p0, iv p1, iv p2, iv p3, iv p4, iv p5, iv (4 : Int32), rv b42, .unset] [])) st43 ?_
    refine own_step (U' := T43.setTop (mkF m 37 #[iv p0, iv p1, iv p2, iv p3, iv p4, iv p5, iv (4 : Int32), rv b42, .unset] [(.int (p2.toInt8.toInt32)), (.int (1 : Int32)), (.ref b42)])) (fun t k => XS.iload X43.here hx rfl (hb hby at_26) rfl (XS.iconst X43.here hx rfl (hb hby at_28) (XS.icmpNo X43.here hx rfl (hb hby at_29) rfl (by decide) (XS.aload X43.here hx rfl (hb hby at_32) rfl rfl (XS.iconst X43.here hx rfl (hb hby at_34) (XS.iloadN X43.here hx rfl (hb hby at_35) rfl (XS.i2b X43.here hx rfl (hb hby at_36) rfl k))))))) ?_
    obtain ⟨cl44, Ar44, aq44, aS44, aN44, aH44, aG44⟩ := id V_b42_43
    have hin44 : ¬ ((1 : Int32) < 0 ∨ cl44.slots.size ≤ ((1 : Int32)).toNatClampNeg) := inb_of aS44 ⟨by decide, by decide⟩
    obtain ⟨T44, h44, X44, e44, W44, st44⟩ := stB X43 hx hZ e43 Ar44 (j := (1 : Int32)) hin44 (g := (mkF m 37 #[iv p0, iv p1, iv p2, iv p3, iv p4, iv p5, iv (4 : Int32), rv b42, .unset] [(.int (p2.toInt8.toInt32)), (.int (1 : Int32)), (.ref b42)])) rfl rfl (hb hby at_37)
    have V_b42_44 : Arv Z h44 b42 k42 .byte (4 : Int32) [(.int (nar .byte (p1.toInt8.toInt32))), (.int (nar .byte (p2.toInt8.toInt32))), (.int (0 : Int32)), (.int (0 : Int32))] (.int (0 : Int32)) := Arv.set Ar44 aq44 aS44 aN44 aH44 aG44 (fits_nar_byte _) W44 1 rfl (Nat.le_of_ble_eq_true rfl)
    have Z44 : n0 ≤ h44.size := Nat.le_trans Z43 (Keep.of_wr W44).1
    have KK44 := KK43.wr W44 (Or.inr sz_b42)
    have N44 := Fr.snoc X44 N43 ge_b42
    refine own_step (U' := T44.setTop (mkF m 38 #[iv p0, iv p1, iv p2, iv p3, iv p4, iv p5, iv (4 : Int32), rv b42, .unset] [])) st44 ?_
    refine own_step (U' := T44.setTop (mkF m 49 #[iv p0, iv p1, iv p2, iv p3, iv p4, iv p5, iv (4 : Int32), rv b42, .unset] [(.int (p3.toInt8.toInt32)), (.int (2 : Int32)), (.ref b42)])) (fun t k => XS.iload X44.here hx rfl (hb hby at_38) rfl (XS.iconst X44.here hx rfl (hb hby at_40) (XS.icmpNo X44.here hx rfl (hb hby at_41) rfl (by decide) (XS.aload X44.here hx rfl (hb hby at_44) rfl rfl (XS.iconst X44.here hx rfl (hb hby at_46) (XS.iloadN X44.here hx rfl (hb hby at_47) rfl (XS.i2b X44.here hx rfl (hb hby at_48) rfl k))))))) ?_
    obtain ⟨cl45, Ar45, aq45, aS45, aN45, aH45, aG45⟩ := id V_b42_44
    have hin45 : ¬ ((2 : Int32) < 0 ∨ cl45.slots.size ≤ ((2 : Int32)).toNatClampNeg) := inb_of aS45 ⟨by decide, by decide⟩
    obtain ⟨T45, h45, X45, e45, W45, st45⟩ := stB X44 hx hZ e44 Ar45 (j := (2 : Int32)) hin45 (g := (mkF m 49 #[iv p0, iv p1, iv p2, iv p3, iv p4, iv p5, iv (4 : Int32), rv b42, .unset] [(.int (p3.toInt8.toInt32)), (.int (2 : Int32)), (.ref b42)])) rfl rfl (hb hby at_49)
    have V_b42_45 : Arv Z h45 b42 k42 .byte (4 : Int32) [(.int (nar .byte (p1.toInt8.toInt32))), (.int (nar .byte (p2.toInt8.toInt32))), (.int (nar .byte (p3.toInt8.toInt32))), (.int (0 : Int32))] (.int (0 : Int32)) := Arv.set Ar45 aq45 aS45 aN45 aH45 aG45 (fits_nar_byte _) W45 2 rfl (Nat.le_of_ble_eq_true rfl)
    have Z45 : n0 ≤ h45.size := Nat.le_trans Z44 (Keep.of_wr W45).1
    have KK45 := KK44.wr W45 (Or.inr sz_b42)
    have N45 := Fr.snoc X45 N44 ge_b42
    refine own_step (U' := T45.setTop (mkF m 50 #[iv p0, iv p1, iv p2, iv p3, iv p4, iv p5, iv (4 : Int32), rv b42, .unset] [])) st45 ?_
    refine own_step (U' := T45.setTop (mkF m 62 #[iv p0, iv p1, iv p2, iv p3, iv p4, iv p5, iv (4 : Int32), rv b42, .unset] [(.int (p4.toInt8.toInt32)), (.int (3 : Int32)), (.ref b42)])) (fun t k => XS.iload X45.here hx rfl (hb hby at_50) rfl (XS.iconst X45.here hx rfl (hb hby at_52) (XS.icmpNo X45.here hx rfl (hb hby at_53) rfl (by decide) (XS.aload X45.here hx rfl (hb hby at_56) rfl rfl (XS.iconst X45.here hx rfl (hb hby at_58) (XS.iload X45.here hx rfl (hb hby at_59) rfl (XS.i2b X45.here hx rfl (hb hby at_61) rfl k))))))) ?_
    obtain ⟨cl46, Ar46, aq46, aS46, aN46, aH46, aG46⟩ := id V_b42_45
    have hin46 : ¬ ((3 : Int32) < 0 ∨ cl46.slots.size ≤ ((3 : Int32)).toNatClampNeg) := inb_of aS46 ⟨by decide, by decide⟩
    obtain ⟨T46, h46, X46, e46, W46, st46⟩ := stB X45 hx hZ e45 Ar46 (j := (3 : Int32)) hin46 (g := (mkF m 62 #[iv p0, iv p1, iv p2, iv p3, iv p4, iv p5, iv (4 : Int32), rv b42, .unset] [(.int (p4.toInt8.toInt32)), (.int (3 : Int32)), (.ref b42)])) rfl rfl (hb hby at_62)
    have V_b42_46 : Arv Z h46 b42 k42 .byte (4 : Int32) [(.int (nar .byte (p1.toInt8.toInt32))), (.int (nar .byte (p2.toInt8.toInt32))), (.int (nar .byte (p3.toInt8.toInt32))), (.int (nar .byte (p4.toInt8.toInt32)))] (.int (0 : Int32)) := Arv.set Ar46 aq46 aS46 aN46 aH46 aG46 (fits_nar_byte _) W46 3 rfl (Nat.le_of_ble_eq_true rfl)
    have Z46 : n0 ≤ h46.size := Nat.le_trans Z45 (Keep.of_wr W46).1
    have KK46 := KK45.wr W46 (Or.inr sz_b42)
    have N46 := Fr.snoc X46 N45 ge_b42
    refine own_step (U' := T46.setTop (mkF m 63 #[iv p0, iv p1, iv p2, iv p3, iv p4, iv p5, iv (4 : Int32), rv b42, .unset] [])) st46 ?_
    refine own_step (U' := T46.setTop (mkF m 82 #[iv p0, iv p1, iv p2, iv p3, iv p4, iv p5, iv (4 : Int32), rv b42, .unset] [(.int p1)])) (fun t k => XS.iload X46.here hx rfl (hb hby at_63) rfl (XS.iconst X46.here hx rfl (hb hby at_65) (XS.icmpYes X46.here hx rfl (pc0 := 66) (pc' := 76) rfl (hb hby at_66) rfl (by decide) (by decide) (by decide) (XS.iload X46.here hx rfl (hb hby at_76) rfl (XS.ifNo X46.here hx rfl (hb hby at_78) rfl (by decide) (XS.iloadN X46.here hx rfl (hb hby at_81) rfl k)))))) ?_
    obtain ⟨_, _, ⟨T47, L47, k47, n47⟩, -, X47, ⟨Lc47, hQ47, l47, y47, z47⟩, st47⟩ := Jvm.LawKit.callS X46 hx (y := (⟨"com/example/tallyfield/tallyfield/marc/Iso2709HoldsStructuralBytePinLaw", "structural", "(I)Z"⟩ : MethodName)) hown (mvT hZ (own_w hw 6 rfl)) (mvT hZ (own_w hw 7 rfl)) (mvT hZ (own_w hw 8 rfl)) (mvT hZ (own_w hw 9 rfl)) (by decide) (backOf (W := 0) (rm2 l Z a0 hw [] p1 h46 n0 Z46) hZ (own_w hw 9 rfl) (own_w hw 8 rfl) (by decide) (by decide)) (g := (mkF m 82 #[iv p0, iv p1, iv p2, iv p3, iv p4, iv p5, iv (4 : Int32), rv b42, .unset] [(.int p1)])) rfl (by rw [hml]; rfl) (argsL := [(.int p1)]) (rest := []) (lenOf pd__I_Z rfl) rfl (by show 2 * 0 + _ ≤ _; exact Nat.le_of_eq rfl) (hb hby at_82) (fun _ _ => ⟨rfl, e46, (by decide : 1 + 0 ≤ _), (by decide : 4 + 0 ≤ _)⟩)
    dsimp only [Pt.U, Pt.locs, Pt.cells, Pt.slots] at X47 l47 y47 z47 st47 hQ47
    subst l47 y47 z47
    obtain ⟨rfl, N47q, eq47⟩ := hQ47
    have N47 := Fr.app N46 N47q
    refine own_step (U' := T47.setTop (mkF m 85 #[iv p0, iv p1, iv p2, iv p3, iv p4, iv p5, iv (4 : Int32), rv b42, .unset] [(.int (F2 p1))])) st47 ?_
    obtain ⟨v147_55, hv147_55⟩ : ∃ v : Int32, v = (if (F2 p1) = (0 : Int32) then (if (F2 p2) = (0 : Int32) then (if (F2 p3) = (0 : Int32) then (if (F2 p4) = (0 : Int32) then (0 : Int32) else (1 : Int32)) else (1 : Int32)) else (1 : Int32)) else (1 : Int32)) := ⟨_, rfl⟩
    have K147_56 : ∀ (T' : State) (locs' : List Loc) (X' : Stand p l e room_1 s m #[(.int p0), (.int p1), (.int p2), (.int p3), (.int p4), (.int p5)] below meth c T' locs' 1 4) (N' : Fr n0 locs') (e' : T'.heap = h46), own_Go p.tables e below s 16 128 (Q0 Z p0 p1 p2 p3 p4 p5 h0 n0) (T'.setTop (mkF m 147 #[iv p0, iv p1, iv p2, iv p3, iv p4, iv p5, iv (4 : Int32), rv b42, .unset] [(.int v147_55)])) := by
      intro T56 L56 X56 N56 e56
      refine own_step (U' := T56.setTop (mkF m 151 #[iv p0, iv p1, iv p2, iv p3, iv p4, iv p5, iv (4 : Int32), rv b42, iv v147_55] [(.ref b42)])) (fun t k => XS.istore X56.here hx rfl (hb hby at_147) rfl (l' := #[iv p0, iv p1, iv p2, iv p3, iv p4, iv p5, iv (4 : Int32), rv b42, iv v147_55]) rfl (XS.aload X56.here hx rfl (hb hby at_149) rfl rfl k)) ?_
      obtain ⟨_, _, ⟨T57, L57, k57, n57⟩, -, X57, ⟨Lc57, hQ57, l57, y57, z57⟩, st57⟩ := Jvm.LawKit.callS X56 hx (y := (⟨"com/example/tallyfield/tallyfield/marc/Iso2709", "holdsStructuralByte", "([B)Z"⟩ : MethodName)) hown (mvT hZ (own_w hw 2 rfl)) (mvT hZ (own_w hw 3 rfl)) (mvT hZ (own_w hw 4 rfl)) (mvT hZ (own_w hw 5 rfl)) (by decide) (backOf (W := 0) (rm1k4 l Z a0 hw [] b42 (nar .byte (p1.toInt8.toInt32)) (nar .byte (p2.toInt8.toInt32)) (nar .byte (p3.toInt8.toInt32)) (nar .byte (p4.toInt8.toInt32)) k42 h46 n0 Z46 V_b42_46) hZ (own_w hw 5 rfl) (own_w hw 4 rfl) (by decide) (by decide)) (g := (mkF m 151 #[iv p0, iv p1, iv p2, iv p3, iv p4, iv p5, iv (4 : Int32), rv b42, iv v147_55] [(.ref b42)])) rfl (by rw [hml]; rfl) (argsL := [(.ref b42)]) (rest := []) (lenOf pd___B_Z rfl) rfl (by show 2 * 0 + _ ≤ _; exact Nat.le_of_eq rfl) (hb hby at_151) (fun _ _ => ⟨rfl, e56, (by decide : 1 + 0 ≤ _), (by decide : 4 + 0 ≤ _)⟩)
      dsimp only [Pt.U, Pt.locs, Pt.cells, Pt.slots] at X57 l57 y57 z57 st57 hQ57
      subst l57 y57 z57
      obtain ⟨rfl, N57q, eq57⟩ := hQ57
      have N57 := Fr.app N56 N57q
      refine own_step (U' := T57.setTop (mkF m 154 #[iv p0, iv p1, iv p2, iv p3, iv p4, iv p5, iv (4 : Int32), rv b42, iv v147_55] [(.int (F1k4 (nar .byte (p1.toInt8.toInt32)) (nar .byte (p2.toInt8.toInt32)) (nar .byte (p3.toInt8.toInt32)) (nar .byte (p4.toInt8.toInt32))))])) st57 ?_
      refine own_step (U' := T57.setTop (mkF m 164 #[iv p0, iv p1, iv p2, iv p3, iv p4, iv p5, iv (4 : Int32), rv b42, iv v147_55] [(.int (1 : Int32))])) (fun t k => XS.iload X57.here hx rfl (hb hby at_154) rfl (XS.icmpNo X57.here hx rfl (hb hby at_156) rfl (teq ((own_elem p1 _ _ (own_elem p2 _ _ (own_elem p3 _ _ (own_elem p4 _ _ rfl)))).trans hv147_55.symm)).2 (XS.iconst X57.here hx rfl (hb hby at_159) (XS.goto X57.here hx rfl (pc0 := 160) (pc' := 164) rfl (hb hby at_160) (by decide) (by decide) k)))) ?_
      exact own_out X57 (v := (some (.int (1 : Int32)))) hlk (own_nv Bd.returns) (by rw [eq57]; exact ⟨rfl, N57⟩) (by decide) (by decide) (fun fs hr => retN X57 hx (t := .boolean) Bd.returns (by simp) (hb hby at_164) hr)
    by_cases hc85_58 : (F2 p1) = (0 : Int32)
    · refine own_step (U' := T47.setTop (mkF m 95 #[iv p0, iv p1, iv p2, iv p3, iv p4, iv p5, iv (4 : Int32), rv b42, .unset] [(.int p2)])) (fun t k => XS.ifNo X47.here hx rfl (hb hby at_85) rfl ((if0 _ _).trans (teq hc85_58).2) (XS.iload X47.here hx rfl (hb hby at_88) rfl (XS.iconst X47.here hx rfl (hb hby at_90) (XS.icmpNo X47.here hx rfl (hb hby at_91) rfl (by decide) (XS.iloadN X47.here hx rfl (hb hby at_94) rfl k))))) ?_
      obtain ⟨_, _, ⟨T59, L59, k59, n59⟩, -, X59, ⟨Lc59, hQ59, l59, y59, z59⟩, st59⟩ := Jvm.LawKit.callS X47 hx (y := (⟨"com/example/tallyfield/tallyfield/marc/Iso2709HoldsStructuralBytePinLaw", "structural", "(I)Z"⟩ : MethodName)) hown (mvT hZ (own_w hw 6 rfl)) (mvT hZ (own_w hw 7 rfl)) (mvT hZ (own_w hw 8 rfl)) (mvT hZ (own_w hw 9 rfl)) (by decide) (backOf (W := 0) (rm2 l Z a0 hw [] p2 h46 n0 Z46) hZ (own_w hw 9 rfl) (own_w hw 8 rfl) (by decide) (by decide)) (g := (mkF m 95 #[iv p0, iv p1, iv p2, iv p3, iv p4, iv p5, iv (4 : Int32), rv b42, .unset] [(.int p2)])) rfl (by rw [hml]; rfl) (argsL := [(.int p2)]) (rest := []) (lenOf pd__I_Z rfl) rfl (by show 2 * 0 + _ ≤ _; exact Nat.le_of_eq rfl) (hb hby at_95) (fun _ _ => ⟨rfl, eq47, (by decide : 1 + 0 ≤ _), (by decide : 4 + 0 ≤ _)⟩)
      dsimp only [Pt.U, Pt.locs, Pt.cells, Pt.slots] at X59 l59 y59 z59 st59 hQ59
      subst l59 y59 z59
      obtain ⟨rfl, N59q, eq59⟩ := hQ59
      have N59 := Fr.app N47 N59q
      refine own_step (U' := T59.setTop (mkF m 98 #[iv p0, iv p1, iv p2, iv p3, iv p4, iv p5, iv (4 : Int32), rv b42, .unset] [(.int (F2 p2))])) st59 ?_
      by_cases hc98_60 : (F2 p2) = (0 : Int32)
      · refine own_step (U' := T59.setTop (mkF m 108 #[iv p0, iv p1, iv p2, iv p3, iv p4, iv p5, iv (4 : Int32), rv b42, .unset] [(.int p3)])) (fun t k => XS.ifNo X59.here hx rfl (hb hby at_98) rfl ((if0 _ _).trans (teq hc98_60).2) (XS.iload X59.here hx rfl (hb hby at_101) rfl (XS.iconst X59.here hx rfl (hb hby at_103) (XS.icmpNo X59.here hx rfl (hb hby at_104) rfl (by decide) (XS.iloadN X59.here hx rfl (hb hby at_107) rfl k))))) ?_
        obtain ⟨_, _, ⟨T61, L61, k61, n61⟩, -, X61, ⟨Lc61, hQ61, l61, y61, z61⟩, st61⟩ := Jvm.LawKit.callS X59 hx (y := (⟨"com/example/tallyfield/tallyfield/marc/Iso2709HoldsStructuralBytePinLaw", "structural", "(I)Z"⟩ : MethodName)) hown (mvT hZ (own_w hw 6 rfl)) (mvT hZ (own_w hw 7 rfl)) (mvT hZ (own_w hw 8 rfl)) (mvT hZ (own_w hw 9 rfl)) (by decide) (backOf (W := 0) (rm2 l Z a0 hw [] p3 h46 n0 Z46) hZ (own_w hw 9 rfl) (own_w hw 8 rfl) (by decide) (by decide)) (g := (mkF m 108 #[iv p0, iv p1, iv p2, iv p3, iv p4, iv p5, iv (4 : Int32), rv b42, .unset] [(.int p3)])) rfl (by rw [hml]; rfl) (argsL := [(.int p3)]) (rest := []) (lenOf pd__I_Z rfl) rfl (by show 2 * 0 + _ ≤ _; exact Nat.le_of_eq rfl) (hb hby at_108) (fun _ _ => ⟨rfl, eq59, (by decide : 1 + 0 ≤ _), (by decide : 4 + 0 ≤ _)⟩)
        dsimp only [Pt.U, Pt.locs, Pt.cells, Pt.slots] at X61 l61 y61 z61 st61 hQ61
        subst l61 y61 z61
        obtain ⟨rfl, N61q, eq61⟩ := hQ61
        have N61 := Fr.app N59 N61q
        refine own_step (U' := T61.setTop (mkF m 111 #[iv p0, iv p1, iv p2, iv p3, iv p4, iv p5, iv (4 : Int32), rv b42, .unset] [(.int (F2 p3))])) st61 ?_
        by_cases hc111_62 : (F2 p3) = (0 : Int32)
        · refine own_step (U' := T61.setTop (mkF m 122 #[iv p0, iv p1, iv p2, iv p3, iv p4, iv p5, iv (4 : Int32), rv b42, .unset] [(.int p4)])) (fun t k => XS.ifNo X61.here hx rfl (hb hby at_111) rfl ((if0 _ _).trans (teq hc111_62).2) (XS.iload X61.here hx rfl (hb hby at_114) rfl (XS.iconst X61.here hx rfl (hb hby at_116) (XS.icmpNo X61.here hx rfl (hb hby at_117) rfl (by decide) (XS.iload X61.here hx rfl (hb hby at_120) rfl k))))) ?_
          obtain ⟨_, _, ⟨T63, L63, k63, n63⟩, -, X63, ⟨Lc63, hQ63, l63, y63, z63⟩, st63⟩ := Jvm.LawKit.callS X61 hx (y := (⟨"com/example/tallyfield/tallyfield/marc/Iso2709HoldsStructuralBytePinLaw", "structural", "(I)Z"⟩ : MethodName)) hown (mvT hZ (own_w hw 6 rfl)) (mvT hZ (own_w hw 7 rfl)) (mvT hZ (own_w hw 8 rfl)) (mvT hZ (own_w hw 9 rfl)) (by decide) (backOf (W := 0) (rm2 l Z a0 hw [] p4 h46 n0 Z46) hZ (own_w hw 9 rfl) (own_w hw 8 rfl) (by decide) (by decide)) (g := (mkF m 122 #[iv p0, iv p1, iv p2, iv p3, iv p4, iv p5, iv (4 : Int32), rv b42, .unset] [(.int p4)])) rfl (by rw [hml]; rfl) (argsL := [(.int p4)]) (rest := []) (lenOf pd__I_Z rfl) rfl (by show 2 * 0 + _ ≤ _; exact Nat.le_of_eq rfl) (hb hby at_122) (fun _ _ => ⟨rfl, eq61, (by decide : 1 + 0 ≤ _), (by decide : 4 + 0 ≤ _)⟩)
          dsimp only [Pt.U, Pt.locs, Pt.cells, Pt.slots] at X63 l63 y63 z63 st63 hQ63
          subst l63 y63 z63
          obtain ⟨rfl, N63q, eq63⟩ := hQ63
          have N63 := Fr.app N61 N63q
          refine own_step (U' := T63.setTop (mkF m 125 #[iv p0, iv p1, iv p2, iv p3, iv p4, iv p5, iv (4 : Int32), rv b42, .unset] [(.int (F2 p4))])) st63 ?_
          by_cases hc125_64 : (F2 p4) = (0 : Int32)
          · refine own_step (U' := T63.setTop (mkF m 147 #[iv p0, iv p1, iv p2, iv p3, iv p4, iv p5, iv (4 : Int32), rv b42, .unset] [(.int (0 : Int32))])) (fun t k => XS.ifNo X63.here hx rfl (hb hby at_125) rfl ((if0 _ _).trans (teq hc125_64).2) (XS.iload X63.here hx rfl (hb hby at_128) rfl (XS.iconst X63.here hx rfl (hb hby at_130) (XS.icmpYes X63.here hx rfl (pc0 := 131) (pc' := 146) rfl (hb hby at_131) rfl (by decide) (by decide) (by decide) (XS.iconst X63.here hx rfl (hb hby at_146) k))))) ?_
            have q_v147_55 : v147_55 = (0 : Int32) := by rw [hv147_55, if_pos hc85_58, if_pos hc98_60, if_pos hc111_62, if_pos hc125_64]
            rw [q_v147_55] at K147_56
            exact K147_56 _ _ X63 N63 eq63
          · refine own_step (U' := T63.setTop (mkF m 147 #[iv p0, iv p1, iv p2, iv p3, iv p4, iv p5, iv (4 : Int32), rv b42, .unset] [(.int (1 : Int32))])) (fun t k => XS.ifYes X63.here hx rfl (pc0 := 125) (pc' := 142) rfl (hb hby at_125) rfl ((if0 _ _).trans (feq hc125_64).2) (by decide) (by decide) (XS.iconst X63.here hx rfl (hb hby at_142) (XS.goto X63.here hx rfl (pc0 := 143) (pc' := 147) rfl (hb hby at_143) (by decide) (by decide) k))) ?_
            have q_v147_55 : v147_55 = (1 : Int32) := by rw [hv147_55, if_pos hc85_58, if_pos hc98_60, if_pos hc111_62, if_neg hc125_64]
            rw [q_v147_55] at K147_56
            exact K147_56 _ _ X63 N63 eq63
        · refine own_step (U' := T61.setTop (mkF m 147 #[iv p0, iv p1, iv p2, iv p3, iv p4, iv p5, iv (4 : Int32), rv b42, .unset] [(.int (1 : Int32))])) (fun t k => XS.ifYes X61.here hx rfl (pc0 := 111) (pc' := 142) rfl (hb hby at_111) rfl ((if0 _ _).trans (feq hc111_62).2) (by decide) (by decide) (XS.iconst X61.here hx rfl (hb hby at_142) (XS.goto X61.here hx rfl (pc0 := 143) (pc' := 147) rfl (hb hby at_143) (by decide) (by decide) k))) ?_
          have q_v147_55 : v147_55 = (1 : Int32) := by rw [hv147_55, if_pos hc85_58, if_pos hc98_60, if_neg hc111_62]
          rw [q_v147_55] at K147_56
          exact K147_56 _ _ X61 N61 eq61
      · refine own_step (U' := T59.setTop (mkF m 147 #[iv p0, iv p1, iv p2, iv p3, iv p4, iv p5, iv (4 : Int32), rv b42, .unset] [(.int (1 : Int32))])) (fun t k => XS.ifYes X59.here hx rfl (pc0 := 98) (pc' := 142) rfl (hb hby at_98) rfl ((if0 _ _).trans (feq hc98_60).2) (by decide) (by decide) (XS.iconst X59.here hx rfl (hb hby at_142) (XS.goto X59.here hx rfl (pc0 := 143) (pc' := 147) rfl (hb hby at_143) (by decide) (by decide) k))) ?_
        have q_v147_55 : v147_55 = (1 : Int32) := by rw [hv147_55, if_pos hc85_58, if_neg hc98_60]
        rw [q_v147_55] at K147_56
        exact K147_56 _ _ X59 N59 eq59
    · refine own_step (U' := T47.setTop (mkF m 147 #[iv p0, iv p1, iv p2, iv p3, iv p4, iv p5, iv (4 : Int32), rv b42, .unset] [(.int (1 : Int32))])) (fun t k => XS.ifYes X47.here hx rfl (pc0 := 85) (pc' := 142) rfl (hb hby at_85) rfl ((if0 _ _).trans (feq hc85_58).2) (by decide) (by decide) (XS.iconst X47.here hx rfl (hb hby at_142) (XS.goto X47.here hx rfl (pc0 := 143) (pc' := 147) rfl (hb hby at_143) (by decide) (by decide) k))) ?_
      have q_v147_55 : v147_55 = (1 : Int32) := by rw [hv147_55, if_neg hc85_58]
      rw [q_v147_55] at K147_56
      exact K147_56 _ _ X47 N47 eq47
  · rw [hn5]
    refine own_step (U' := s₁.setTop (mkF m 11 #[iv p0, iv p1, iv p2, iv p3, iv p4, iv p5, iv (5 : Int32), .unset, .unset] [(.int (5 : Int32))])) (fun t k => XS.istore X0.here hx rfl (hb hby at_7) rfl (l' := #[iv p0, iv p1, iv p2, iv p3, iv p4, iv p5, iv (5 : Int32), .unset, .unset]) rfl (XS.iload X0.here hx rfl (hb hby at_9) rfl k)) ?_
    obtain ⟨T65, h65, k65, X65, e65, E65, A65, st65⟩ := newP X0 hx hZ (own_w hw 1 rfl) e0 (g := (mkF m 11 #[iv p0, iv p1, iv p2, iv p3, iv p4, iv p5, iv (5 : Int32), .unset, .unset] [(.int (5 : Int32))])) rfl (hb hby at_11) rfl (by decide) (cap := 5) (by decide) (by decide) (by decide) (by decide)
    obtain ⟨b65, g65⟩ : ∃ z, z = h0.size := ⟨_, rfl⟩
    have ge_b65 : n0 ≤ b65 := Nat.le_trans Z0 (Nat.le_of_eq g65.symm)
    have sz_b65 : h0.size ≤ b65 := Nat.le_trans KK0.1 (Nat.le_of_eq g65.symm)
    rw [← g65] at A65 st65
    have V_b65 : Arv Z h65 b65 k65 .byte (5 : Int32) [(.int (0 : Int32)), (.int (0 : Int32)), (.int (0 : Int32)), (.int (0 : Int32)), (.int (0 : Int32))] (.int (0 : Int32)) := (Arv.new A65 (by decide)).pad (pad_rep [] (.int (0 : Int32)) 5)
    have Z65 : n0 ≤ h65.size := Nat.le_trans Z0 E65.1
    have KK65 := KK0.ext E65
    refine own_step (U' := T65.setTop (mkF m 13 #[iv p0, iv p1, iv p2, iv p3, iv p4, iv p5, iv (5 : Int32), .unset, .unset] [(.ref b65)])) st65 ?_
    refine own_step (U' := T65.setTop (mkF m 25 #[iv p0, iv p1, iv p2, iv p3, iv p4, iv p5, iv (5 : Int32), rv b65, .unset] [(.int (p1.toInt8.toInt32)), (.int (0 : Int32)), (.ref b65)])) (fun t k => XS.astore X65.here hx rfl (hb hby at_13) rfl rfl (l' := #[iv p0, iv p1, iv p2, iv p3, iv p4, iv p5, iv (5 : Int32), rv b65, .unset]) rfl (XS.iload X65.here hx rfl (hb hby at_15) rfl (XS.ifNo X65.here hx rfl (hb hby at_17) rfl (by decide) (XS.aload X65.here hx rfl (hb hby at_20) rfl rfl (XS.iconst X65.here hx rfl (hb hby at_22) (XS.iloadN X65.here hx rfl (hb hby at_23) rfl (XS.i2b X65.here hx rfl (hb hby at_24) rfl k))))))) ?_
    obtain ⟨cl66, Ar66, aq66, aS66, aN66, aH66, aG66⟩ := id V_b65
    have hin66 : ¬ ((0 : Int32) < 0 ∨ cl66.slots.size ≤ ((0 : Int32)).toNatClampNeg) := inb_of aS66 ⟨by decide, by decide⟩
    obtain ⟨T66, h66, X66, e66, W66, st66⟩ := stB X65 hx hZ e65 Ar66 (j := (0 : Int32)) hin66 (g := (mkF m 25 #[iv p0, iv p1, iv p2, iv p3, iv p4, iv p5, iv (5 : Int32), rv b65, .unset] [(.int (p1.toInt8.toInt32)), (.int (0 : Int32)), (.ref b65)])) rfl rfl (hb hby at_25)
    have V_b65_66 : Arv Z h66 b65 k65 .byte (5 : Int32) [(.int (nar .byte (p1.toInt8.toInt32))), (.int (0 : Int32)), (.int (0 : Int32)), (.int (0 : Int32)), (.int (0 : Int32))] (.int (0 : Int32)) := Arv.set Ar66 aq66 aS66 aN66 aH66 aG66 (fits_nar_byte _) W66 0 rfl (Nat.le_of_ble_eq_true rfl)
    have Z66 : n0 ≤ h66.size := Nat.le_trans Z65 (Keep.of_wr W66).1
    have KK66 := KK65.wr W66 (Or.inr sz_b65)
    have N66 := Fr.snoc X66 N0 ge_b65
    refine own_step (U' := T66.setTop (mkF m 26 #[iv p0, iv p1, iv p2, iv p3, iv p4, iv p5, iv (5 : Int32), rv b65, .unset] [])) st66 ?_
    refine own_step (U' := T66.setTop (mkF m 37 #[iv p0, iv p1, iv p2, iv p3, iv p4, iv p5, iv (5 : Int32), rv b65, .unset] [(.int (p2.toInt8.toInt32)), (.int (1 : Int32)), (.ref b65)])) (fun t k => XS.iload X66.here hx rfl (hb hby at_26) rfl (XS.iconst X66.here hx rfl (hb hby at_28) (XS.icmpNo X66.here hx rfl (hb hby at_29) rfl (by decide) (XS.aload X66.here hx rfl (hb hby at_32) rfl rfl (XS.iconst X66.here hx rfl (hb hby at_34) (XS.iloadN X66.here hx rfl (hb hby at_35) rfl (XS.i2b X66.here hx rfl (hb hby at_36) rfl k))))))) ?_
    obtain ⟨cl67, Ar67, aq67, aS67, aN67, aH67, aG67⟩ := id V_b65_66
    have hin67 : ¬ ((1 : Int32) < 0 ∨ cl67.slots.size ≤ ((1 : Int32)).toNatClampNeg) := inb_of aS67 ⟨by decide, by decide⟩
    obtain ⟨T67, h67, X67, e67, W67, st67⟩ := stB X66 hx hZ e66 Ar67 (j := (1 : Int32)) hin67 (g := (mkF m 37 #[iv p0, iv p1, iv p2, iv p3, iv p4, iv p5, iv (5 : Int32), rv b65, .unset] [(.int (p2.toInt8.toInt32)), (.int (1 : Int32)), (.ref b65)])) rfl rfl (hb hby at_37)
    have V_b65_67 : Arv Z h67 b65 k65 .byte (5 : Int32) [(.int (nar .byte (p1.toInt8.toInt32))), (.int (nar .byte (p2.toInt8.toInt32))), (.int (0 : Int32)), (.int (0 : Int32)), (.int (0 : Int32))] (.int (0 : Int32)) := Arv.set Ar67 aq67 aS67 aN67 aH67 aG67 (fits_nar_byte _) W67 1 rfl (Nat.le_of_ble_eq_true rfl)
    have Z67 : n0 ≤ h67.size := Nat.le_trans Z66 (Keep.of_wr W67).1
    have KK67 := KK66.wr W67 (Or.inr sz_b65)
    have N67 := Fr.snoc X67 N66 ge_b65
    refine own_step (U' := T67.setTop (mkF m 38 #[iv p0, iv p1, iv p2, iv p3, iv p4, iv p5, iv (5 : Int32), rv b65, .unset] [])) st67 ?_
    refine own_step (U' := T67.setTop (mkF m 49 #[iv p0, iv p1, iv p2, iv p3, iv p4, iv p5, iv (5 : Int32), rv b65, .unset] [(.int (p3.toInt8.toInt32)), (.int (2 : Int32)), (.ref b65)])) (fun t k => XS.iload X67.here hx rfl (hb hby at_38) rfl (XS.iconst X67.here hx rfl (hb hby at_40) (XS.icmpNo X67.here hx rfl (hb hby at_41) rfl (by decide) (XS.aload X67.here hx rfl (hb hby at_44) rfl rfl (XS.iconst X67.here hx rfl (hb hby at_46) (XS.iloadN X67.here hx rfl (hb hby at_47) rfl (XS.i2b X67.here hx rfl (hb hby at_48) rfl k))))))) ?_
    obtain ⟨cl68, Ar68, aq68, aS68, aN68, aH68, aG68⟩ := id V_b65_67
    have hin68 : ¬ ((2 : Int32) < 0 ∨ cl68.slots.size ≤ ((2 : Int32)).toNatClampNeg) := inb_of aS68 ⟨by decide, by decide⟩
    obtain ⟨T68, h68, X68, e68, W68, st68⟩ := stB X67 hx hZ e67 Ar68 (j := (2 : Int32)) hin68 (g := (mkF m 49 #[iv p0, iv p1, iv p2, iv p3, iv p4, iv p5, iv (5 : Int32), rv b65, .unset] [(.int (p3.toInt8.toInt32)), (.int (2 : Int32)), (.ref b65)])) rfl rfl (hb hby at_49)
    have V_b65_68 : Arv Z h68 b65 k65 .byte (5 : Int32) [(.int (nar .byte (p1.toInt8.toInt32))), (.int (nar .byte (p2.toInt8.toInt32))), (.int (nar .byte (p3.toInt8.toInt32))), (.int (0 : Int32)), (.int (0 : Int32))] (.int (0 : Int32)) := Arv.set Ar68 aq68 aS68 aN68 aH68 aG68 (fits_nar_byte _) W68 2 rfl (Nat.le_of_ble_eq_true rfl)
    have Z68 : n0 ≤ h68.size := Nat.le_trans Z67 (Keep.of_wr W68).1
    have KK68 := KK67.wr W68 (Or.inr sz_b65)
    have N68 := Fr.snoc X68 N67 ge_b65
    refine own_step (U' := T68.setTop (mkF m 50 #[iv p0, iv p1, iv p2, iv p3, iv p4, iv p5, iv (5 : Int32), rv b65, .unset] [])) st68 ?_
    refine own_step (U' := T68.setTop (mkF m 62 #[iv p0, iv p1, iv p2, iv p3, iv p4, iv p5, iv (5 : Int32), rv b65, .unset] [(.int (p4.toInt8.toInt32)), (.int (3 : Int32)), (.ref b65)])) (fun t k => XS.iload X68.here hx rfl (hb hby at_50) rfl (XS.iconst X68.here hx rfl (hb hby at_52) (XS.icmpNo X68.here hx rfl (hb hby at_53) rfl (by decide) (XS.aload X68.here hx rfl (hb hby at_56) rfl rfl (XS.iconst X68.here hx rfl (hb hby at_58) (XS.iload X68.here hx rfl (hb hby at_59) rfl (XS.i2b X68.here hx rfl (hb hby at_61) rfl k))))))) ?_
    obtain ⟨cl69, Ar69, aq69, aS69, aN69, aH69, aG69⟩ := id V_b65_68
    have hin69 : ¬ ((3 : Int32) < 0 ∨ cl69.slots.size ≤ ((3 : Int32)).toNatClampNeg) := inb_of aS69 ⟨by decide, by decide⟩
    obtain ⟨T69, h69, X69, e69, W69, st69⟩ := stB X68 hx hZ e68 Ar69 (j := (3 : Int32)) hin69 (g := (mkF m 62 #[iv p0, iv p1, iv p2, iv p3, iv p4, iv p5, iv (5 : Int32), rv b65, .unset] [(.int (p4.toInt8.toInt32)), (.int (3 : Int32)), (.ref b65)])) rfl rfl (hb hby at_62)
    have V_b65_69 : Arv Z h69 b65 k65 .byte (5 : Int32) [(.int (nar .byte (p1.toInt8.toInt32))), (.int (nar .byte (p2.toInt8.toInt32))), (.int (nar .byte (p3.toInt8.toInt32))), (.int (nar .byte (p4.toInt8.toInt32))), (.int (0 : Int32))] (.int (0 : Int32)) := Arv.set Ar69 aq69 aS69 aN69 aH69 aG69 (fits_nar_byte _) W69 3 rfl (Nat.le_of_ble_eq_true rfl)
    have Z69 : n0 ≤ h69.size := Nat.le_trans Z68 (Keep.of_wr W69).1
    have KK69 := KK68.wr W69 (Or.inr sz_b65)
    have N69 := Fr.snoc X69 N68 ge_b65
    refine own_step (U' := T69.setTop (mkF m 63 #[iv p0, iv p1, iv p2, iv p3, iv p4, iv p5, iv (5 : Int32), rv b65, .unset] [])) st69 ?_
    refine own_step (U' := T69.setTop (mkF m 75 #[iv p0, iv p1, iv p2, iv p3, iv p4, iv p5, iv (5 : Int32), rv b65, .unset] [(.int (p5.toInt8.toInt32)), (.int (4 : Int32)), (.ref b65)])) (fun t k => XS.iload X69.here hx rfl (hb hby at_63) rfl (XS.iconst X69.here hx rfl (hb hby at_65) (XS.icmpNo X69.here hx rfl (hb hby at_66) rfl (by decide) (XS.aload X69.here hx rfl (hb hby at_69) rfl rfl (XS.iconst X69.here hx rfl (hb hby at_71) (XS.iload X69.here hx rfl (hb hby at_72) rfl (XS.i2b X69.here hx rfl (hb hby at_74) rfl k))))))) ?_
    obtain ⟨cl70, Ar70, aq70, aS70, aN70, aH70, aG70⟩ := id V_b65_69
    have hin70 : ¬ ((4 : Int32) < 0 ∨ cl70.slots.size ≤ ((4 : Int32)).toNatClampNeg) := inb_of aS70 ⟨by decide, by decide⟩
    obtain ⟨T70, h70, X70, e70, W70, st70⟩ := stB X69 hx hZ e69 Ar70 (j := (4 : Int32)) hin70 (g := (mkF m 75 #[iv p0, iv p1, iv p2, iv p3, iv p4, iv p5, iv (5 : Int32), rv b65, .unset] [(.int (p5.toInt8.toInt32)), (.int (4 : Int32)), (.ref b65)])) rfl rfl (hb hby at_75)
    have V_b65_70 : Arv Z h70 b65 k65 .byte (5 : Int32) [(.int (nar .byte (p1.toInt8.toInt32))), (.int (nar .byte (p2.toInt8.toInt32))), (.int (nar .byte (p3.toInt8.toInt32))), (.int (nar .byte (p4.toInt8.toInt32))), (.int (nar .byte (p5.toInt8.toInt32)))] (.int (0 : Int32)) := Arv.set Ar70 aq70 aS70 aN70 aH70 aG70 (fits_nar_byte _) W70 4 rfl (Nat.le_of_ble_eq_true rfl)
    have Z70 : n0 ≤ h70.size := Nat.le_trans Z69 (Keep.of_wr W70).1
    have KK70 := KK69.wr W70 (Or.inr sz_b65)
    have N70 := Fr.snoc X70 N69 ge_b65
    refine own_step (U' := T70.setTop (mkF m 76 #[iv p0, iv p1, iv p2, iv p3, iv p4, iv p5, iv (5 : Int32), rv b65, .unset] [])) st70 ?_
    refine own_step (U' := T70.setTop (mkF m 82 #[iv p0, iv p1, iv p2, iv p3, iv p4, iv p5, iv (5 : Int32), rv b65, .unset] [(.int p1)])) (fun t k => XS.iload X70.here hx rfl (hb hby at_76) rfl (XS.ifNo X70.here hx rfl (hb hby at_78) rfl (by decide) (XS.iloadN X70.here hx rfl (hb hby at_81) rfl k))) ?_
    obtain ⟨_, _, ⟨T71, L71, k71, n71⟩, -, X71, ⟨Lc71, hQ71, l71, y71, z71⟩, st71⟩ := Jvm.LawKit.callS X70 hx (y := (⟨"com/example/tallyfield/tallyfield/marc/Iso2709HoldsStructuralBytePinLaw", "structural", "(I)Z"⟩ : MethodName)) hown (mvT hZ (own_w hw 6 rfl)) (mvT hZ (own_w hw 7 rfl)) (mvT hZ (own_w hw 8 rfl)) (mvT hZ (own_w hw 9 rfl)) (by decide) (backOf (W := 0) (rm2 l Z a0 hw [] p1 h70 n0 Z70) hZ (own_w hw 9 rfl) (own_w hw 8 rfl) (by decide) (by decide)) (g := (mkF m 82 #[iv p0, iv p1, iv p2, iv p3, iv p4, iv p5, iv (5 : Int32), rv b65, .unset] [(.int p1)])) rfl (by rw [hml]; rfl) (argsL := [(.int p1)]) (rest := []) (lenOf pd__I_Z rfl) rfl (by show 2 * 0 + _ ≤ _; exact Nat.le_of_eq rfl) (hb hby at_82) (fun _ _ => ⟨rfl, e70, (by decide : 1 + 0 ≤ _), (by decide : 5 + 0 ≤ _)⟩)
    dsimp only [Pt.U, Pt.locs, Pt.cells, Pt.slots] at X71 l71 y71 z71 st71 hQ71
    subst l71 y71 z71
    obtain ⟨rfl, N71q, eq71⟩ := hQ71
    have N71 := Fr.app N70 N71q
    refine own_step (U' := T71.setTop (mkF m 85 #[iv p0, iv p1, iv p2, iv p3, iv p4, iv p5, iv (5 : Int32), rv b65, .unset] [(.int (F2 p1))])) st71 ?_
    obtain ⟨v147_81, hv147_81⟩ : ∃ v : Int32, v = (if (F2 p1) = (0 : Int32) then (if (F2 p2) = (0 : Int32) then (if (F2 p3) = (0 : Int32) then (if (F2 p4) = (0 : Int32) then (if (F2 p5) = (0 : Int32) then (0 : Int32) else (1 : Int32)) else (1 : Int32)) else (1 : Int32)) else (1 : Int32)) else (1 : Int32)) := ⟨_, rfl⟩
    have K147_82 : ∀ (T' : State) (locs' : List Loc) (X' : Stand p l e room_1 s m #[(.int p0), (.int p1), (.int p2), (.int p3), (.int p4), (.int p5)] below meth c T' locs' 1 5) (N' : Fr n0 locs') (e' : T'.heap = h70), own_Go p.tables e below s 16 128 (Q0 Z p0 p1 p2 p3 p4 p5 h0 n0) (T'.setTop (mkF m 147 #[iv p0, iv p1, iv p2, iv p3, iv p4, iv p5, iv (5 : Int32), rv b65, .unset] [(.int v147_81)])) := by
      intro T82 L82 X82 N82 e82
      refine own_step (U' := T82.setTop (mkF m 151 #[iv p0, iv p1, iv p2, iv p3, iv p4, iv p5, iv (5 : Int32), rv b65, iv v147_81] [(.ref b65)])) (fun t k => XS.istore X82.here hx rfl (hb hby at_147) rfl (l' := #[iv p0, iv p1, iv p2, iv p3, iv p4, iv p5, iv (5 : Int32), rv b65, iv v147_81]) rfl (XS.aload X82.here hx rfl (hb hby at_149) rfl rfl k)) ?_
      obtain ⟨_, _, ⟨T83, L83, k83, n83⟩, -, X83, ⟨Lc83, hQ83, l83, y83, z83⟩, st83⟩ := Jvm.LawKit.callS X82 hx (y := (⟨"com/example/tallyfield/tallyfield/marc/Iso2709", "holdsStructuralByte", "([B)Z"⟩ : MethodName)) hown (mvT hZ (own_w hw 2 rfl)) (mvT hZ (own_w hw 3 rfl)) (mvT hZ (own_w hw 4 rfl)) (mvT hZ (own_w hw 5 rfl)) (by decide) (backOf (W := 0) (rm1k5 l Z a0 hw [] b65 (nar .byte (p1.toInt8.toInt32)) (nar .byte (p2.toInt8.toInt32)) (nar .byte (p3.toInt8.toInt32)) (nar .byte (p4.toInt8.toInt32)) (nar .byte (p5.toInt8.toInt32)) k65 h70 n0 Z70 V_b65_70) hZ (own_w hw 5 rfl) (own_w hw 4 rfl) (by decide) (by decide)) (g := (mkF m 151 #[iv p0, iv p1, iv p2, iv p3, iv p4, iv p5, iv (5 : Int32), rv b65, iv v147_81] [(.ref b65)])) rfl (by rw [hml]; rfl) (argsL := [(.ref b65)]) (rest := []) (lenOf pd___B_Z rfl) rfl (by show 2 * 0 + _ ≤ _; exact Nat.le_of_eq rfl) (hb hby at_151) (fun _ _ => ⟨rfl, e82, (by decide : 1 + 0 ≤ _), (by decide : 5 + 0 ≤ _)⟩)
      dsimp only [Pt.U, Pt.locs, Pt.cells, Pt.slots] at X83 l83 y83 z83 st83 hQ83
      subst l83 y83 z83
      obtain ⟨rfl, N83q, eq83⟩ := hQ83
      have N83 := Fr.app N82 N83q
      refine own_step (U' := T83.setTop (mkF m 154 #[iv p0, iv p1, iv p2, iv p3, iv p4, iv p5, iv (5 : Int32), rv b65, iv v147_81] [(.int (F1k5 (nar .byte (p1.toInt8.toInt32)) (nar .byte (p2.toInt8.toInt32)) (nar .byte (p3.toInt8.toInt32)) (nar .byte (p4.toInt8.toInt32)) (nar .byte (p5.toInt8.toInt32))))])) st83 ?_
      refine own_step (U' := T83.setTop (mkF m 164 #[iv p0, iv p1, iv p2, iv p3, iv p4, iv p5, iv (5 : Int32), rv b65, iv v147_81] [(.int (1 : Int32))])) (fun t k => XS.iload X83.here hx rfl (hb hby at_154) rfl (XS.icmpNo X83.here hx rfl (hb hby at_156) rfl (teq ((own_elem p1 _ _ (own_elem p2 _ _ (own_elem p3 _ _ (own_elem p4 _ _ (own_elem p5 _ _ rfl))))).trans hv147_81.symm)).2 (XS.iconst X83.here hx rfl (hb hby at_159) (XS.goto X83.here hx rfl (pc0 := 160) (pc' := 164) rfl (hb hby at_160) (by decide) (by decide) k)))) ?_
      exact own_out X83 (v := (some (.int (1 : Int32)))) hlk (own_nv Bd.returns) (by rw [eq83]; exact ⟨rfl, N83⟩) (by decide) (by decide) (fun fs hr => retN X83 hx (t := .boolean) Bd.returns (by simp) (hb hby at_164) hr)
    by_cases hc85_84 : (F2 p1) = (0 : Int32)
    · refine own_step (U' := T71.setTop (mkF m 95 #[iv p0, iv p1, iv p2, iv p3, iv p4, iv p5, iv (5 : Int32), rv b65, .unset] [(.int p2)])) (fun t k => XS.ifNo X71.here hx rfl (hb hby at_85) rfl ((if0 _ _).trans (teq hc85_84).2) (XS.iload X71.here hx rfl (hb hby at_88) rfl (XS.iconst X71.here hx rfl (hb hby at_90) (XS.icmpNo X71.here hx rfl (hb hby at_91) rfl (by decide) (XS.iloadN X71.here hx rfl (hb hby at_94) rfl k))))) ?_
      obtain ⟨_, _, ⟨T85, L85, k85, n85⟩, -, X85, ⟨Lc85, hQ85, l85, y85, z85⟩, st85⟩ := Jvm.LawKit.callS X71 hx (y := (⟨"com/example/tallyfield/tallyfield/marc/Iso2709HoldsStructuralBytePinLaw", "structural", "(I)Z"⟩ : MethodName)) hown (mvT hZ (own_w hw 6 rfl)) (mvT hZ (own_w hw 7 rfl)) (mvT hZ (own_w hw 8 rfl)) (mvT hZ (own_w hw 9 rfl)) (by decide) (backOf (W := 0) (rm2 l Z a0 hw [] p2 h70 n0 Z70) hZ (own_w hw 9 rfl) (own_w hw 8 rfl) (by decide) (by decide)) (g := (mkF m 95 #[iv p0, iv p1, iv p2, iv p3, iv p4, iv p5, iv (5 : Int32), rv b65, .unset] [(.int p2)])) rfl (by rw [hml]; rfl) (argsL := [(.int p2)]) (rest := []) (lenOf pd__I_Z rfl) rfl (by show 2 * 0 + _ ≤ _; exact Nat.le_of_eq rfl) (hb hby at_95) (fun _ _ => ⟨rfl, eq71, (by decide : 1 + 0 ≤ _), (by decide : 5 + 0 ≤ _)⟩)
      dsimp only [Pt.U, Pt.locs, Pt.cells, Pt.slots] at X85 l85 y85 z85 st85 hQ85
      subst l85 y85 z85
      obtain ⟨rfl, N85q, eq85⟩ := hQ85
      have N85 := Fr.app N71 N85q
      refine own_step (U' := T85.setTop (mkF m 98 #[iv p0, iv p1, iv p2, iv p3, iv p4, iv p5, iv (5 : Int32), rv b65, .unset] [(.int (F2 p2))])) st85 ?_
      by_cases hc98_86 : (F2 p2) = (0 : Int32)
      · refine own_step (U' := T85.setTop (mkF m 108 #[iv p0, iv p1, iv p2, iv p3, iv p4, iv p5, iv (5 : Int32), rv b65, .unset] [(.int p3)])) (fun t k => XS.ifNo X85.here hx rfl (hb hby at_98) rfl ((if0 _ _).trans (teq hc98_86).2) (XS.iload X85.here hx rfl (hb hby at_101) rfl (XS.iconst X85.here hx rfl (hb hby at_103) (XS.icmpNo X85.here hx rfl (hb hby at_104) rfl (by decide) (XS.iloadN X85.here hx rfl (hb hby at_107) rfl k))))) ?_
        obtain ⟨_, _, ⟨T87, L87, k87, n87⟩, -, X87, ⟨Lc87, hQ87, l87, y87, z87⟩, st87⟩ := Jvm.LawKit.callS X85 hx (y := (⟨"com/example/tallyfield/tallyfield/marc/Iso2709HoldsStructuralBytePinLaw", "structural", "(I)Z"⟩ : MethodName)) hown (mvT hZ (own_w hw 6 rfl)) (mvT hZ (own_w hw 7 rfl)) (mvT hZ (own_w hw 8 rfl)) (mvT hZ (own_w hw 9 rfl)) (by decide) (backOf (W := 0) (rm2 l Z a0 hw [] p3 h70 n0 Z70) hZ (own_w hw 9 rfl) (own_w hw 8 rfl) (by decide) (by decide)) (g := (mkF m 108 #[iv p0, iv p1, iv p2, iv p3, iv p4, iv p5, iv (5 : Int32), rv b65, .unset] [(.int p3)])) rfl (by rw [hml]; rfl) (argsL := [(.int p3)]) (rest := []) (lenOf pd__I_Z rfl) rfl (by show 2 * 0 + _ ≤ _; exact Nat.le_of_eq rfl) (hb hby at_108) (fun _ _ => ⟨rfl, eq85, (by decide : 1 + 0 ≤ _), (by decide : 5 + 0 ≤ _)⟩)
        dsimp only [Pt.U, Pt.locs, Pt.cells, Pt.slots] at X87 l87 y87 z87 st87 hQ87
        subst l87 y87 z87
        obtain ⟨rfl, N87q, eq87⟩ := hQ87
        have N87 := Fr.app N85 N87q
        refine own_step (U' := T87.setTop (mkF m 111 #[iv p0, iv p1, iv p2, iv p3, iv p4, iv p5, iv (5 : Int32), rv b65, .unset] [(.int (F2 p3))])) st87 ?_
        by_cases hc111_88 : (F2 p3) = (0 : Int32)
        · refine own_step (U' := T87.setTop (mkF m 122 #[iv p0, iv p1, iv p2, iv p3, iv p4, iv p5, iv (5 : Int32), rv b65, .unset] [(.int p4)])) (fun t k => XS.ifNo X87.here hx rfl (hb hby at_111) rfl ((if0 _ _).trans (teq hc111_88).2) (XS.iload X87.here hx rfl (hb hby at_114) rfl (XS.iconst X87.here hx rfl (hb hby at_116) (XS.icmpNo X87.here hx rfl (hb hby at_117) rfl (by decide) (XS.iload X87.here hx rfl (hb hby at_120) rfl k))))) ?_
          obtain ⟨_, _, ⟨T89, L89, k89, n89⟩, -, X89, ⟨Lc89, hQ89, l89, y89, z89⟩, st89⟩ := Jvm.LawKit.callS X87 hx (y := (⟨"com/example/tallyfield/tallyfield/marc/Iso2709HoldsStructuralBytePinLaw", "structural", "(I)Z"⟩ : MethodName)) hown (mvT hZ (own_w hw 6 rfl)) (mvT hZ (own_w hw 7 rfl)) (mvT hZ (own_w hw 8 rfl)) (mvT hZ (own_w hw 9 rfl)) (by decide) (backOf (W := 0) (rm2 l Z a0 hw [] p4 h70 n0 Z70) hZ (own_w hw 9 rfl) (own_w hw 8 rfl) (by decide) (by decide)) (g := (mkF m 122 #[iv p0, iv p1, iv p2, iv p3, iv p4, iv p5, iv (5 : Int32), rv b65, .unset] [(.int p4)])) rfl (by rw [hml]; rfl) (argsL := [(.int p4)]) (rest := []) (lenOf pd__I_Z rfl) rfl (by show 2 * 0 + _ ≤ _; exact Nat.le_of_eq rfl) (hb hby at_122) (fun _ _ => ⟨rfl, eq87, (by decide : 1 + 0 ≤ _), (by decide : 5 + 0 ≤ _)⟩)
          dsimp only [Pt.U, Pt.locs, Pt.cells, Pt.slots] at X89 l89 y89 z89 st89 hQ89
          subst l89 y89 z89
          obtain ⟨rfl, N89q, eq89⟩ := hQ89
          have N89 := Fr.app N87 N89q
          refine own_step (U' := T89.setTop (mkF m 125 #[iv p0, iv p1, iv p2, iv p3, iv p4, iv p5, iv (5 : Int32), rv b65, .unset] [(.int (F2 p4))])) st89 ?_
          by_cases hc125_90 : (F2 p4) = (0 : Int32)
          · refine own_step (U' := T89.setTop (mkF m 136 #[iv p0, iv p1, iv p2, iv p3, iv p4, iv p5, iv (5 : Int32), rv b65, .unset] [(.int p5)])) (fun t k => XS.ifNo X89.here hx rfl (hb hby at_125) rfl ((if0 _ _).trans (teq hc125_90).2) (XS.iload X89.here hx rfl (hb hby at_128) rfl (XS.iconst X89.here hx rfl (hb hby at_130) (XS.icmpNo X89.here hx rfl (hb hby at_131) rfl (by decide) (XS.iload X89.here hx rfl (hb hby at_134) rfl k))))) ?_
            obtain ⟨_, _, ⟨T91, L91, k91, n91⟩, -, X91, ⟨Lc91, hQ91, l91, y91, z91⟩, st91⟩ := Jvm.LawKit.callS X89 hx (y := (⟨"com/example/tallyfield/tallyfield/marc/Iso2709HoldsStructuralBytePinLaw", "structural", "(I)Z"⟩ : MethodName)) hown (mvT hZ (own_w hw 6 rfl)) (mvT hZ (own_w hw 7 rfl)) (mvT hZ (own_w hw 8 rfl)) (mvT hZ (own_w hw 9 rfl)) (by decide) (backOf (W := 0) (rm2 l Z a0 hw [] p5 h70 n0 Z70) hZ (own_w hw 9 rfl) (own_w hw 8 rfl) (by decide) (by decide)) (g := (mkF m 136 #[iv p0, iv p1, iv p2, iv p3, iv p4, iv p5, iv (5 : Int32), rv b65, .unset] [(.int p5)])) rfl (by rw [hml]; rfl) (argsL := [(.int p5)]) (rest := []) (lenOf pd__I_Z rfl) rfl (by show 2 * 0 + _ ≤ _; exact Nat.le_of_eq rfl) (hb hby at_136) (fun _ _ => ⟨rfl, eq89, (by decide : 1 + 0 ≤ _), (by decide : 5 + 0 ≤ _)⟩)
            dsimp only [Pt.U, Pt.locs, Pt.cells, Pt.slots] at X91 l91 y91 z91 st91 hQ91
            subst l91 y91 z91
            obtain ⟨rfl, N91q, eq91⟩ := hQ91
            have N91 := Fr.app N89 N91q
            refine own_step (U' := T91.setTop (mkF m 139 #[iv p0, iv p1, iv p2, iv p3, iv p4, iv p5, iv (5 : Int32), rv b65, .unset] [(.int (F2 p5))])) st91 ?_
            by_cases hc139_92 : (F2 p5) = (0 : Int32)
            · refine own_step (U' := T91.setTop (mkF m 147 #[iv p0, iv p1, iv p2, iv p3, iv p4, iv p5, iv (5 : Int32), rv b65, .unset] [(.int (0 : Int32))])) (fun t k => XS.ifYes X91.here hx rfl (pc0 := 139) (pc' := 146) rfl (hb hby at_139) rfl ((if0 _ _).trans (teq hc139_92).1) (by decide) (by decide) (XS.iconst X91.here hx rfl (hb hby at_146) k)) ?_
              have q_v147_81 : v147_81 = (0 : Int32) := by rw [hv147_81, if_pos hc85_84, if_pos hc98_86, if_pos hc111_88, if_pos hc125_90, if_pos hc139_92]
              rw [q_v147_81] at K147_82
              exact K147_82 _ _ X91 N91 eq91
            · refine own_step (U' := T91.setTop (mkF m 147 #[iv p0, iv p1, iv p2, iv p3, iv p4, iv p5, iv (5 : Int32), rv b65, .unset] [(.int (1 : Int32))])) (fun t k => XS.ifNo X91.here hx rfl (hb hby at_139) rfl ((if0 _ _).trans (feq hc139_92).1) (XS.iconst X91.here hx rfl (hb hby at_142) (XS.goto X91.here hx rfl (pc0 := 143) (pc' := 147) rfl (hb hby at_143) (by decide) (by decide) k))) ?_
              have q_v147_81 : v147_81 = (1 : Int32) := by rw [hv147_81, if_pos hc85_84, if_pos hc98_86, if_pos hc111_88, if_pos hc125_90, if_neg hc139_92]
              rw [q_v147_81] at K147_82
              exact K147_82 _ _ X91 N91 eq91
          · refine own_step (U' := T89.setTop (mkF m 147 #[iv p0, iv p1, iv p2, iv p3, iv p4, iv p5, iv (5 : Int32), rv b65, .unset] [(.int (1 : Int32))])) (fun t k => XS.ifYes X89.here hx rfl (pc0 := 125) (pc' := 142) rfl (hb hby at_125) rfl ((if0 _ _).trans (feq hc125_90).2) (by decide) (by decide) (XS.iconst X89.here hx rfl (hb hby at_142) (XS.goto X89.here hx rfl (pc0 := 143) (pc' := 147) rfl (hb hby at_143) (by decide) (by decide) k))) ?_
            have q_v147_81 : v147_81 = (1 : Int32) := by rw [hv147_81, if_pos hc85_84, if_pos hc98_86, if_pos hc111_88, if_neg hc125_90]
            rw [q_v147_81] at K147_82
            exact K147_82 _ _ X89 N89 eq89
        · refine own_step (U' := T87.setTop (mkF m 147 #[iv p0, iv p1, iv p2, iv p3, iv p4, iv p5, iv (5 : Int32), rv b65, .unset] [(.int (1 : Int32))])) (fun t k => XS.ifYes X87.here hx rfl (pc0 := 111) (pc' := 142) rfl (hb hby at_111) rfl ((if0 _ _).trans (feq hc111_88).2) (by decide) (by decide) (XS.iconst X87.here hx rfl (hb hby at_142) (XS.goto X87.here hx rfl (pc0 := 143) (pc' := 147) rfl (hb hby at_143) (by decide) (by decide) k))) ?_
          have q_v147_81 : v147_81 = (1 : Int32) := by rw [hv147_81, if_pos hc85_84, if_pos hc98_86, if_neg hc111_88]
          rw [q_v147_81] at K147_82
          exact K147_82 _ _ X87 N87 eq87
      · refine own_step (U' := T85.setTop (mkF m 147 #[iv p0, iv p1, iv p2, iv p3, iv p4, iv p5, iv (5 : Int32), rv b65, .unset] [(.int (1 : Int32))])) (fun t k => XS.ifYes X85.here hx rfl (pc0 := 98) (pc' := 142) rfl (hb hby at_98) rfl ((if0 _ _).trans (feq hc98_86).2) (by decide) (by decide) (XS.iconst X85.here hx rfl (hb hby at_142) (XS.goto X85.here hx rfl (pc0 := 143) (pc' := 147) rfl (hb hby at_143) (by decide) (by decide) k))) ?_
        have q_v147_81 : v147_81 = (1 : Int32) := by rw [hv147_81, if_pos hc85_84, if_neg hc98_86]
        rw [q_v147_81] at K147_82
        exact K147_82 _ _ X85 N85 eq85
    · refine own_step (U' := T71.setTop (mkF m 147 #[iv p0, iv p1, iv p2, iv p3, iv p4, iv p5, iv (5 : Int32), rv b65, .unset] [(.int (1 : Int32))])) (fun t k => XS.ifYes X71.here hx rfl (pc0 := 85) (pc' := 142) rfl (hb hby at_85) rfl ((if0 _ _).trans (feq hc85_84).2) (by decide) (by decide) (XS.iconst X71.here hx rfl (hb hby at_142) (XS.goto X71.here hx rfl (pc0 := 143) (pc' := 147) rfl (hb hby at_143) (by decide) (by decide) k))) ?_
      have q_v147_81 : v147_81 = (1 : Int32) := by rw [hv147_81, if_neg hc85_84]
      rw [q_v147_81] at K147_82
      exact K147_82 _ _ X71 N71 eq71
set_option maxRecDepth 65536 in
set_option maxHeartbeats 40000000 in
theorem comes_1 {Post : Tables → Env → Array Value → State → Outcome → State → Prop} (hpost : ∀ tb e args s v u, (limb_1_1.after args s (.returned v) u = true ∧ limb_1_2.after args s (.returned v) u = true ∧ True) → FrameEnd s (.returned v) u (Jvm.fieldLocs frame_1_writes args s ++ Jvm.arrayLocs frame_1_arrays args s ++ Jvm.staticLocs frame_1_statics s) 16 128 → Post tb e args s (.returned v) u) :
    ArmFor flags0 classFile x code maxLocals ret World_1 tables_1 room_1 Calls_1 rest_1 Pre_1 Post := by
  intro l hfl _ _ p e ha hc hk s m args below hf hA hF happ hP
  obtain ⟨hcalls, hrest, hpre⟩ := hP
  obtain ⟨-, -, -, hnamed, -, -, -, hat⟩ := (Spec.applies_iff hf).mp happ
  obtain ⟨hg, hn⟩ := and_e (Cond.before_iff.mp (show (Jvm.Cond.and given_1 narrow_1).before args s = true from hpre))
  obtain ⟨gc, gr0⟩ := and_e hg
  obtain ⟨ga0, gr1⟩ := and_e gr0
  obtain ⟨ga1, gr2⟩ := and_e gr1
  obtain ⟨ga2, gr3⟩ := and_e gr2
  obtain ⟨ga3, gr4⟩ := and_e gr3
  obtain ⟨ga4, gr5⟩ := and_e gr4
  obtain ⟨w0, w1, w2, w3, w4, w5, rfl⟩ : ∃ w0 w1 w2 w3 w4 w5 : Value, args = #[w0, w1, w2, w3, w4, w5] := by
    have hs : args.size = 6 := by simpa [Cond.value, given_1] using gc
    obtain ⟨L⟩ := args
    match L, hs with
    | [w0, w1, w2, w3, w4, w5], _ => exact ⟨w0, w1, w2, w3, w4, w5, rfl⟩
  have hw := fun d (hd : d ∈ tables_1) => atoms_spec (ws := Jvm.Cond.code x code maxLocals ret :: tables_1) hat d (List.mem_cons_of_mem _ hd)
  have hfit : Fit s := fun {y c} hc i hi => by
    obtain ⟨ha, rfl⟩ := Array.getElem?_eq_some_iff.mp hc
    have q := List.all_eq_true.mp ((Array.all_eq_true_iff_forall_mem.mp hF) _ (Array.getElem_mem ha)) i (List.mem_range.mpr hi)
    simpa [Array.getElem?_eq_getElem hi] using q
  obtain ⟨i0, ei0⟩ := is_v ga0
  obtain rfl : w0 = (.int i0) := Option.some.inj ei0
  obtain ⟨i1, ei1⟩ := is_v ga1
  obtain rfl : w1 = (.int i1) := Option.some.inj ei1
  obtain ⟨i2, ei2⟩ := is_v ga2
  obtain rfl : w2 = (.int i2) := Option.some.inj ei2
  obtain ⟨i3, ei3⟩ := is_v ga3
  obtain rfl : w3 = (.int i3) := Option.some.inj ei3
  obtain ⟨i4, ei4⟩ := is_v ga4
  obtain rfl : w4 = (.int i4) := Option.some.inj ei4
  obtain ⟨i5, ei5⟩ := is_v gr5
  obtain rfl : w5 = (.int i5) := Option.some.inj ei5
  obtain ⟨n, o, h1, h2, h3, _, L, rfl, ⟨rfl, N⟩, hq⟩ := rm0 l s _ hw tables_1 i0 i1 i2 i3 i4 i5  s.heap s.heap.size (Nat.le_refl _)  p e ha hc hk s m _ below hf ((Spec.applies_iff_loose hf).mp happ).1 ⟨rfl, State.Warmed39.refl s, rfl⟩ trivial
  refine ⟨n, _, h1, h2, h3, hpost _ _ _ _ _ _ ⟨Cond.after_iff.mpr rfl, Cond.after_iff.mpr (eq_i res_at (Term.int_eval (1)) rfl), trivial⟩ ⟨hq.1, hq.2.1, (hq.2.2.sift fun y hy => Or.inr (N y hy)).mono (by decide) (by decide)⟩⟩
theorem main_1_1 : Claimed_1_1 := comes_1 fun _ _ _ _ _ _ h hF => ⟨h.1, hF⟩
theorem main_1_2 : Claimed_1_2 := comes_1 fun _ _ _ _ _ _ h hF => ⟨h.2.1, hF⟩
end Jvm.Pilot.@@N@@
namespace Jvm.Pilot.@@N@@
open Jvm Jvm.ClassFile Sem Op Lib Jvm.Free Jvm.Stand Jvm.Pilot.@@N@@.Jvm.D
/-! MADE BY PROGRAM (witnessworld.py) out of the Statement's table words and the real class files: 9 classes; the members and pool entries that the words name. The judged class is class 1, her method 2. -/
namespace start1
open Jvm.ClassFile
def u (s : String) : CpInfo := .utf8 (stringToUtf16 s)
/-- a pool by its gaps: so many unusable entries, then the entry; so many at the end -/
def gap : Nat → List CpInfo → List CpInfo
  | 0, r => r
  | n + 1, r => .unusable :: gap n r
def poolList (es : List (Nat × CpInfo)) (last : Nat) : List CpInfo := es.foldr (fun e r => gap e.1 (e.2 :: r)) (gap last [])
def pool (es : List (Nat × CpInfo)) (last : Nat) : Array CpInfo := ⟨poolList es last⟩
def fileOf (pool : Array CpInfo) (this : Nat) (attrs : Array Attribute := #[]) (ms : Array MethodInfo := #[]) (fl : Nat := 33) (sup : Nat := 0) (ifs : Array Nat := #[]) (fds : Array FieldInfo := #[]) : ClassFile where
  minorVersion := 0
  majorVersion := 65
  constantPool := pool
  accessFlags := fl
  thisClass := this
  superClass := sup
  interfaces := ifs
  fields := fds
  methods := ms
  attributes := attrs
def plain (name : String) (sup : Option ClassId) : Class where
  name := name
  kind := .ordinary
  loader := none
  accessFlags := 33
  super := sup
  interfaces := #[]
  cf := none
  fields := #[]
  methods := #[]
  instanceTypes := #[]
  staticTypes := #[]
  resolved := #[]
  callSites := []
  init := .initialized
  statics := none
  mirror := none

def pool0 : Array CpInfo := pool [(5, u "<init>"), (0, u "()V"), (1, .class_ 10), (1, u "java/lang/Object")] 113

def k0m0 : Method := { name := "<init>", desc := "()V", sig := { parameters := [], returnType := none }, accessFlags := 1, code := none }
/-- java/lang/Object -/
def k0 : Class := { plain "java/lang/Object" none with
  accessFlags := 33
  interfaces := #[]
  cf := some (fileOf pool0 8 #[] #[{ accessFlags := 1, nameIndex := 5, descriptorIndex := 6, attributes := #[] }] 33 0 #[] #[])
  fields := #[]
  methods := #[k0m0]
  instanceTypes := #[]
  staticTypes := #[]
  resolved := Array.replicate 124 none
  statics := none }

def pool1 : Array CpInfo := pool [(2, .class_ 4), (1, u "java/lang/Object"), (0, u "<init>"), (0, u "()V"), (0, .integer 2147483647), (0, .methodref 9 10), (0, .class_ 11), (0, .nameAndType 12 13), (0, u "com/example/tallyfield/tallyfield/marc/Iso2709HoldsStructuralBytePinLaw"), (0, u "structural"), (0, u "(I)Z"), (0, .methodref 15 16), (0, .class_ 17), (0, .nameAndType 18 19), (0, u "com/example/tallyfield/tallyfield/marc/Iso2709"), (0, u "holdsStructuralByte"), (0, u "([B)Z"), (3, u "law"), (0, u "(IIIIII)Z")] 4

def k1m0 : Method := { name := "<init>", desc := "()V", sig := { parameters := [], returnType := none }, accessFlags := 2, code := none }
def k1c1 : Code := { maxStack := 2, maxLocals := 2, code := method_2_code, exceptionTable := #[], attributes := #[] }
def k1m1 : Method := { name := "structural", desc := "(I)Z", sig := { parameters := [.int], returnType := some .boolean }, accessFlags := 10, code := some k1c1 }
def k1c2 : Code := { maxStack := 3, maxLocals := 9, code := code, exceptionTable := #[], attributes := #[] }
def k1m2 : Method := { name := "law", desc := "(IIIIII)Z", sig := { parameters := [.int, .int, .int, .int, .int, .int], returnType := some .boolean }, accessFlags := 9, code := some k1c2 }
/-- com/example/tallyfield/tallyfield/marc/Iso2709HoldsStructuralBytePinLaw -/
def k1 : Class := { plain "com/example/tallyfield/tallyfield/marc/Iso2709HoldsStructuralBytePinLaw" (some 0) with
  accessFlags := 49
  interfaces := #[]
  cf := some (fileOf pool1 9 #[] #[{ accessFlags := 2, nameIndex := 5, descriptorIndex := 6, attributes := #[] }, { accessFlags := 10, nameIndex := 12, descriptorIndex := 13, attributes := #[] }, { accessFlags := 9, nameIndex := 23, descriptorIndex := 24, attributes := #[] }] 49 2 #[] #[])
  fields := #[]
  methods := #[k1m0, k1m1, k1m2]
  instanceTypes := #[]
  staticTypes := #[]
  resolved := Array.replicate 29 none
  statics := none }

def pool2 : Array CpInfo := pool [(1, .class_ 2), (0, u "com/example/tallyfield/tallyfield/marc/Iso2709"), (1, .class_ 6), (1, u "java/lang/Object"), (0, u "<init>"), (0, u "()V"), (0, u "RECORD_TERMINATOR"), (0, u "B"), (2, u "FIELD_TERMINATOR"), (1, u "SUBFIELD_DELIMITER"), (1, u "LEADER_LENGTH"), (0, u "I"), (1, u "RECORD_LENGTH_AT"), (1, u "BASE_ADDRESS_AT"), (1, u "NUMBER_DIGITS"), (1, u "MAX_RECORD_LENGTH"), (1, u "MIN_RECORD_LENGTH"), (1, u "TYPE_OF_RECORD_AT"), (1, u "CHARACTER_CODING_AT"), (1, u "MARC_8"), (1, u "UNICODE"), (1, u "ENTRY_LENGTH"), (0, u "TAG_LENGTH"), (1, u "FIELD_LENGTH_DIGITS"), (1, u "FIELD_START_DIGITS"), (0, u "MAX_FIELD_LENGTH"), (1, u "INDICATOR_COUNT"), (3, u "holdsStructuralByte"), (0, u "([B)Z")] 5

def k2m0 : Method := { name := "<init>", desc := "()V", sig := { parameters := [], returnType := none }, accessFlags := 2, code := none }
def k2c1 : Code := { maxStack := 2, maxLocals := 5, code := prog_36_method_2_code, exceptionTable := #[], attributes := #[] }
def k2m1 : Method := { name := "holdsStructuralByte", desc := "([B)Z", sig := { parameters := [(.array .byte)], returnType := some .boolean }, accessFlags := 8, code := some k2c1 }
/-- com/example/tallyfield/tallyfield/marc/Iso2709 -/
def k2 : Class := { plain "com/example/tallyfield/tallyfield/marc/Iso2709" (some 0) with
  accessFlags := 48
  interfaces := #[]
  cf := some (fileOf pool2 1 #[] #[{ accessFlags := 2, nameIndex := 7, descriptorIndex := 8, attributes := #[] }, { accessFlags := 8, nameIndex := 50, descriptorIndex := 51, attributes := #[] }] 48 4 #[] #[{ accessFlags := 24, nameIndex := 9, descriptorIndex := 10, attributes := #[] }, { accessFlags := 24, nameIndex := 13, descriptorIndex := 10, attributes := #[] }, { accessFlags := 24, nameIndex := 15, descriptorIndex := 10, attributes := #[] }, { accessFlags := 24, nameIndex := 17, descriptorIndex := 18, attributes := #[] }, { accessFlags := 24, nameIndex := 20, descriptorIndex := 18, attributes := #[] }, { accessFlags := 24, nameIndex := 22, descriptorIndex := 18, attributes := #[] }, { accessFlags := 24, nameIndex := 24, descriptorIndex := 18, attributes := #[] }, { accessFlags := 24, nameIndex := 26, descriptorIndex := 18, attributes := #[] }, { accessFlags := 24, nameIndex := 28, descriptorIndex := 18, attributes := #[] }, { accessFlags := 24, nameIndex := 30, descriptorIndex := 18, attributes := #[] }, { accessFlags := 24, nameIndex := 32, descriptorIndex := 18, attributes := #[] }, { accessFlags := 24, nameIndex := 34, descriptorIndex := 10, attributes := #[] }, { accessFlags := 24, nameIndex := 36, descriptorIndex := 10, attributes := #[] }, { accessFlags := 24, nameIndex := 38, descriptorIndex := 18, attributes := #[] }, { accessFlags := 24, nameIndex := 39, descriptorIndex := 18, attributes := #[] }, { accessFlags := 24, nameIndex := 41, descriptorIndex := 18, attributes := #[] }, { accessFlags := 24, nameIndex := 43, descriptorIndex := 18, attributes := #[] }, { accessFlags := 24, nameIndex := 44, descriptorIndex := 18, attributes := #[] }, { accessFlags := 24, nameIndex := 46, descriptorIndex := 18, attributes := #[] }])
  fields := #[{ name := "RECORD_TERMINATOR", type := .byte, accessFlags := 24, slot := 0, constantValue := 0 }, { name := "FIELD_TERMINATOR", type := .byte, accessFlags := 24, slot := 1, constantValue := 0 }, { name := "SUBFIELD_DELIMITER", type := .byte, accessFlags := 24, slot := 2, constantValue := 0 }, { name := "LEADER_LENGTH", type := .int, accessFlags := 24, slot := 3, constantValue := 0 }, { name := "RECORD_LENGTH_AT", type := .int, accessFlags := 24, slot := 4, constantValue := 0 }, { name := "BASE_ADDRESS_AT", type := .int, accessFlags := 24, slot := 5, constantValue := 0 }, { name := "NUMBER_DIGITS", type := .int, accessFlags := 24, slot := 6, constantValue := 0 }, { name := "MAX_RECORD_LENGTH", type := .int, accessFlags := 24, slot := 7, constantValue := 0 }, { name := "MIN_RECORD_LENGTH", type := .int, accessFlags := 24, slot := 8, constantValue := 0 }, { name := "TYPE_OF_RECORD_AT", type := .int, accessFlags := 24, slot := 9, constantValue := 0 }, { name := "CHARACTER_CODING_AT", type := .int, accessFlags := 24, slot := 10, constantValue := 0 }, { name := "MARC_8", type := .byte, accessFlags := 24, slot := 11, constantValue := 0 }, { name := "UNICODE", type := .byte, accessFlags := 24, slot := 12, constantValue := 0 }, { name := "ENTRY_LENGTH", type := .int, accessFlags := 24, slot := 13, constantValue := 0 }, { name := "TAG_LENGTH", type := .int, accessFlags := 24, slot := 14, constantValue := 0 }, { name := "FIELD_LENGTH_DIGITS", type := .int, accessFlags := 24, slot := 15, constantValue := 0 }, { name := "FIELD_START_DIGITS", type := .int, accessFlags := 24, slot := 16, constantValue := 0 }, { name := "MAX_FIELD_LENGTH", type := .int, accessFlags := 24, slot := 17, constantValue := 0 }, { name := "INDICATOR_COUNT", type := .int, accessFlags := 24, slot := 18, constantValue := 0 }]
  methods := #[k2m0, k2m1]
  instanceTypes := #[]
  staticTypes := #[.byte, .byte, .byte, .int, .int, .int, .int, .int, .int, .int, .int, .byte, .byte, .int, .int, .int, .int, .int, .int]
  resolved := Array.replicate 57 none
  statics := none }

def pool3 : Array CpInfo := pool [(1, u "java/lang/Cloneable"), (0, .class_ 1), (0, u "java/lang/Object"), (0, .class_ 3)] 3

/-- java/lang/Cloneable -/
def k3 : Class := { plain "java/lang/Cloneable" (some 0) with
  accessFlags := 1537
  interfaces := #[]
  cf := some (fileOf pool3 2 #[] #[] 1537 4 #[] #[])
  fields := #[]
  methods := #[]
  instanceTypes := #[]
  staticTypes := #[]
  resolved := Array.replicate 8 none
  statics := none }

def pool4 : Array CpInfo := pool [(1, u "java/io/Serializable"), (0, .class_ 1), (0, u "java/lang/Object"), (0, .class_ 3)] 3

/-- java/io/Serializable -/
def k4 : Class := { plain "java/io/Serializable" (some 0) with
  accessFlags := 1537
  interfaces := #[]
  cf := some (fileOf pool4 2 #[] #[] 1537 4 #[] #[])
  fields := #[]
  methods := #[]
  instanceTypes := #[]
  staticTypes := #[]
  resolved := Array.replicate 8 none
  statics := none }

/-- the primitive byte -/
def k5 : Class := { plain "byte" none with kind := .primitive 'B', accessFlags := 0x411 }
/-- [B -/
def k6 : Class := { plain "[B" (some 0) with kind := .array 5 .byte, interfaces := #[3, 4], accessFlags := 1041 }

/-- the primitive int -/
def k7 : Class := { plain "int" none with kind := .primitive 'I', accessFlags := 0x411 }
/-- [I -/
def k8 : Class := { plain "[I" (some 0) with kind := .array 7 .int, interfaces := #[3, 4], accessFlags := 1041 }

def heap : Heap := #[]
def classes : Array Class := #[k0, k1, k2, k3, k4, k5, k6, k7, k8]
def interned : List (Array UInt16 × Addr) := []
def slotsUsed : Nat := 0
def theMethod : MethodId := ⟨1, 2⟩
def args0 : Array Value := #[.int 5, .int 6, .int 7, .int 8, .int 9, .int 10]
def aboutOver (below : List Frame) : State where
  vm := { classes := classes, interned := interned.toArray }
  heap := heap
  slotsUsed := slotsUsed
  threads := #[{ frames := .invoking theMethod args0 :: below }]
def below0 : List Frame := [.native { method := ⟨0, 0⟩, args := #[] }]
def about1 : State := aboutOver below0
def p0 : Program := .bare "" "" ""
def e0 : Env := launch0.env 0 0 0
theorem w_frames : about1.frames = Frame.invoking theMethod args0 :: below0 := rfl
set_option maxRecDepth 65536 in
theorem w_args : argsFit about1.vm theMethod args0 = true := by decide +kernel
set_option maxRecDepth 65536 in
theorem w_heap : heapFits about1 = true := by decide +kernel
set_option maxRecDepth 65536 in
theorem w_runnable : about1.curStatus? = some .runnable := by decide +kernel
set_option maxRecDepth 65536 in
theorem w_alone : about1.alone = true := by decide +kernel
set_option maxRecDepth 65536 in
theorem w_named : about1.methodNamed? x = some theMethod := by decide +kernel
set_option maxRecDepth 65536 in
theorem w_hears : about1.hears theMethod below0 = true := by decide +kernel
set_option maxRecDepth 65536 in
theorem w_ripe : about1.ripe theMethod args0 below0 = true := by decide +kernel
theorem w_running : about1.status = .running := rfl
set_option maxRecDepth 65536 in
theorem w_room : about1.hasRoom e0.platform room_1 = true :=
  launch0.hasRoom_least _ room_1 (by decide +kernel) (by decide +kernel) (by decide +kernel) (by decide +kernel) (by decide +kernel) (by decide +kernel)
theorem allAtoms_all (ts : List Jvm.Cond) (a : Array Jvm.Value) (st : Jvm.State) : (allAtoms ts).before a st = ts.all (fun c => c.before a st) := by
  induction ts with
  | nil => rfl
  | cons c t ih =>
    show (Jvm.Cond.and c (allAtoms t)).before a st = _
    rw [Jvm.Cond.before_and, ih, List.all_cons]
def words1 : List Jvm.Cond := Jvm.Cond.code x code maxLocals ret :: tables_1
/-- a 'code' word, met by the world's own term for the bytes: nothing is compared byte by byte -/
theorem code_word {y : MethodName} {bytes : ByteArray} {mx : Nat} {rt : Option FieldType} {a : Array Value} {s : State} {m : MethodId} {meth : Method} {c : Code} (h1 : s.methodNamed? y = some m) (h2 : s.vm.method? m = some meth) (h3 : meth.code = some c) (h4 : c.code = bytes)
    (h5 : (c.maxLocals == mx && c.exceptionTable.isEmpty && decide (c.maxStack ≤ mostOperands) && decide (meth.sig.returnType = rt) && !meth.locks && decide (parseMethodDescriptor y.desc = some meth.sig)) = true) : (Jvm.Cond.code y bytes mx rt).before a s = true := by
  simp only [Bool.and_eq_true, beq_iff_eq, Bool.not_eq_true', decide_eq_true_eq] at h5
  obtain ⟨⟨⟨⟨⟨g1, g2⟩, g3⟩, g4⟩, g5⟩, g6⟩ := h5
  simp [Cond.before, Cond.holds, Cond.value, h1, h2, h3, h4, g1, g2, g3, g4, g5, g6]
def isCode : Jvm.Cond → Bool
  | .code _ _ _ _ => true
  | _ => false
theorem all_split {L : List Jvm.Cond} {P : Jvm.Cond → Bool} (h1 : L.all (fun c => isCode c || P c) = true) (h2 : ∀ c ∈ L.filter isCode, P c = true) : L.all P = true := by
  refine List.all_eq_true.mpr fun c hc => ?_
  have h := List.all_eq_true.mp h1 c hc
  rcases Bool.eq_false_or_eq_true (isCode c) with hi | hi
  · exact h2 c (List.mem_filter.mpr ⟨hc, hi⟩)
  · simpa [hi] using h
set_option maxRecDepth 65536 in
theorem w_c0 : (Jvm.Cond.code x code maxLocals ret).before args0 about1 = true := code_word (m := ⟨1, 2⟩) (meth := k1m2) (c := k1c2) (by decide +kernel) rfl rfl rfl (by decide +kernel)
set_option maxRecDepth 65536 in
theorem w_c1 : (Jvm.Cond.code ({ cls := "com/example/tallyfield/tallyfield/marc/Iso2709", name := "holdsStructuralByte", desc := "([B)Z" } : Jvm.MethodName) prog_36_method_2_code (5 : Nat) (Option.some Jvm.ClassFile.FieldType.boolean)).before args0 about1 = true := code_word (m := ⟨2, 1⟩) (meth := k2m1) (c := k2c1) (by decide +kernel) rfl rfl rfl (by decide +kernel)
set_option maxRecDepth 65536 in
theorem w_c2 : (Jvm.Cond.code ({ cls := "com/example/tallyfield/tallyfield/marc/Iso2709HoldsStructuralBytePinLaw", name := "structural", desc := "(I)Z" } : Jvm.MethodName) method_2_code (2 : Nat) (Option.some Jvm.ClassFile.FieldType.boolean)).before args0 about1 = true := code_word (m := ⟨1, 1⟩) (meth := k1m1) (c := k1c1) (by decide +kernel) rfl rfl rfl (by decide +kernel)
def codes1 : List Jvm.Cond := [Jvm.Cond.code x code maxLocals ret, Jvm.Cond.code ({ cls := "com/example/tallyfield/tallyfield/marc/Iso2709", name := "holdsStructuralByte", desc := "([B)Z" } : Jvm.MethodName) prog_36_method_2_code (5 : Nat) (Option.some Jvm.ClassFile.FieldType.boolean), Jvm.Cond.code ({ cls := "com/example/tallyfield/tallyfield/marc/Iso2709HoldsStructuralBytePinLaw", name := "structural", desc := "(I)Z" } : Jvm.MethodName) method_2_code (2 : Nat) (Option.some Jvm.ClassFile.FieldType.boolean)]
set_option maxRecDepth 65536 in
theorem codes_eq : words1.filter isCode = codes1 := rfl
theorem w_codes : ∀ c ∈ words1.filter isCode, c.before args0 about1 = true := by
  rw [codes_eq]
  intro c hc
  simp only [codes1, List.mem_cons, List.not_mem_nil, or_false] at hc
  rcases hc with rfl | rfl | rfl
  · exact w_c0
  · exact w_c1
  · exact w_c2
set_option maxRecDepth 65536 in
theorem w_t1 : words1.all (fun c => isCode c || c.before args0 about1) = true := by decide +kernel
theorem w_tables : (allAtoms (Jvm.Cond.code x code maxLocals ret :: tables_1)).before args0 about1 = true := by
  rw [allAtoms_all]
  show words1.all (fun c => c.before args0 about1) = true
  refine all_split ?_ w_codes
  rw [w_t1]
set_option maxRecDepth 65536 in
theorem w_case : (Jvm.Cond.and given_1 narrow_1).before args0 about1 = true := by decide +kernel
theorem w_applies : (headSpec (Jvm.Cond.code x code maxLocals ret :: tables_1) room_1).applies x e0.platform about1 = true :=
  (Spec.applies_iff w_frames).mpr ⟨w_running, w_runnable, w_alone, w_named, w_hears, w_ripe, w_room, w_tables⟩
theorem atStart : AtStart classFile x code maxLocals ret World_1 tables_1 room_1 Calls_1 rest_1 Pre_1 launch0 p0 e0 about1 theMethod args0 below0 :=
  ⟨lists_1, trivial, launch0.admits_env _ _ _, launch0.least_env, fairChoices_fair.cas, fairChoices_fair.clock, w_frames, w_args, w_heap, w_applies, trivial, trivial, w_case⟩
end start1
theorem witness_1 : WitnessClaimed_1 := ⟨start1.p0, start1.e0, start1.about1, start1.theMethod, start1.args0, start1.below0, start1.atStart⟩
end Jvm.Pilot.@@N@@
