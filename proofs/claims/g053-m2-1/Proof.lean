import JvmDerived
import JvmDerived.Pilot.@@N@@Statement
import JvmDerived.Pilot.@@N@@Code
set_option linter.unusedVariables false
set_option linter.unusedSimpArgs false
namespace Jvm.RoadKit
open Sem ClassFile Op Lib Jvm.Stand Jvm.Free Jvm.LawKit
section New
variable {p : Program} {l : Launch} {e : Env} {R : Room} {s : State} {m : MethodId} {args : Array Value} {below : List Frame} {meth : Method} {c : Code} {T : State} {locs : List Loc} {cells slots : Nat}
theorem retI (X : Stand p l e R s m args below meth c T locs cells slots) (hx : p.tables.exec = Jvm.exec) {pc : Nat} {Ls : Array Slot} {z : Int32} {rest : List Value} (hret : meth.sig.returnType = some .int) (hd : decode c.code pc = .ok (.ireturn, 1)) {fs : List Frame}
    (hl : ∀ (f : JFrame) (acts : List Action), f.method = m → f.locked = none → f.entered = [] → (doReturn e (T.setTop f) acts (some (.int z))).1 = T.setFrames fs) : Steps p.tables e below (T.setTop (mkF m pc Ls (.int z :: rest))) (T.setFrames fs) := by
  have hm' : T.vm.method? m = some meth := X.method'
  have hn : narrow .int (.int z) = .int z := rfl
  show Steps p.tables e below (T.setTop { method := m, pc := pc, locals := Ls, stack := _ :: rest, locked := none }) _
  jvm_step X.here [X.here.top, hx, hd, hm', hret, hn]
  first | (intro acts; rw [hl _ acts rfl rfl rfl]) | rw [hl _ _ rfl rfl rfl]
  exact Steps.refl _
end New
end Jvm.RoadKit
namespace Jvm.Pilot.@@N@@
open Jvm Jvm.ClassFile Sem Op Lib Jvm.Free Jvm.Stand Jvm.LawKit Jvm.RoadKit Bundle Jvm.Pilot.@@N@@.Jvm.D
theorem own_w {a0 : Array Value} {Z : State} (hw : ∀ d ∈ tables_1, d.before a0 Z = true) (i : Nat) {d : Jvm.Cond} (h : tables_1[i]? = some d) : d.before a0 Z = true := hw d (List.mem_of_getElem? h)
/-- from U the run comes to the method's end, and Q holds there -/
def own_Go (tb : Tables) (e : Env) (below : List Frame) (s : State) (C N : Nat) (Q : Option Value → Heap → List Loc → Prop) (U : State) : Prop :=
  ∃ t o, Steps tb e below U t ∧ t.status = .running ∧ Ended t below o ∧ ∃ v L, o = .returned v ∧ Q v t.heap L ∧ FrameEnd s o t L C N
theorem own_step {tb : Tables} {e : Env} {below : List Frame} {s : State} {C N : Nat} {Q : Option Value → Heap → List Loc → Prop} {U U' : State} (h : ∀ t, Steps tb e below U' t → Steps tb e below U t) (k : own_Go tb e below s C N Q U') : own_Go tb e below s C N Q U := by
  obtain ⟨t, o, h1, h2⟩ := k
  exact ⟨t, o, h t h1, h2⟩
theorem own_steps {tb : Tables} {e : Env} {below : List Frame} {s : State} {C N : Nat} {Q : Option Value → Heap → List Loc → Prop} {U U' : State} (h : Steps tb e below U U') (k : own_Go tb e below s C N Q U') : own_Go tb e below s C N Q U := own_step (fun _ q => h.trans q) k
theorem own_out {p : Program} {l : Launch} {e : Env} {R : Room} {s : State} {m : MethodId} {args : Array Value} {below : List Frame} {meth : Method} {c : Code} {T : State} {locs : List Loc} {cells slots : Nat} (X : Stand p l e R s m args below meth c T locs cells slots) {v : Option Value}
    (hlk : meth.locks = false) (hv : meth.sig.returnType = none → v = none) {C N : Nat} {Q : Option Value → Heap → List Loc → Prop} (hQ : Q v T.heap locs) (hC : cells ≤ C) (hN : slots ≤ N) {U : State}
    (k : ∀ fs, (∀ (f : JFrame) (acts : List Action), f.method = m → f.locked = none → f.entered = [] → (doReturn e (T.setTop f) acts v).1 = T.setFrames fs) → Steps p.tables e below U (T.setFrames fs)) : own_Go p.tables e below s C N Q U := by
  obtain ⟨fs, hr, hrun, hended, hW, hsame⟩ := X.leave hv hlk
  exact ⟨_, _, k fs hr, hrun, hended, _, _, rfl, hQ, ⟨_, rfl⟩, hW, hsame.mono hC hN⟩
theorem own_exaP {Z : State} {h : Heap} {a : Addr} {C : String} (E : Exa Z h a C) : ∀ c : Cell, h[a]? = some c → c.vm.isStatics = false := fun c hc => by
  obtain ⟨cell, k, h1, -, -, h4, -⟩ := E
  cases h1.symm.trans hc; exact h4
theorem own_staK {Z : State} {h h' : Heap} {C n d : String} {v : Value} {ws : List Addr} (S : Sta Z h C n d v) (K : Keep h h' ws) (q : ∀ w ∈ ws, ∀ c : Cell, h[w]? = some c → c.vm.isStatics = false) : Sta Z h' C n d v := by
  obtain ⟨cf, i, k, f, st, cell, h1, h2, h3, h4, h5, h6, h7⟩ := S
  exact ⟨cf, i, k, f, st, cell, h1, h2, h3, h4, K.2.1 st cell h5 (fun z => by have := q st z cell h5; rw [h6] at this; cases this), h6, h7⟩
theorem own_anyF {Z : State} {a0 : Array Value} {h : Heap} {a : Addr} {C O n d O' n' d' : String} {v' : Value} {k : Nat} (E : Exa Z h a C) (F : Fld Z h a O' n' d' v') (wi : (Cond.instantiable C k).before a0 Z = true) (L : Laid Z a0 C O n d) : ∃ v, Fld Z h a O n d v :=
  fld_laid E (by obtain ⟨cell, _, _, _, _, h1, _, _, h4, _⟩ := F; exact ⟨cell, h1, h4⟩) wi L
theorem own_nv {meth : Method} {t : FieldType} (h : meth.sig.returnType = some t) {v : Option Value} : meth.sig.returnType = none → v = none := fun q => by rw [h] at q; cases q
theorem pd__I_Z : parseMethodDescriptor "(I)Z" = some ⟨[.int], some .boolean⟩ := by decide +kernel
theorem d1_0 : decode prog_148_method_49_code 0 = .ok (.iload_n 0, 1) := by decide +kernel
theorem d1_1 : decode prog_148_method_49_code 1 = .ok (.bipush 32, 2) := by decide +kernel
theorem d1_3 : decode prog_148_method_49_code 3 = .ok (.if_icmp .lt 45, 3) := by decide +kernel
theorem d1_6 : decode prog_148_method_49_code 6 = .ok (.iload_n 0, 1) := by decide +kernel
theorem d1_7 : decode prog_148_method_49_code 7 = .ok (.ldc_w 262, 3) := by decide +kernel
theorem d1_10 : decode prog_148_method_49_code 10 = .ok (.if_icmp .le 30, 3) := by decide +kernel
theorem d1_13 : decode prog_148_method_49_code 13 = .ok (.iload_n 0, 1) := by decide +kernel
theorem d1_14 : decode prog_148_method_49_code 14 = .ok (.ldc_w 289, 3) := by decide +kernel
theorem d1_17 : decode prog_148_method_49_code 17 = .ok (.if_icmp .lt 10, 3) := by decide +kernel
theorem d1_20 : decode prog_148_method_49_code 20 = .ok (.iload_n 0, 1) := by decide +kernel
theorem d1_21 : decode prog_148_method_49_code 21 = .ok (.ldc_w 266, 3) := by decide +kernel
theorem d1_24 : decode prog_148_method_49_code 24 = .ok (.if_icmp .le 16, 3) := by decide +kernel
theorem d1_27 : decode prog_148_method_49_code 27 = .ok (.iload_n 0, 1) := by decide +kernel
theorem d1_28 : decode prog_148_method_49_code 28 = .ok (.ldc 9, 2) := by decide +kernel
theorem d1_30 : decode prog_148_method_49_code 30 = .ok (.if_icmp .lt 14, 3) := by decide +kernel
theorem d1_33 : decode prog_148_method_49_code 33 = .ok (.iload_n 0, 1) := by decide +kernel
theorem d1_34 : decode prog_148_method_49_code 34 = .ok (.ldc_w 290, 3) := by decide +kernel
theorem d1_37 : decode prog_148_method_49_code 37 = .ok (.if_icmp .gt 7, 3) := by decide +kernel
theorem d1_40 : decode prog_148_method_49_code 40 = .ok (.iconst 1, 1) := by decide +kernel
theorem d1_41 : decode prog_148_method_49_code 41 = .ok (.goto 30, 3) := by decide +kernel
theorem d1_44 : decode prog_148_method_49_code 44 = .ok (.iconst 0, 1) := by decide +kernel
theorem d1_45 : decode prog_148_method_49_code 45 = .ok (.goto 26, 3) := by decide +kernel
theorem d1_48 : decode prog_148_method_49_code 48 = .ok (.iload_n 0, 1) := by decide +kernel
theorem d1_49 : decode prog_148_method_49_code 49 = .ok (.bipush 9, 2) := by decide +kernel
theorem d1_51 : decode prog_148_method_49_code 51 = .ok (.if_icmp .eq 15, 3) := by decide +kernel
theorem d1_54 : decode prog_148_method_49_code 54 = .ok (.iload_n 0, 1) := by decide +kernel
theorem d1_55 : decode prog_148_method_49_code 55 = .ok (.bipush 10, 2) := by decide +kernel
theorem d1_57 : decode prog_148_method_49_code 57 = .ok (.if_icmp .eq 9, 3) := by decide +kernel
theorem d1_60 : decode prog_148_method_49_code 60 = .ok (.iload_n 0, 1) := by decide +kernel
theorem d1_61 : decode prog_148_method_49_code 61 = .ok (.bipush 13, 2) := by decide +kernel
theorem d1_63 : decode prog_148_method_49_code 63 = .ok (.if_icmp .ne 7, 3) := by decide +kernel
theorem d1_66 : decode prog_148_method_49_code 66 = .ok (.iconst 1, 1) := by decide +kernel
theorem d1_67 : decode prog_148_method_49_code 67 = .ok (.goto 4, 3) := by decide +kernel
theorem d1_70 : decode prog_148_method_49_code 70 = .ok (.iconst 0, 1) := by decide +kernel
theorem d1_71 : decode prog_148_method_49_code 71 = .ok (.ireturn, 1) := by decide +kernel
theorem pn_1 : plainName "com/example/palisade/palisade/xml/XmlCursor" = true := by first | (simp [plainName, overriddenIn]; done) | decide +kernel
theorem ef_1 (m : MethodId) (p0 : Int32) : entryFrame m #[(.int p0)] 1 = mkF m 0 #[iv p0] [] := by first | (simp [entryFrame, mkF, argsToLocals, Value.category]; done) | rfl
def F1 (p0 : Int32) : Int32 :=
  if p0 < (32 : Int32) then
    if p0 = (9 : Int32) then
      (1 : Int32)
    else
      if p0 = (10 : Int32) then
        (1 : Int32)
      else
        if p0 = (13 : Int32) then
          (1 : Int32)
        else
          (0 : Int32)
  else
    if (55295 : Int32) < p0 then
      if p0 < (57344 : Int32) then
        if p0 < (65536 : Int32) then
          (0 : Int32)
        else
          if (1114111 : Int32) < p0 then
            (0 : Int32)
          else
            (1 : Int32)
      else
        if (65533 : Int32) < p0 then
          if p0 < (65536 : Int32) then
            (0 : Int32)
          else
            if (1114111 : Int32) < p0 then
              (0 : Int32)
            else
              (1 : Int32)
        else
          (1 : Int32)
    else
      (1 : Int32)
def Q1 (Z : State) (p0 : Int32) (h0 : Heap) (n0 : Nat) (v : Option Value) (h : Heap) (L : List Loc) : Prop := v = some (.int (F1 p0)) ∧ Fr n0 L ∧ h = h0
set_option maxRecDepth 65536 in
set_option maxHeartbeats 40000000 in
theorem rm1 (l : Launch) (Z : State) (a0 : Array Value) (hw : ∀ d ∈ tables_1, d.before a0 Z = true) (ws : List Jvm.Cond) (p0 : Int32) (h0 : Heap) (n0 : Nat) (Z0 : n0 ≤ h0.size) :
    MetFree l (⟨"com/example/palisade/palisade/xml/XmlCursor", "isCharacter", "(I)Z"⟩ : MethodName) (head1 (Jvm.Cond.code (⟨"com/example/palisade/palisade/xml/XmlCursor", "isCharacter", "(I)Z"⟩ : MethodName) prog_148_method_49_code 1 (some .boolean) :: ws) ({ frames := 0, cells := 0, slots := 0, locals := 0 } : Room)) (fun a U => a = #[(.int p0)] ∧ Z.Warmed39 U.vm ∧ U.heap = h0) (fun _ _ _ _ _ => True) (fun _ U o U' => ∃ v L, o = .returned v ∧ Q1 Z p0 h0 n0 v U'.heap L ∧ FrameEnd U o U' L ({ frames := 0, cells := 0, slots := 0, locals := 0 } : Room).cells ({ frames := 0, cells := 0, slots := 0, locals := 0 } : Room).slots) := by
  refine MetFree.of_bodySF (plainFor_of_name pn_1) hisR ?_
  intro p e s m args below meth c s₁ Bd hml0 hP hK
  obtain ⟨rfl, hZ, hh⟩ := hP
  have hx := Bd.exec
  have hby := Bd.bytes
  have hml : c.maxLocals = 1 := hml0
  have hown : s.vm.findClass "com/example/palisade/palisade/xml/XmlCursor" = some m.cls := findClass_of_methodNamed Bd.named
  have hnm := (name_of_methodNamed Bd.named Bd.method).1
  have hlk : meth.locks = false := Bd.notSynchronized
  have X0 : Stand p l e ({ frames := 0, cells := 0, slots := 0, locals := 0 } : Room) s m #[(.int p0)] below meth c s₁ [] 0 0 := Stand.of_body Bd
  have e0 : s₁.heap = h0 := by rw [← hh, Bd.state]; rfl
  have N0 := Fr.nil n0
  have KK0 := Keep.refl h0 []
  show own_Go p.tables e below s 0 0 (Q1 Z p0 h0 n0) (s₁.setTop (entryFrame m #[(.int p0)] 1))
  rw [ef_1]
  refine own_step (U' := s₁.setTop (mkF m 3 #[iv p0] [(.int (32 : Int32)), (.int p0)])) (fun t k => XS.iloadN X0.here hx rfl (hb hby d1_0) rfl (XS.bipush X0.here hx rfl (hb hby d1_1) k)) ?_
  by_cases hc3_1 : p0 < (32 : Int32)
  · refine own_step (U' := s₁.setTop (mkF m 51 #[iv p0] [(.int (9 : Int32)), (.int p0)])) (fun t k => XS.icmpYes X0.here hx rfl (pc0 := 3) (pc' := 48) rfl (hb hby d1_3) rfl (tlt hc3_1).1 (by decide) (by decide) (XS.iloadN X0.here hx rfl (hb hby d1_48) rfl (XS.bipush X0.here hx rfl (hb hby d1_49) k))) ?_
    by_cases hc51_2 : p0 = (9 : Int32)
    · refine own_step (U' := s₁.setTop (mkF m 71 #[iv p0] [(.int (1 : Int32))])) (fun t k => XS.icmpYes X0.here hx rfl (pc0 := 51) (pc' := 66) rfl (hb hby d1_51) rfl (teq hc51_2).1 (by decide) (by decide) (XS.iconst X0.here hx rfl (hb hby d1_66) (XS.goto X0.here hx rfl (pc0 := 67) (pc' := 71) rfl (hb hby d1_67) (by decide) (by decide) k))) ?_
      exact own_out X0 (v := (some (.int (1 : Int32)))) hlk (own_nv Bd.returns) (by rw [e0]; exact ⟨by rw [show (F1 p0) = (1 : Int32) from (by simp only [F1, if_pos hc3_1, if_pos hc51_2])], N0, rfl⟩) (by decide) (by decide) (fun fs hr => retN X0 hx (t := .boolean) Bd.returns (by simp) (hb hby d1_71) hr)
    · refine own_step (U' := s₁.setTop (mkF m 57 #[iv p0] [(.int (10 : Int32)), (.int p0)])) (fun t k => XS.icmpNo X0.here hx rfl (hb hby d1_51) rfl (feq hc51_2).1 (XS.iloadN X0.here hx rfl (hb hby d1_54) rfl (XS.bipush X0.here hx rfl (hb hby d1_55) k))) ?_
      by_cases hc57_3 : p0 = (10 : Int32)
      · refine own_step (U' := s₁.setTop (mkF m 71 #[iv p0] [(.int (1 : Int32))])) (fun t k => XS.icmpYes X0.here hx rfl (pc0 := 57) (pc' := 66) rfl (hb hby d1_57) rfl (teq hc57_3).1 (by decide) (by decide) (XS.iconst X0.here hx rfl (hb hby d1_66) (XS.goto X0.here hx rfl (pc0 := 67) (pc' := 71) rfl (hb hby d1_67) (by decide) (by decide) k))) ?_
        exact own_out X0 (v := (some (.int (1 : Int32)))) hlk (own_nv Bd.returns) (by rw [e0]; exact ⟨by rw [show (F1 p0) = (1 : Int32) from (by simp only [F1, if_pos hc3_1, if_neg hc51_2, if_pos hc57_3])], N0, rfl⟩) (by decide) (by decide) (fun fs hr => retN X0 hx (t := .boolean) Bd.returns (by simp) (hb hby d1_71) hr)
      · refine own_step (U' := s₁.setTop (mkF m 63 #[iv p0] [(.int (13 : Int32)), (.int p0)])) (fun t k => XS.icmpNo X0.here hx rfl (hb hby d1_57) rfl (feq hc57_3).1 (XS.iloadN X0.here hx rfl (hb hby d1_60) rfl (XS.bipush X0.here hx rfl (hb hby d1_61) k))) ?_
        by_cases hc63_4 : p0 = (13 : Int32)
        · refine own_step (U' := s₁.setTop (mkF m 71 #[iv p0] [(.int (1 : Int32))])) (fun t k => XS.icmpNo X0.here hx rfl (hb hby d1_63) rfl (teq hc63_4).2 (XS.iconst X0.here hx rfl (hb hby d1_66) (XS.goto X0.here hx rfl (pc0 := 67) (pc' := 71) rfl (hb hby d1_67) (by decide) (by decide) k))) ?_
          exact own_out X0 (v := (some (.int (1 : Int32)))) hlk (own_nv Bd.returns) (by rw [e0]; exact ⟨by rw [show (F1 p0) = (1 : Int32) from (by simp only [F1, if_pos hc3_1, if_neg hc51_2, if_neg hc57_3, if_pos hc63_4])], N0, rfl⟩) (by decide) (by decide) (fun fs hr => retN X0 hx (t := .boolean) Bd.returns (by simp) (hb hby d1_71) hr)
        · refine own_step (U' := s₁.setTop (mkF m 71 #[iv p0] [(.int (0 : Int32))])) (fun t k => XS.icmpYes X0.here hx rfl (pc0 := 63) (pc' := 70) rfl (hb hby d1_63) rfl (feq hc63_4).2 (by decide) (by decide) (XS.iconst X0.here hx rfl (hb hby d1_70) k)) ?_
          exact own_out X0 (v := (some (.int (0 : Int32)))) hlk (own_nv Bd.returns) (by rw [e0]; exact ⟨by rw [show (F1 p0) = (0 : Int32) from (by simp only [F1, if_pos hc3_1, if_neg hc51_2, if_neg hc57_3, if_neg hc63_4])], N0, rfl⟩) (by decide) (by decide) (fun fs hr => retN X0 hx (t := .boolean) Bd.returns (by simp) (hb hby d1_71) hr)
  · refine own_step (U' := s₁.setTop (mkF m 10 #[iv p0] [(.int (55295 : Int32)), (.int p0)])) (fun t k => XS.icmpNo X0.here hx rfl (hb hby d1_3) rfl (flt hc3_1).1 (XS.iloadN X0.here hx rfl (hb hby d1_6) rfl (X0.ldcwInt hx hown (mvT hZ (own_w hw 21 rfl)) (g := (mkF m 7 #[iv p0] [(.int p0)])) rfl (hb hby d1_7) t k))) ?_
    by_cases hc10_5 : (55295 : Int32) < p0
    · refine own_step (U' := s₁.setTop (mkF m 17 #[iv p0] [(.int (57344 : Int32)), (.int p0)])) (fun t k => XS.icmpNo X0.here hx rfl (hb hby d1_10) rfl (tlt hc10_5).2.2.2 (XS.iloadN X0.here hx rfl (hb hby d1_13) rfl (X0.ldcwInt hx hown (mvT hZ (own_w hw 22 rfl)) (g := (mkF m 14 #[iv p0] [(.int p0)])) rfl (hb hby d1_14) t k))) ?_
      by_cases hc17_6 : p0 < (57344 : Int32)
      · refine own_step (U' := s₁.setTop (mkF m 30 #[iv p0] [(.int (65536 : Int32)), (.int p0)])) (fun t k => XS.icmpYes X0.here hx rfl (pc0 := 17) (pc' := 27) rfl (hb hby d1_17) rfl (tlt hc17_6).1 (by decide) (by decide) (XS.iloadN X0.here hx rfl (hb hby d1_27) rfl (X0.ldcInt hx hown (mvT hZ (own_w hw 24 rfl)) (g := (mkF m 28 #[iv p0] [(.int p0)])) rfl (hb hby d1_28) t k))) ?_
        by_cases hc30_7 : p0 < (65536 : Int32)
        · refine own_step (U' := s₁.setTop (mkF m 71 #[iv p0] [(.int (0 : Int32))])) (fun t k => XS.icmpYes X0.here hx rfl (pc0 := 30) (pc' := 44) rfl (hb hby d1_30) rfl (tlt hc30_7).1 (by decide) (by decide) (XS.iconst X0.here hx rfl (hb hby d1_44) (XS.goto X0.here hx rfl (pc0 := 45) (pc' := 71) rfl (hb hby d1_45) (by decide) (by decide) k))) ?_
          exact own_out X0 (v := (some (.int (0 : Int32)))) hlk (own_nv Bd.returns) (by rw [e0]; exact ⟨by rw [show (F1 p0) = (0 : Int32) from (by simp only [F1, if_neg hc3_1, if_pos hc10_5, if_pos hc17_6, if_pos hc30_7])], N0, rfl⟩) (by decide) (by decide) (fun fs hr => retN X0 hx (t := .boolean) Bd.returns (by simp) (hb hby d1_71) hr)
        · refine own_step (U' := s₁.setTop (mkF m 37 #[iv p0] [(.int (1114111 : Int32)), (.int p0)])) (fun t k => XS.icmpNo X0.here hx rfl (hb hby d1_30) rfl (flt hc30_7).1 (XS.iloadN X0.here hx rfl (hb hby d1_33) rfl (X0.ldcwInt hx hown (mvT hZ (own_w hw 25 rfl)) (g := (mkF m 34 #[iv p0] [(.int p0)])) rfl (hb hby d1_34) t k))) ?_
          by_cases hc37_8 : (1114111 : Int32) < p0
          · refine own_step (U' := s₁.setTop (mkF m 71 #[iv p0] [(.int (0 : Int32))])) (fun t k => XS.icmpYes X0.here hx rfl (pc0 := 37) (pc' := 44) rfl (hb hby d1_37) rfl (tlt hc37_8).2.2.1 (by decide) (by decide) (XS.iconst X0.here hx rfl (hb hby d1_44) (XS.goto X0.here hx rfl (pc0 := 45) (pc' := 71) rfl (hb hby d1_45) (by decide) (by decide) k))) ?_
            exact own_out X0 (v := (some (.int (0 : Int32)))) hlk (own_nv Bd.returns) (by rw [e0]; exact ⟨by rw [show (F1 p0) = (0 : Int32) from (by simp only [F1, if_neg hc3_1, if_pos hc10_5, if_pos hc17_6, if_neg hc30_7, if_pos hc37_8])], N0, rfl⟩) (by decide) (by decide) (fun fs hr => retN X0 hx (t := .boolean) Bd.returns (by simp) (hb hby d1_71) hr)
          · refine own_step (U' := s₁.setTop (mkF m 71 #[iv p0] [(.int (1 : Int32))])) (fun t k => XS.icmpNo X0.here hx rfl (hb hby d1_37) rfl (flt hc37_8).2.2.1 (XS.iconst X0.here hx rfl (hb hby d1_40) (XS.goto X0.here hx rfl (pc0 := 41) (pc' := 71) rfl (hb hby d1_41) (by decide) (by decide) k))) ?_
            exact own_out X0 (v := (some (.int (1 : Int32)))) hlk (own_nv Bd.returns) (by rw [e0]; exact ⟨by rw [show (F1 p0) = (1 : Int32) from (by simp only [F1, if_neg hc3_1, if_pos hc10_5, if_pos hc17_6, if_neg hc30_7, if_neg hc37_8])], N0, rfl⟩) (by decide) (by decide) (fun fs hr => retN X0 hx (t := .boolean) Bd.returns (by simp) (hb hby d1_71) hr)
      · refine own_step (U' := s₁.setTop (mkF m 24 #[iv p0] [(.int (65533 : Int32)), (.int p0)])) (fun t k => XS.icmpNo X0.here hx rfl (hb hby d1_17) rfl (flt hc17_6).1 (XS.iloadN X0.here hx rfl (hb hby d1_20) rfl (X0.ldcwInt hx hown (mvT hZ (own_w hw 23 rfl)) (g := (mkF m 21 #[iv p0] [(.int p0)])) rfl (hb hby d1_21) t k))) ?_
        by_cases hc24_9 : (65533 : Int32) < p0
        · refine own_step (U' := s₁.setTop (mkF m 30 #[iv p0] [(.int (65536 : Int32)), (.int p0)])) (fun t k => XS.icmpNo X0.here hx rfl (hb hby d1_24) rfl (tlt hc24_9).2.2.2 (XS.iloadN X0.here hx rfl (hb hby d1_27) rfl (X0.ldcInt hx hown (mvT hZ (own_w hw 24 rfl)) (g := (mkF m 28 #[iv p0] [(.int p0)])) rfl (hb hby d1_28) t k))) ?_
          by_cases hc30_10 : p0 < (65536 : Int32)
          · refine own_step (U' := s₁.setTop (mkF m 71 #[iv p0] [(.int (0 : Int32))])) (fun t k => XS.icmpYes X0.here hx rfl (pc0 := 30) (pc' := 44) rfl (hb hby d1_30) rfl (tlt hc30_10).1 (by decide) (by decide) (XS.iconst X0.here hx rfl (hb hby d1_44) (XS.goto X0.here hx rfl (pc0 := 45) (pc' := 71) rfl (hb hby d1_45) (by decide) (by decide) k))) ?_
            exact own_out X0 (v := (some (.int (0 : Int32)))) hlk (own_nv Bd.returns) (by rw [e0]; exact ⟨by rw [show (F1 p0) = (0 : Int32) from (by simp only [F1, if_neg hc3_1, if_pos hc10_5, if_neg hc17_6, if_pos hc24_9, if_pos hc30_10])], N0, rfl⟩) (by decide) (by decide) (fun fs hr => retN X0 hx (t := .boolean) Bd.returns (by simp) (hb hby d1_71) hr)
          · refine own_step (U' := s₁.setTop (mkF m 37 #[iv p0] [(.int (1114111 : Int32)), (.int p0)])) (fun t k => XS.icmpNo X0.here hx rfl (hb hby d1_30) rfl (flt hc30_10).1 (XS.iloadN X0.here hx rfl (hb hby d1_33) rfl (X0.ldcwInt hx hown (mvT hZ (own_w hw 25 rfl)) (g := (mkF m 34 #[iv p0] [(.int p0)])) rfl (hb hby d1_34) t k))) ?_
            by_cases hc37_11 : (1114111 : Int32) < p0
            · refine own_step (U' := s₁.setTop (mkF m 71 #[iv p0] [(.int (0 : Int32))])) (fun t k => XS.icmpYes X0.here hx rfl (pc0 := 37) (pc' := 44) rfl (hb hby d1_37) rfl (tlt hc37_11).2.2.1 (by decide) (by decide) (XS.iconst X0.here hx rfl (hb hby d1_44) (XS.goto X0.here hx rfl (pc0 := 45) (pc' := 71) rfl (hb hby d1_45) (by decide) (by decide) k))) ?_
              exact own_out X0 (v := (some (.int (0 : Int32)))) hlk (own_nv Bd.returns) (by rw [e0]; exact ⟨by rw [show (F1 p0) = (0 : Int32) from (by simp only [F1, if_neg hc3_1, if_pos hc10_5, if_neg hc17_6, if_pos hc24_9, if_neg hc30_10, if_pos hc37_11])], N0, rfl⟩) (by decide) (by decide) (fun fs hr => retN X0 hx (t := .boolean) Bd.returns (by simp) (hb hby d1_71) hr)
            · refine own_step (U' := s₁.setTop (mkF m 71 #[iv p0] [(.int (1 : Int32))])) (fun t k => XS.icmpNo X0.here hx rfl (hb hby d1_37) rfl (flt hc37_11).2.2.1 (XS.iconst X0.here hx rfl (hb hby d1_40) (XS.goto X0.here hx rfl (pc0 := 41) (pc' := 71) rfl (hb hby d1_41) (by decide) (by decide) k))) ?_
              exact own_out X0 (v := (some (.int (1 : Int32)))) hlk (own_nv Bd.returns) (by rw [e0]; exact ⟨by rw [show (F1 p0) = (1 : Int32) from (by simp only [F1, if_neg hc3_1, if_pos hc10_5, if_neg hc17_6, if_pos hc24_9, if_neg hc30_10, if_neg hc37_11])], N0, rfl⟩) (by decide) (by decide) (fun fs hr => retN X0 hx (t := .boolean) Bd.returns (by simp) (hb hby d1_71) hr)
        · refine own_step (U' := s₁.setTop (mkF m 71 #[iv p0] [(.int (1 : Int32))])) (fun t k => XS.icmpYes X0.here hx rfl (pc0 := 24) (pc' := 40) rfl (hb hby d1_24) rfl (flt hc24_9).2.2.2 (by decide) (by decide) (XS.iconst X0.here hx rfl (hb hby d1_40) (XS.goto X0.here hx rfl (pc0 := 41) (pc' := 71) rfl (hb hby d1_41) (by decide) (by decide) k))) ?_
          exact own_out X0 (v := (some (.int (1 : Int32)))) hlk (own_nv Bd.returns) (by rw [e0]; exact ⟨by rw [show (F1 p0) = (1 : Int32) from (by simp only [F1, if_neg hc3_1, if_pos hc10_5, if_neg hc17_6, if_neg hc24_9])], N0, rfl⟩) (by decide) (by decide) (fun fs hr => retN X0 hx (t := .boolean) Bd.returns (by simp) (hb hby d1_71) hr)
    · refine own_step (U' := s₁.setTop (mkF m 71 #[iv p0] [(.int (1 : Int32))])) (fun t k => XS.icmpYes X0.here hx rfl (pc0 := 10) (pc' := 40) rfl (hb hby d1_10) rfl (flt hc10_5).2.2.2 (by decide) (by decide) (XS.iconst X0.here hx rfl (hb hby d1_40) (XS.goto X0.here hx rfl (pc0 := 41) (pc' := 71) rfl (hb hby d1_41) (by decide) (by decide) k))) ?_
      exact own_out X0 (v := (some (.int (1 : Int32)))) hlk (own_nv Bd.returns) (by rw [e0]; exact ⟨by rw [show (F1 p0) = (1 : Int32) from (by simp only [F1, if_neg hc3_1, if_neg hc10_5])], N0, rfl⟩) (by decide) (by decide) (fun fs hr => retN X0 hx (t := .boolean) Bd.returns (by simp) (hb hby d1_71) hr)
theorem d2_0 : decode method_3_code 0 = .ok (.iload_n 0, 1) := by decide +kernel
theorem d2_1 : decode method_3_code 1 = .ok (.ifCond .lt 13, 3) := by decide +kernel
theorem d2_4 : decode method_3_code 4 = .ok (.iload_n 0, 1) := by decide +kernel
theorem d2_5 : decode method_3_code 5 = .ok (.ldc 15, 2) := by decide +kernel
theorem d2_7 : decode method_3_code 7 = .ok (.if_icmp .gt 7, 3) := by decide +kernel
theorem d2_10 : decode method_3_code 10 = .ok (.iconst 1, 1) := by decide +kernel
theorem d2_11 : decode method_3_code 11 = .ok (.goto 4, 3) := by decide +kernel
theorem d2_14 : decode method_3_code 14 = .ok (.iconst 0, 1) := by decide +kernel
theorem d2_15 : decode method_3_code 15 = .ok (.istore_n 1, 1) := by decide +kernel
theorem d2_16 : decode method_3_code 16 = .ok (.iload_n 0, 1) := by decide +kernel
theorem d2_17 : decode method_3_code 17 = .ok (.bipush 32, 2) := by decide +kernel
theorem d2_19 : decode method_3_code 19 = .ok (.if_icmp .ge 25, 3) := by decide +kernel
theorem d2_22 : decode method_3_code 22 = .ok (.iload_n 0, 1) := by decide +kernel
theorem d2_23 : decode method_3_code 23 = .ok (.bipush 9, 2) := by decide +kernel
theorem d2_25 : decode method_3_code 25 = .ok (.if_icmp .eq 19, 3) := by decide +kernel
theorem d2_28 : decode method_3_code 28 = .ok (.iload_n 0, 1) := by decide +kernel
theorem d2_29 : decode method_3_code 29 = .ok (.bipush 10, 2) := by decide +kernel
theorem d2_31 : decode method_3_code 31 = .ok (.if_icmp .eq 13, 3) := by decide +kernel
theorem d2_34 : decode method_3_code 34 = .ok (.iload_n 0, 1) := by decide +kernel
theorem d2_35 : decode method_3_code 35 = .ok (.bipush 13, 2) := by decide +kernel
theorem d2_37 : decode method_3_code 37 = .ok (.if_icmp .eq 7, 3) := by decide +kernel
theorem d2_40 : decode method_3_code 40 = .ok (.iconst 1, 1) := by decide +kernel
theorem d2_41 : decode method_3_code 41 = .ok (.goto 4, 3) := by decide +kernel
theorem d2_44 : decode method_3_code 44 = .ok (.iconst 0, 1) := by decide +kernel
theorem d2_45 : decode method_3_code 45 = .ok (.istore_n 2, 1) := by decide +kernel
theorem d2_46 : decode method_3_code 46 = .ok (.iload_n 0, 1) := by decide +kernel
theorem d2_47 : decode method_3_code 47 = .ok (.ldc 8, 2) := by decide +kernel
theorem d2_49 : decode method_3_code 49 = .ok (.if_icmp .lt 13, 3) := by decide +kernel
theorem d2_52 : decode method_3_code 52 = .ok (.iload_n 0, 1) := by decide +kernel
theorem d2_53 : decode method_3_code 53 = .ok (.ldc 9, 2) := by decide +kernel
theorem d2_55 : decode method_3_code 55 = .ok (.if_icmp .gt 7, 3) := by decide +kernel
theorem d2_58 : decode method_3_code 58 = .ok (.iconst 1, 1) := by decide +kernel
theorem d2_59 : decode method_3_code 59 = .ok (.goto 4, 3) := by decide +kernel
theorem d2_62 : decode method_3_code 62 = .ok (.iconst 0, 1) := by decide +kernel
theorem d2_63 : decode method_3_code 63 = .ok (.istore_n 3, 1) := by decide +kernel
theorem d2_64 : decode method_3_code 64 = .ok (.iload_n 0, 1) := by decide +kernel
theorem d2_65 : decode method_3_code 65 = .ok (.ldc 12, 2) := by decide +kernel
theorem d2_67 : decode method_3_code 67 = .ok (.if_icmp .eq 9, 3) := by decide +kernel
theorem d2_70 : decode method_3_code 70 = .ok (.iload_n 0, 1) := by decide +kernel
theorem d2_71 : decode method_3_code 71 = .ok (.ldc 13, 2) := by decide +kernel
theorem d2_73 : decode method_3_code 73 = .ok (.if_icmp .ne 7, 3) := by decide +kernel
theorem d2_76 : decode method_3_code 76 = .ok (.iconst 1, 1) := by decide +kernel
theorem d2_77 : decode method_3_code 77 = .ok (.goto 4, 3) := by decide +kernel
theorem d2_80 : decode method_3_code 80 = .ok (.iconst 0, 1) := by decide +kernel
theorem d2_81 : decode method_3_code 81 = .ok (.istore 4, 2) := by decide +kernel
theorem d2_83 : decode method_3_code 83 = .ok (.iload_n 1, 1) := by decide +kernel
theorem d2_84 : decode method_3_code 84 = .ok (.ifCond .eq 20, 3) := by decide +kernel
theorem d2_87 : decode method_3_code 87 = .ok (.iload_n 2, 1) := by decide +kernel
theorem d2_88 : decode method_3_code 88 = .ok (.ifCond .ne 16, 3) := by decide +kernel
theorem d2_91 : decode method_3_code 91 = .ok (.iload_n 3, 1) := by decide +kernel
theorem d2_92 : decode method_3_code 92 = .ok (.ifCond .ne 12, 3) := by decide +kernel
theorem d2_95 : decode method_3_code 95 = .ok (.iload 4, 2) := by decide +kernel
theorem d2_97 : decode method_3_code 97 = .ok (.ifCond .ne 7, 3) := by decide +kernel
theorem d2_100 : decode method_3_code 100 = .ok (.iconst 1, 1) := by decide +kernel
theorem d2_101 : decode method_3_code 101 = .ok (.goto 4, 3) := by decide +kernel
theorem d2_104 : decode method_3_code 104 = .ok (.iconst 0, 1) := by decide +kernel
theorem d2_105 : decode method_3_code 105 = .ok (.ireturn, 1) := by decide +kernel
theorem pn_2 : plainName "com/example/palisade/palisade/xml/XmlCursorIsCharacterPinLaw" = true := by first | (simp [plainName, overriddenIn]; done) | decide +kernel
theorem ef_2 (m : MethodId) (p0 : Int32) : entryFrame m #[(.int p0)] 5 = mkF m 0 #[iv p0, .unset, .unset, .unset, .unset] [] := by first | (simp [entryFrame, mkF, argsToLocals, Value.category]; done) | rfl
def F2 (p0 : Int32) : Int32 :=
  let v15_3 : Int32 := (if p0 < (0 : Int32) then (0 : Int32) else (if (1114111 : Int32) < p0 then (0 : Int32) else (1 : Int32)))
  let v45_9 : Int32 := (if p0 < (32 : Int32) then (if p0 = (9 : Int32) then (0 : Int32) else (if p0 = (10 : Int32) then (0 : Int32) else (if p0 = (13 : Int32) then (0 : Int32) else (1 : Int32)))) else (0 : Int32))
  let v63_13 : Int32 := (if p0 < (55296 : Int32) then (0 : Int32) else (if (57343 : Int32) < p0 then (0 : Int32) else (1 : Int32)))
  let v81_17 : Int32 := (if p0 = (65534 : Int32) then (1 : Int32) else (if p0 = (65535 : Int32) then (1 : Int32) else (0 : Int32)))
  if v15_3 = (0 : Int32) then
    (0 : Int32)
  else
    if v45_9 = (0 : Int32) then
      if v63_13 = (0 : Int32) then
        if v81_17 = (0 : Int32) then
          (1 : Int32)
        else
          (0 : Int32)
      else
        (0 : Int32)
    else
      (0 : Int32)
def Q2 (Z : State) (p0 : Int32) (h0 : Heap) (n0 : Nat) (v : Option Value) (h : Heap) (L : List Loc) : Prop := v = some (.int (F2 p0)) ∧ Fr n0 L ∧ h = h0
set_option maxRecDepth 65536 in
set_option maxHeartbeats 40000000 in
theorem rm2 (l : Launch) (Z : State) (a0 : Array Value) (hw : ∀ d ∈ tables_1, d.before a0 Z = true) (ws : List Jvm.Cond) (p0 : Int32) (h0 : Heap) (n0 : Nat) (Z0 : n0 ≤ h0.size) :
    MetFree l (⟨"com/example/palisade/palisade/xml/XmlCursorIsCharacterPinLaw", "expected", "(I)Z"⟩ : MethodName) (head1 (Jvm.Cond.code (⟨"com/example/palisade/palisade/xml/XmlCursorIsCharacterPinLaw", "expected", "(I)Z"⟩ : MethodName) method_3_code 5 (some .boolean) :: ws) ({ frames := 0, cells := 0, slots := 0, locals := 0 } : Room)) (fun a U => a = #[(.int p0)] ∧ Z.Warmed39 U.vm ∧ U.heap = h0) (fun _ _ _ _ _ => True) (fun _ U o U' => ∃ v L, o = .returned v ∧ Q2 Z p0 h0 n0 v U'.heap L ∧ FrameEnd U o U' L ({ frames := 0, cells := 0, slots := 0, locals := 0 } : Room).cells ({ frames := 0, cells := 0, slots := 0, locals := 0 } : Room).slots) := by
  refine MetFree.of_bodySF (plainFor_of_name pn_2) hisR ?_
  intro p e s m args below meth c s₁ Bd hml0 hP hK
  obtain ⟨rfl, hZ, hh⟩ := hP
  have hx := Bd.exec
  have hby := Bd.bytes
  have hml : c.maxLocals = 5 := hml0
  have hown : s.vm.findClass "com/example/palisade/palisade/xml/XmlCursorIsCharacterPinLaw" = some m.cls := findClass_of_methodNamed Bd.named
  have hnm := (name_of_methodNamed Bd.named Bd.method).1
  have hlk : meth.locks = false := Bd.notSynchronized
  have X0 : Stand p l e ({ frames := 0, cells := 0, slots := 0, locals := 0 } : Room) s m #[(.int p0)] below meth c s₁ [] 0 0 := Stand.of_body Bd
  have e0 : s₁.heap = h0 := by rw [← hh, Bd.state]; rfl
  have N0 := Fr.nil n0
  have KK0 := Keep.refl h0 []
  show own_Go p.tables e below s 0 0 (Q2 Z p0 h0 n0) (s₁.setTop (entryFrame m #[(.int p0)] 5))
  rw [ef_2]
  refine own_step (U' := s₁.setTop (mkF m 1 #[iv p0, .unset, .unset, .unset, .unset] [(.int p0)])) (fun t k => XS.iloadN X0.here hx rfl (hb hby d2_0) rfl k) ?_
  obtain ⟨v15_3, hv15_3⟩ : ∃ v : Int32, v = (if p0 < (0 : Int32) then (0 : Int32) else (if (1114111 : Int32) < p0 then (0 : Int32) else (1 : Int32))) := ⟨_, rfl⟩
  have K15_4 : ∀ (T' : State) (locs' : List Loc) (X' : Stand p l e ({ frames := 0, cells := 0, slots := 0, locals := 0 } : Room) s m #[(.int p0)] below meth c T' locs' 0 0) (N' : Fr n0 locs') (e' : T'.heap = h0), own_Go p.tables e below s 0 0 (Q2 Z p0 h0 n0) (T'.setTop (mkF m 15 #[iv p0, .unset, .unset, .unset, .unset] [(.int v15_3)])) := by
    intro T4 L4 X4 N4 e4
    refine own_step (U' := T4.setTop (mkF m 19 #[iv p0, iv v15_3, .unset, .unset, .unset] [(.int (32 : Int32)), (.int p0)])) (fun t k => XS.istoreN X4.here hx rfl (hb hby d2_15) rfl (l' := #[iv p0, iv v15_3, .unset, .unset, .unset]) rfl (XS.iloadN X4.here hx rfl (hb hby d2_16) rfl (XS.bipush X4.here hx rfl (hb hby d2_17) k))) ?_
    obtain ⟨v45_9, hv45_9⟩ : ∃ v : Int32, v = (if p0 < (32 : Int32) then (if p0 = (9 : Int32) then (0 : Int32) else (if p0 = (10 : Int32) then (0 : Int32) else (if p0 = (13 : Int32) then (0 : Int32) else (1 : Int32)))) else (0 : Int32)) := ⟨_, rfl⟩
    have K45_10 : ∀ (T' : State) (locs' : List Loc) (X' : Stand p l e ({ frames := 0, cells := 0, slots := 0, locals := 0 } : Room) s m #[(.int p0)] below meth c T' locs' 0 0) (N' : Fr n0 locs') (e' : T'.heap = h0), own_Go p.tables e below s 0 0 (Q2 Z p0 h0 n0) (T'.setTop (mkF m 45 #[iv p0, iv v15_3, .unset, .unset, .unset] [(.int v45_9)])) := by
      intro T10 L10 X10 N10 e10
      refine own_step (U' := T10.setTop (mkF m 49 #[iv p0, iv v15_3, iv v45_9, .unset, .unset] [(.int (55296 : Int32)), (.int p0)])) (fun t k => XS.istoreN X10.here hx rfl (hb hby d2_45) rfl (l' := #[iv p0, iv v15_3, iv v45_9, .unset, .unset]) rfl (XS.iloadN X10.here hx rfl (hb hby d2_46) rfl (X10.ldcInt hx hown (mvT hZ (own_w hw 2 rfl)) (g := (mkF m 47 #[iv p0, iv v15_3, iv v45_9, .unset, .unset] [(.int p0)])) rfl (hb hby d2_47) t k))) ?_
      obtain ⟨v63_13, hv63_13⟩ : ∃ v : Int32, v = (if p0 < (55296 : Int32) then (0 : Int32) else (if (57343 : Int32) < p0 then (0 : Int32) else (1 : Int32))) := ⟨_, rfl⟩
      have K63_14 : ∀ (T' : State) (locs' : List Loc) (X' : Stand p l e ({ frames := 0, cells := 0, slots := 0, locals := 0 } : Room) s m #[(.int p0)] below meth c T' locs' 0 0) (N' : Fr n0 locs') (e' : T'.heap = h0), own_Go p.tables e below s 0 0 (Q2 Z p0 h0 n0) (T'.setTop (mkF m 63 #[iv p0, iv v15_3, iv v45_9, .unset, .unset] [(.int v63_13)])) := by
        intro T14 L14 X14 N14 e14
        refine own_step (U' := T14.setTop (mkF m 67 #[iv p0, iv v15_3, iv v45_9, iv v63_13, .unset] [(.int (65534 : Int32)), (.int p0)])) (fun t k => XS.istoreN X14.here hx rfl (hb hby d2_63) rfl (l' := #[iv p0, iv v15_3, iv v45_9, iv v63_13, .unset]) rfl (XS.iloadN X14.here hx rfl (hb hby d2_64) rfl (X14.ldcInt hx hown (mvT hZ (own_w hw 6 rfl)) (g := (mkF m 65 #[iv p0, iv v15_3, iv v45_9, iv v63_13, .unset] [(.int p0)])) rfl (hb hby d2_65) t k))) ?_
        obtain ⟨v81_17, hv81_17⟩ : ∃ v : Int32, v = (if p0 = (65534 : Int32) then (1 : Int32) else (if p0 = (65535 : Int32) then (1 : Int32) else (0 : Int32))) := ⟨_, rfl⟩
        have K81_18 : ∀ (T' : State) (locs' : List Loc) (X' : Stand p l e ({ frames := 0, cells := 0, slots := 0, locals := 0 } : Room) s m #[(.int p0)] below meth c T' locs' 0 0) (N' : Fr n0 locs') (e' : T'.heap = h0), own_Go p.tables e below s 0 0 (Q2 Z p0 h0 n0) (T'.setTop (mkF m 81 #[iv p0, iv v15_3, iv v45_9, iv v63_13, .unset] [(.int v81_17)])) := by
          intro T18 L18 X18 N18 e18
          refine own_step (U' := T18.setTop (mkF m 84 #[iv p0, iv v15_3, iv v45_9, iv v63_13, iv v81_17] [(.int v15_3)])) (fun t k => XS.istore X18.here hx rfl (hb hby d2_81) rfl (l' := #[iv p0, iv v15_3, iv v45_9, iv v63_13, iv v81_17]) rfl (XS.iloadN X18.here hx rfl (hb hby d2_83) rfl k)) ?_
          by_cases hc84_19 : v15_3 = (0 : Int32)
          · refine own_step (U' := T18.setTop (mkF m 105 #[iv p0, iv v15_3, iv v45_9, iv v63_13, iv v81_17] [(.int (0 : Int32))])) (fun t k => XS.ifYes X18.here hx rfl (pc0 := 84) (pc' := 104) rfl (hb hby d2_84) rfl ((if0 _ _).trans (teq hc84_19).1) (by decide) (by decide) (XS.iconst X18.here hx rfl (hb hby d2_104) k)) ?_
            exact own_out X18 (v := (some (.int (0 : Int32)))) hlk (own_nv Bd.returns) (by rw [e18]; exact (by subst hv15_3 hv45_9 hv63_13 hv81_17; exact ⟨by rw [show (F2 p0) = (0 : Int32) from (by simp only [F2, if_pos hc84_19])], N18, rfl⟩)) (by decide) (by decide) (fun fs hr => retN X18 hx (t := .boolean) Bd.returns (by simp) (hb hby d2_105) hr)
          · refine own_step (U' := T18.setTop (mkF m 88 #[iv p0, iv v15_3, iv v45_9, iv v63_13, iv v81_17] [(.int v45_9)])) (fun t k => XS.ifNo X18.here hx rfl (hb hby d2_84) rfl ((if0 _ _).trans (feq hc84_19).1) (XS.iloadN X18.here hx rfl (hb hby d2_87) rfl k)) ?_
            by_cases hc88_20 : v45_9 = (0 : Int32)
            · refine own_step (U' := T18.setTop (mkF m 92 #[iv p0, iv v15_3, iv v45_9, iv v63_13, iv v81_17] [(.int v63_13)])) (fun t k => XS.ifNo X18.here hx rfl (hb hby d2_88) rfl ((if0 _ _).trans (teq hc88_20).2) (XS.iloadN X18.here hx rfl (hb hby d2_91) rfl k)) ?_
              by_cases hc92_21 : v63_13 = (0 : Int32)
              · refine own_step (U' := T18.setTop (mkF m 97 #[iv p0, iv v15_3, iv v45_9, iv v63_13, iv v81_17] [(.int v81_17)])) (fun t k => XS.ifNo X18.here hx rfl (hb hby d2_92) rfl ((if0 _ _).trans (teq hc92_21).2) (XS.iload X18.here hx rfl (hb hby d2_95) rfl k)) ?_
                by_cases hc97_22 : v81_17 = (0 : Int32)
                · refine own_step (U' := T18.setTop (mkF m 105 #[iv p0, iv v15_3, iv v45_9, iv v63_13, iv v81_17] [(.int (1 : Int32))])) (fun t k => XS.ifNo X18.here hx rfl (hb hby d2_97) rfl ((if0 _ _).trans (teq hc97_22).2) (XS.iconst X18.here hx rfl (hb hby d2_100) (XS.goto X18.here hx rfl (pc0 := 101) (pc' := 105) rfl (hb hby d2_101) (by decide) (by decide) k))) ?_
                  exact own_out X18 (v := (some (.int (1 : Int32)))) hlk (own_nv Bd.returns) (by rw [e18]; exact (by subst hv15_3 hv45_9 hv63_13 hv81_17; exact ⟨by rw [show (F2 p0) = (1 : Int32) from (by simp only [F2, if_neg hc84_19, if_pos hc88_20, if_pos hc92_21, if_pos hc97_22])], N18, rfl⟩)) (by decide) (by decide) (fun fs hr => retN X18 hx (t := .boolean) Bd.returns (by simp) (hb hby d2_105) hr)
                · refine own_step (U' := T18.setTop (mkF m 105 #[iv p0, iv v15_3, iv v45_9, iv v63_13, iv v81_17] [(.int (0 : Int32))])) (fun t k => XS.ifYes X18.here hx rfl (pc0 := 97) (pc' := 104) rfl (hb hby d2_97) rfl ((if0 _ _).trans (feq hc97_22).2) (by decide) (by decide) (XS.iconst X18.here hx rfl (hb hby d2_104) k)) ?_
                  exact own_out X18 (v := (some (.int (0 : Int32)))) hlk (own_nv Bd.returns) (by rw [e18]; exact (by subst hv15_3 hv45_9 hv63_13 hv81_17; exact ⟨by rw [show (F2 p0) = (0 : Int32) from (by simp only [F2, if_neg hc84_19, if_pos hc88_20, if_pos hc92_21, if_neg hc97_22])], N18, rfl⟩)) (by decide) (by decide) (fun fs hr => retN X18 hx (t := .boolean) Bd.returns (by simp) (hb hby d2_105) hr)
              · refine own_step (U' := T18.setTop (mkF m 105 #[iv p0, iv v15_3, iv v45_9, iv v63_13, iv v81_17] [(.int (0 : Int32))])) (fun t k => XS.ifYes X18.here hx rfl (pc0 := 92) (pc' := 104) rfl (hb hby d2_92) rfl ((if0 _ _).trans (feq hc92_21).2) (by decide) (by decide) (XS.iconst X18.here hx rfl (hb hby d2_104) k)) ?_
                exact own_out X18 (v := (some (.int (0 : Int32)))) hlk (own_nv Bd.returns) (by rw [e18]; exact (by subst hv15_3 hv45_9 hv63_13 hv81_17; exact ⟨by rw [show (F2 p0) = (0 : Int32) from (by simp only [F2, if_neg hc84_19, if_pos hc88_20, if_neg hc92_21])], N18, rfl⟩)) (by decide) (by decide) (fun fs hr => retN X18 hx (t := .boolean) Bd.returns (by simp) (hb hby d2_105) hr)
            · refine own_step (U' := T18.setTop (mkF m 105 #[iv p0, iv v15_3, iv v45_9, iv v63_13, iv v81_17] [(.int (0 : Int32))])) (fun t k => XS.ifYes X18.here hx rfl (pc0 := 88) (pc' := 104) rfl (hb hby d2_88) rfl ((if0 _ _).trans (feq hc88_20).2) (by decide) (by decide) (XS.iconst X18.here hx rfl (hb hby d2_104) k)) ?_
              exact own_out X18 (v := (some (.int (0 : Int32)))) hlk (own_nv Bd.returns) (by rw [e18]; exact (by subst hv15_3 hv45_9 hv63_13 hv81_17; exact ⟨by rw [show (F2 p0) = (0 : Int32) from (by simp only [F2, if_neg hc84_19, if_neg hc88_20])], N18, rfl⟩)) (by decide) (by decide) (fun fs hr => retN X18 hx (t := .boolean) Bd.returns (by simp) (hb hby d2_105) hr)
        by_cases hc67_23 : p0 = (65534 : Int32)
        · refine own_step (U' := T14.setTop (mkF m 81 #[iv p0, iv v15_3, iv v45_9, iv v63_13, .unset] [(.int (1 : Int32))])) (fun t k => XS.icmpYes X14.here hx rfl (pc0 := 67) (pc' := 76) rfl (hb hby d2_67) rfl (teq hc67_23).1 (by decide) (by decide) (XS.iconst X14.here hx rfl (hb hby d2_76) (XS.goto X14.here hx rfl (pc0 := 77) (pc' := 81) rfl (hb hby d2_77) (by decide) (by decide) k))) ?_
          have q_v81_17 : v81_17 = (1 : Int32) := by rw [hv81_17, if_pos hc67_23]
          rw [q_v81_17] at K81_18
          exact K81_18 _ _ X14 N14 e14
        · refine own_step (U' := T14.setTop (mkF m 73 #[iv p0, iv v15_3, iv v45_9, iv v63_13, .unset] [(.int (65535 : Int32)), (.int p0)])) (fun t k => XS.icmpNo X14.here hx rfl (hb hby d2_67) rfl (feq hc67_23).1 (XS.iloadN X14.here hx rfl (hb hby d2_70) rfl (X14.ldcInt hx hown (mvT hZ (own_w hw 7 rfl)) (g := (mkF m 71 #[iv p0, iv v15_3, iv v45_9, iv v63_13, .unset] [(.int p0)])) rfl (hb hby d2_71) t k))) ?_
          by_cases hc73_24 : p0 = (65535 : Int32)
          · refine own_step (U' := T14.setTop (mkF m 81 #[iv p0, iv v15_3, iv v45_9, iv v63_13, .unset] [(.int (1 : Int32))])) (fun t k => XS.icmpNo X14.here hx rfl (hb hby d2_73) rfl (teq hc73_24).2 (XS.iconst X14.here hx rfl (hb hby d2_76) (XS.goto X14.here hx rfl (pc0 := 77) (pc' := 81) rfl (hb hby d2_77) (by decide) (by decide) k))) ?_
            have q_v81_17 : v81_17 = (1 : Int32) := by rw [hv81_17, if_neg hc67_23, if_pos hc73_24]
            rw [q_v81_17] at K81_18
            exact K81_18 _ _ X14 N14 e14
          · refine own_step (U' := T14.setTop (mkF m 81 #[iv p0, iv v15_3, iv v45_9, iv v63_13, .unset] [(.int (0 : Int32))])) (fun t k => XS.icmpYes X14.here hx rfl (pc0 := 73) (pc' := 80) rfl (hb hby d2_73) rfl (feq hc73_24).2 (by decide) (by decide) (XS.iconst X14.here hx rfl (hb hby d2_80) k)) ?_
            have q_v81_17 : v81_17 = (0 : Int32) := by rw [hv81_17, if_neg hc67_23, if_neg hc73_24]
            rw [q_v81_17] at K81_18
            exact K81_18 _ _ X14 N14 e14
      by_cases hc49_25 : p0 < (55296 : Int32)
      · refine own_step (U' := T10.setTop (mkF m 63 #[iv p0, iv v15_3, iv v45_9, .unset, .unset] [(.int (0 : Int32))])) (fun t k => XS.icmpYes X10.here hx rfl (pc0 := 49) (pc' := 62) rfl (hb hby d2_49) rfl (tlt hc49_25).1 (by decide) (by decide) (XS.iconst X10.here hx rfl (hb hby d2_62) k)) ?_
        have q_v63_13 : v63_13 = (0 : Int32) := by rw [hv63_13, if_pos hc49_25]
        rw [q_v63_13] at K63_14
        exact K63_14 _ _ X10 N10 e10
      · refine own_step (U' := T10.setTop (mkF m 55 #[iv p0, iv v15_3, iv v45_9, .unset, .unset] [(.int (57343 : Int32)), (.int p0)])) (fun t k => XS.icmpNo X10.here hx rfl (hb hby d2_49) rfl (flt hc49_25).1 (XS.iloadN X10.here hx rfl (hb hby d2_52) rfl (X10.ldcInt hx hown (mvT hZ (own_w hw 3 rfl)) (g := (mkF m 53 #[iv p0, iv v15_3, iv v45_9, .unset, .unset] [(.int p0)])) rfl (hb hby d2_53) t k))) ?_
        by_cases hc55_26 : (57343 : Int32) < p0
        · refine own_step (U' := T10.setTop (mkF m 63 #[iv p0, iv v15_3, iv v45_9, .unset, .unset] [(.int (0 : Int32))])) (fun t k => XS.icmpYes X10.here hx rfl (pc0 := 55) (pc' := 62) rfl (hb hby d2_55) rfl (tlt hc55_26).2.2.1 (by decide) (by decide) (XS.iconst X10.here hx rfl (hb hby d2_62) k)) ?_
          have q_v63_13 : v63_13 = (0 : Int32) := by rw [hv63_13, if_neg hc49_25, if_pos hc55_26]
          rw [q_v63_13] at K63_14
          exact K63_14 _ _ X10 N10 e10
        · refine own_step (U' := T10.setTop (mkF m 63 #[iv p0, iv v15_3, iv v45_9, .unset, .unset] [(.int (1 : Int32))])) (fun t k => XS.icmpNo X10.here hx rfl (hb hby d2_55) rfl (flt hc55_26).2.2.1 (XS.iconst X10.here hx rfl (hb hby d2_58) (XS.goto X10.here hx rfl (pc0 := 59) (pc' := 63) rfl (hb hby d2_59) (by decide) (by decide) k))) ?_
          have q_v63_13 : v63_13 = (1 : Int32) := by rw [hv63_13, if_neg hc49_25, if_neg hc55_26]
          rw [q_v63_13] at K63_14
          exact K63_14 _ _ X10 N10 e10
    by_cases hc19_27 : p0 < (32 : Int32)
    · refine own_step (U' := T4.setTop (mkF m 25 #[iv p0, iv v15_3, .unset, .unset, .unset] [(.int (9 : Int32)), (.int p0)])) (fun t k => XS.icmpNo X4.here hx rfl (hb hby d2_19) rfl (tlt hc19_27).2.1 (XS.iloadN X4.here hx rfl (hb hby d2_22) rfl (XS.bipush X4.here hx rfl (hb hby d2_23) k))) ?_
      by_cases hc25_28 : p0 = (9 : Int32)
      · refine own_step (U' := T4.setTop (mkF m 45 #[iv p0, iv v15_3, .unset, .unset, .unset] [(.int (0 : Int32))])) (fun t k => XS.icmpYes X4.here hx rfl (pc0 := 25) (pc' := 44) rfl (hb hby d2_25) rfl (teq hc25_28).1 (by decide) (by decide) (XS.iconst X4.here hx rfl (hb hby d2_44) k)) ?_
        have q_v45_9 : v45_9 = (0 : Int32) := by rw [hv45_9, if_pos hc19_27, if_pos hc25_28]
        rw [q_v45_9] at K45_10
        exact K45_10 _ _ X4 N4 e4
      · refine own_step (U' := T4.setTop (mkF m 31 #[iv p0, iv v15_3, .unset, .unset, .unset] [(.int (10 : Int32)), (.int p0)])) (fun t k => XS.icmpNo X4.here hx rfl (hb hby d2_25) rfl (feq hc25_28).1 (XS.iloadN X4.here hx rfl (hb hby d2_28) rfl (XS.bipush X4.here hx rfl (hb hby d2_29) k))) ?_
        by_cases hc31_29 : p0 = (10 : Int32)
        · refine own_step (U' := T4.setTop (mkF m 45 #[iv p0, iv v15_3, .unset, .unset, .unset] [(.int (0 : Int32))])) (fun t k => XS.icmpYes X4.here hx rfl (pc0 := 31) (pc' := 44) rfl (hb hby d2_31) rfl (teq hc31_29).1 (by decide) (by decide) (XS.iconst X4.here hx rfl (hb hby d2_44) k)) ?_
          have q_v45_9 : v45_9 = (0 : Int32) := by rw [hv45_9, if_pos hc19_27, if_neg hc25_28, if_pos hc31_29]
          rw [q_v45_9] at K45_10
          exact K45_10 _ _ X4 N4 e4
        · refine own_step (U' := T4.setTop (mkF m 37 #[iv p0, iv v15_3, .unset, .unset, .unset] [(.int (13 : Int32)), (.int p0)])) (fun t k => XS.icmpNo X4.here hx rfl (hb hby d2_31) rfl (feq hc31_29).1 (XS.iloadN X4.here hx rfl (hb hby d2_34) rfl (XS.bipush X4.here hx rfl (hb hby d2_35) k))) ?_
          by_cases hc37_30 : p0 = (13 : Int32)
          · refine own_step (U' := T4.setTop (mkF m 45 #[iv p0, iv v15_3, .unset, .unset, .unset] [(.int (0 : Int32))])) (fun t k => XS.icmpYes X4.here hx rfl (pc0 := 37) (pc' := 44) rfl (hb hby d2_37) rfl (teq hc37_30).1 (by decide) (by decide) (XS.iconst X4.here hx rfl (hb hby d2_44) k)) ?_
            have q_v45_9 : v45_9 = (0 : Int32) := by rw [hv45_9, if_pos hc19_27, if_neg hc25_28, if_neg hc31_29, if_pos hc37_30]
            rw [q_v45_9] at K45_10
            exact K45_10 _ _ X4 N4 e4
          · refine own_step (U' := T4.setTop (mkF m 45 #[iv p0, iv v15_3, .unset, .unset, .unset] [(.int (1 : Int32))])) (fun t k => XS.icmpNo X4.here hx rfl (hb hby d2_37) rfl (feq hc37_30).1 (XS.iconst X4.here hx rfl (hb hby d2_40) (XS.goto X4.here hx rfl (pc0 := 41) (pc' := 45) rfl (hb hby d2_41) (by decide) (by decide) k))) ?_
            have q_v45_9 : v45_9 = (1 : Int32) := by rw [hv45_9, if_pos hc19_27, if_neg hc25_28, if_neg hc31_29, if_neg hc37_30]
            rw [q_v45_9] at K45_10
            exact K45_10 _ _ X4 N4 e4
    · refine own_step (U' := T4.setTop (mkF m 45 #[iv p0, iv v15_3, .unset, .unset, .unset] [(.int (0 : Int32))])) (fun t k => XS.icmpYes X4.here hx rfl (pc0 := 19) (pc' := 44) rfl (hb hby d2_19) rfl (flt hc19_27).2.1 (by decide) (by decide) (XS.iconst X4.here hx rfl (hb hby d2_44) k)) ?_
      have q_v45_9 : v45_9 = (0 : Int32) := by rw [hv45_9, if_neg hc19_27]
      rw [q_v45_9] at K45_10
      exact K45_10 _ _ X4 N4 e4
  by_cases hc1_31 : p0 < (0 : Int32)
  · refine own_step (U' := s₁.setTop (mkF m 15 #[iv p0, .unset, .unset, .unset, .unset] [(.int (0 : Int32))])) (fun t k => XS.ifYes X0.here hx rfl (pc0 := 1) (pc' := 14) rfl (hb hby d2_1) rfl ((if0 _ _).trans (tlt hc1_31).1) (by decide) (by decide) (XS.iconst X0.here hx rfl (hb hby d2_14) k)) ?_
    have q_v15_3 : v15_3 = (0 : Int32) := by rw [hv15_3, if_pos hc1_31]
    rw [q_v15_3] at K15_4
    exact K15_4 _ _ X0 N0 e0
  · refine own_step (U' := s₁.setTop (mkF m 7 #[iv p0, .unset, .unset, .unset, .unset] [(.int (1114111 : Int32)), (.int p0)])) (fun t k => XS.ifNo X0.here hx rfl (hb hby d2_1) rfl ((if0 _ _).trans (flt hc1_31).1) (XS.iloadN X0.here hx rfl (hb hby d2_4) rfl (X0.ldcInt hx hown (mvT hZ (own_w hw 9 rfl)) (g := (mkF m 5 #[iv p0, .unset, .unset, .unset, .unset] [(.int p0)])) rfl (hb hby d2_5) t k))) ?_
    by_cases hc7_32 : (1114111 : Int32) < p0
    · refine own_step (U' := s₁.setTop (mkF m 15 #[iv p0, .unset, .unset, .unset, .unset] [(.int (0 : Int32))])) (fun t k => XS.icmpYes X0.here hx rfl (pc0 := 7) (pc' := 14) rfl (hb hby d2_7) rfl (tlt hc7_32).2.2.1 (by decide) (by decide) (XS.iconst X0.here hx rfl (hb hby d2_14) k)) ?_
      have q_v15_3 : v15_3 = (0 : Int32) := by rw [hv15_3, if_neg hc1_31, if_pos hc7_32]
      rw [q_v15_3] at K15_4
      exact K15_4 _ _ X0 N0 e0
    · refine own_step (U' := s₁.setTop (mkF m 15 #[iv p0, .unset, .unset, .unset, .unset] [(.int (1 : Int32))])) (fun t k => XS.icmpNo X0.here hx rfl (hb hby d2_7) rfl (flt hc7_32).2.2.1 (XS.iconst X0.here hx rfl (hb hby d2_10) (XS.goto X0.here hx rfl (pc0 := 11) (pc' := 15) rfl (hb hby d2_11) (by decide) (by decide) k))) ?_
      have q_v15_3 : v15_3 = (1 : Int32) := by rw [hv15_3, if_neg hc1_31, if_neg hc7_32]
      rw [q_v15_3] at K15_4
      exact K15_4 _ _ X0 N0 e0
theorem own_law (p0 : Int32) : F1 p0 = F2 p0 := by
  have r := rng32 p0
  have e0 : (0 : Int32).toInt = 0 := by decide
  have e9 : (9 : Int32).toInt = 9 := by decide
  have e10 : (10 : Int32).toInt = 10 := by decide
  have e13 : (13 : Int32).toInt = 13 := by decide
  have e32 : (32 : Int32).toInt = 32 := by decide
  have e55295 : (55295 : Int32).toInt = 55295 := by decide
  have e55296 : (55296 : Int32).toInt = 55296 := by decide
  have e57343 : (57343 : Int32).toInt = 57343 := by decide
  have e57344 : (57344 : Int32).toInt = 57344 := by decide
  have e65533 : (65533 : Int32).toInt = 65533 := by decide
  have e65534 : (65534 : Int32).toInt = 65534 := by decide
  have e65535 : (65535 : Int32).toInt = 65535 := by decide
  have e65536 : (65536 : Int32).toInt = 65536 := by decide
  have e1114111 : (1114111 : Int32).toInt = 1114111 := by decide
  have cs : (-2147483648 ≤ p0.toInt ∧ p0.toInt < 0) ∨ (0 ≤ p0.toInt ∧ p0.toInt < 9) ∨ (9 ≤ p0.toInt ∧ p0.toInt < 10) ∨ (10 ≤ p0.toInt ∧ p0.toInt < 11) ∨ (11 ≤ p0.toInt ∧ p0.toInt < 13) ∨ (13 ≤ p0.toInt ∧ p0.toInt < 14) ∨ (14 ≤ p0.toInt ∧ p0.toInt < 32) ∨ (32 ≤ p0.toInt ∧ p0.toInt < 55296) ∨ (55296 ≤ p0.toInt ∧ p0.toInt < 57344) ∨ (57344 ≤ p0.toInt ∧ p0.toInt < 65534) ∨ (65534 ≤ p0.toInt ∧ p0.toInt < 65535) ∨ (65535 ≤ p0.toInt ∧ p0.toInt < 65536) ∨ (65536 ≤ p0.toInt ∧ p0.toInt < 1114112) ∨ (1114112 ≤ p0.toInt ∧ p0.toInt < 2147483648) := by omega
  rcases cs with c | c | c | c | c | c | c | c | c | c | c | c | c | c
  · simp only [F1, F2, if_pos (show p0 < (32 : Int32) from (by rw [Int32.lt_iff_toInt_lt]; omega)), if_neg (show ¬ p0 = (9 : Int32) from (by rw [← Int32.toInt_inj]; omega)), if_neg (show ¬ p0 = (10 : Int32) from (by rw [← Int32.toInt_inj]; omega)), if_neg (show ¬ p0 = (13 : Int32) from (by rw [← Int32.toInt_inj]; omega)), if_neg (show ¬ (55295 : Int32) < p0 from (by rw [Int32.lt_iff_toInt_lt]; omega)), if_pos (show p0 < (57344 : Int32) from (by rw [Int32.lt_iff_toInt_lt]; omega)), if_pos (show p0 < (65536 : Int32) from (by rw [Int32.lt_iff_toInt_lt]; omega)), if_neg (show ¬ (1114111 : Int32) < p0 from (by rw [Int32.lt_iff_toInt_lt]; omega)), if_neg (show ¬ (65533 : Int32) < p0 from (by rw [Int32.lt_iff_toInt_lt]; omega)), if_pos (show p0 < (0 : Int32) from (by rw [Int32.lt_iff_toInt_lt]; omega)), if_pos (show p0 < (55296 : Int32) from (by rw [Int32.lt_iff_toInt_lt]; omega)), if_neg (show ¬ (57343 : Int32) < p0 from (by rw [Int32.lt_iff_toInt_lt]; omega)), if_neg (show ¬ p0 = (65534 : Int32) from (by rw [← Int32.toInt_inj]; omega)), if_neg (show ¬ p0 = (65535 : Int32) from (by rw [← Int32.toInt_inj]; omega))]; try decide
  · simp only [F1, F2, if_pos (show p0 < (32 : Int32) from (by rw [Int32.lt_iff_toInt_lt]; omega)), if_neg (show ¬ p0 = (9 : Int32) from (by rw [← Int32.toInt_inj]; omega)), if_neg (show ¬ p0 = (10 : Int32) from (by rw [← Int32.toInt_inj]; omega)), if_neg (show ¬ p0 = (13 : Int32) from (by rw [← Int32.toInt_inj]; omega)), if_neg (show ¬ (55295 : Int32) < p0 from (by rw [Int32.lt_iff_toInt_lt]; omega)), if_pos (show p0 < (57344 : Int32) from (by rw [Int32.lt_iff_toInt_lt]; omega)), if_pos (show p0 < (65536 : Int32) from (by rw [Int32.lt_iff_toInt_lt]; omega)), if_neg (show ¬ (1114111 : Int32) < p0 from (by rw [Int32.lt_iff_toInt_lt]; omega)), if_neg (show ¬ (65533 : Int32) < p0 from (by rw [Int32.lt_iff_toInt_lt]; omega)), if_neg (show ¬ p0 < (0 : Int32) from (by rw [Int32.lt_iff_toInt_lt]; omega)), if_pos (show p0 < (55296 : Int32) from (by rw [Int32.lt_iff_toInt_lt]; omega)), if_neg (show ¬ (57343 : Int32) < p0 from (by rw [Int32.lt_iff_toInt_lt]; omega)), if_neg (show ¬ p0 = (65534 : Int32) from (by rw [← Int32.toInt_inj]; omega)), if_neg (show ¬ p0 = (65535 : Int32) from (by rw [← Int32.toInt_inj]; omega))]; try decide
  · simp only [F1, F2, if_pos (show p0 < (32 : Int32) from (by rw [Int32.lt_iff_toInt_lt]; omega)), if_pos (show p0 = (9 : Int32) from (by rw [← Int32.toInt_inj]; omega)), if_neg (show ¬ p0 = (10 : Int32) from (by rw [← Int32.toInt_inj]; omega)), if_neg (show ¬ p0 = (13 : Int32) from (by rw [← Int32.toInt_inj]; omega)), if_neg (show ¬ (55295 : Int32) < p0 from (by rw [Int32.lt_iff_toInt_lt]; omega)), if_pos (show p0 < (57344 : Int32) from (by rw [Int32.lt_iff_toInt_lt]; omega)), if_pos (show p0 < (65536 : Int32) from (by rw [Int32.lt_iff_toInt_lt]; omega)), if_neg (show ¬ (1114111 : Int32) < p0 from (by rw [Int32.lt_iff_toInt_lt]; omega)), if_neg (show ¬ (65533 : Int32) < p0 from (by rw [Int32.lt_iff_toInt_lt]; omega)), if_neg (show ¬ p0 < (0 : Int32) from (by rw [Int32.lt_iff_toInt_lt]; omega)), if_pos (show p0 < (55296 : Int32) from (by rw [Int32.lt_iff_toInt_lt]; omega)), if_neg (show ¬ (57343 : Int32) < p0 from (by rw [Int32.lt_iff_toInt_lt]; omega)), if_neg (show ¬ p0 = (65534 : Int32) from (by rw [← Int32.toInt_inj]; omega)), if_neg (show ¬ p0 = (65535 : Int32) from (by rw [← Int32.toInt_inj]; omega))]; try decide
  · simp only [F1, F2, if_pos (show p0 < (32 : Int32) from (by rw [Int32.lt_iff_toInt_lt]; omega)), if_neg (show ¬ p0 = (9 : Int32) from (by rw [← Int32.toInt_inj]; omega)), if_pos (show p0 = (10 : Int32) from (by rw [← Int32.toInt_inj]; omega)), if_neg (show ¬ p0 = (13 : Int32) from (by rw [← Int32.toInt_inj]; omega)), if_neg (show ¬ (55295 : Int32) < p0 from (by rw [Int32.lt_iff_toInt_lt]; omega)), if_pos (show p0 < (57344 : Int32) from (by rw [Int32.lt_iff_toInt_lt]; omega)), if_pos (show p0 < (65536 : Int32) from (by rw [Int32.lt_iff_toInt_lt]; omega)), if_neg (show ¬ (1114111 : Int32) < p0 from (by rw [Int32.lt_iff_toInt_lt]; omega)), if_neg (show ¬ (65533 : Int32) < p0 from (by rw [Int32.lt_iff_toInt_lt]; omega)), if_neg (show ¬ p0 < (0 : Int32) from (by rw [Int32.lt_iff_toInt_lt]; omega)), if_pos (show p0 < (55296 : Int32) from (by rw [Int32.lt_iff_toInt_lt]; omega)), if_neg (show ¬ (57343 : Int32) < p0 from (by rw [Int32.lt_iff_toInt_lt]; omega)), if_neg (show ¬ p0 = (65534 : Int32) from (by rw [← Int32.toInt_inj]; omega)), if_neg (show ¬ p0 = (65535 : Int32) from (by rw [← Int32.toInt_inj]; omega))]; try decide
  · simp only [F1, F2, if_pos (show p0 < (32 : Int32) from (by rw [Int32.lt_iff_toInt_lt]; omega)), if_neg (show ¬ p0 = (9 : Int32) from (by rw [← Int32.toInt_inj]; omega)), if_neg (show ¬ p0 = (10 : Int32) from (by rw [← Int32.toInt_inj]; omega)), if_neg (show ¬ p0 = (13 : Int32) from (by rw [← Int32.toInt_inj]; omega)), if_neg (show ¬ (55295 : Int32) < p0 from (by rw [Int32.lt_iff_toInt_lt]; omega)), if_pos (show p0 < (57344 : Int32) from (by rw [Int32.lt_iff_toInt_lt]; omega)), if_pos (show p0 < (65536 : Int32) from (by rw [Int32.lt_iff_toInt_lt]; omega)), if_neg (show ¬ (1114111 : Int32) < p0 from (by rw [Int32.lt_iff_toInt_lt]; omega)), if_neg (show ¬ (65533 : Int32) < p0 from (by rw [Int32.lt_iff_toInt_lt]; omega)), if_neg (show ¬ p0 < (0 : Int32) from (by rw [Int32.lt_iff_toInt_lt]; omega)), if_pos (show p0 < (55296 : Int32) from (by rw [Int32.lt_iff_toInt_lt]; omega)), if_neg (show ¬ (57343 : Int32) < p0 from (by rw [Int32.lt_iff_toInt_lt]; omega)), if_neg (show ¬ p0 = (65534 : Int32) from (by rw [← Int32.toInt_inj]; omega)), if_neg (show ¬ p0 = (65535 : Int32) from (by rw [← Int32.toInt_inj]; omega))]; try decide
  · simp only [F1, F2, if_pos (show p0 < (32 : Int32) from (by rw [Int32.lt_iff_toInt_lt]; omega)), if_neg (show ¬ p0 = (9 : Int32) from (by rw [← Int32.toInt_inj]; omega)), if_neg (show ¬ p0 = (10 : Int32) from (by rw [← Int32.toInt_inj]; omega)), if_pos (show p0 = (13 : Int32) from (by rw [← Int32.toInt_inj]; omega)), if_neg (show ¬ (55295 : Int32) < p0 from (by rw [Int32.lt_iff_toInt_lt]; omega)), if_pos (show p0 < (57344 : Int32) from (by rw [Int32.lt_iff_toInt_lt]; omega)), if_pos (show p0 < (65536 : Int32) from (by rw [Int32.lt_iff_toInt_lt]; omega)), if_neg (show ¬ (1114111 : Int32) < p0 from (by rw [Int32.lt_iff_toInt_lt]; omega)), if_neg (show ¬ (65533 : Int32) < p0 from (by rw [Int32.lt_iff_toInt_lt]; omega)), if_neg (show ¬ p0 < (0 : Int32) from (by rw [Int32.lt_iff_toInt_lt]; omega)), if_pos (show p0 < (55296 : Int32) from (by rw [Int32.lt_iff_toInt_lt]; omega)), if_neg (show ¬ (57343 : Int32) < p0 from (by rw [Int32.lt_iff_toInt_lt]; omega)), if_neg (show ¬ p0 = (65534 : Int32) from (by rw [← Int32.toInt_inj]; omega)), if_neg (show ¬ p0 = (65535 : Int32) from (by rw [← Int32.toInt_inj]; omega))]; try decide
  · simp only [F1, F2, if_pos (show p0 < (32 : Int32) from (by rw [Int32.lt_iff_toInt_lt]; omega)), if_neg (show ¬ p0 = (9 : Int32) from (by rw [← Int32.toInt_inj]; omega)), if_neg (show ¬ p0 = (10 : Int32) from (by rw [← Int32.toInt_inj]; omega)), if_neg (show ¬ p0 = (13 : Int32) from (by rw [← Int32.toInt_inj]; omega)), if_neg (show ¬ (55295 : Int32) < p0 from (by rw [Int32.lt_iff_toInt_lt]; omega)), if_pos (show p0 < (57344 : Int32) from (by rw [Int32.lt_iff_toInt_lt]; omega)), if_pos (show p0 < (65536 : Int32) from (by rw [Int32.lt_iff_toInt_lt]; omega)), if_neg (show ¬ (1114111 : Int32) < p0 from (by rw [Int32.lt_iff_toInt_lt]; omega)), if_neg (show ¬ (65533 : Int32) < p0 from (by rw [Int32.lt_iff_toInt_lt]; omega)), if_neg (show ¬ p0 < (0 : Int32) from (by rw [Int32.lt_iff_toInt_lt]; omega)), if_pos (show p0 < (55296 : Int32) from (by rw [Int32.lt_iff_toInt_lt]; omega)), if_neg (show ¬ (57343 : Int32) < p0 from (by rw [Int32.lt_iff_toInt_lt]; omega)), if_neg (show ¬ p0 = (65534 : Int32) from (by rw [← Int32.toInt_inj]; omega)), if_neg (show ¬ p0 = (65535 : Int32) from (by rw [← Int32.toInt_inj]; omega))]; try decide
  · simp only [F1, F2, if_neg (show ¬ p0 < (32 : Int32) from (by rw [Int32.lt_iff_toInt_lt]; omega)), if_neg (show ¬ p0 = (9 : Int32) from (by rw [← Int32.toInt_inj]; omega)), if_neg (show ¬ p0 = (10 : Int32) from (by rw [← Int32.toInt_inj]; omega)), if_neg (show ¬ p0 = (13 : Int32) from (by rw [← Int32.toInt_inj]; omega)), if_neg (show ¬ (55295 : Int32) < p0 from (by rw [Int32.lt_iff_toInt_lt]; omega)), if_pos (show p0 < (57344 : Int32) from (by rw [Int32.lt_iff_toInt_lt]; omega)), if_pos (show p0 < (65536 : Int32) from (by rw [Int32.lt_iff_toInt_lt]; omega)), if_neg (show ¬ (1114111 : Int32) < p0 from (by rw [Int32.lt_iff_toInt_lt]; omega)), if_neg (show ¬ (65533 : Int32) < p0 from (by rw [Int32.lt_iff_toInt_lt]; omega)), if_neg (show ¬ p0 < (0 : Int32) from (by rw [Int32.lt_iff_toInt_lt]; omega)), if_pos (show p0 < (55296 : Int32) from (by rw [Int32.lt_iff_toInt_lt]; omega)), if_neg (show ¬ (57343 : Int32) < p0 from (by rw [Int32.lt_iff_toInt_lt]; omega)), if_neg (show ¬ p0 = (65534 : Int32) from (by rw [← Int32.toInt_inj]; omega)), if_neg (show ¬ p0 = (65535 : Int32) from (by rw [← Int32.toInt_inj]; omega))]; try decide
  · simp only [F1, F2, if_neg (show ¬ p0 < (32 : Int32) from (by rw [Int32.lt_iff_toInt_lt]; omega)), if_neg (show ¬ p0 = (9 : Int32) from (by rw [← Int32.toInt_inj]; omega)), if_neg (show ¬ p0 = (10 : Int32) from (by rw [← Int32.toInt_inj]; omega)), if_neg (show ¬ p0 = (13 : Int32) from (by rw [← Int32.toInt_inj]; omega)), if_pos (show (55295 : Int32) < p0 from (by rw [Int32.lt_iff_toInt_lt]; omega)), if_pos (show p0 < (57344 : Int32) from (by rw [Int32.lt_iff_toInt_lt]; omega)), if_pos (show p0 < (65536 : Int32) from (by rw [Int32.lt_iff_toInt_lt]; omega)), if_neg (show ¬ (1114111 : Int32) < p0 from (by rw [Int32.lt_iff_toInt_lt]; omega)), if_neg (show ¬ (65533 : Int32) < p0 from (by rw [Int32.lt_iff_toInt_lt]; omega)), if_neg (show ¬ p0 < (0 : Int32) from (by rw [Int32.lt_iff_toInt_lt]; omega)), if_neg (show ¬ p0 < (55296 : Int32) from (by rw [Int32.lt_iff_toInt_lt]; omega)), if_neg (show ¬ (57343 : Int32) < p0 from (by rw [Int32.lt_iff_toInt_lt]; omega)), if_neg (show ¬ p0 = (65534 : Int32) from (by rw [← Int32.toInt_inj]; omega)), if_neg (show ¬ p0 = (65535 : Int32) from (by rw [← Int32.toInt_inj]; omega))]; try decide
  · simp only [F1, F2, if_neg (show ¬ p0 < (32 : Int32) from (by rw [Int32.lt_iff_toInt_lt]; omega)), if_neg (show ¬ p0 = (9 : Int32) from (by rw [← Int32.toInt_inj]; omega)), if_neg (show ¬ p0 = (10 : Int32) from (by rw [← Int32.toInt_inj]; omega)), if_neg (show ¬ p0 = (13 : Int32) from (by rw [← Int32.toInt_inj]; omega)), if_pos (show (55295 : Int32) < p0 from (by rw [Int32.lt_iff_toInt_lt]; omega)), if_neg (show ¬ p0 < (57344 : Int32) from (by rw [Int32.lt_iff_toInt_lt]; omega)), if_pos (show p0 < (65536 : Int32) from (by rw [Int32.lt_iff_toInt_lt]; omega)), if_neg (show ¬ (1114111 : Int32) < p0 from (by rw [Int32.lt_iff_toInt_lt]; omega)), if_neg (show ¬ (65533 : Int32) < p0 from (by rw [Int32.lt_iff_toInt_lt]; omega)), if_neg (show ¬ p0 < (0 : Int32) from (by rw [Int32.lt_iff_toInt_lt]; omega)), if_neg (show ¬ p0 < (55296 : Int32) from (by rw [Int32.lt_iff_toInt_lt]; omega)), if_pos (show (57343 : Int32) < p0 from (by rw [Int32.lt_iff_toInt_lt]; omega)), if_neg (show ¬ p0 = (65534 : Int32) from (by rw [← Int32.toInt_inj]; omega)), if_neg (show ¬ p0 = (65535 : Int32) from (by rw [← Int32.toInt_inj]; omega))]; try decide
  · simp only [F1, F2, if_neg (show ¬ p0 < (32 : Int32) from (by rw [Int32.lt_iff_toInt_lt]; omega)), if_neg (show ¬ p0 = (9 : Int32) from (by rw [← Int32.toInt_inj]; omega)), if_neg (show ¬ p0 = (10 : Int32) from (by rw [← Int32.toInt_inj]; omega)), if_neg (show ¬ p0 = (13 : Int32) from (by rw [← Int32.toInt_inj]; omega)), if_pos (show (55295 : Int32) < p0 from (by rw [Int32.lt_iff_toInt_lt]; omega)), if_neg (show ¬ p0 < (57344 : Int32) from (by rw [Int32.lt_iff_toInt_lt]; omega)), if_pos (show p0 < (65536 : Int32) from (by rw [Int32.lt_iff_toInt_lt]; omega)), if_neg (show ¬ (1114111 : Int32) < p0 from (by rw [Int32.lt_iff_toInt_lt]; omega)), if_pos (show (65533 : Int32) < p0 from (by rw [Int32.lt_iff_toInt_lt]; omega)), if_neg (show ¬ p0 < (0 : Int32) from (by rw [Int32.lt_iff_toInt_lt]; omega)), if_neg (show ¬ p0 < (55296 : Int32) from (by rw [Int32.lt_iff_toInt_lt]; omega)), if_pos (show (57343 : Int32) < p0 from (by rw [Int32.lt_iff_toInt_lt]; omega)), if_pos (show p0 = (65534 : Int32) from (by rw [← Int32.toInt_inj]; omega)), if_neg (show ¬ p0 = (65535 : Int32) from (by rw [← Int32.toInt_inj]; omega))]; try decide
  · simp only [F1, F2, if_neg (show ¬ p0 < (32 : Int32) from (by rw [Int32.lt_iff_toInt_lt]; omega)), if_neg (show ¬ p0 = (9 : Int32) from (by rw [← Int32.toInt_inj]; omega)), if_neg (show ¬ p0 = (10 : Int32) from (by rw [← Int32.toInt_inj]; omega)), if_neg (show ¬ p0 = (13 : Int32) from (by rw [← Int32.toInt_inj]; omega)), if_pos (show (55295 : Int32) < p0 from (by rw [Int32.lt_iff_toInt_lt]; omega)), if_neg (show ¬ p0 < (57344 : Int32) from (by rw [Int32.lt_iff_toInt_lt]; omega)), if_pos (show p0 < (65536 : Int32) from (by rw [Int32.lt_iff_toInt_lt]; omega)), if_neg (show ¬ (1114111 : Int32) < p0 from (by rw [Int32.lt_iff_toInt_lt]; omega)), if_pos (show (65533 : Int32) < p0 from (by rw [Int32.lt_iff_toInt_lt]; omega)), if_neg (show ¬ p0 < (0 : Int32) from (by rw [Int32.lt_iff_toInt_lt]; omega)), if_neg (show ¬ p0 < (55296 : Int32) from (by rw [Int32.lt_iff_toInt_lt]; omega)), if_pos (show (57343 : Int32) < p0 from (by rw [Int32.lt_iff_toInt_lt]; omega)), if_neg (show ¬ p0 = (65534 : Int32) from (by rw [← Int32.toInt_inj]; omega)), if_pos (show p0 = (65535 : Int32) from (by rw [← Int32.toInt_inj]; omega))]; try decide
  · simp only [F1, F2, if_neg (show ¬ p0 < (32 : Int32) from (by rw [Int32.lt_iff_toInt_lt]; omega)), if_neg (show ¬ p0 = (9 : Int32) from (by rw [← Int32.toInt_inj]; omega)), if_neg (show ¬ p0 = (10 : Int32) from (by rw [← Int32.toInt_inj]; omega)), if_neg (show ¬ p0 = (13 : Int32) from (by rw [← Int32.toInt_inj]; omega)), if_pos (show (55295 : Int32) < p0 from (by rw [Int32.lt_iff_toInt_lt]; omega)), if_neg (show ¬ p0 < (57344 : Int32) from (by rw [Int32.lt_iff_toInt_lt]; omega)), if_neg (show ¬ p0 < (65536 : Int32) from (by rw [Int32.lt_iff_toInt_lt]; omega)), if_neg (show ¬ (1114111 : Int32) < p0 from (by rw [Int32.lt_iff_toInt_lt]; omega)), if_pos (show (65533 : Int32) < p0 from (by rw [Int32.lt_iff_toInt_lt]; omega)), if_neg (show ¬ p0 < (0 : Int32) from (by rw [Int32.lt_iff_toInt_lt]; omega)), if_neg (show ¬ p0 < (55296 : Int32) from (by rw [Int32.lt_iff_toInt_lt]; omega)), if_pos (show (57343 : Int32) < p0 from (by rw [Int32.lt_iff_toInt_lt]; omega)), if_neg (show ¬ p0 = (65534 : Int32) from (by rw [← Int32.toInt_inj]; omega)), if_neg (show ¬ p0 = (65535 : Int32) from (by rw [← Int32.toInt_inj]; omega))]; try decide
  · simp only [F1, F2, if_neg (show ¬ p0 < (32 : Int32) from (by rw [Int32.lt_iff_toInt_lt]; omega)), if_neg (show ¬ p0 = (9 : Int32) from (by rw [← Int32.toInt_inj]; omega)), if_neg (show ¬ p0 = (10 : Int32) from (by rw [← Int32.toInt_inj]; omega)), if_neg (show ¬ p0 = (13 : Int32) from (by rw [← Int32.toInt_inj]; omega)), if_pos (show (55295 : Int32) < p0 from (by rw [Int32.lt_iff_toInt_lt]; omega)), if_neg (show ¬ p0 < (57344 : Int32) from (by rw [Int32.lt_iff_toInt_lt]; omega)), if_neg (show ¬ p0 < (65536 : Int32) from (by rw [Int32.lt_iff_toInt_lt]; omega)), if_pos (show (1114111 : Int32) < p0 from (by rw [Int32.lt_iff_toInt_lt]; omega)), if_pos (show (65533 : Int32) < p0 from (by rw [Int32.lt_iff_toInt_lt]; omega)), if_neg (show ¬ p0 < (0 : Int32) from (by rw [Int32.lt_iff_toInt_lt]; omega)), if_neg (show ¬ p0 < (55296 : Int32) from (by rw [Int32.lt_iff_toInt_lt]; omega)), if_pos (show (57343 : Int32) < p0 from (by rw [Int32.lt_iff_toInt_lt]; omega)), if_neg (show ¬ p0 = (65534 : Int32) from (by rw [← Int32.toInt_inj]; omega)), if_neg (show ¬ p0 = (65535 : Int32) from (by rw [← Int32.toInt_inj]; omega))]; try decide

theorem own_idx (y : Int32) : ¬ (((y.toUInt32 >>> ((1 : Int32) &&& 31).toUInt32).toInt32) % (18 : Int32)) < 0 ∧ (((y.toUInt32 >>> ((1 : Int32) &&& 31).toUInt32).toInt32) % (18 : Int32)) < (18 : Int32) := by
  have h := c_iushr y 1 1 (by decide) (by decide)
  have k0 : (0 : Int32).toInt = 0 := by decide
  have k18 : (18 : Int32).toInt = 18 := by decide
  have q := (c_irem ((y.toUInt32 >>> ((1 : Int32) &&& 31).toUInt32).toInt32) 18 18 k18).1 (by omega)
  rw [Int32.lt_iff_toInt_lt, Int32.lt_iff_toInt_lt, q, k0, k18]
  omega
theorem own_at (k : Nat) : ∃ w : Int32, ([(.int (0 : Int32)), (.int (9 : Int32)), (.int (10 : Int32)), (.int (13 : Int32)), (.int (31 : Int32)), (.int (32 : Int32)), (.int (55295 : Int32)), (.int (55296 : Int32)), (.int (57343 : Int32)), (.int (57344 : Int32)), (.int (65533 : Int32)), (.int (65534 : Int32)), (.int (65535 : Int32)), (.int (65536 : Int32)), (.int (1114111 : Int32)), (.int (1114112 : Int32)), (.int (-2147483648 : Int32)), (.int (2147483647 : Int32))] : List Value).getD k (.int (0 : Int32)) = .int w := by
  match k with
  | 0 => exact ⟨_, rfl⟩
  | 1 => exact ⟨_, rfl⟩
  | 2 => exact ⟨_, rfl⟩
  | 3 => exact ⟨_, rfl⟩
  | 4 => exact ⟨_, rfl⟩
  | 5 => exact ⟨_, rfl⟩
  | 6 => exact ⟨_, rfl⟩
  | 7 => exact ⟨_, rfl⟩
  | 8 => exact ⟨_, rfl⟩
  | 9 => exact ⟨_, rfl⟩
  | 10 => exact ⟨_, rfl⟩
  | 11 => exact ⟨_, rfl⟩
  | 12 => exact ⟨_, rfl⟩
  | 13 => exact ⟨_, rfl⟩
  | 14 => exact ⟨_, rfl⟩
  | 15 => exact ⟨_, rfl⟩
  | 16 => exact ⟨_, rfl⟩
  | 17 => exact ⟨_, rfl⟩
  | n + 18 => exact ⟨0, rfl⟩

theorem pn_0 : plainName "com/example/palisade/palisade/xml/XmlCursorIsCharacterPinLaw" = true := by first | (simp [plainName, overriddenIn]; done) | decide +kernel
theorem ef_0 (m : MethodId) (p0 : Int32) (p1 : Int32) : entryFrame m #[(.int p0), (.int p1)] maxLocals = mkF m 0 #[iv p0, iv p1, .unset, .unset, .unset] [] := by first | (simp [entryFrame, mkF, argsToLocals, Value.category, maxLocals]; done) | rfl
def Q0 (Z : State) (p0 : Int32) (p1 : Int32) (h0 : Heap) (n0 : Nat) (v : Option Value) (h : Heap) (L : List Loc) : Prop := v = some (.int 1) ∧ Fr n0 L
set_option maxRecDepth 65536 in
set_option maxHeartbeats 40000000 in
theorem rm0 (l : Launch) (Z : State) (a0 : Array Value) (hw : ∀ d ∈ tables_1, d.before a0 Z = true) (ws : List Jvm.Cond) (p0 : Int32) (p1 : Int32) (h0 : Heap) (n0 : Nat) (Z0 : n0 ≤ h0.size) :
    MetFree l x (head1 (Jvm.Cond.code x code maxLocals ret :: ws) room_1) (fun a U => a = #[(.int p0), (.int p1)] ∧ Z.Warmed39 U.vm ∧ U.heap = h0) (fun _ _ _ _ _ => True) (fun _ U o U' => ∃ v L, o = .returned v ∧ Q0 Z p0 p1 h0 n0 v U'.heap L ∧ FrameEnd U o U' L 16 128) := by
  refine MetFree.of_bodySF (plainFor_of_name pn_0) hisR ?_
  intro p e s m args below meth c s₁ Bd hml0 hP hK
  obtain ⟨rfl, hZ, hh⟩ := hP
  have hx := Bd.exec
  have hby := Bd.bytes
  have hml : c.maxLocals = 5 := hml0
  have hown : s.vm.findClass "com/example/palisade/palisade/xml/XmlCursorIsCharacterPinLaw" = some m.cls := findClass_of_methodNamed Bd.named
  have hnm := (name_of_methodNamed Bd.named Bd.method).1
  have hlk : meth.locks = false := Bd.notSynchronized
  have X0 : Stand p l e room_1 s m #[(.int p0), (.int p1)] below meth c s₁ [] 0 0 := Stand.of_body Bd
  have e0 : s₁.heap = h0 := by rw [← hh, Bd.state]; rfl
  have N0 := Fr.nil n0
  have KK0 := Keep.refl h0 []
  show own_Go p.tables e below s 16 128 (Q0 Z p0 p1 h0 n0) (s₁.setTop (entryFrame m #[(.int p0), (.int p1)] maxLocals))
  rw [ef_0]
  refine own_step (U' := s₁.setTop (mkF m 2 #[iv p0, iv p1, .unset, .unset, .unset] [(.int (18 : Int32))])) (fun t k => XS.bipush X0.here hx rfl (hb hby at_0) k) ?_
  obtain ⟨T1, h1, k1, X1, e1, E1, A1, st1⟩ := newP X0 hx hZ (own_w hw 0 rfl) e0 (g := (mkF m 2 #[iv p0, iv p1, .unset, .unset, .unset] [(.int (18 : Int32))])) rfl (hb hby at_2) rfl (by decide) (cap := 18) (by decide) (by decide) (by decide) (by decide)
  obtain ⟨b1, g1⟩ : ∃ z, z = h0.size := ⟨_, rfl⟩
  have ge_b1 : n0 ≤ b1 := Nat.le_trans Z0 (Nat.le_of_eq g1.symm)
  have sz_b1 : h0.size ≤ b1 := Nat.le_trans KK0.1 (Nat.le_of_eq g1.symm)
  rw [← g1] at A1 st1
  have V_b1 : Arv Z h1 b1 k1 .int (18 : Int32) [(.int (0 : Int32)), (.int (0 : Int32)), (.int (0 : Int32)), (.int (0 : Int32)), (.int (0 : Int32)), (.int (0 : Int32)), (.int (0 : Int32)), (.int (0 : Int32)), (.int (0 : Int32)), (.int (0 : Int32)), (.int (0 : Int32)), (.int (0 : Int32)), (.int (0 : Int32)), (.int (0 : Int32)), (.int (0 : Int32)), (.int (0 : Int32)), (.int (0 : Int32)), (.int (0 : Int32))] (.int (0 : Int32)) := (Arv.new A1 (by decide)).pad (pad_rep [] (.int (0 : Int32)) 18)
  have Z1 : n0 ≤ h1.size := Nat.le_trans Z0 E1.1
  have KK1 := KK0.ext E1
  refine own_step (U' := T1.setTop (mkF m 4 #[iv p0, iv p1, .unset, .unset, .unset] [(.ref b1)])) st1 ?_
  refine own_step (U' := T1.setTop (mkF m 7 #[iv p0, iv p1, .unset, .unset, .unset] [(.int (0 : Int32)), (.int (0 : Int32)), (.ref b1), (.ref b1)])) (fun t k => XS.dup X1.here hx rfl (hb hby at_4) rfl rfl (XS.iconst X1.here hx rfl (hb hby at_5) (XS.iconst X1.here hx rfl (hb hby at_6) k))) ?_
  obtain ⟨cl2, Ar2, aq2, aS2, aN2, aH2, aG2⟩ := id V_b1
  have hin2 : ¬ ((0 : Int32) < 0 ∨ cl2.slots.size ≤ ((0 : Int32)).toNatClampNeg) := inb_of aS2 ⟨by decide, by decide⟩
  obtain ⟨T2, h2, X2, e2, W2, st2⟩ := stI X1 hx hZ e1 Ar2 (j := (0 : Int32)) hin2 (g := (mkF m 7 #[iv p0, iv p1, .unset, .unset, .unset] [(.int (0 : Int32)), (.int (0 : Int32)), (.ref b1), (.ref b1)])) rfl rfl (hb hby at_7)
  have V_b1_2 : Arv Z h2 b1 k1 .int (18 : Int32) [(.int (0 : Int32)), (.int (0 : Int32)), (.int (0 : Int32)), (.int (0 : Int32)), (.int (0 : Int32)), (.int (0 : Int32)), (.int (0 : Int32)), (.int (0 : Int32)), (.int (0 : Int32)), (.int (0 : Int32)), (.int (0 : Int32)), (.int (0 : Int32)), (.int (0 : Int32)), (.int (0 : Int32)), (.int (0 : Int32)), (.int (0 : Int32)), (.int (0 : Int32)), (.int (0 : Int32))] (.int (0 : Int32)) := Arv.set Ar2 aq2 aS2 aN2 aH2 aG2 rfl W2 0 rfl (Nat.le_of_ble_eq_true rfl)
  have Z2 : n0 ≤ h2.size := Nat.le_trans Z1 (Keep.of_wr W2).1
  have KK2 := KK1.wr W2 (Or.inr sz_b1)
  have N2 := Fr.snoc X2 N0 ge_b1
  refine own_step (U' := T2.setTop (mkF m 8 #[iv p0, iv p1, .unset, .unset, .unset] [(.ref b1)])) st2 ?_
  refine own_step (U' := T2.setTop (mkF m 12 #[iv p0, iv p1, .unset, .unset, .unset] [(.int (9 : Int32)), (.int (1 : Int32)), (.ref b1), (.ref b1)])) (fun t k => XS.dup X2.here hx rfl (hb hby at_8) rfl rfl (XS.iconst X2.here hx rfl (hb hby at_9) (XS.bipush X2.here hx rfl (hb hby at_10) k))) ?_
  obtain ⟨cl3, Ar3, aq3, aS3, aN3, aH3, aG3⟩ := id V_b1_2
  have hin3 : ¬ ((1 : Int32) < 0 ∨ cl3.slots.size ≤ ((1 : Int32)).toNatClampNeg) := inb_of aS3 ⟨by decide, by decide⟩
  obtain ⟨T3, h3, X3, e3, W3, st3⟩ := stI X2 hx hZ e2 Ar3 (j := (1 : Int32)) hin3 (g := (mkF m 12 #[iv p0, iv p1, .unset, .unset, .unset] [(.int (9 : Int32)), (.int (1 : Int32)), (.ref b1), (.ref b1)])) rfl rfl (hb hby at_12)
  have V_b1_3 : Arv Z h3 b1 k1 .int (18 : Int32) [(.int (0 : Int32)), (.int (9 : Int32)), (.int (0 : Int32)), (.int (0 : Int32)), (.int (0 : Int32)), (.int (0 : Int32)), (.int (0 : Int32)), (.int (0 : Int32)), (.int (0 : Int32)), (.int (0 : Int32)), (.int (0 : Int32)), (.int (0 : Int32)), (.int (0 : Int32)), (.int (0 : Int32)), (.int (0 : Int32)), (.int (0 : Int32)), (.int (0 : Int32)), (.int (0 : Int32))] (.int (0 : Int32)) := Arv.set Ar3 aq3 aS3 aN3 aH3 aG3 rfl W3 1 rfl (Nat.le_of_ble_eq_true rfl)
  have Z3 : n0 ≤ h3.size := Nat.le_trans Z2 (Keep.of_wr W3).1
  have KK3 := KK2.wr W3 (Or.inr sz_b1)
  have N3 := Fr.snoc X3 N2 ge_b1
  refine own_step (U' := T3.setTop (mkF m 13 #[iv p0, iv p1, .unset, .unset, .unset] [(.ref b1)])) st3 ?_
  refine own_step (U' := T3.setTop (mkF m 17 #[iv p0, iv p1, .unset, .unset, .unset] [(.int (10 : Int32)), (.int (2 : Int32)), (.ref b1), (.ref b1)])) (fun t k => XS.dup X3.here hx rfl (hb hby at_13) rfl rfl (XS.iconst X3.here hx rfl (hb hby at_14) (XS.bipush X3.here hx rfl (hb hby at_15) k))) ?_
  obtain ⟨cl4, Ar4, aq4, aS4, aN4, aH4, aG4⟩ := id V_b1_3
  have hin4 : ¬ ((2 : Int32) < 0 ∨ cl4.slots.size ≤ ((2 : Int32)).toNatClampNeg) := inb_of aS4 ⟨by decide, by decide⟩
  obtain ⟨T4, h4, X4, e4, W4, st4⟩ := stI X3 hx hZ e3 Ar4 (j := (2 : Int32)) hin4 (g := (mkF m 17 #[iv p0, iv p1, .unset, .unset, .unset] [(.int (10 : Int32)), (.int (2 : Int32)), (.ref b1), (.ref b1)])) rfl rfl (hb hby at_17)
  have V_b1_4 : Arv Z h4 b1 k1 .int (18 : Int32) [(.int (0 : Int32)), (.int (9 : Int32)), (.int (10 : Int32)), (.int (0 : Int32)), (.int (0 : Int32)), (.int (0 : Int32)), (.int (0 : Int32)), (.int (0 : Int32)), (.int (0 : Int32)), (.int (0 : Int32)), (.int (0 : Int32)), (.int (0 : Int32)), (.int (0 : Int32)), (.int (0 : Int32)), (.int (0 : Int32)), (.int (0 : Int32)), (.int (0 : Int32)), (.int (0 : Int32))] (.int (0 : Int32)) := Arv.set Ar4 aq4 aS4 aN4 aH4 aG4 rfl W4 2 rfl (Nat.le_of_ble_eq_true rfl)
  have Z4 : n0 ≤ h4.size := Nat.le_trans Z3 (Keep.of_wr W4).1
  have KK4 := KK3.wr W4 (Or.inr sz_b1)
  have N4 := Fr.snoc X4 N3 ge_b1
  refine own_step (U' := T4.setTop (mkF m 18 #[iv p0, iv p1, .unset, .unset, .unset] [(.ref b1)])) st4 ?_
  refine own_step (U' := T4.setTop (mkF m 22 #[iv p0, iv p1, .unset, .unset, .unset] [(.int (13 : Int32)), (.int (3 : Int32)), (.ref b1), (.ref b1)])) (fun t k => XS.dup X4.here hx rfl (hb hby at_18) rfl rfl (XS.iconst X4.here hx rfl (hb hby at_19) (XS.bipush X4.here hx rfl (hb hby at_20) k))) ?_
  obtain ⟨cl5, Ar5, aq5, aS5, aN5, aH5, aG5⟩ := id V_b1_4
  have hin5 : ¬ ((3 : Int32) < 0 ∨ cl5.slots.size ≤ ((3 : Int32)).toNatClampNeg) := inb_of aS5 ⟨by decide, by decide⟩
  obtain ⟨T5, h5, X5, e5, W5, st5⟩ := stI X4 hx hZ e4 Ar5 (j := (3 : Int32)) hin5 (g := (mkF m 22 #[iv p0, iv p1, .unset, .unset, .unset] [(.int (13 : Int32)), (.int (3 : Int32)), (.ref b1), (.ref b1)])) rfl rfl (hb hby at_22)
  have V_b1_5 : Arv Z h5 b1 k1 .int (18 : Int32) [(.int (0 : Int32)), (.int (9 : Int32)), (.int (10 : Int32)), (.int (13 : Int32)), (.int (0 : Int32)), (.int (0 : Int32)), (.int (0 : Int32)), (.int (0 : Int32)), (.int (0 : Int32)), (.int (0 : Int32)), (.int (0 : Int32)), (.int (0 : Int32)), (.int (0 : Int32)), (.int (0 : Int32)), (.int (0 : Int32)), (.int (0 : Int32)), (.int (0 : Int32)), (.int (0 : Int32))] (.int (0 : Int32)) := Arv.set Ar5 aq5 aS5 aN5 aH5 aG5 rfl W5 3 rfl (Nat.le_of_ble_eq_true rfl)
  have Z5 : n0 ≤ h5.size := Nat.le_trans Z4 (Keep.of_wr W5).1
  have KK5 := KK4.wr W5 (Or.inr sz_b1)
  have N5 := Fr.snoc X5 N4 ge_b1
  refine own_step (U' := T5.setTop (mkF m 23 #[iv p0, iv p1, .unset, .unset, .unset] [(.ref b1)])) st5 ?_
  refine own_step (U' := T5.setTop (mkF m 27 #[iv p0, iv p1, .unset, .unset, .unset] [(.int (31 : Int32)), (.int (4 : Int32)), (.ref b1), (.ref b1)])) (fun t k => XS.dup X5.here hx rfl (hb hby at_23) rfl rfl (XS.iconst X5.here hx rfl (hb hby at_24) (XS.bipush X5.here hx rfl (hb hby at_25) k))) ?_
  obtain ⟨cl6, Ar6, aq6, aS6, aN6, aH6, aG6⟩ := id V_b1_5
  have hin6 : ¬ ((4 : Int32) < 0 ∨ cl6.slots.size ≤ ((4 : Int32)).toNatClampNeg) := inb_of aS6 ⟨by decide, by decide⟩
  obtain ⟨T6, h6, X6, e6, W6, st6⟩ := stI X5 hx hZ e5 Ar6 (j := (4 : Int32)) hin6 (g := (mkF m 27 #[iv p0, iv p1, .unset, .unset, .unset] [(.int (31 : Int32)), (.int (4 : Int32)), (.ref b1), (.ref b1)])) rfl rfl (hb hby at_27)
  have V_b1_6 : Arv Z h6 b1 k1 .int (18 : Int32) [(.int (0 : Int32)), (.int (9 : Int32)), (.int (10 : Int32)), (.int (13 : Int32)), (.int (31 : Int32)), (.int (0 : Int32)), (.int (0 : Int32)), (.int (0 : Int32)), (.int (0 : Int32)), (.int (0 : Int32)), (.int (0 : Int32)), (.int (0 : Int32)), (.int (0 : Int32)), (.int (0 : Int32)), (.int (0 : Int32)), (.int (0 : Int32)), (.int (0 : Int32)), (.int (0 : Int32))] (.int (0 : Int32)) := Arv.set Ar6 aq6 aS6 aN6 aH6 aG6 rfl W6 4 rfl (Nat.le_of_ble_eq_true rfl)
  have Z6 : n0 ≤ h6.size := Nat.le_trans Z5 (Keep.of_wr W6).1
  have KK6 := KK5.wr W6 (Or.inr sz_b1)
  have N6 := Fr.snoc X6 N5 ge_b1
  refine own_step (U' := T6.setTop (mkF m 28 #[iv p0, iv p1, .unset, .unset, .unset] [(.ref b1)])) st6 ?_
  refine own_step (U' := T6.setTop (mkF m 32 #[iv p0, iv p1, .unset, .unset, .unset] [(.int (32 : Int32)), (.int (5 : Int32)), (.ref b1), (.ref b1)])) (fun t k => XS.dup X6.here hx rfl (hb hby at_28) rfl rfl (XS.iconst X6.here hx rfl (hb hby at_29) (XS.bipush X6.here hx rfl (hb hby at_30) k))) ?_
  obtain ⟨cl7, Ar7, aq7, aS7, aN7, aH7, aG7⟩ := id V_b1_6
  have hin7 : ¬ ((5 : Int32) < 0 ∨ cl7.slots.size ≤ ((5 : Int32)).toNatClampNeg) := inb_of aS7 ⟨by decide, by decide⟩
  obtain ⟨T7, h7, X7, e7, W7, st7⟩ := stI X6 hx hZ e6 Ar7 (j := (5 : Int32)) hin7 (g := (mkF m 32 #[iv p0, iv p1, .unset, .unset, .unset] [(.int (32 : Int32)), (.int (5 : Int32)), (.ref b1), (.ref b1)])) rfl rfl (hb hby at_32)
  have V_b1_7 : Arv Z h7 b1 k1 .int (18 : Int32) [(.int (0 : Int32)), (.int (9 : Int32)), (.int (10 : Int32)), (.int (13 : Int32)), (.int (31 : Int32)), (.int (32 : Int32)), (.int (0 : Int32)), (.int (0 : Int32)), (.int (0 : Int32)), (.int (0 : Int32)), (.int (0 : Int32)), (.int (0 : Int32)), (.int (0 : Int32)), (.int (0 : Int32)), (.int (0 : Int32)), (.int (0 : Int32)), (.int (0 : Int32)), (.int (0 : Int32))] (.int (0 : Int32)) := Arv.set Ar7 aq7 aS7 aN7 aH7 aG7 rfl W7 5 rfl (Nat.le_of_ble_eq_true rfl)
  have Z7 : n0 ≤ h7.size := Nat.le_trans Z6 (Keep.of_wr W7).1
  have KK7 := KK6.wr W7 (Or.inr sz_b1)
  have N7 := Fr.snoc X7 N6 ge_b1
  refine own_step (U' := T7.setTop (mkF m 33 #[iv p0, iv p1, .unset, .unset, .unset] [(.ref b1)])) st7 ?_
  refine own_step (U' := T7.setTop (mkF m 38 #[iv p0, iv p1, .unset, .unset, .unset] [(.int (55295 : Int32)), (.int (6 : Int32)), (.ref b1), (.ref b1)])) (fun t k => XS.dup X7.here hx rfl (hb hby at_33) rfl rfl (XS.bipush X7.here hx rfl (hb hby at_34) (X7.ldcInt hx hown (mvT hZ (own_w hw 1 rfl)) (g := (mkF m 36 #[iv p0, iv p1, .unset, .unset, .unset] [(.int (6 : Int32)), (.ref b1), (.ref b1)])) rfl (hb hby at_36) t k))) ?_
  obtain ⟨cl8, Ar8, aq8, aS8, aN8, aH8, aG8⟩ := id V_b1_7
  have hin8 : ¬ ((6 : Int32) < 0 ∨ cl8.slots.size ≤ ((6 : Int32)).toNatClampNeg) := inb_of aS8 ⟨by decide, by decide⟩
  obtain ⟨T8, h8, X8, e8, W8, st8⟩ := stI X7 hx hZ e7 Ar8 (j := (6 : Int32)) hin8 (g := (mkF m 38 #[iv p0, iv p1, .unset, .unset, .unset] [(.int (55295 : Int32)), (.int (6 : Int32)), (.ref b1), (.ref b1)])) rfl rfl (hb hby at_38)
  have V_b1_8 : Arv Z h8 b1 k1 .int (18 : Int32) [(.int (0 : Int32)), (.int (9 : Int32)), (.int (10 : Int32)), (.int (13 : Int32)), (.int (31 : Int32)), (.int (32 : Int32)), (.int (55295 : Int32)), (.int (0 : Int32)), (.int (0 : Int32)), (.int (0 : Int32)), (.int (0 : Int32)), (.int (0 : Int32)), (.int (0 : Int32)), (.int (0 : Int32)), (.int (0 : Int32)), (.int (0 : Int32)), (.int (0 : Int32)), (.int (0 : Int32))] (.int (0 : Int32)) := Arv.set Ar8 aq8 aS8 aN8 aH8 aG8 rfl W8 6 rfl (Nat.le_of_ble_eq_true rfl)
  have Z8 : n0 ≤ h8.size := Nat.le_trans Z7 (Keep.of_wr W8).1
  have KK8 := KK7.wr W8 (Or.inr sz_b1)
  have N8 := Fr.snoc X8 N7 ge_b1
  refine own_step (U' := T8.setTop (mkF m 39 #[iv p0, iv p1, .unset, .unset, .unset] [(.ref b1)])) st8 ?_
  refine own_step (U' := T8.setTop (mkF m 44 #[iv p0, iv p1, .unset, .unset, .unset] [(.int (55296 : Int32)), (.int (7 : Int32)), (.ref b1), (.ref b1)])) (fun t k => XS.dup X8.here hx rfl (hb hby at_39) rfl rfl (XS.bipush X8.here hx rfl (hb hby at_40) (X8.ldcInt hx hown (mvT hZ (own_w hw 2 rfl)) (g := (mkF m 42 #[iv p0, iv p1, .unset, .unset, .unset] [(.int (7 : Int32)), (.ref b1), (.ref b1)])) rfl (hb hby at_42) t k))) ?_
  obtain ⟨cl9, Ar9, aq9, aS9, aN9, aH9, aG9⟩ := id V_b1_8
  have hin9 : ¬ ((7 : Int32) < 0 ∨ cl9.slots.size ≤ ((7 : Int32)).toNatClampNeg) := inb_of aS9 ⟨by decide, by decide⟩
  obtain ⟨T9, h9, X9, e9, W9, st9⟩ := stI X8 hx hZ e8 Ar9 (j := (7 : Int32)) hin9 (g := (mkF m 44 #[iv p0, iv p1, .unset, .unset, .unset] [(.int (55296 : Int32)), (.int (7 : Int32)), (.ref b1), (.ref b1)])) rfl rfl (hb hby at_44)
  have V_b1_9 : Arv Z h9 b1 k1 .int (18 : Int32) [(.int (0 : Int32)), (.int (9 : Int32)), (.int (10 : Int32)), (.int (13 : Int32)), (.int (31 : Int32)), (.int (32 : Int32)), (.int (55295 : Int32)), (.int (55296 : Int32)), (.int (0 : Int32)), (.int (0 : Int32)), (.int (0 : Int32)), (.int (0 : Int32)), (.int (0 : Int32)), (.int (0 : Int32)), (.int (0 : Int32)), (.int (0 : Int32)), (.int (0 : Int32)), (.int (0 : Int32))] (.int (0 : Int32)) := Arv.set Ar9 aq9 aS9 aN9 aH9 aG9 rfl W9 7 rfl (Nat.le_of_ble_eq_true rfl)
  have Z9 : n0 ≤ h9.size := Nat.le_trans Z8 (Keep.of_wr W9).1
  have KK9 := KK8.wr W9 (Or.inr sz_b1)
  have N9 := Fr.snoc X9 N8 ge_b1
  refine own_step (U' := T9.setTop (mkF m 45 #[iv p0, iv p1, .unset, .unset, .unset] [(.ref b1)])) st9 ?_
  refine own_step (U' := T9.setTop (mkF m 50 #[iv p0, iv p1, .unset, .unset, .unset] [(.int (57343 : Int32)), (.int (8 : Int32)), (.ref b1), (.ref b1)])) (fun t k => XS.dup X9.here hx rfl (hb hby at_45) rfl rfl (XS.bipush X9.here hx rfl (hb hby at_46) (X9.ldcInt hx hown (mvT hZ (own_w hw 3 rfl)) (g := (mkF m 48 #[iv p0, iv p1, .unset, .unset, .unset] [(.int (8 : Int32)), (.ref b1), (.ref b1)])) rfl (hb hby at_48) t k))) ?_
  obtain ⟨cl10, Ar10, aq10, aS10, aN10, aH10, aG10⟩ := id V_b1_9
  have hin10 : ¬ ((8 : Int32) < 0 ∨ cl10.slots.size ≤ ((8 : Int32)).toNatClampNeg) := inb_of aS10 ⟨by decide, by decide⟩
  obtain ⟨T10, h10, X10, e10, W10, st10⟩ := stI X9 hx hZ e9 Ar10 (j := (8 : Int32)) hin10 (g := (mkF m 50 #[iv p0, iv p1, .unset, .unset, .unset] [(.int (57343 : Int32)), (.int (8 : Int32)), (.ref b1), (.ref b1)])) rfl rfl (hb hby at_50)
  have V_b1_10 : Arv Z h10 b1 k1 .int (18 : Int32) [(.int (0 : Int32)), (.int (9 : Int32)), (.int (10 : Int32)), (.int (13 : Int32)), (.int (31 : Int32)), (.int (32 : Int32)), (.int (55295 : Int32)), (.int (55296 : Int32)), (.int (57343 : Int32)), (.int (0 : Int32)), (.int (0 : Int32)), (.int (0 : Int32)), (.int (0 : Int32)), (.int (0 : Int32)), (.int (0 : Int32)), (.int (0 : Int32)), (.int (0 : Int32)), (.int (0 : Int32))] (.int (0 : Int32)) := Arv.set Ar10 aq10 aS10 aN10 aH10 aG10 rfl W10 8 rfl (Nat.le_of_ble_eq_true rfl)
  have Z10 : n0 ≤ h10.size := Nat.le_trans Z9 (Keep.of_wr W10).1
  have KK10 := KK9.wr W10 (Or.inr sz_b1)
  have N10 := Fr.snoc X10 N9 ge_b1
  refine own_step (U' := T10.setTop (mkF m 51 #[iv p0, iv p1, .unset, .unset, .unset] [(.ref b1)])) st10 ?_
  refine own_step (U' := T10.setTop (mkF m 56 #[iv p0, iv p1, .unset, .unset, .unset] [(.int (57344 : Int32)), (.int (9 : Int32)), (.ref b1), (.ref b1)])) (fun t k => XS.dup X10.here hx rfl (hb hby at_51) rfl rfl (XS.bipush X10.here hx rfl (hb hby at_52) (X10.ldcInt hx hown (mvT hZ (own_w hw 4 rfl)) (g := (mkF m 54 #[iv p0, iv p1, .unset, .unset, .unset] [(.int (9 : Int32)), (.ref b1), (.ref b1)])) rfl (hb hby at_54) t k))) ?_
  obtain ⟨cl11, Ar11, aq11, aS11, aN11, aH11, aG11⟩ := id V_b1_10
  have hin11 : ¬ ((9 : Int32) < 0 ∨ cl11.slots.size ≤ ((9 : Int32)).toNatClampNeg) := inb_of aS11 ⟨by decide, by decide⟩
  obtain ⟨T11, h11, X11, e11, W11, st11⟩ := stI X10 hx hZ e10 Ar11 (j := (9 : Int32)) hin11 (g := (mkF m 56 #[iv p0, iv p1, .unset, .unset, .unset] [(.int (57344 : Int32)), (.int (9 : Int32)), (.ref b1), (.ref b1)])) rfl rfl (hb hby at_56)
  have V_b1_11 : Arv Z h11 b1 k1 .int (18 : Int32) [(.int (0 : Int32)), (.int (9 : Int32)), (.int (10 : Int32)), (.int (13 : Int32)), (.int (31 : Int32)), (.int (32 : Int32)), (.int (55295 : Int32)), (.int (55296 : Int32)), (.int (57343 : Int32)), (.int (57344 : Int32)), (.int (0 : Int32)), (.int (0 : Int32)), (.int (0 : Int32)), (.int (0 : Int32)), (.int (0 : Int32)), (.int (0 : Int32)), (.int (0 : Int32)), (.int (0 : Int32))] (.int (0 : Int32)) := Arv.set Ar11 aq11 aS11 aN11 aH11 aG11 rfl W11 9 rfl (Nat.le_of_ble_eq_true rfl)
  have Z11 : n0 ≤ h11.size := Nat.le_trans Z10 (Keep.of_wr W11).1
  have KK11 := KK10.wr W11 (Or.inr sz_b1)
  have N11 := Fr.snoc X11 N10 ge_b1
  refine own_step (U' := T11.setTop (mkF m 57 #[iv p0, iv p1, .unset, .unset, .unset] [(.ref b1)])) st11 ?_
  refine own_step (U' := T11.setTop (mkF m 62 #[iv p0, iv p1, .unset, .unset, .unset] [(.int (65533 : Int32)), (.int (10 : Int32)), (.ref b1), (.ref b1)])) (fun t k => XS.dup X11.here hx rfl (hb hby at_57) rfl rfl (XS.bipush X11.here hx rfl (hb hby at_58) (X11.ldcInt hx hown (mvT hZ (own_w hw 5 rfl)) (g := (mkF m 60 #[iv p0, iv p1, .unset, .unset, .unset] [(.int (10 : Int32)), (.ref b1), (.ref b1)])) rfl (hb hby at_60) t k))) ?_
  obtain ⟨cl12, Ar12, aq12, aS12, aN12, aH12, aG12⟩ := id V_b1_11
  have hin12 : ¬ ((10 : Int32) < 0 ∨ cl12.slots.size ≤ ((10 : Int32)).toNatClampNeg) := inb_of aS12 ⟨by decide, by decide⟩
  obtain ⟨T12, h12, X12, e12, W12, st12⟩ := stI X11 hx hZ e11 Ar12 (j := (10 : Int32)) hin12 (g := (mkF m 62 #[iv p0, iv p1, .unset, .unset, .unset] [(.int (65533 : Int32)), (.int (10 : Int32)), (.ref b1), (.ref b1)])) rfl rfl (hb hby at_62)
  have V_b1_12 : Arv Z h12 b1 k1 .int (18 : Int32) [(.int (0 : Int32)), (.int (9 : Int32)), (.int (10 : Int32)), (.int (13 : Int32)), (.int (31 : Int32)), (.int (32 : Int32)), (.int (55295 : Int32)), (.int (55296 : Int32)), (.int (57343 : Int32)), (.int (57344 : Int32)), (.int (65533 : Int32)), (.int (0 : Int32)), (.int (0 : Int32)), (.int (0 : Int32)), (.int (0 : Int32)), (.int (0 : Int32)), (.int (0 : Int32)), (.int (0 : Int32))] (.int (0 : Int32)) := Arv.set Ar12 aq12 aS12 aN12 aH12 aG12 rfl W12 10 rfl (Nat.le_of_ble_eq_true rfl)
  have Z12 : n0 ≤ h12.size := Nat.le_trans Z11 (Keep.of_wr W12).1
  have KK12 := KK11.wr W12 (Or.inr sz_b1)
  have N12 := Fr.snoc X12 N11 ge_b1
  refine own_step (U' := T12.setTop (mkF m 63 #[iv p0, iv p1, .unset, .unset, .unset] [(.ref b1)])) st12 ?_
  refine own_step (U' := T12.setTop (mkF m 68 #[iv p0, iv p1, .unset, .unset, .unset] [(.int (65534 : Int32)), (.int (11 : Int32)), (.ref b1), (.ref b1)])) (fun t k => XS.dup X12.here hx rfl (hb hby at_63) rfl rfl (XS.bipush X12.here hx rfl (hb hby at_64) (X12.ldcInt hx hown (mvT hZ (own_w hw 6 rfl)) (g := (mkF m 66 #[iv p0, iv p1, .unset, .unset, .unset] [(.int (11 : Int32)), (.ref b1), (.ref b1)])) rfl (hb hby at_66) t k))) ?_
  obtain ⟨cl13, Ar13, aq13, aS13, aN13, aH13, aG13⟩ := id V_b1_12
  have hin13 : ¬ ((11 : Int32) < 0 ∨ cl13.slots.size ≤ ((11 : Int32)).toNatClampNeg) := inb_of aS13 ⟨by decide, by decide⟩
  obtain ⟨T13, h13, X13, e13, W13, st13⟩ := stI X12 hx hZ e12 Ar13 (j := (11 : Int32)) hin13 (g := (mkF m 68 #[iv p0, iv p1, .unset, .unset, .unset] [(.int (65534 : Int32)), (.int (11 : Int32)), (.ref b1), (.ref b1)])) rfl rfl (hb hby at_68)
  have V_b1_13 : Arv Z h13 b1 k1 .int (18 : Int32) [(.int (0 : Int32)), (.int (9 : Int32)), (.int (10 : Int32)), (.int (13 : Int32)), (.int (31 : Int32)), (.int (32 : Int32)), (.int (55295 : Int32)), (.int (55296 : Int32)), (.int (57343 : Int32)), (.int (57344 : Int32)), (.int (65533 : Int32)), (.int (65534 : Int32)), (.int (0 : Int32)), (.int (0 : Int32)), (.int (0 : Int32)), (.int (0 : Int32)), (.int (0 : Int32)), (.int (0 : Int32))] (.int (0 : Int32)) := Arv.set Ar13 aq13 aS13 aN13 aH13 aG13 rfl W13 11 rfl (Nat.le_of_ble_eq_true rfl)
  have Z13 : n0 ≤ h13.size := Nat.le_trans Z12 (Keep.of_wr W13).1
  have KK13 := KK12.wr W13 (Or.inr sz_b1)
  have N13 := Fr.snoc X13 N12 ge_b1
  refine own_step (U' := T13.setTop (mkF m 69 #[iv p0, iv p1, .unset, .unset, .unset] [(.ref b1)])) st13 ?_
  refine own_step (U' := T13.setTop (mkF m 74 #[iv p0, iv p1, .unset, .unset, .unset] [(.int (65535 : Int32)), (.int (12 : Int32)), (.ref b1), (.ref b1)])) (fun t k => XS.dup X13.here hx rfl (hb hby at_69) rfl rfl (XS.bipush X13.here hx rfl (hb hby at_70) (X13.ldcInt hx hown (mvT hZ (own_w hw 7 rfl)) (g := (mkF m 72 #[iv p0, iv p1, .unset, .unset, .unset] [(.int (12 : Int32)), (.ref b1), (.ref b1)])) rfl (hb hby at_72) t k))) ?_
  obtain ⟨cl14, Ar14, aq14, aS14, aN14, aH14, aG14⟩ := id V_b1_13
  have hin14 : ¬ ((12 : Int32) < 0 ∨ cl14.slots.size ≤ ((12 : Int32)).toNatClampNeg) := inb_of aS14 ⟨by decide, by decide⟩
  obtain ⟨T14, h14, X14, e14, W14, st14⟩ := stI X13 hx hZ e13 Ar14 (j := (12 : Int32)) hin14 (g := (mkF m 74 #[iv p0, iv p1, .unset, .unset, .unset] [(.int (65535 : Int32)), (.int (12 : Int32)), (.ref b1), (.ref b1)])) rfl rfl (hb hby at_74)
  have V_b1_14 : Arv Z h14 b1 k1 .int (18 : Int32) [(.int (0 : Int32)), (.int (9 : Int32)), (.int (10 : Int32)), (.int (13 : Int32)), (.int (31 : Int32)), (.int (32 : Int32)), (.int (55295 : Int32)), (.int (55296 : Int32)), (.int (57343 : Int32)), (.int (57344 : Int32)), (.int (65533 : Int32)), (.int (65534 : Int32)), (.int (65535 : Int32)), (.int (0 : Int32)), (.int (0 : Int32)), (.int (0 : Int32)), (.int (0 : Int32)), (.int (0 : Int32))] (.int (0 : Int32)) := Arv.set Ar14 aq14 aS14 aN14 aH14 aG14 rfl W14 12 rfl (Nat.le_of_ble_eq_true rfl)
  have Z14 : n0 ≤ h14.size := Nat.le_trans Z13 (Keep.of_wr W14).1
  have KK14 := KK13.wr W14 (Or.inr sz_b1)
  have N14 := Fr.snoc X14 N13 ge_b1
  refine own_step (U' := T14.setTop (mkF m 75 #[iv p0, iv p1, .unset, .unset, .unset] [(.ref b1)])) st14 ?_
  refine own_step (U' := T14.setTop (mkF m 80 #[iv p0, iv p1, .unset, .unset, .unset] [(.int (65536 : Int32)), (.int (13 : Int32)), (.ref b1), (.ref b1)])) (fun t k => XS.dup X14.here hx rfl (hb hby at_75) rfl rfl (XS.bipush X14.here hx rfl (hb hby at_76) (X14.ldcInt hx hown (mvT hZ (own_w hw 8 rfl)) (g := (mkF m 78 #[iv p0, iv p1, .unset, .unset, .unset] [(.int (13 : Int32)), (.ref b1), (.ref b1)])) rfl (hb hby at_78) t k))) ?_
  obtain ⟨cl15, Ar15, aq15, aS15, aN15, aH15, aG15⟩ := id V_b1_14
  have hin15 : ¬ ((13 : Int32) < 0 ∨ cl15.slots.size ≤ ((13 : Int32)).toNatClampNeg) := inb_of aS15 ⟨by decide, by decide⟩
  obtain ⟨T15, h15, X15, e15, W15, st15⟩ := stI X14 hx hZ e14 Ar15 (j := (13 : Int32)) hin15 (g := (mkF m 80 #[iv p0, iv p1, .unset, .unset, .unset] [(.int (65536 : Int32)), (.int (13 : Int32)), (.ref b1), (.ref b1)])) rfl rfl (hb hby at_80)
  have V_b1_15 : Arv Z h15 b1 k1 .int (18 : Int32) [(.int (0 : Int32)), (.int (9 : Int32)), (.int (10 : Int32)), (.int (13 : Int32)), (.int (31 : Int32)), (.int (32 : Int32)), (.int (55295 : Int32)), (.int (55296 : Int32)), (.int (57343 : Int32)), (.int (57344 : Int32)), (.int (65533 : Int32)), (.int (65534 : Int32)), (.int (65535 : Int32)), (.int (65536 : Int32)), (.int (0 : Int32)), (.int (0 : Int32)), (.int (0 : Int32)), (.int (0 : Int32))] (.int (0 : Int32)) := Arv.set Ar15 aq15 aS15 aN15 aH15 aG15 rfl W15 13 rfl (Nat.le_of_ble_eq_true rfl)
  have Z15 : n0 ≤ h15.size := Nat.le_trans Z14 (Keep.of_wr W15).1
  have KK15 := KK14.wr W15 (Or.inr sz_b1)
  have N15 := Fr.snoc X15 N14 ge_b1
  refine own_step (U' := T15.setTop (mkF m 81 #[iv p0, iv p1, .unset, .unset, .unset] [(.ref b1)])) st15 ?_
  refine own_step (U' := T15.setTop (mkF m 86 #[iv p0, iv p1, .unset, .unset, .unset] [(.int (1114111 : Int32)), (.int (14 : Int32)), (.ref b1), (.ref b1)])) (fun t k => XS.dup X15.here hx rfl (hb hby at_81) rfl rfl (XS.bipush X15.here hx rfl (hb hby at_82) (X15.ldcInt hx hown (mvT hZ (own_w hw 9 rfl)) (g := (mkF m 84 #[iv p0, iv p1, .unset, .unset, .unset] [(.int (14 : Int32)), (.ref b1), (.ref b1)])) rfl (hb hby at_84) t k))) ?_
  obtain ⟨cl16, Ar16, aq16, aS16, aN16, aH16, aG16⟩ := id V_b1_15
  have hin16 : ¬ ((14 : Int32) < 0 ∨ cl16.slots.size ≤ ((14 : Int32)).toNatClampNeg) := inb_of aS16 ⟨by decide, by decide⟩
  obtain ⟨T16, h16, X16, e16, W16, st16⟩ := stI X15 hx hZ e15 Ar16 (j := (14 : Int32)) hin16 (g := (mkF m 86 #[iv p0, iv p1, .unset, .unset, .unset] [(.int (1114111 : Int32)), (.int (14 : Int32)), (.ref b1), (.ref b1)])) rfl rfl (hb hby at_86)
  have V_b1_16 : Arv Z h16 b1 k1 .int (18 : Int32) [(.int (0 : Int32)), (.int (9 : Int32)), (.int (10 : Int32)), (.int (13 : Int32)), (.int (31 : Int32)), (.int (32 : Int32)), (.int (55295 : Int32)), (.int (55296 : Int32)), (.int (57343 : Int32)), (.int (57344 : Int32)), (.int (65533 : Int32)), (.int (65534 : Int32)), (.int (65535 : Int32)), (.int (65536 : Int32)), (.int (1114111 : Int32)), (.int (0 : Int32)), (.int (0 : Int32)), (.int (0 : Int32))] (.int (0 : Int32)) := Arv.set Ar16 aq16 aS16 aN16 aH16 aG16 rfl W16 14 rfl (Nat.le_of_ble_eq_true rfl)
  have Z16 : n0 ≤ h16.size := Nat.le_trans Z15 (Keep.of_wr W16).1
  have KK16 := KK15.wr W16 (Or.inr sz_b1)
  have N16 := Fr.snoc X16 N15 ge_b1
  refine own_step (U' := T16.setTop (mkF m 87 #[iv p0, iv p1, .unset, .unset, .unset] [(.ref b1)])) st16 ?_
  refine own_step (U' := T16.setTop (mkF m 92 #[iv p0, iv p1, .unset, .unset, .unset] [(.int (1114112 : Int32)), (.int (15 : Int32)), (.ref b1), (.ref b1)])) (fun t k => XS.dup X16.here hx rfl (hb hby at_87) rfl rfl (XS.bipush X16.here hx rfl (hb hby at_88) (X16.ldcInt hx hown (mvT hZ (own_w hw 10 rfl)) (g := (mkF m 90 #[iv p0, iv p1, .unset, .unset, .unset] [(.int (15 : Int32)), (.ref b1), (.ref b1)])) rfl (hb hby at_90) t k))) ?_
  obtain ⟨cl17, Ar17, aq17, aS17, aN17, aH17, aG17⟩ := id V_b1_16
  have hin17 : ¬ ((15 : Int32) < 0 ∨ cl17.slots.size ≤ ((15 : Int32)).toNatClampNeg) := inb_of aS17 ⟨by decide, by decide⟩
  obtain ⟨T17, h17, X17, e17, W17, st17⟩ := stI X16 hx hZ e16 Ar17 (j := (15 : Int32)) hin17 (g := (mkF m 92 #[iv p0, iv p1, .unset, .unset, .unset] [(.int (1114112 : Int32)), (.int (15 : Int32)), (.ref b1), (.ref b1)])) rfl rfl (hb hby at_92)
  have V_b1_17 : Arv Z h17 b1 k1 .int (18 : Int32) [(.int (0 : Int32)), (.int (9 : Int32)), (.int (10 : Int32)), (.int (13 : Int32)), (.int (31 : Int32)), (.int (32 : Int32)), (.int (55295 : Int32)), (.int (55296 : Int32)), (.int (57343 : Int32)), (.int (57344 : Int32)), (.int (65533 : Int32)), (.int (65534 : Int32)), (.int (65535 : Int32)), (.int (65536 : Int32)), (.int (1114111 : Int32)), (.int (1114112 : Int32)), (.int (0 : Int32)), (.int (0 : Int32))] (.int (0 : Int32)) := Arv.set Ar17 aq17 aS17 aN17 aH17 aG17 rfl W17 15 rfl (Nat.le_of_ble_eq_true rfl)
  have Z17 : n0 ≤ h17.size := Nat.le_trans Z16 (Keep.of_wr W17).1
  have KK17 := KK16.wr W17 (Or.inr sz_b1)
  have N17 := Fr.snoc X17 N16 ge_b1
  refine own_step (U' := T17.setTop (mkF m 93 #[iv p0, iv p1, .unset, .unset, .unset] [(.ref b1)])) st17 ?_
  refine own_step (U' := T17.setTop (mkF m 98 #[iv p0, iv p1, .unset, .unset, .unset] [(.int (-2147483648 : Int32)), (.int (16 : Int32)), (.ref b1), (.ref b1)])) (fun t k => XS.dup X17.here hx rfl (hb hby at_93) rfl rfl (XS.bipush X17.here hx rfl (hb hby at_94) (X17.ldcInt hx hown (mvT hZ (own_w hw 11 rfl)) (g := (mkF m 96 #[iv p0, iv p1, .unset, .unset, .unset] [(.int (16 : Int32)), (.ref b1), (.ref b1)])) rfl (hb hby at_96) t k))) ?_
  obtain ⟨cl18, Ar18, aq18, aS18, aN18, aH18, aG18⟩ := id V_b1_17
  have hin18 : ¬ ((16 : Int32) < 0 ∨ cl18.slots.size ≤ ((16 : Int32)).toNatClampNeg) := inb_of aS18 ⟨by decide, by decide⟩
  obtain ⟨T18, h18, X18, e18, W18, st18⟩ := stI X17 hx hZ e17 Ar18 (j := (16 : Int32)) hin18 (g := (mkF m 98 #[iv p0, iv p1, .unset, .unset, .unset] [(.int (-2147483648 : Int32)), (.int (16 : Int32)), (.ref b1), (.ref b1)])) rfl rfl (hb hby at_98)
  have V_b1_18 : Arv Z h18 b1 k1 .int (18 : Int32) [(.int (0 : Int32)), (.int (9 : Int32)), (.int (10 : Int32)), (.int (13 : Int32)), (.int (31 : Int32)), (.int (32 : Int32)), (.int (55295 : Int32)), (.int (55296 : Int32)), (.int (57343 : Int32)), (.int (57344 : Int32)), (.int (65533 : Int32)), (.int (65534 : Int32)), (.int (65535 : Int32)), (.int (65536 : Int32)), (.int (1114111 : Int32)), (.int (1114112 : Int32)), (.int (-2147483648 : Int32)), (.int (0 : Int32))] (.int (0 : Int32)) := Arv.set Ar18 aq18 aS18 aN18 aH18 aG18 rfl W18 16 rfl (Nat.le_of_ble_eq_true rfl)
  have Z18 : n0 ≤ h18.size := Nat.le_trans Z17 (Keep.of_wr W18).1
  have KK18 := KK17.wr W18 (Or.inr sz_b1)
  have N18 := Fr.snoc X18 N17 ge_b1
  refine own_step (U' := T18.setTop (mkF m 99 #[iv p0, iv p1, .unset, .unset, .unset] [(.ref b1)])) st18 ?_
  refine own_step (U' := T18.setTop (mkF m 104 #[iv p0, iv p1, .unset, .unset, .unset] [(.int (2147483647 : Int32)), (.int (17 : Int32)), (.ref b1), (.ref b1)])) (fun t k => XS.dup X18.here hx rfl (hb hby at_99) rfl rfl (XS.bipush X18.here hx rfl (hb hby at_100) (X18.ldcInt hx hown (mvT hZ (own_w hw 12 rfl)) (g := (mkF m 102 #[iv p0, iv p1, .unset, .unset, .unset] [(.int (17 : Int32)), (.ref b1), (.ref b1)])) rfl (hb hby at_102) t k))) ?_
  obtain ⟨cl19, Ar19, aq19, aS19, aN19, aH19, aG19⟩ := id V_b1_18
  have hin19 : ¬ ((17 : Int32) < 0 ∨ cl19.slots.size ≤ ((17 : Int32)).toNatClampNeg) := inb_of aS19 ⟨by decide, by decide⟩
  obtain ⟨T19, h19, X19, e19, W19, st19⟩ := stI X18 hx hZ e18 Ar19 (j := (17 : Int32)) hin19 (g := (mkF m 104 #[iv p0, iv p1, .unset, .unset, .unset] [(.int (2147483647 : Int32)), (.int (17 : Int32)), (.ref b1), (.ref b1)])) rfl rfl (hb hby at_104)
  have V_b1_19 : Arv Z h19 b1 k1 .int (18 : Int32) [(.int (0 : Int32)), (.int (9 : Int32)), (.int (10 : Int32)), (.int (13 : Int32)), (.int (31 : Int32)), (.int (32 : Int32)), (.int (55295 : Int32)), (.int (55296 : Int32)), (.int (57343 : Int32)), (.int (57344 : Int32)), (.int (65533 : Int32)), (.int (65534 : Int32)), (.int (65535 : Int32)), (.int (65536 : Int32)), (.int (1114111 : Int32)), (.int (1114112 : Int32)), (.int (-2147483648 : Int32)), (.int (2147483647 : Int32))] (.int (0 : Int32)) := Arv.set Ar19 aq19 aS19 aN19 aH19 aG19 rfl W19 17 rfl (Nat.le_of_ble_eq_true rfl)
  have Z19 : n0 ≤ h19.size := Nat.le_trans Z18 (Keep.of_wr W19).1
  have KK19 := KK18.wr W19 (Or.inr sz_b1)
  have N19 := Fr.snoc X19 N18 ge_b1
  refine own_step (U' := T19.setTop (mkF m 105 #[iv p0, iv p1, .unset, .unset, .unset] [(.ref b1)])) st19 ?_
  refine own_step (U' := T19.setTop (mkF m 109 #[iv p0, iv p1, rv b1, .unset, .unset] [(.int (p1 &&& (1 : Int32)))])) (fun t k => XS.astoreN X19.here hx rfl (hb hby at_105) rfl rfl (l' := #[iv p0, iv p1, rv b1, .unset, .unset]) rfl (XS.iloadN X19.here hx rfl (hb hby at_106) rfl (XS.iconst X19.here hx rfl (hb hby at_107) (XS.iand X19.here hx rfl (hb hby at_108) rfl k)))) ?_
  by_cases hc109_20 : (p1 &&& (1 : Int32)) = (0 : Int32)
  · refine own_step (U' := T19.setTop (mkF m 138 #[iv p0, iv p1, rv b1, iv p0, .unset] [(.int p0)])) (fun t k => XS.ifNo X19.here hx rfl (hb hby at_109) rfl ((if0 _ _).trans (teq hc109_20).2) (XS.iloadN X19.here hx rfl (hb hby at_112) rfl (XS.istoreN X19.here hx rfl (hb hby at_113) rfl (l' := #[iv p0, iv p1, rv b1, iv p0, .unset]) rfl (XS.goto X19.here hx rfl (pc0 := 114) (pc' := 137) rfl (hb hby at_114) (by decide) (by decide) (XS.iloadN X19.here hx rfl (hb hby at_137) rfl k))))) ?_
    obtain ⟨_, _, ⟨T21, L21, k21, n21⟩, -, X21, ⟨Lc21, hQ21, l21, y21, z21⟩, st21⟩ := Jvm.LawKit.callS X19 hx (y := (⟨"com/example/palisade/palisade/xml/XmlCursor", "isCharacter", "(I)Z"⟩ : MethodName)) hown (mvT hZ (own_w hw 13 rfl)) (mvT hZ (own_w hw 14 rfl)) (mvT hZ (own_w hw 15 rfl)) (mvT hZ (own_w hw 16 rfl)) (by decide) (backOf (W := 0) (rm1 l Z a0 hw [] p0 h19 n0 Z19) hZ (own_w hw 16 rfl) (own_w hw 15 rfl) (by decide) (by decide)) (g := (mkF m 138 #[iv p0, iv p1, rv b1, iv p0, .unset] [(.int p0)])) rfl (by rw [hml]; rfl) (argsL := [(.int p0)]) (rest := []) (lenOf pd__I_Z rfl) rfl (by show 2 * 0 + _ ≤ _; exact Nat.le_of_eq rfl) (hb hby at_138) (fun _ _ => ⟨rfl, e19, (by decide : 1 + 0 ≤ _), (by decide : 18 + 0 ≤ _)⟩)
    dsimp only [Pt.U, Pt.locs, Pt.cells, Pt.slots] at X21 l21 y21 z21 st21 hQ21
    subst l21 y21 z21
    obtain ⟨rfl, N21q, eq21⟩ := hQ21
    have N21 := Fr.app N19 N21q
    refine own_step (U' := T21.setTop (mkF m 141 #[iv p0, iv p1, rv b1, iv p0, .unset] [(.int (F1 p0))])) st21 ?_
    refine own_step (U' := T21.setTop (mkF m 142 #[iv p0, iv p1, rv b1, iv p0, .unset] [(.int p0), (.int (F1 p0))])) (fun t k => XS.iloadN X21.here hx rfl (hb hby at_141) rfl k) ?_
    obtain ⟨_, _, ⟨T22, L22, k22, n22⟩, -, X22, ⟨Lc22, hQ22, l22, y22, z22⟩, st22⟩ := Jvm.LawKit.callS X21 hx (y := (⟨"com/example/palisade/palisade/xml/XmlCursorIsCharacterPinLaw", "expected", "(I)Z"⟩ : MethodName)) hown (mvT hZ (own_w hw 17 rfl)) (mvT hZ (own_w hw 18 rfl)) (mvT hZ (own_w hw 19 rfl)) (mvT hZ (own_w hw 20 rfl)) (by decide) (backOf (W := 1) (rm2 l Z a0 hw [] p0 h19 n0 Z19) hZ (own_w hw 20 rfl) (own_w hw 19 rfl) (by decide) (by decide)) (g := (mkF m 142 #[iv p0, iv p1, rv b1, iv p0, .unset] [(.int p0), (.int (F1 p0))])) rfl (by rw [hml]; rfl) (argsL := [(.int p0)]) (rest := [(.int (F1 p0))]) (lenOf pd__I_Z rfl) rfl (by show 2 * 0 + _ ≤ _; exact Nat.le_of_eq rfl) (hb hby at_142) (fun _ _ => ⟨rfl, eq21, (by decide : 1 + 0 ≤ _), (by decide : 18 + 0 ≤ _)⟩)
    dsimp only [Pt.U, Pt.locs, Pt.cells, Pt.slots] at X22 l22 y22 z22 st22 hQ22
    subst l22 y22 z22
    obtain ⟨rfl, N22q, eq22⟩ := hQ22
    have N22 := Fr.app N21 N22q
    refine own_step (U' := T22.setTop (mkF m 145 #[iv p0, iv p1, rv b1, iv p0, .unset] [(.int (F2 p0)), (.int (F1 p0))])) st22 ?_
    refine own_step (U' := T22.setTop (mkF m 153 #[iv p0, iv p1, rv b1, iv p0, .unset] [(.int (1 : Int32))])) (fun t k => XS.icmpNo X22.here hx rfl (hb hby at_145) rfl (teq (own_law _)).2 (XS.iconst X22.here hx rfl (hb hby at_148) (XS.goto X22.here hx rfl (pc0 := 149) (pc' := 153) rfl (hb hby at_149) (by decide) (by decide) k))) ?_
    exact own_out X22 (v := (some (.int (1 : Int32)))) hlk (own_nv Bd.returns) (by rw [eq22]; exact ⟨rfl, N22⟩) (by decide) (by decide) (fun fs hr => retN X22 hx (t := .boolean) Bd.returns (by simp) (hb hby at_153) hr)
  · refine own_step (U' := T19.setTop (mkF m 121 #[iv p0, iv p1, rv b1, .unset, .unset] [(.ref b1), (.int ((p1.toUInt32 >>> ((1 : Int32) &&& 31).toUInt32).toInt32))])) (fun t k => XS.ifYes X19.here hx rfl (pc0 := 109) (pc' := 117) rfl (hb hby at_109) rfl ((if0 _ _).trans (feq hc109_20).2) (by decide) (by decide) (XS.iloadN X19.here hx rfl (hb hby at_117) rfl (XS.iconst X19.here hx rfl (hb hby at_118) (XS.iushr X19.here hx rfl (hb hby at_119) rfl (XS.aloadN X19.here hx rfl (hb hby at_120) rfl rfl k))))) ?_
    obtain ⟨cl23, Ar23, aq23, aS23, aN23, aH23, aG23⟩ := id V_b1_19
    have hl23 := len_of aS23 aN23
    refine own_step (U' := T19.setTop (mkF m 128 #[iv p0, iv p1, rv b1, .unset, iv (((p1.toUInt32 >>> ((1 : Int32) &&& 31).toUInt32).toInt32) % (18 : Int32))] [(.int (((p1.toUInt32 >>> ((1 : Int32) &&& 31).toUInt32).toInt32) % (18 : Int32))), (.ref b1)])) (fun t k => X19.arraylength hx (by rw [e19]; exact Ar23.1) (State.isArrayOf_alike hZ.alike Ar23.2.1) (g := (mkF m 121 #[iv p0, iv p1, rv b1, .unset, .unset] [(.ref b1), (.int ((p1.toUInt32 >>> ((1 : Int32) &&& 31).toUInt32).toInt32))])) rfl rfl (hb hby at_121) t (by rw [hl23]; exact (iremM X19 hx rfl (hb hby at_122) rfl (by decide) (XS.istore X19.here hx rfl (hb hby at_123) rfl (l' := #[iv p0, iv p1, rv b1, .unset, iv (((p1.toUInt32 >>> ((1 : Int32) &&& 31).toUInt32).toInt32) % (18 : Int32))]) rfl (XS.aloadN X19.here hx rfl (hb hby at_125) rfl rfl (XS.iload X19.here hx rfl (hb hby at_126) rfl k)))))) ?_
    obtain ⟨cl24, Ar24, aq24, aS24, aN24, aH24, aG24⟩ := id V_b1_19
    have hin24 : ¬ ((((p1.toUInt32 >>> ((1 : Int32) &&& 31).toUInt32).toInt32) % (18 : Int32)) < 0 ∨ cl24.slots.size ≤ ((((p1.toUInt32 >>> ((1 : Int32) &&& 31).toUInt32).toInt32) % (18 : Int32))).toNatClampNeg) := inb_of aS24 (own_idx p1)
    obtain ⟨w24, hw24⟩ := own_at ((((p1.toUInt32 >>> ((1 : Int32) &&& 31).toUInt32).toInt32) % (18 : Int32))).toNatClampNeg
    have hat24 : cl24.slots[((((p1.toUInt32 >>> ((1 : Int32) &&& 31).toUInt32).toInt32) % (18 : Int32))).toNatClampNeg]? = some (.int w24) := aH24.at hin24 hw24
    refine own_step (U' := T19.setTop (mkF m 137 #[iv p0, iv p1, rv b1, iv (w24 + ((p0 &&& (7 : Int32)) - (3 : Int32))), iv (((p1.toUInt32 >>> ((1 : Int32) &&& 31).toUInt32).toInt32) % (18 : Int32))] [])) (fun t k => X19.iaload hx (j := (((p1.toUInt32 >>> ((1 : Int32) &&& 31).toUInt32).toInt32) % (18 : Int32))) (v := (.int w24)) (by rw [e19]; exact Ar24.1) (State.isArrayOf_alike hZ.alike Ar24.2.1) Ar24.2.2 hin24 hat24 (g := (mkF m 128 #[iv p0, iv p1, rv b1, .unset, iv (((p1.toUInt32 >>> ((1 : Int32) &&& 31).toUInt32).toInt32) % (18 : Int32))] [(.int (((p1.toUInt32 >>> ((1 : Int32) &&& 31).toUInt32).toInt32) % (18 : Int32))), (.ref b1)])) rfl rfl (hb hby at_128) t (XS.iloadN X19.here hx rfl (hb hby at_129) rfl (XS.bipush X19.here hx rfl (hb hby at_130) (XS.iand X19.here hx rfl (hb hby at_132) rfl (XS.iconst X19.here hx rfl (hb hby at_133) (XS.isub X19.here hx rfl (hb hby at_134) rfl (XS.iadd X19.here hx rfl (hb hby at_135) rfl (XS.istoreN X19.here hx rfl (hb hby at_136) rfl (l' := #[iv p0, iv p1, rv b1, iv (w24 + ((p0 &&& (7 : Int32)) - (3 : Int32))), iv (((p1.toUInt32 >>> ((1 : Int32) &&& 31).toUInt32).toInt32) % (18 : Int32))]) rfl k)))))))) ?_
    refine own_step (U' := T19.setTop (mkF m 138 #[iv p0, iv p1, rv b1, iv (w24 + ((p0 &&& (7 : Int32)) - (3 : Int32))), iv (((p1.toUInt32 >>> ((1 : Int32) &&& 31).toUInt32).toInt32) % (18 : Int32))] [(.int (w24 + ((p0 &&& (7 : Int32)) - (3 : Int32))))])) (fun t k => XS.iloadN X19.here hx rfl (hb hby at_137) rfl k) ?_
    obtain ⟨_, _, ⟨T25, L25, k25, n25⟩, -, X25, ⟨Lc25, hQ25, l25, y25, z25⟩, st25⟩ := Jvm.LawKit.callS X19 hx (y := (⟨"com/example/palisade/palisade/xml/XmlCursor", "isCharacter", "(I)Z"⟩ : MethodName)) hown (mvT hZ (own_w hw 13 rfl)) (mvT hZ (own_w hw 14 rfl)) (mvT hZ (own_w hw 15 rfl)) (mvT hZ (own_w hw 16 rfl)) (by decide) (backOf (W := 0) (rm1 l Z a0 hw [] (w24 + ((p0 &&& (7 : Int32)) - (3 : Int32))) h19 n0 Z19) hZ (own_w hw 16 rfl) (own_w hw 15 rfl) (by decide) (by decide)) (g := (mkF m 138 #[iv p0, iv p1, rv b1, iv (w24 + ((p0 &&& (7 : Int32)) - (3 : Int32))), iv (((p1.toUInt32 >>> ((1 : Int32) &&& 31).toUInt32).toInt32) % (18 : Int32))] [(.int (w24 + ((p0 &&& (7 : Int32)) - (3 : Int32))))])) rfl (by rw [hml]; rfl) (argsL := [(.int (w24 + ((p0 &&& (7 : Int32)) - (3 : Int32))))]) (rest := []) (lenOf pd__I_Z rfl) rfl (by show 2 * 0 + _ ≤ _; exact Nat.le_of_eq rfl) (hb hby at_138) (fun _ _ => ⟨rfl, e19, (by decide : 1 + 0 ≤ _), (by decide : 18 + 0 ≤ _)⟩)
    dsimp only [Pt.U, Pt.locs, Pt.cells, Pt.slots] at X25 l25 y25 z25 st25 hQ25
    subst l25 y25 z25
    obtain ⟨rfl, N25q, eq25⟩ := hQ25
    have N25 := Fr.app N19 N25q
    refine own_step (U' := T25.setTop (mkF m 141 #[iv p0, iv p1, rv b1, iv (w24 + ((p0 &&& (7 : Int32)) - (3 : Int32))), iv (((p1.toUInt32 >>> ((1 : Int32) &&& 31).toUInt32).toInt32) % (18 : Int32))] [(.int (F1 (w24 + ((p0 &&& (7 : Int32)) - (3 : Int32)))))])) st25 ?_
    refine own_step (U' := T25.setTop (mkF m 142 #[iv p0, iv p1, rv b1, iv (w24 + ((p0 &&& (7 : Int32)) - (3 : Int32))), iv (((p1.toUInt32 >>> ((1 : Int32) &&& 31).toUInt32).toInt32) % (18 : Int32))] [(.int (w24 + ((p0 &&& (7 : Int32)) - (3 : Int32)))), (.int (F1 (w24 + ((p0 &&& (7 : Int32)) - (3 : Int32)))))])) (fun t k => XS.iloadN X25.here hx rfl (hb hby at_141) rfl k) ?_
    obtain ⟨_, _, ⟨T26, L26, k26, n26⟩, -, X26, ⟨Lc26, hQ26, l26, y26, z26⟩, st26⟩ := Jvm.LawKit.callS X25 hx (y := (⟨"com/example/palisade/palisade/xml/XmlCursorIsCharacterPinLaw", "expected", "(I)Z"⟩ : MethodName)) hown (mvT hZ (own_w hw 17 rfl)) (mvT hZ (own_w hw 18 rfl)) (mvT hZ (own_w hw 19 rfl)) (mvT hZ (own_w hw 20 rfl)) (by decide) (backOf (W := 1) (rm2 l Z a0 hw [] (w24 + ((p0 &&& (7 : Int32)) - (3 : Int32))) h19 n0 Z19) hZ (own_w hw 20 rfl) (own_w hw 19 rfl) (by decide) (by decide)) (g := (mkF m 142 #[iv p0, iv p1, rv b1, iv (w24 + ((p0 &&& (7 : Int32)) - (3 : Int32))), iv (((p1.toUInt32 >>> ((1 : Int32) &&& 31).toUInt32).toInt32) % (18 : Int32))] [(.int (w24 + ((p0 &&& (7 : Int32)) - (3 : Int32)))), (.int (F1 (w24 + ((p0 &&& (7 : Int32)) - (3 : Int32)))))])) rfl (by rw [hml]; rfl) (argsL := [(.int (w24 + ((p0 &&& (7 : Int32)) - (3 : Int32))))]) (rest := [(.int (F1 (w24 + ((p0 &&& (7 : Int32)) - (3 : Int32)))))]) (lenOf pd__I_Z rfl) rfl (by show 2 * 0 + _ ≤ _; exact Nat.le_of_eq rfl) (hb hby at_142) (fun _ _ => ⟨rfl, eq25, (by decide : 1 + 0 ≤ _), (by decide : 18 + 0 ≤ _)⟩)
    dsimp only [Pt.U, Pt.locs, Pt.cells, Pt.slots] at X26 l26 y26 z26 st26 hQ26
    subst l26 y26 z26
    obtain ⟨rfl, N26q, eq26⟩ := hQ26
    have N26 := Fr.app N25 N26q
    refine own_step (U' := T26.setTop (mkF m 145 #[iv p0, iv p1, rv b1, iv (w24 + ((p0 &&& (7 : Int32)) - (3 : Int32))), iv (((p1.toUInt32 >>> ((1 : Int32) &&& 31).toUInt32).toInt32) % (18 : Int32))] [(.int (F2 (w24 + ((p0 &&& (7 : Int32)) - (3 : Int32))))), (.int (F1 (w24 + ((p0 &&& (7 : Int32)) - (3 : Int32)))))])) st26 ?_
    refine own_step (U' := T26.setTop (mkF m 153 #[iv p0, iv p1, rv b1, iv (w24 + ((p0 &&& (7 : Int32)) - (3 : Int32))), iv (((p1.toUInt32 >>> ((1 : Int32) &&& 31).toUInt32).toInt32) % (18 : Int32))] [(.int (1 : Int32))])) (fun t k => XS.icmpNo X26.here hx rfl (hb hby at_145) rfl (teq (own_law _)).2 (XS.iconst X26.here hx rfl (hb hby at_148) (XS.goto X26.here hx rfl (pc0 := 149) (pc' := 153) rfl (hb hby at_149) (by decide) (by decide) k))) ?_
    exact own_out X26 (v := (some (.int (1 : Int32)))) hlk (own_nv Bd.returns) (by rw [eq26]; exact ⟨rfl, N26⟩) (by decide) (by decide) (fun fs hr => retN X26 hx (t := .boolean) Bd.returns (by simp) (hb hby at_153) hr)
set_option maxRecDepth 65536 in
set_option maxHeartbeats 40000000 in
theorem comes_1 {Post : Tables → Env → Array Value → State → Outcome → State → Prop} (hpost : ∀ tb e args s v u, (limb_1_1.after args s (.returned v) u = true ∧ limb_1_2.after args s (.returned v) u = true ∧ True) → FrameEnd s (.returned v) u (Jvm.fieldLocs frame_1_writes args s ++ Jvm.arrayLocs frame_1_arrays args s ++ Jvm.staticLocs frame_1_statics s) 16 128 → Post tb e args s (.returned v) u) :
    ArmFor flags0 classFile x code maxLocals ret World_1 tables_1 room_1 Calls_1 rest_1 Pre_1 Post := by
  intro l hfl _ _ p e ha hc hk s m args below hf hA hF happ hP
  obtain ⟨hcalls, hrest, hpre⟩ := hP
  obtain ⟨-, -, -, hnamed, -, -, -, hat⟩ := (Spec.applies_iff hf).mp happ
  obtain ⟨hg, hn⟩ := and_e (Cond.before_iff.mp (show (Jvm.Cond.and given_1 narrow_1).before args s = true from hpre))
  obtain ⟨gc, gr0⟩ := and_e hg
  obtain ⟨ga0, gr1⟩ := and_e gr0
  obtain ⟨w0, w1, rfl⟩ : ∃ w0 w1 : Value, args = #[w0, w1] := by
    have hs : args.size = 2 := by simpa [Cond.value, given_1] using gc
    obtain ⟨L⟩ := args
    match L, hs with
    | [w0, w1], _ => exact ⟨w0, w1, rfl⟩
  have hw := fun d (hd : d ∈ tables_1) => atoms_spec (ws := Jvm.Cond.code x code maxLocals ret :: tables_1) hat d (List.mem_cons_of_mem _ hd)
  have hfit : Fit s := fun {y c} hc i hi => by
    obtain ⟨ha, rfl⟩ := Array.getElem?_eq_some_iff.mp hc
    have q := List.all_eq_true.mp ((Array.all_eq_true_iff_forall_mem.mp hF) _ (Array.getElem_mem ha)) i (List.mem_range.mpr hi)
    simpa [Array.getElem?_eq_getElem hi] using q
  obtain ⟨i0, ei0⟩ := is_v ga0
  obtain rfl : w0 = (.int i0) := Option.some.inj ei0
  obtain ⟨i1, ei1⟩ := is_v gr1
  obtain rfl : w1 = (.int i1) := Option.some.inj ei1
  obtain ⟨n, o, h1, h2, h3, _, L, rfl, ⟨rfl, N⟩, hq⟩ := rm0 l s _ hw tables_1 i0 i1  s.heap s.heap.size (Nat.le_refl _)  p e ha hc hk s m _ below hf ((Spec.applies_iff_loose hf).mp happ).1 ⟨rfl, State.Warmed39.refl s, rfl⟩ trivial
  refine ⟨n, _, h1, h2, h3, hpost _ _ _ _ _ _ ⟨Cond.after_iff.mpr rfl, Cond.after_iff.mpr (eq_i res_at (Term.int_eval (1)) rfl), trivial⟩ ⟨hq.1, hq.2.1, (hq.2.2.sift fun y hy => Or.inr (N y hy)).mono (by decide) (by decide)⟩⟩
theorem main_1_1 : Claimed_1_1 := comes_1 fun _ _ _ _ _ _ h hF => ⟨h.1, hF⟩
theorem main_1_2 : Claimed_1_2 := comes_1 fun _ _ _ _ _ _ h hF => ⟨h.2.1, hF⟩
end Jvm.Pilot.@@N@@
namespace Jvm.Pilot.@@N@@
open Jvm Jvm.ClassFile Sem Op Lib Jvm.Free Jvm.Stand Jvm.Pilot.@@N@@.Jvm.D
/-! MADE BY PROGRAM (witnessworld.py) out of the Statement's table words and the real class files: 9 classes; the members and pool entries that the words name. The judged class is class 1, her method 1. -/
namespace start1
open Jvm.ClassFile
def u (s : String) : CpInfo := .utf8 (stringToUtf16 s)
/-- a pool by its gaps: so many unusable entries, then the entry; so many at the end -/
def gap : Nat → List CpInfo → List CpInfo
  | 0, r => r
  | n + 1, r => .unusable :: gap n r
def poolList (es : List (Nat × CpInfo)) (last : Nat) : List CpInfo := es.foldr (fun e r => gap e.1 (e.2 :: r)) (gap last [])
def pool (es : List (Nat × CpInfo)) (last : Nat) : Array CpInfo := ⟨poolList es last⟩
def fileOf (pool : Array CpInfo) (this : Nat) (attrs : Array Attribute := #[]) (ms : Array MethodInfo := #[]) (fl : Nat := 33) (sup : Nat := 0) (ifs : Array Nat := #[]) (fds : Array FieldInfo := #[]) : ClassFile where
  minorVersion := 0
  majorVersion := 65
  constantPool := pool
  accessFlags := fl
  thisClass := this
  superClass := sup
  interfaces := ifs
  fields := fds
  methods := ms
  attributes := attrs
def plain (name : String) (sup : Option ClassId) : Class where
  name := name
  kind := .ordinary
  loader := none
  accessFlags := 33
  super := sup
  interfaces := #[]
  cf := none
  fields := #[]
  methods := #[]
  instanceTypes := #[]
  staticTypes := #[]
  resolved := #[]
  callSites := []
  init := .initialized
  statics := none
  mirror := none

def pool0 : Array CpInfo := pool [(5, u "<init>"), (0, u "()V"), (1, .class_ 10), (1, u "java/lang/Object")] 113

def k0m0 : Method := { name := "<init>", desc := "()V", sig := { parameters := [], returnType := none }, accessFlags := 1, code := none }
/-- java/lang/Object -/
def k0 : Class := { plain "java/lang/Object" none with
  accessFlags := 33
  interfaces := #[]
  cf := some (fileOf pool0 8 #[] #[{ accessFlags := 1, nameIndex := 5, descriptorIndex := 6, attributes := #[] }] 33 0 #[] #[])
  fields := #[]
  methods := #[k0m0]
  instanceTypes := #[]
  staticTypes := #[]
  resolved := Array.replicate 124 none
  statics := none }

def pool1 : Array CpInfo := pool [(2, .class_ 4), (1, u "java/lang/Object"), (0, u "<init>"), (0, u "()V"), (0, .integer 55295), (0, .integer 55296), (0, .integer 57343), (0, .integer 57344), (0, .integer 65533), (0, .integer 65534), (0, .integer 65535), (0, .integer 65536), (0, .integer 1114111), (0, .integer 1114112), (2, .integer 2147483648), (0, .integer 2147483647), (0, .methodref 22 23), (0, .class_ 24), (0, .nameAndType 25 26), (0, u "com/example/palisade/palisade/xml/XmlCursor"), (0, u "isCharacter"), (0, u "(I)Z"), (0, .methodref 28 29), (0, .class_ 30), (0, .nameAndType 31 26), (0, u "com/example/palisade/palisade/xml/XmlCursorIsCharacterPinLaw"), (0, u "expected"), (2, u "law"), (0, u "(II)Z")] 5

def k1m0 : Method := { name := "<init>", desc := "()V", sig := { parameters := [], returnType := none }, accessFlags := 2, code := none }
def k1c1 : Code := { maxStack := 4, maxLocals := 5, code := code, exceptionTable := #[], attributes := #[] }
def k1m1 : Method := { name := "law", desc := "(II)Z", sig := { parameters := [.int, .int], returnType := some .boolean }, accessFlags := 9, code := some k1c1 }
def k1c2 : Code := { maxStack := 2, maxLocals := 5, code := method_3_code, exceptionTable := #[], attributes := #[] }
def k1m2 : Method := { name := "expected", desc := "(I)Z", sig := { parameters := [.int], returnType := some .boolean }, accessFlags := 10, code := some k1c2 }
/-- com/example/palisade/palisade/xml/XmlCursorIsCharacterPinLaw -/
def k1 : Class := { plain "com/example/palisade/palisade/xml/XmlCursorIsCharacterPinLaw" (some 0) with
  accessFlags := 49
  interfaces := #[]
  cf := some (fileOf pool1 28 #[] #[{ accessFlags := 2, nameIndex := 5, descriptorIndex := 6, attributes := #[] }, { accessFlags := 9, nameIndex := 34, descriptorIndex := 35, attributes := #[] }, { accessFlags := 10, nameIndex := 31, descriptorIndex := 26, attributes := #[] }] 49 2 #[] #[])
  fields := #[]
  methods := #[k1m0, k1m1, k1m2]
  instanceTypes := #[]
  staticTypes := #[]
  resolved := Array.replicate 41 none
  statics := none }

def pool2 : Array CpInfo := pool [(2, .class_ 4), (1, u "java/lang/Object"), (2, .class_ 8), (0, u "com/example/palisade/palisade/xml/XmlCursor"), (0, .integer 65536), (2, u "bytes"), (0, u "[B"), (2, u "keep"), (0, u "I"), (2, u "piece"), (2, u "pieceAscii"), (0, u "Z"), (2, u "known"), (0, u "Lcom/example/palisade/palisade/xml/KnownTexts;"), (2, u "in"), (0, u "Ljava/io/InputStream;"), (2, u "position"), (2, u "limit"), (2, u "endOfInput"), (2, u "endsInsideCharacter"), (2, u "endInView"), (2, u "unfinished"), (0, u "Ljava/lang/String;"), (2, u "unfinishedName"), (0, u "Ljava/lang/CharSequence;"), (2, u "line"), (2, u "counted"), (2, u "afterCarriageReturn"), (2, u "afterLineEnd"), (53, u "(I)Z"), (55, u "ASCII"), (13, u "nameHash"), (2, u "nameColon"), (2, u "nameColonTwice"), (64, .integer 55295), (3, .integer 65533), (3, u "isCharacter"), (18, .integer 57344), (0, .integer 1114111), (29, u "IN_TEXT"), (12, u "pieceLength"), (19, u "BUFFER_SIZE"), (1, u "NAME_START"), (0, u "B"), (1, u "NAME_PART"), (1, u "SPACE"), (1, u "PLAIN_TEXT"), (1, u "PLAIN_VALUE"), (1, u "PLAIN"), (1, u "LINE_FEED"), (0, u "SECOND_LOOK")] 88

def k2c0 : Code := { maxStack := 2, maxLocals := 1, code := prog_148_method_49_code, exceptionTable := #[], attributes := #[] }
def k2m0 : Method := { name := "isCharacter", desc := "(I)Z", sig := { parameters := [.int], returnType := some .boolean }, accessFlags := 8, code := some k2c0 }
/-- com/example/palisade/palisade/xml/XmlCursor -/
def k2 : Class := { plain "com/example/palisade/palisade/xml/XmlCursor" (some 0) with
  accessFlags := 48
  interfaces := #[]
  cf := some (fileOf pool2 7 #[] #[{ accessFlags := 8, nameIndex := 270, descriptorIndex := 121, attributes := #[] }] 48 2 #[] #[{ accessFlags := 26, nameIndex := 353, descriptorIndex := 17, attributes := #[] }, { accessFlags := 26, nameIndex := 355, descriptorIndex := 356, attributes := #[] }, { accessFlags := 26, nameIndex := 358, descriptorIndex := 356, attributes := #[] }, { accessFlags := 26, nameIndex := 360, descriptorIndex := 356, attributes := #[] }, { accessFlags := 26, nameIndex := 362, descriptorIndex := 356, attributes := #[] }, { accessFlags := 26, nameIndex := 364, descriptorIndex := 356, attributes := #[] }, { accessFlags := 26, nameIndex := 177, descriptorIndex := 13, attributes := #[] }, { accessFlags := 26, nameIndex := 366, descriptorIndex := 356, attributes := #[] }, { accessFlags := 26, nameIndex := 368, descriptorIndex := 356, attributes := #[] }, { accessFlags := 26, nameIndex := 369, descriptorIndex := 356, attributes := #[] }, { accessFlags := 26, nameIndex := 320, descriptorIndex := 13, attributes := #[] }, { accessFlags := 18, nameIndex := 27, descriptorIndex := 28, attributes := #[] }, { accessFlags := 2, nameIndex := 31, descriptorIndex := 32, attributes := #[] }, { accessFlags := 2, nameIndex := 12, descriptorIndex := 13, attributes := #[] }, { accessFlags := 2, nameIndex := 35, descriptorIndex := 17, attributes := #[] }, { accessFlags := 2, nameIndex := 38, descriptorIndex := 17, attributes := #[] }, { accessFlags := 2, nameIndex := 16, descriptorIndex := 17, attributes := #[] }, { accessFlags := 2, nameIndex := 41, descriptorIndex := 24, attributes := #[] }, { accessFlags := 2, nameIndex := 44, descriptorIndex := 24, attributes := #[] }, { accessFlags := 2, nameIndex := 47, descriptorIndex := 24, attributes := #[] }, { accessFlags := 2, nameIndex := 50, descriptorIndex := 51, attributes := #[] }, { accessFlags := 2, nameIndex := 54, descriptorIndex := 55, attributes := #[] }, { accessFlags := 2, nameIndex := 58, descriptorIndex := 17, attributes := #[] }, { accessFlags := 2, nameIndex := 61, descriptorIndex := 17, attributes := #[] }, { accessFlags := 2, nameIndex := 64, descriptorIndex := 24, attributes := #[] }, { accessFlags := 2, nameIndex := 67, descriptorIndex := 24, attributes := #[] }, { accessFlags := 2, nameIndex := 191, descriptorIndex := 17, attributes := #[] }, { accessFlags := 2, nameIndex := 194, descriptorIndex := 17, attributes := #[] }, { accessFlags := 2, nameIndex := 197, descriptorIndex := 24, attributes := #[] }, { accessFlags := 2, nameIndex := 20, descriptorIndex := 13, attributes := #[] }, { accessFlags := 2, nameIndex := 333, descriptorIndex := 17, attributes := #[] }, { accessFlags := 2, nameIndex := 23, descriptorIndex := 24, attributes := #[] }])
  fields := #[{ name := "BUFFER_SIZE", type := .int, accessFlags := 26, slot := 0, constantValue := 0 }, { name := "NAME_START", type := .byte, accessFlags := 26, slot := 1, constantValue := 0 }, { name := "NAME_PART", type := .byte, accessFlags := 26, slot := 2, constantValue := 0 }, { name := "SPACE", type := .byte, accessFlags := 26, slot := 3, constantValue := 0 }, { name := "PLAIN_TEXT", type := .byte, accessFlags := 26, slot := 4, constantValue := 0 }, { name := "PLAIN_VALUE", type := .byte, accessFlags := 26, slot := 5, constantValue := 0 }, { name := "ASCII", type := (.array .byte), accessFlags := 26, slot := 6, constantValue := 0 }, { name := "PLAIN", type := .byte, accessFlags := 26, slot := 7, constantValue := 0 }, { name := "LINE_FEED", type := .byte, accessFlags := 26, slot := 8, constantValue := 0 }, { name := "SECOND_LOOK", type := .byte, accessFlags := 26, slot := 9, constantValue := 0 }, { name := "IN_TEXT", type := (.array .byte), accessFlags := 26, slot := 10, constantValue := 0 }, { name := "known", type := (.object "com/example/palisade/palisade/xml/KnownTexts"), accessFlags := 18, slot := 0, constantValue := 0 }, { name := "in", type := (.object "java/io/InputStream"), accessFlags := 2, slot := 1, constantValue := 0 }, { name := "bytes", type := (.array .byte), accessFlags := 2, slot := 2, constantValue := 0 }, { name := "position", type := .int, accessFlags := 2, slot := 3, constantValue := 0 }, { name := "limit", type := .int, accessFlags := 2, slot := 4, constantValue := 0 }, { name := "keep", type := .int, accessFlags := 2, slot := 5, constantValue := 0 }, { name := "endOfInput", type := .boolean, accessFlags := 2, slot := 6, constantValue := 0 }, { name := "endsInsideCharacter", type := .boolean, accessFlags := 2, slot := 7, constantValue := 0 }, { name := "endInView", type := .boolean, accessFlags := 2, slot := 8, constantValue := 0 }, { name := "unfinished", type := (.object "java/lang/String"), accessFlags := 2, slot := 9, constantValue := 0 }, { name := "unfinishedName", type := (.object "java/lang/CharSequence"), accessFlags := 2, slot := 10, constantValue := 0 }, { name := "line", type := .int, accessFlags := 2, slot := 11, constantValue := 0 }, { name := "counted", type := .int, accessFlags := 2, slot := 12, constantValue := 0 }, { name := "afterCarriageReturn", type := .boolean, accessFlags := 2, slot := 13, constantValue := 0 }, { name := "afterLineEnd", type := .boolean, accessFlags := 2, slot := 14, constantValue := 0 }, { name := "nameHash", type := .int, accessFlags := 2, slot := 15, constantValue := 0 }, { name := "nameColon", type := .int, accessFlags := 2, slot := 16, constantValue := 0 }, { name := "nameColonTwice", type := .boolean, accessFlags := 2, slot := 17, constantValue := 0 }, { name := "piece", type := (.array .byte), accessFlags := 2, slot := 18, constantValue := 0 }, { name := "pieceLength", type := .int, accessFlags := 2, slot := 19, constantValue := 0 }, { name := "pieceAscii", type := .boolean, accessFlags := 2, slot := 20, constantValue := 0 }]
  methods := #[k2m0]
  instanceTypes := #[(.object "com/example/palisade/palisade/xml/KnownTexts"), (.object "java/io/InputStream"), (.array .byte), .int, .int, .int, .boolean, .boolean, .boolean, (.object "java/lang/String"), (.object "java/lang/CharSequence"), .int, .int, .boolean, .boolean, .int, .int, .boolean, (.array .byte), .int, .boolean]
  staticTypes := #[.int, .byte, .byte, .byte, .byte, .byte, (.array .byte), .byte, .byte, .byte, (.array .byte)]
  resolved := Array.replicate 458 none
  statics := none }

def pool3 : Array CpInfo := pool [(1, u "java/lang/Cloneable"), (0, .class_ 1), (0, u "java/lang/Object"), (0, .class_ 3)] 3

/-- java/lang/Cloneable -/
def k3 : Class := { plain "java/lang/Cloneable" (some 0) with
  accessFlags := 1537
  interfaces := #[]
  cf := some (fileOf pool3 2 #[] #[] 1537 4 #[] #[])
  fields := #[]
  methods := #[]
  instanceTypes := #[]
  staticTypes := #[]
  resolved := Array.replicate 8 none
  statics := none }

def pool4 : Array CpInfo := pool [(1, u "java/io/Serializable"), (0, .class_ 1), (0, u "java/lang/Object"), (0, .class_ 3)] 3

/-- java/io/Serializable -/
def k4 : Class := { plain "java/io/Serializable" (some 0) with
  accessFlags := 1537
  interfaces := #[]
  cf := some (fileOf pool4 2 #[] #[] 1537 4 #[] #[])
  fields := #[]
  methods := #[]
  instanceTypes := #[]
  staticTypes := #[]
  resolved := Array.replicate 8 none
  statics := none }

/-- the primitive byte -/
def k5 : Class := { plain "byte" none with kind := .primitive 'B', accessFlags := 0x411 }
/-- [B -/
def k6 : Class := { plain "[B" (some 0) with kind := .array 5 .byte, interfaces := #[3, 4], accessFlags := 1041 }

/-- the primitive int -/
def k7 : Class := { plain "int" none with kind := .primitive 'I', accessFlags := 0x411 }
/-- [I -/
def k8 : Class := { plain "[I" (some 0) with kind := .array 7 .int, interfaces := #[3, 4], accessFlags := 1041 }

def heap : Heap := #[]
def classes : Array Class := #[k0, k1, k2, k3, k4, k5, k6, k7, k8]
def interned : List (Array UInt16 × Addr) := []
def slotsUsed : Nat := 0
def theMethod : MethodId := ⟨1, 1⟩
def args0 : Array Value := #[.int 5, .int 6]
def aboutOver (below : List Frame) : State where
  vm := { classes := classes, interned := interned.toArray }
  heap := heap
  slotsUsed := slotsUsed
  threads := #[{ frames := .invoking theMethod args0 :: below }]
def below0 : List Frame := [.native { method := ⟨0, 0⟩, args := #[] }]
def about1 : State := aboutOver below0
def p0 : Program := .bare "" "" ""
def e0 : Env := launch0.env 0 0 0
theorem w_frames : about1.frames = Frame.invoking theMethod args0 :: below0 := rfl
set_option maxRecDepth 65536 in
theorem w_args : argsFit about1.vm theMethod args0 = true := by decide +kernel
set_option maxRecDepth 65536 in
theorem w_heap : heapFits about1 = true := by decide +kernel
set_option maxRecDepth 65536 in
theorem w_runnable : about1.curStatus? = some .runnable := by decide +kernel
set_option maxRecDepth 65536 in
theorem w_alone : about1.alone = true := by decide +kernel
set_option maxRecDepth 65536 in
theorem w_named : about1.methodNamed? x = some theMethod := by decide +kernel
set_option maxRecDepth 65536 in
theorem w_hears : about1.hears theMethod below0 = true := by decide +kernel
set_option maxRecDepth 65536 in
theorem w_ripe : about1.ripe theMethod args0 below0 = true := by decide +kernel
theorem w_running : about1.status = .running := rfl
set_option maxRecDepth 65536 in
theorem w_room : about1.hasRoom e0.platform room_1 = true :=
  launch0.hasRoom_least _ room_1 (by decide +kernel) (by decide +kernel) (by decide +kernel) (by decide +kernel) (by decide +kernel) (by decide +kernel)
theorem allAtoms_all (ts : List Jvm.Cond) (a : Array Jvm.Value) (st : Jvm.State) : (allAtoms ts).before a st = ts.all (fun c => c.before a st) := by
  induction ts with
  | nil => rfl
  | cons c t ih =>
    show (Jvm.Cond.and c (allAtoms t)).before a st = _
    rw [Jvm.Cond.before_and, ih, List.all_cons]
def words1 : List Jvm.Cond := Jvm.Cond.code x code maxLocals ret :: tables_1
/-- a 'code' word, met by the world's own term for the bytes: nothing is compared byte by byte -/
theorem code_word {y : MethodName} {bytes : ByteArray} {mx : Nat} {rt : Option FieldType} {a : Array Value} {s : State} {m : MethodId} {meth : Method} {c : Code} (h1 : s.methodNamed? y = some m) (h2 : s.vm.method? m = some meth) (h3 : meth.code = some c) (h4 : c.code = bytes)
    (h5 : (c.maxLocals == mx && c.exceptionTable.isEmpty && decide (c.maxStack ≤ mostOperands) && decide (meth.sig.returnType = rt) && !meth.locks && decide (parseMethodDescriptor y.desc = some meth.sig)) = true) : (Jvm.Cond.code y bytes mx rt).before a s = true := by
  simp only [Bool.and_eq_true, beq_iff_eq, Bool.not_eq_true', decide_eq_true_eq] at h5
  obtain ⟨⟨⟨⟨⟨g1, g2⟩, g3⟩, g4⟩, g5⟩, g6⟩ := h5
  simp [Cond.before, Cond.holds, Cond.value, h1, h2, h3, h4, g1, g2, g3, g4, g5, g6]
def isCode : Jvm.Cond → Bool
  | .code _ _ _ _ => true
  | _ => false
theorem all_split {L : List Jvm.Cond} {P : Jvm.Cond → Bool} (h1 : L.all (fun c => isCode c || P c) = true) (h2 : ∀ c ∈ L.filter isCode, P c = true) : L.all P = true := by
  refine List.all_eq_true.mpr fun c hc => ?_
  have h := List.all_eq_true.mp h1 c hc
  rcases Bool.eq_false_or_eq_true (isCode c) with hi | hi
  · exact h2 c (List.mem_filter.mpr ⟨hc, hi⟩)
  · simpa [hi] using h
set_option maxRecDepth 65536 in
theorem w_c0 : (Jvm.Cond.code x code maxLocals ret).before args0 about1 = true := code_word (m := ⟨1, 1⟩) (meth := k1m1) (c := k1c1) (by decide +kernel) rfl rfl rfl (by decide +kernel)
set_option maxRecDepth 65536 in
theorem w_c1 : (Jvm.Cond.code ({ cls := "com/example/palisade/palisade/xml/XmlCursor", name := "isCharacter", desc := "(I)Z" } : Jvm.MethodName) prog_148_method_49_code (1 : Nat) (Option.some Jvm.ClassFile.FieldType.boolean)).before args0 about1 = true := code_word (m := ⟨2, 0⟩) (meth := k2m0) (c := k2c0) (by decide +kernel) rfl rfl rfl (by decide +kernel)
set_option maxRecDepth 65536 in
theorem w_c2 : (Jvm.Cond.code ({ cls := "com/example/palisade/palisade/xml/XmlCursorIsCharacterPinLaw", name := "expected", desc := "(I)Z" } : Jvm.MethodName) method_3_code (5 : Nat) (Option.some Jvm.ClassFile.FieldType.boolean)).before args0 about1 = true := code_word (m := ⟨1, 2⟩) (meth := k1m2) (c := k1c2) (by decide +kernel) rfl rfl rfl (by decide +kernel)
def codes1 : List Jvm.Cond := [Jvm.Cond.code x code maxLocals ret, Jvm.Cond.code ({ cls := "com/example/palisade/palisade/xml/XmlCursor", name := "isCharacter", desc := "(I)Z" } : Jvm.MethodName) prog_148_method_49_code (1 : Nat) (Option.some Jvm.ClassFile.FieldType.boolean), Jvm.Cond.code ({ cls := "com/example/palisade/palisade/xml/XmlCursorIsCharacterPinLaw", name := "expected", desc := "(I)Z" } : Jvm.MethodName) method_3_code (5 : Nat) (Option.some Jvm.ClassFile.FieldType.boolean)]
set_option maxRecDepth 65536 in
theorem codes_eq : words1.filter isCode = codes1 := rfl
theorem w_codes : ∀ c ∈ words1.filter isCode, c.before args0 about1 = true := by
  rw [codes_eq]
  intro c hc
  simp only [codes1, List.mem_cons, List.not_mem_nil, or_false] at hc
  rcases hc with rfl | rfl | rfl
  · exact w_c0
  · exact w_c1
  · exact w_c2
set_option maxRecDepth 65536 in
theorem w_t1 : (words1.take 24).all (fun c => isCode c || c.before args0 about1) = true := by decide +kernel
set_option maxRecDepth 65536 in
theorem w_t2 : (words1.drop 24).all (fun c => isCode c || c.before args0 about1) = true := by decide +kernel
theorem w_tables : (allAtoms (Jvm.Cond.code x code maxLocals ret :: tables_1)).before args0 about1 = true := by
  rw [allAtoms_all]
  show words1.all (fun c => c.before args0 about1) = true
  refine all_split ?_ w_codes
  rw [← List.take_append_drop 24 words1, List.all_append, w_t1, w_t2]
  rfl
set_option maxRecDepth 65536 in
theorem w_case : (Jvm.Cond.and given_1 narrow_1).before args0 about1 = true := by decide +kernel
theorem w_applies : (headSpec (Jvm.Cond.code x code maxLocals ret :: tables_1) room_1).applies x e0.platform about1 = true :=
  (Spec.applies_iff w_frames).mpr ⟨w_running, w_runnable, w_alone, w_named, w_hears, w_ripe, w_room, w_tables⟩
theorem atStart : AtStart classFile x code maxLocals ret World_1 tables_1 room_1 Calls_1 rest_1 Pre_1 launch0 p0 e0 about1 theMethod args0 below0 :=
  ⟨lists_1, trivial, launch0.admits_env _ _ _, launch0.least_env, fairChoices_fair.cas, fairChoices_fair.clock, w_frames, w_args, w_heap, w_applies, trivial, trivial, w_case⟩
end start1
theorem witness_1 : WitnessClaimed_1 := ⟨start1.p0, start1.e0, start1.about1, start1.theMethod, start1.args0, start1.below0, start1.atStart⟩
end Jvm.Pilot.@@N@@
