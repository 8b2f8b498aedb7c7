import JvmDerived
import JvmDerived.Pilot.@@N@@Statement
import JvmDerived.Pilot.@@N@@Code
set_option linter.unusedVariables false
set_option linter.unusedSimpArgs false
namespace Jvm.RoadKit
open Sem ClassFile Op Lib Jvm.Stand Jvm.Free Jvm.LawKit
section New
variable {p : Program} {l : Launch} {e : Env} {R : Room} {s : State} {m : MethodId} {args : Array Value} {below : List Frame} {meth : Method} {c : Code} {T : State} {locs : List Loc} {cells slots : Nat}
theorem retI (X : Stand p l e R s m args below meth c T locs cells slots) (hx : p.tables.exec = Jvm.exec) {pc : Nat} {Ls : Array Slot} {z : Int32} {rest : List Value} (hret : meth.sig.returnType = some .int) (hd : decode c.code pc = .ok (.ireturn, 1)) {fs : List Frame}
    (hl : ∀ (f : JFrame) (acts : List Action), f.method = m → f.locked = none → f.entered = [] → (doReturn e (T.setTop f) acts (some (.int z))).1 = T.setFrames fs) : Steps p.tables e below (T.setTop (mkF m pc Ls (.int z :: rest))) (T.setFrames fs) := by
  have hm' : T.vm.method? m = some meth := X.method'
  have hn : narrow .int (.int z) = .int z := rfl
  show Steps p.tables e below (T.setTop { method := m, pc := pc, locals := Ls, stack := _ :: rest, locked := none }) _
  jvm_step X.here [X.here.top, hx, hd, hm', hret, hn]
  first | (intro acts; rw [hl _ acts rfl rfl rfl]) | rw [hl _ _ rfl rfl rfl]
  exact Steps.refl _
end New
end Jvm.RoadKit
namespace Jvm.Pilot.@@N@@
open Jvm Jvm.ClassFile Sem Op Lib Jvm.Free Jvm.Stand Jvm.LawKit Jvm.RoadKit Bundle Jvm.Pilot.@@N@@.Jvm.D
theorem own_w {a0 : Array Value} {Z : State} (hw : ∀ d ∈ tables_1, d.before a0 Z = true) (i : Nat) {d : Jvm.Cond} (h : tables_1[i]? = some d) : d.before a0 Z = true := hw d (List.mem_of_getElem? h)
/-- from U the run comes to the method's end, and Q holds there -/
def own_Go (tb : Tables) (e : Env) (below : List Frame) (s : State) (C N : Nat) (Q : Option Value → Heap → List Loc → Prop) (U : State) : Prop :=
  ∃ t o, Steps tb e below U t ∧ t.status = .running ∧ Ended t below o ∧ ∃ v L, o = .returned v ∧ Q v t.heap L ∧ FrameEnd s o t L C N
theorem own_step {tb : Tables} {e : Env} {below : List Frame} {s : State} {C N : Nat} {Q : Option Value → Heap → List Loc → Prop} {U U' : State} (h : ∀ t, Steps tb e below U' t → Steps tb e below U t) (k : own_Go tb e below s C N Q U') : own_Go tb e below s C N Q U := by
  obtain ⟨t, o, h1, h2⟩ := k
  exact ⟨t, o, h t h1, h2⟩
theorem own_steps {tb : Tables} {e : Env} {below : List Frame} {s : State} {C N : Nat} {Q : Option Value → Heap → List Loc → Prop} {U U' : State} (h : Steps tb e below U U') (k : own_Go tb e below s C N Q U') : own_Go tb e below s C N Q U := own_step (fun _ q => h.trans q) k
theorem own_out {p : Program} {l : Launch} {e : Env} {R : Room} {s : State} {m : MethodId} {args : Array Value} {below : List Frame} {meth : Method} {c : Code} {T : State} {locs : List Loc} {cells slots : Nat} (X : Stand p l e R s m args below meth c T locs cells slots) {v : Option Value}
    (hlk : meth.locks = false) (hv : meth.sig.returnType = none → v = none) {C N : Nat} {Q : Option Value → Heap → List Loc → Prop} (hQ : Q v T.heap locs) (hC : cells ≤ C) (hN : slots ≤ N) {U : State}
    (k : ∀ fs, (∀ (f : JFrame) (acts : List Action), f.method = m → f.locked = none → f.entered = [] → (doReturn e (T.setTop f) acts v).1 = T.setFrames fs) → Steps p.tables e below U (T.setFrames fs)) : own_Go p.tables e below s C N Q U := by
  obtain ⟨fs, hr, hrun, hended, hW, hsame⟩ := X.leave hv hlk
  exact ⟨_, _, k fs hr, hrun, hended, _, _, rfl, hQ, ⟨_, rfl⟩, hW, hsame.mono hC hN⟩
theorem own_exaP {Z : State} {h : Heap} {a : Addr} {C : String} (E : Exa Z h a C) : ∀ c : Cell, h[a]? = some c → c.vm.isStatics = false := fun c hc => by
  obtain ⟨cell, k, h1, -, -, h4, -⟩ := E
  cases h1.symm.trans hc; exact h4
theorem own_staK {Z : State} {h h' : Heap} {C n d : String} {v : Value} {ws : List Addr} (S : Sta Z h C n d v) (K : Keep h h' ws) (q : ∀ w ∈ ws, ∀ c : Cell, h[w]? = some c → c.vm.isStatics = false) : Sta Z h' C n d v := by
  obtain ⟨cf, i, k, f, st, cell, h1, h2, h3, h4, h5, h6, h7⟩ := S
  exact ⟨cf, i, k, f, st, cell, h1, h2, h3, h4, K.2.1 st cell h5 (fun z => by have := q st z cell h5; rw [h6] at this; cases this), h6, h7⟩
theorem own_anyF {Z : State} {a0 : Array Value} {h : Heap} {a : Addr} {C O n d O' n' d' : String} {v' : Value} {k : Nat} (E : Exa Z h a C) (F : Fld Z h a O' n' d' v') (wi : (Cond.instantiable C k).before a0 Z = true) (L : Laid Z a0 C O n d) : ∃ v, Fld Z h a O n d v :=
  fld_laid E (by obtain ⟨cell, _, _, _, _, h1, _, _, h4, _⟩ := F; exact ⟨cell, h1, h4⟩) wi L
theorem own_nv {meth : Method} {t : FieldType} (h : meth.sig.returnType = some t) {v : Option Value} : meth.sig.returnType = none → v = none := fun q => by rw [h] at q; cases q
theorem pd__B_I : parseMethodDescriptor "(B)I" = some ⟨[.byte], some .int⟩ := by decide +kernel
theorem pd__I_I : parseMethodDescriptor "(I)I" = some ⟨[.int], some .int⟩ := by decide +kernel
theorem d1_0 : decode prog_145_method_2_code 0 = .ok (.iload_n 0, 1) := by decide +kernel
theorem d1_1 : decode prog_145_method_2_code 1 = .ok (.sipush 255, 3) := by decide +kernel
theorem d1_4 : decode prog_145_method_2_code 4 = .ok (.iand, 1) := by decide +kernel
theorem d1_5 : decode prog_145_method_2_code 5 = .ok (.istore_n 1, 1) := by decide +kernel
theorem d1_6 : decode prog_145_method_2_code 6 = .ok (.iload_n 1, 1) := by decide +kernel
theorem d1_7 : decode prog_145_method_2_code 7 = .ok (.sipush 128, 3) := by decide +kernel
theorem d1_10 : decode prog_145_method_2_code 10 = .ok (.if_icmp .ge 5, 3) := by decide +kernel
theorem d1_13 : decode prog_145_method_2_code 13 = .ok (.iconst 1, 1) := by decide +kernel
theorem d1_14 : decode prog_145_method_2_code 14 = .ok (.ireturn, 1) := by decide +kernel
theorem d1_15 : decode prog_145_method_2_code 15 = .ok (.iload_n 1, 1) := by decide +kernel
theorem d1_16 : decode prog_145_method_2_code 16 = .ok (.sipush 194, 3) := by decide +kernel
theorem d1_19 : decode prog_145_method_2_code 19 = .ok (.if_icmp .ge 5, 3) := by decide +kernel
theorem d1_22 : decode prog_145_method_2_code 22 = .ok (.iconst 0, 1) := by decide +kernel
theorem d1_23 : decode prog_145_method_2_code 23 = .ok (.ireturn, 1) := by decide +kernel
theorem d1_24 : decode prog_145_method_2_code 24 = .ok (.iload_n 1, 1) := by decide +kernel
theorem d1_25 : decode prog_145_method_2_code 25 = .ok (.sipush 224, 3) := by decide +kernel
theorem d1_28 : decode prog_145_method_2_code 28 = .ok (.if_icmp .ge 5, 3) := by decide +kernel
theorem d1_31 : decode prog_145_method_2_code 31 = .ok (.iconst 2, 1) := by decide +kernel
theorem d1_32 : decode prog_145_method_2_code 32 = .ok (.ireturn, 1) := by decide +kernel
theorem d1_33 : decode prog_145_method_2_code 33 = .ok (.iload_n 1, 1) := by decide +kernel
theorem d1_34 : decode prog_145_method_2_code 34 = .ok (.sipush 240, 3) := by decide +kernel
theorem d1_37 : decode prog_145_method_2_code 37 = .ok (.if_icmp .ge 5, 3) := by decide +kernel
theorem d1_40 : decode prog_145_method_2_code 40 = .ok (.iconst 3, 1) := by decide +kernel
theorem d1_41 : decode prog_145_method_2_code 41 = .ok (.ireturn, 1) := by decide +kernel
theorem d1_42 : decode prog_145_method_2_code 42 = .ok (.iload_n 1, 1) := by decide +kernel
theorem d1_43 : decode prog_145_method_2_code 43 = .ok (.sipush 245, 3) := by decide +kernel
theorem d1_46 : decode prog_145_method_2_code 46 = .ok (.if_icmp .ge 7, 3) := by decide +kernel
theorem d1_49 : decode prog_145_method_2_code 49 = .ok (.iconst 4, 1) := by decide +kernel
theorem d1_50 : decode prog_145_method_2_code 50 = .ok (.goto 4, 3) := by decide +kernel
theorem d1_53 : decode prog_145_method_2_code 53 = .ok (.iconst 0, 1) := by decide +kernel
theorem d1_54 : decode prog_145_method_2_code 54 = .ok (.ireturn, 1) := by decide +kernel
theorem pn_1 : plainName "com/example/palisade/palisade/xml/Utf8" = true := by first | (simp [plainName, overriddenIn]; done) | decide +kernel
theorem ef_1 (m : MethodId) (p0 : Int32) : entryFrame m #[(.int p0)] 2 = mkF m 0 #[iv p0, .unset] [] := by first | (simp [entryFrame, mkF, argsToLocals, Value.category]; done) | rfl
def F1 (p0 : Int32) : Int32 :=
  if (p0 &&& (255 : Int32)) < (128 : Int32) then
    (1 : Int32)
  else
    if (p0 &&& (255 : Int32)) < (194 : Int32) then
      (0 : Int32)
    else
      if (p0 &&& (255 : Int32)) < (224 : Int32) then
        (2 : Int32)
      else
        if (p0 &&& (255 : Int32)) < (240 : Int32) then
          (3 : Int32)
        else
          if (p0 &&& (255 : Int32)) < (245 : Int32) then
            (4 : Int32)
          else
            (0 : Int32)
def Q1 (Z : State) (p0 : Int32) (h0 : Heap) (n0 : Nat) (v : Option Value) (h : Heap) (L : List Loc) : Prop := v = some (.int (F1 p0)) ∧ Fr n0 L ∧ h = h0
set_option maxRecDepth 65536 in
set_option maxHeartbeats 40000000 in
theorem rm1 (l : Launch) (Z : State) (a0 : Array Value) (hw : ∀ d ∈ tables_1, d.before a0 Z = true) (ws : List Jvm.Cond) (p0 : Int32) (h0 : Heap) (n0 : Nat) (Z0 : n0 ≤ h0.size) :
    MetFree l (⟨"com/example/palisade/palisade/xml/Utf8", "length", "(B)I"⟩ : MethodName) (head1 (Jvm.Cond.code (⟨"com/example/palisade/palisade/xml/Utf8", "length", "(B)I"⟩ : MethodName) prog_145_method_2_code 2 (some .int) :: ws) ({ frames := 0, cells := 0, slots := 0, locals := 0 } : Room)) (fun a U => a = #[(.int p0)] ∧ Z.Warmed39 U.vm ∧ U.heap = h0) (fun _ _ _ _ _ => True) (fun _ U o U' => ∃ v L, o = .returned v ∧ Q1 Z p0 h0 n0 v U'.heap L ∧ FrameEnd U o U' L ({ frames := 0, cells := 0, slots := 0, locals := 0 } : Room).cells ({ frames := 0, cells := 0, slots := 0, locals := 0 } : Room).slots) := by
  refine MetFree.of_bodySF (plainFor_of_name pn_1) hisR ?_
  intro p e s m args below meth c s₁ Bd hml0 hP hK
  obtain ⟨rfl, hZ, hh⟩ := hP
  have hx := Bd.exec
  have hby := Bd.bytes
  have hml : c.maxLocals = 2 := hml0
  have hown : s.vm.findClass "com/example/palisade/palisade/xml/Utf8" = some m.cls := findClass_of_methodNamed Bd.named
  have hnm := (name_of_methodNamed Bd.named Bd.method).1
  have hlk : meth.locks = false := Bd.notSynchronized
  have X0 : Stand p l e ({ frames := 0, cells := 0, slots := 0, locals := 0 } : Room) s m #[(.int p0)] below meth c s₁ [] 0 0 := Stand.of_body Bd
  have e0 : s₁.heap = h0 := by rw [← hh, Bd.state]; rfl
  have N0 := Fr.nil n0
  have KK0 := Keep.refl h0 []
  show own_Go p.tables e below s 0 0 (Q1 Z p0 h0 n0) (s₁.setTop (entryFrame m #[(.int p0)] 2))
  rw [ef_1]
  refine own_step (U' := s₁.setTop (mkF m 10 #[iv p0, iv (p0 &&& (255 : Int32))] [(.int (128 : Int32)), (.int (p0 &&& (255 : Int32)))])) (fun t k => XS.iloadN X0.here hx rfl (hb hby d1_0) rfl (XS.sipush X0.here hx rfl (hb hby d1_1) (XS.iand X0.here hx rfl (hb hby d1_4) rfl (XS.istoreN X0.here hx rfl (hb hby d1_5) rfl (l' := #[iv p0, iv (p0 &&& (255 : Int32))]) rfl (XS.iloadN X0.here hx rfl (hb hby d1_6) rfl (XS.sipush X0.here hx rfl (hb hby d1_7) k)))))) ?_
  by_cases hc10_1 : (p0 &&& (255 : Int32)) < (128 : Int32)
  · refine own_step (U' := s₁.setTop (mkF m 14 #[iv p0, iv (p0 &&& (255 : Int32))] [(.int (1 : Int32))])) (fun t k => XS.icmpNo X0.here hx rfl (hb hby d1_10) rfl (tlt hc10_1).2.1 (XS.iconst X0.here hx rfl (hb hby d1_13) k)) ?_
    exact own_out X0 (v := (some (.int (1 : Int32)))) hlk (own_nv Bd.returns) (by rw [e0]; exact ⟨by rw [show (F1 p0) = (1 : Int32) from (by simp only [F1, if_pos hc10_1])], N0, rfl⟩) (by decide) (by decide) (fun fs hr => retI X0 hx Bd.returns (hb hby d1_14) hr)
  · refine own_step (U' := s₁.setTop (mkF m 19 #[iv p0, iv (p0 &&& (255 : Int32))] [(.int (194 : Int32)), (.int (p0 &&& (255 : Int32)))])) (fun t k => XS.icmpYes X0.here hx rfl (pc0 := 10) (pc' := 15) rfl (hb hby d1_10) rfl (flt hc10_1).2.1 (by decide) (by decide) (XS.iloadN X0.here hx rfl (hb hby d1_15) rfl (XS.sipush X0.here hx rfl (hb hby d1_16) k))) ?_
    by_cases hc19_2 : (p0 &&& (255 : Int32)) < (194 : Int32)
    · refine own_step (U' := s₁.setTop (mkF m 23 #[iv p0, iv (p0 &&& (255 : Int32))] [(.int (0 : Int32))])) (fun t k => XS.icmpNo X0.here hx rfl (hb hby d1_19) rfl (tlt hc19_2).2.1 (XS.iconst X0.here hx rfl (hb hby d1_22) k)) ?_
      exact own_out X0 (v := (some (.int (0 : Int32)))) hlk (own_nv Bd.returns) (by rw [e0]; exact ⟨by rw [show (F1 p0) = (0 : Int32) from (by simp only [F1, if_neg hc10_1, if_pos hc19_2])], N0, rfl⟩) (by decide) (by decide) (fun fs hr => retI X0 hx Bd.returns (hb hby d1_23) hr)
    · refine own_step (U' := s₁.setTop (mkF m 28 #[iv p0, iv (p0 &&& (255 : Int32))] [(.int (224 : Int32)), (.int (p0 &&& (255 : Int32)))])) (fun t k => XS.icmpYes X0.here hx rfl (pc0 := 19) (pc' := 24) rfl (hb hby d1_19) rfl (flt hc19_2).2.1 (by decide) (by decide) (XS.iloadN X0.here hx rfl (hb hby d1_24) rfl (XS.sipush X0.here hx rfl (hb hby d1_25) k))) ?_
      by_cases hc28_3 : (p0 &&& (255 : Int32)) < (224 : Int32)
      · refine own_step (U' := s₁.setTop (mkF m 32 #[iv p0, iv (p0 &&& (255 : Int32))] [(.int (2 : Int32))])) (fun t k => XS.icmpNo X0.here hx rfl (hb hby d1_28) rfl (tlt hc28_3).2.1 (XS.iconst X0.here hx rfl (hb hby d1_31) k)) ?_
        exact own_out X0 (v := (some (.int (2 : Int32)))) hlk (own_nv Bd.returns) (by rw [e0]; exact ⟨by rw [show (F1 p0) = (2 : Int32) from (by simp only [F1, if_neg hc10_1, if_neg hc19_2, if_pos hc28_3])], N0, rfl⟩) (by decide) (by decide) (fun fs hr => retI X0 hx Bd.returns (hb hby d1_32) hr)
      · refine own_step (U' := s₁.setTop (mkF m 37 #[iv p0, iv (p0 &&& (255 : Int32))] [(.int (240 : Int32)), (.int (p0 &&& (255 : Int32)))])) (fun t k => XS.icmpYes X0.here hx rfl (pc0 := 28) (pc' := 33) rfl (hb hby d1_28) rfl (flt hc28_3).2.1 (by decide) (by decide) (XS.iloadN X0.here hx rfl (hb hby d1_33) rfl (XS.sipush X0.here hx rfl (hb hby d1_34) k))) ?_
        by_cases hc37_4 : (p0 &&& (255 : Int32)) < (240 : Int32)
        · refine own_step (U' := s₁.setTop (mkF m 41 #[iv p0, iv (p0 &&& (255 : Int32))] [(.int (3 : Int32))])) (fun t k => XS.icmpNo X0.here hx rfl (hb hby d1_37) rfl (tlt hc37_4).2.1 (XS.iconst X0.here hx rfl (hb hby d1_40) k)) ?_
          exact own_out X0 (v := (some (.int (3 : Int32)))) hlk (own_nv Bd.returns) (by rw [e0]; exact ⟨by rw [show (F1 p0) = (3 : Int32) from (by simp only [F1, if_neg hc10_1, if_neg hc19_2, if_neg hc28_3, if_pos hc37_4])], N0, rfl⟩) (by decide) (by decide) (fun fs hr => retI X0 hx Bd.returns (hb hby d1_41) hr)
        · refine own_step (U' := s₁.setTop (mkF m 46 #[iv p0, iv (p0 &&& (255 : Int32))] [(.int (245 : Int32)), (.int (p0 &&& (255 : Int32)))])) (fun t k => XS.icmpYes X0.here hx rfl (pc0 := 37) (pc' := 42) rfl (hb hby d1_37) rfl (flt hc37_4).2.1 (by decide) (by decide) (XS.iloadN X0.here hx rfl (hb hby d1_42) rfl (XS.sipush X0.here hx rfl (hb hby d1_43) k))) ?_
          by_cases hc46_5 : (p0 &&& (255 : Int32)) < (245 : Int32)
          · refine own_step (U' := s₁.setTop (mkF m 54 #[iv p0, iv (p0 &&& (255 : Int32))] [(.int (4 : Int32))])) (fun t k => XS.icmpNo X0.here hx rfl (hb hby d1_46) rfl (tlt hc46_5).2.1 (XS.iconst X0.here hx rfl (hb hby d1_49) (XS.goto X0.here hx rfl (pc0 := 50) (pc' := 54) rfl (hb hby d1_50) (by decide) (by decide) k))) ?_
            exact own_out X0 (v := (some (.int (4 : Int32)))) hlk (own_nv Bd.returns) (by rw [e0]; exact ⟨by rw [show (F1 p0) = (4 : Int32) from (by simp only [F1, if_neg hc10_1, if_neg hc19_2, if_neg hc28_3, if_neg hc37_4, if_pos hc46_5])], N0, rfl⟩) (by decide) (by decide) (fun fs hr => retI X0 hx Bd.returns (hb hby d1_54) hr)
          · refine own_step (U' := s₁.setTop (mkF m 54 #[iv p0, iv (p0 &&& (255 : Int32))] [(.int (0 : Int32))])) (fun t k => XS.icmpYes X0.here hx rfl (pc0 := 46) (pc' := 53) rfl (hb hby d1_46) rfl (flt hc46_5).2.1 (by decide) (by decide) (XS.iconst X0.here hx rfl (hb hby d1_53) k)) ?_
            exact own_out X0 (v := (some (.int (0 : Int32)))) hlk (own_nv Bd.returns) (by rw [e0]; exact ⟨by rw [show (F1 p0) = (0 : Int32) from (by simp only [F1, if_neg hc10_1, if_neg hc19_2, if_neg hc28_3, if_neg hc37_4, if_neg hc46_5])], N0, rfl⟩) (by decide) (by decide) (fun fs hr => retI X0 hx Bd.returns (hb hby d1_54) hr)
theorem d2_0 : decode method_2_code 0 = .ok (.iload_n 0, 1) := by decide +kernel
theorem d2_1 : decode method_2_code 1 = .ok (.sipush 128, 3) := by decide +kernel
theorem d2_4 : decode method_2_code 4 = .ok (.iand, 1) := by decide +kernel
theorem d2_5 : decode method_2_code 5 = .ok (.ifCond .ne 5, 3) := by decide +kernel
theorem d2_8 : decode method_2_code 8 = .ok (.iconst 1, 1) := by decide +kernel
theorem d2_9 : decode method_2_code 9 = .ok (.ireturn, 1) := by decide +kernel
theorem d2_10 : decode method_2_code 10 = .ok (.iload_n 0, 1) := by decide +kernel
theorem d2_11 : decode method_2_code 11 = .ok (.sipush 192, 3) := by decide +kernel
theorem d2_14 : decode method_2_code 14 = .ok (.iand, 1) := by decide +kernel
theorem d2_15 : decode method_2_code 15 = .ok (.sipush 128, 3) := by decide +kernel
theorem d2_18 : decode method_2_code 18 = .ok (.if_icmp .ne 5, 3) := by decide +kernel
theorem d2_21 : decode method_2_code 21 = .ok (.iconst 0, 1) := by decide +kernel
theorem d2_22 : decode method_2_code 22 = .ok (.ireturn, 1) := by decide +kernel
theorem d2_23 : decode method_2_code 23 = .ok (.iload_n 0, 1) := by decide +kernel
theorem d2_24 : decode method_2_code 24 = .ok (.sipush 224, 3) := by decide +kernel
theorem d2_27 : decode method_2_code 27 = .ok (.iand, 1) := by decide +kernel
theorem d2_28 : decode method_2_code 28 = .ok (.sipush 192, 3) := by decide +kernel
theorem d2_31 : decode method_2_code 31 = .ok (.if_icmp .ne 22, 3) := by decide +kernel
theorem d2_34 : decode method_2_code 34 = .ok (.iload_n 0, 1) := by decide +kernel
theorem d2_35 : decode method_2_code 35 = .ok (.bipush 31, 2) := by decide +kernel
theorem d2_37 : decode method_2_code 37 = .ok (.iand, 1) := by decide +kernel
theorem d2_38 : decode method_2_code 38 = .ok (.bipush 6, 2) := by decide +kernel
theorem d2_40 : decode method_2_code 40 = .ok (.ishl, 1) := by decide +kernel
theorem d2_41 : decode method_2_code 41 = .ok (.sipush 128, 3) := by decide +kernel
theorem d2_44 : decode method_2_code 44 = .ok (.if_icmp .lt 7, 3) := by decide +kernel
theorem d2_47 : decode method_2_code 47 = .ok (.iconst 2, 1) := by decide +kernel
theorem d2_48 : decode method_2_code 48 = .ok (.goto 4, 3) := by decide +kernel
theorem d2_51 : decode method_2_code 51 = .ok (.iconst 0, 1) := by decide +kernel
theorem d2_52 : decode method_2_code 52 = .ok (.ireturn, 1) := by decide +kernel
theorem d2_53 : decode method_2_code 53 = .ok (.iload_n 0, 1) := by decide +kernel
theorem d2_54 : decode method_2_code 54 = .ok (.sipush 240, 3) := by decide +kernel
theorem d2_57 : decode method_2_code 57 = .ok (.iand, 1) := by decide +kernel
theorem d2_58 : decode method_2_code 58 = .ok (.sipush 224, 3) := by decide +kernel
theorem d2_61 : decode method_2_code 61 = .ok (.if_icmp .ne 5, 3) := by decide +kernel
theorem d2_64 : decode method_2_code 64 = .ok (.iconst 3, 1) := by decide +kernel
theorem d2_65 : decode method_2_code 65 = .ok (.ireturn, 1) := by decide +kernel
theorem d2_66 : decode method_2_code 66 = .ok (.iload_n 0, 1) := by decide +kernel
theorem d2_67 : decode method_2_code 67 = .ok (.sipush 248, 3) := by decide +kernel
theorem d2_70 : decode method_2_code 70 = .ok (.iand, 1) := by decide +kernel
theorem d2_71 : decode method_2_code 71 = .ok (.sipush 240, 3) := by decide +kernel
theorem d2_74 : decode method_2_code 74 = .ok (.if_icmp .ne 21, 3) := by decide +kernel
theorem d2_77 : decode method_2_code 77 = .ok (.iload_n 0, 1) := by decide +kernel
theorem d2_78 : decode method_2_code 78 = .ok (.bipush 7, 2) := by decide +kernel
theorem d2_80 : decode method_2_code 80 = .ok (.iand, 1) := by decide +kernel
theorem d2_81 : decode method_2_code 81 = .ok (.bipush 18, 2) := by decide +kernel
theorem d2_83 : decode method_2_code 83 = .ok (.ishl, 1) := by decide +kernel
theorem d2_84 : decode method_2_code 84 = .ok (.ldc 7, 2) := by decide +kernel
theorem d2_86 : decode method_2_code 86 = .ok (.if_icmp .gt 7, 3) := by decide +kernel
theorem d2_89 : decode method_2_code 89 = .ok (.iconst 4, 1) := by decide +kernel
theorem d2_90 : decode method_2_code 90 = .ok (.goto 4, 3) := by decide +kernel
theorem d2_93 : decode method_2_code 93 = .ok (.iconst 0, 1) := by decide +kernel
theorem d2_94 : decode method_2_code 94 = .ok (.ireturn, 1) := by decide +kernel
theorem d2_95 : decode method_2_code 95 = .ok (.iconst 0, 1) := by decide +kernel
theorem d2_96 : decode method_2_code 96 = .ok (.ireturn, 1) := by decide +kernel
theorem pn_2 : plainName "com/example/palisade/palisade/xml/Utf8LengthPinLaw" = true := by first | (simp [plainName, overriddenIn]; done) | decide +kernel
theorem ef_2 (m : MethodId) (p0 : Int32) : entryFrame m #[(.int p0)] 1 = mkF m 0 #[iv p0] [] := by first | (simp [entryFrame, mkF, argsToLocals, Value.category]; done) | rfl
def F2 (p0 : Int32) : Int32 :=
  if (p0 &&& (128 : Int32)) = (0 : Int32) then
    (1 : Int32)
  else
    if (p0 &&& (192 : Int32)) = (128 : Int32) then
      (0 : Int32)
    else
      if (p0 &&& (224 : Int32)) = (192 : Int32) then
        if ((p0 &&& (31 : Int32)) <<< ((6 : Int32) &&& 31)) < (128 : Int32) then
          (0 : Int32)
        else
          (2 : Int32)
      else
        if (p0 &&& (240 : Int32)) = (224 : Int32) then
          (3 : Int32)
        else
          if (p0 &&& (248 : Int32)) = (240 : Int32) then
            if (1114111 : Int32) < ((p0 &&& (7 : Int32)) <<< ((18 : Int32) &&& 31)) then
              (0 : Int32)
            else
              (4 : Int32)
          else
            (0 : Int32)
def Q2 (Z : State) (p0 : Int32) (h0 : Heap) (n0 : Nat) (v : Option Value) (h : Heap) (L : List Loc) : Prop := v = some (.int (F2 p0)) ∧ Fr n0 L ∧ h = h0
set_option maxRecDepth 65536 in
set_option maxHeartbeats 40000000 in
theorem rm2 (l : Launch) (Z : State) (a0 : Array Value) (hw : ∀ d ∈ tables_1, d.before a0 Z = true) (ws : List Jvm.Cond) (p0 : Int32) (h0 : Heap) (n0 : Nat) (Z0 : n0 ≤ h0.size) :
    MetFree l (⟨"com/example/palisade/palisade/xml/Utf8LengthPinLaw", "expected", "(I)I"⟩ : MethodName) (head1 (Jvm.Cond.code (⟨"com/example/palisade/palisade/xml/Utf8LengthPinLaw", "expected", "(I)I"⟩ : MethodName) method_2_code 1 (some .int) :: ws) ({ frames := 0, cells := 0, slots := 0, locals := 0 } : Room)) (fun a U => a = #[(.int p0)] ∧ Z.Warmed39 U.vm ∧ U.heap = h0) (fun _ _ _ _ _ => True) (fun _ U o U' => ∃ v L, o = .returned v ∧ Q2 Z p0 h0 n0 v U'.heap L ∧ FrameEnd U o U' L ({ frames := 0, cells := 0, slots := 0, locals := 0 } : Room).cells ({ frames := 0, cells := 0, slots := 0, locals := 0 } : Room).slots) := by
  refine MetFree.of_bodySF (plainFor_of_name pn_2) hisR ?_
  intro p e s m args below meth c s₁ Bd hml0 hP hK
  obtain ⟨rfl, hZ, hh⟩ := hP
  have hx := Bd.exec
  have hby := Bd.bytes
  have hml : c.maxLocals = 1 := hml0
  have hown : s.vm.findClass "com/example/palisade/palisade/xml/Utf8LengthPinLaw" = some m.cls := findClass_of_methodNamed Bd.named
  have hnm := (name_of_methodNamed Bd.named Bd.method).1
  have hlk : meth.locks = false := Bd.notSynchronized
  have X0 : Stand p l e ({ frames := 0, cells := 0, slots := 0, locals := 0 } : Room) s m #[(.int p0)] below meth c s₁ [] 0 0 := Stand.of_body Bd
  have e0 : s₁.heap = h0 := by rw [← hh, Bd.state]; rfl
  have N0 := Fr.nil n0
  have KK0 := Keep.refl h0 []
  show own_Go p.tables e below s 0 0 (Q2 Z p0 h0 n0) (s₁.setTop (entryFrame m #[(.int p0)] 1))
  rw [ef_2]
  refine own_step (U' := s₁.setTop (mkF m 5 #[iv p0] [(.int (p0 &&& (128 : Int32)))])) (fun t k => XS.iloadN X0.here hx rfl (hb hby d2_0) rfl (XS.sipush X0.here hx rfl (hb hby d2_1) (XS.iand X0.here hx rfl (hb hby d2_4) rfl k))) ?_
  by_cases hc5_1 : (p0 &&& (128 : Int32)) = (0 : Int32)
  · refine own_step (U' := s₁.setTop (mkF m 9 #[iv p0] [(.int (1 : Int32))])) (fun t k => XS.ifNo X0.here hx rfl (hb hby d2_5) rfl ((if0 _ _).trans (teq hc5_1).2) (XS.iconst X0.here hx rfl (hb hby d2_8) k)) ?_
    exact own_out X0 (v := (some (.int (1 : Int32)))) hlk (own_nv Bd.returns) (by rw [e0]; exact ⟨by rw [show (F2 p0) = (1 : Int32) from (by simp only [F2, if_pos hc5_1])], N0, rfl⟩) (by decide) (by decide) (fun fs hr => retI X0 hx Bd.returns (hb hby d2_9) hr)
  · refine own_step (U' := s₁.setTop (mkF m 18 #[iv p0] [(.int (128 : Int32)), (.int (p0 &&& (192 : Int32)))])) (fun t k => XS.ifYes X0.here hx rfl (pc0 := 5) (pc' := 10) rfl (hb hby d2_5) rfl ((if0 _ _).trans (feq hc5_1).2) (by decide) (by decide) (XS.iloadN X0.here hx rfl (hb hby d2_10) rfl (XS.sipush X0.here hx rfl (hb hby d2_11) (XS.iand X0.here hx rfl (hb hby d2_14) rfl (XS.sipush X0.here hx rfl (hb hby d2_15) k))))) ?_
    by_cases hc18_2 : (p0 &&& (192 : Int32)) = (128 : Int32)
    · refine own_step (U' := s₁.setTop (mkF m 22 #[iv p0] [(.int (0 : Int32))])) (fun t k => XS.icmpNo X0.here hx rfl (hb hby d2_18) rfl (teq hc18_2).2 (XS.iconst X0.here hx rfl (hb hby d2_21) k)) ?_
      exact own_out X0 (v := (some (.int (0 : Int32)))) hlk (own_nv Bd.returns) (by rw [e0]; exact ⟨by rw [show (F2 p0) = (0 : Int32) from (by simp only [F2, if_neg hc5_1, if_pos hc18_2])], N0, rfl⟩) (by decide) (by decide) (fun fs hr => retI X0 hx Bd.returns (hb hby d2_22) hr)
    · refine own_step (U' := s₁.setTop (mkF m 31 #[iv p0] [(.int (192 : Int32)), (.int (p0 &&& (224 : Int32)))])) (fun t k => XS.icmpYes X0.here hx rfl (pc0 := 18) (pc' := 23) rfl (hb hby d2_18) rfl (feq hc18_2).2 (by decide) (by decide) (XS.iloadN X0.here hx rfl (hb hby d2_23) rfl (XS.sipush X0.here hx rfl (hb hby d2_24) (XS.iand X0.here hx rfl (hb hby d2_27) rfl (XS.sipush X0.here hx rfl (hb hby d2_28) k))))) ?_
      by_cases hc31_3 : (p0 &&& (224 : Int32)) = (192 : Int32)
      · refine own_step (U' := s₁.setTop (mkF m 44 #[iv p0] [(.int (128 : Int32)), (.int ((p0 &&& (31 : Int32)) <<< ((6 : Int32) &&& 31)))])) (fun t k => XS.icmpNo X0.here hx rfl (hb hby d2_31) rfl (teq hc31_3).2 (XS.iloadN X0.here hx rfl (hb hby d2_34) rfl (XS.bipush X0.here hx rfl (hb hby d2_35) (XS.iand X0.here hx rfl (hb hby d2_37) rfl (XS.bipush X0.here hx rfl (hb hby d2_38) (XS.ishl X0.here hx rfl (hb hby d2_40) rfl (XS.sipush X0.here hx rfl (hb hby d2_41) k))))))) ?_
        by_cases hc44_4 : ((p0 &&& (31 : Int32)) <<< ((6 : Int32) &&& 31)) < (128 : Int32)
        · refine own_step (U' := s₁.setTop (mkF m 52 #[iv p0] [(.int (0 : Int32))])) (fun t k => XS.icmpYes X0.here hx rfl (pc0 := 44) (pc' := 51) rfl (hb hby d2_44) rfl (tlt hc44_4).1 (by decide) (by decide) (XS.iconst X0.here hx rfl (hb hby d2_51) k)) ?_
          exact own_out X0 (v := (some (.int (0 : Int32)))) hlk (own_nv Bd.returns) (by rw [e0]; exact ⟨by rw [show (F2 p0) = (0 : Int32) from (by simp only [F2, if_neg hc5_1, if_neg hc18_2, if_pos hc31_3, if_pos hc44_4])], N0, rfl⟩) (by decide) (by decide) (fun fs hr => retI X0 hx Bd.returns (hb hby d2_52) hr)
        · refine own_step (U' := s₁.setTop (mkF m 52 #[iv p0] [(.int (2 : Int32))])) (fun t k => XS.icmpNo X0.here hx rfl (hb hby d2_44) rfl (flt hc44_4).1 (XS.iconst X0.here hx rfl (hb hby d2_47) (XS.goto X0.here hx rfl (pc0 := 48) (pc' := 52) rfl (hb hby d2_48) (by decide) (by decide) k))) ?_
          exact own_out X0 (v := (some (.int (2 : Int32)))) hlk (own_nv Bd.returns) (by rw [e0]; exact ⟨by rw [show (F2 p0) = (2 : Int32) from (by simp only [F2, if_neg hc5_1, if_neg hc18_2, if_pos hc31_3, if_neg hc44_4])], N0, rfl⟩) (by decide) (by decide) (fun fs hr => retI X0 hx Bd.returns (hb hby d2_52) hr)
      · refine own_step (U' := s₁.setTop (mkF m 61 #[iv p0] [(.int (224 : Int32)), (.int (p0 &&& (240 : Int32)))])) (fun t k => XS.icmpYes X0.here hx rfl (pc0 := 31) (pc' := 53) rfl (hb hby d2_31) rfl (feq hc31_3).2 (by decide) (by decide) (XS.iloadN X0.here hx rfl (hb hby d2_53) rfl (XS.sipush X0.here hx rfl (hb hby d2_54) (XS.iand X0.here hx rfl (hb hby d2_57) rfl (XS.sipush X0.here hx rfl (hb hby d2_58) k))))) ?_
        by_cases hc61_5 : (p0 &&& (240 : Int32)) = (224 : Int32)
        · refine own_step (U' := s₁.setTop (mkF m 65 #[iv p0] [(.int (3 : Int32))])) (fun t k => XS.icmpNo X0.here hx rfl (hb hby d2_61) rfl (teq hc61_5).2 (XS.iconst X0.here hx rfl (hb hby d2_64) k)) ?_
          exact own_out X0 (v := (some (.int (3 : Int32)))) hlk (own_nv Bd.returns) (by rw [e0]; exact ⟨by rw [show (F2 p0) = (3 : Int32) from (by simp only [F2, if_neg hc5_1, if_neg hc18_2, if_neg hc31_3, if_pos hc61_5])], N0, rfl⟩) (by decide) (by decide) (fun fs hr => retI X0 hx Bd.returns (hb hby d2_65) hr)
        · refine own_step (U' := s₁.setTop (mkF m 74 #[iv p0] [(.int (240 : Int32)), (.int (p0 &&& (248 : Int32)))])) (fun t k => XS.icmpYes X0.here hx rfl (pc0 := 61) (pc' := 66) rfl (hb hby d2_61) rfl (feq hc61_5).2 (by decide) (by decide) (XS.iloadN X0.here hx rfl (hb hby d2_66) rfl (XS.sipush X0.here hx rfl (hb hby d2_67) (XS.iand X0.here hx rfl (hb hby d2_70) rfl (XS.sipush X0.here hx rfl (hb hby d2_71) k))))) ?_
          by_cases hc74_6 : (p0 &&& (248 : Int32)) = (240 : Int32)
          · refine own_step (U' := s₁.setTop (mkF m 86 #[iv p0] [(.int (1114111 : Int32)), (.int ((p0 &&& (7 : Int32)) <<< ((18 : Int32) &&& 31)))])) (fun t k => XS.icmpNo X0.here hx rfl (hb hby d2_74) rfl (teq hc74_6).2 (XS.iloadN X0.here hx rfl (hb hby d2_77) rfl (XS.bipush X0.here hx rfl (hb hby d2_78) (XS.iand X0.here hx rfl (hb hby d2_80) rfl (XS.bipush X0.here hx rfl (hb hby d2_81) (XS.ishl X0.here hx rfl (hb hby d2_83) rfl (X0.ldcInt hx hown (mvT hZ (own_w hw 8 rfl)) (g := (mkF m 84 #[iv p0] [(.int ((p0 &&& (7 : Int32)) <<< ((18 : Int32) &&& 31)))])) rfl (hb hby d2_84) t k))))))) ?_
            by_cases hc86_7 : (1114111 : Int32) < ((p0 &&& (7 : Int32)) <<< ((18 : Int32) &&& 31))
            · refine own_step (U' := s₁.setTop (mkF m 94 #[iv p0] [(.int (0 : Int32))])) (fun t k => XS.icmpYes X0.here hx rfl (pc0 := 86) (pc' := 93) rfl (hb hby d2_86) rfl (tlt hc86_7).2.2.1 (by decide) (by decide) (XS.iconst X0.here hx rfl (hb hby d2_93) k)) ?_
              exact own_out X0 (v := (some (.int (0 : Int32)))) hlk (own_nv Bd.returns) (by rw [e0]; exact ⟨by rw [show (F2 p0) = (0 : Int32) from (by simp only [F2, if_neg hc5_1, if_neg hc18_2, if_neg hc31_3, if_neg hc61_5, if_pos hc74_6, if_pos hc86_7])], N0, rfl⟩) (by decide) (by decide) (fun fs hr => retI X0 hx Bd.returns (hb hby d2_94) hr)
            · refine own_step (U' := s₁.setTop (mkF m 94 #[iv p0] [(.int (4 : Int32))])) (fun t k => XS.icmpNo X0.here hx rfl (hb hby d2_86) rfl (flt hc86_7).2.2.1 (XS.iconst X0.here hx rfl (hb hby d2_89) (XS.goto X0.here hx rfl (pc0 := 90) (pc' := 94) rfl (hb hby d2_90) (by decide) (by decide) k))) ?_
              exact own_out X0 (v := (some (.int (4 : Int32)))) hlk (own_nv Bd.returns) (by rw [e0]; exact ⟨by rw [show (F2 p0) = (4 : Int32) from (by simp only [F2, if_neg hc5_1, if_neg hc18_2, if_neg hc31_3, if_neg hc61_5, if_pos hc74_6, if_neg hc86_7])], N0, rfl⟩) (by decide) (by decide) (fun fs hr => retI X0 hx Bd.returns (hb hby d2_94) hr)
          · refine own_step (U' := s₁.setTop (mkF m 96 #[iv p0] [(.int (0 : Int32))])) (fun t k => XS.icmpYes X0.here hx rfl (pc0 := 74) (pc' := 95) rfl (hb hby d2_74) rfl (feq hc74_6).2 (by decide) (by decide) (XS.iconst X0.here hx rfl (hb hby d2_95) k)) ?_
            exact own_out X0 (v := (some (.int (0 : Int32)))) hlk (own_nv Bd.returns) (by rw [e0]; exact ⟨by rw [show (F2 p0) = (0 : Int32) from (by simp only [F2, if_neg hc5_1, if_neg hc18_2, if_neg hc31_3, if_neg hc61_5, if_neg hc74_6])], N0, rfl⟩) (by decide) (by decide) (fun fs hr => retI X0 hx Bd.returns (hb hby d2_96) hr)

theorem own_ofNat {x : Int32} {n : Nat} (hn : n < 2147483648) (h : x.toInt = n) : x = Int32.ofNat n := by
  apply Int32.toInt_inj.mp; rw [h, Int32.toInt_ofNat_of_lt (by omega)]
theorem own_low (x : Int32) : ∃ n : Nat, n < 256 ∧ x &&& 255 = Int32.ofNat n ∧ x.toInt8.toInt32 &&& 255 = Int32.ofNat n := by
  have h1 := c_mask x 255 8 (by decide) (by decide)
  have h2 := c_mask x.toInt8.toInt32 255 8 (by decide) (by decide)
  have h3 := (c_i2b x).1
  refine ⟨(x.toInt % 256).toNat, by omega, own_ofNat (by omega) ?_, own_ofNat (by omega) ?_⟩ <;> omega
theorem own_all : ∀ n : Fin 256, F1 (Int32.ofNat n) = F2 (Int32.ofNat n) ∧ Int32.ofNat n &&& 255 = Int32.ofNat n := by decide +kernel
theorem own_law (x : Int32) : F1 (x.toInt8.toInt32) = F2 (x &&& (255 : Int32)) := by
  obtain ⟨n, hn, h1, h2⟩ := own_low x
  have h := own_all ⟨n, hn⟩
  have e1 : F1 x.toInt8.toInt32 = F1 (Int32.ofNat n) := by simp only [F1]; rw [h2, h.2]
  rw [e1, h1]; exact h.1

theorem pn_0 : plainName "com/example/palisade/palisade/xml/Utf8LengthPinLaw" = true := by first | (simp [plainName, overriddenIn]; done) | decide +kernel
theorem ef_0 (m : MethodId) (p0 : Int32) : entryFrame m #[(.int p0)] maxLocals = mkF m 0 #[iv p0, .unset, .unset, .unset] [] := by first | (simp [entryFrame, mkF, argsToLocals, Value.category, maxLocals]; done) | rfl
def Q0 (Z : State) (p0 : Int32) (h0 : Heap) (n0 : Nat) (v : Option Value) (h : Heap) (L : List Loc) : Prop := v = some (.int 1) ∧ Fr n0 L
set_option maxRecDepth 65536 in
set_option maxHeartbeats 40000000 in
theorem rm0 (l : Launch) (Z : State) (a0 : Array Value) (hw : ∀ d ∈ tables_1, d.before a0 Z = true) (ws : List Jvm.Cond) (p0 : Int32) (h0 : Heap) (n0 : Nat) (Z0 : n0 ≤ h0.size) :
    MetFree l x (head1 (Jvm.Cond.code x code maxLocals ret :: ws) room_1) (fun a U => a = #[(.int p0)] ∧ Z.Warmed39 U.vm ∧ U.heap = h0) (fun _ _ _ _ _ => True) (fun _ U o U' => ∃ v L, o = .returned v ∧ Q0 Z p0 h0 n0 v U'.heap L ∧ FrameEnd U o U' L 0 0) := by
  refine MetFree.of_bodySF (plainFor_of_name pn_0) hisR ?_
  intro p e s m args below meth c s₁ Bd hml0 hP hK
  obtain ⟨rfl, hZ, hh⟩ := hP
  have hx := Bd.exec
  have hby := Bd.bytes
  have hml : c.maxLocals = 4 := hml0
  have hown : s.vm.findClass "com/example/palisade/palisade/xml/Utf8LengthPinLaw" = some m.cls := findClass_of_methodNamed Bd.named
  have hnm := (name_of_methodNamed Bd.named Bd.method).1
  have hlk : meth.locks = false := Bd.notSynchronized
  have X0 : Stand p l e room_1 s m #[(.int p0)] below meth c s₁ [] 0 0 := Stand.of_body Bd
  have e0 : s₁.heap = h0 := by rw [← hh, Bd.state]; rfl
  have N0 := Fr.nil n0
  have KK0 := Keep.refl h0 []
  show own_Go p.tables e below s 0 0 (Q0 Z p0 h0 n0) (s₁.setTop (entryFrame m #[(.int p0)] maxLocals))
  rw [ef_0]
  refine own_step (U' := s₁.setTop (mkF m 10 #[iv p0, iv (p0.toInt8.toInt32), iv (p0 &&& (255 : Int32)), .unset] [(.int (p0.toInt8.toInt32))])) (fun t k => XS.iloadN X0.here hx rfl (hb hby at_0) rfl (XS.i2b X0.here hx rfl (hb hby at_1) rfl (XS.istoreN X0.here hx rfl (hb hby at_2) rfl (l' := #[iv p0, iv (p0.toInt8.toInt32), .unset, .unset]) rfl (XS.iloadN X0.here hx rfl (hb hby at_3) rfl (XS.sipush X0.here hx rfl (hb hby at_4) (XS.iand X0.here hx rfl (hb hby at_7) rfl (XS.istoreN X0.here hx rfl (hb hby at_8) rfl (l' := #[iv p0, iv (p0.toInt8.toInt32), iv (p0 &&& (255 : Int32)), .unset]) rfl (XS.iloadN X0.here hx rfl (hb hby at_9) rfl k)))))))) ?_
  obtain ⟨_, _, ⟨T1, L1, k1, n1⟩, -, X1, ⟨Lc1, hQ1, l1, y1, z1⟩, st1⟩ := Jvm.LawKit.callS X0 hx (y := (⟨"com/example/palisade/palisade/xml/Utf8", "length", "(B)I"⟩ : MethodName)) hown (mvT hZ (own_w hw 0 rfl)) (mvT hZ (own_w hw 1 rfl)) (mvT hZ (own_w hw 2 rfl)) (mvT hZ (own_w hw 3 rfl)) (by decide) (backOf (W := 0) (rm1 l Z a0 hw [] (p0.toInt8.toInt32) h0 n0 Z0) hZ (own_w hw 3 rfl) (own_w hw 2 rfl) (by decide) (by decide)) (g := (mkF m 10 #[iv p0, iv (p0.toInt8.toInt32), iv (p0 &&& (255 : Int32)), .unset] [(.int (p0.toInt8.toInt32))])) rfl (by rw [hml]; rfl) (argsL := [(.int (p0.toInt8.toInt32))]) (rest := []) (lenOf pd__B_I rfl) rfl (by show 2 * 0 + _ ≤ _; exact Nat.le_of_eq rfl) (hb hby at_10) (fun _ _ => ⟨rfl, e0, (by decide : 0 + 0 ≤ _), (by decide : 0 + 0 ≤ _)⟩)
  dsimp only [Pt.U, Pt.locs, Pt.cells, Pt.slots] at X1 l1 y1 z1 st1 hQ1
  subst l1 y1 z1
  obtain ⟨rfl, N1q, eq1⟩ := hQ1
  have N1 := Fr.app N0 N1q
  refine own_step (U' := T1.setTop (mkF m 13 #[iv p0, iv (p0.toInt8.toInt32), iv (p0 &&& (255 : Int32)), .unset] [(.int (F1 (p0.toInt8.toInt32)))])) st1 ?_
  refine own_step (U' := T1.setTop (mkF m 16 #[iv p0, iv (p0.toInt8.toInt32), iv (p0 &&& (255 : Int32)), iv (F1 (p0.toInt8.toInt32))] [(.int (p0 &&& (255 : Int32))), (.int (F1 (p0.toInt8.toInt32)))])) (fun t k => XS.istoreN X1.here hx rfl (hb hby at_13) rfl (l' := #[iv p0, iv (p0.toInt8.toInt32), iv (p0 &&& (255 : Int32)), iv (F1 (p0.toInt8.toInt32))]) rfl (XS.iloadN X1.here hx rfl (hb hby at_14) rfl (XS.iloadN X1.here hx rfl (hb hby at_15) rfl k))) ?_
  obtain ⟨_, _, ⟨T2, L2, k2, n2⟩, -, X2, ⟨Lc2, hQ2, l2, y2, z2⟩, st2⟩ := Jvm.LawKit.callS X1 hx (y := (⟨"com/example/palisade/palisade/xml/Utf8LengthPinLaw", "expected", "(I)I"⟩ : MethodName)) hown (mvT hZ (own_w hw 4 rfl)) (mvT hZ (own_w hw 5 rfl)) (mvT hZ (own_w hw 6 rfl)) (mvT hZ (own_w hw 7 rfl)) (by decide) (backOf (W := 1) (rm2 l Z a0 hw [] (p0 &&& (255 : Int32)) h0 n0 Z0) hZ (own_w hw 7 rfl) (own_w hw 6 rfl) (by decide) (by decide)) (g := (mkF m 16 #[iv p0, iv (p0.toInt8.toInt32), iv (p0 &&& (255 : Int32)), iv (F1 (p0.toInt8.toInt32))] [(.int (p0 &&& (255 : Int32))), (.int (F1 (p0.toInt8.toInt32)))])) rfl (by rw [hml]; rfl) (argsL := [(.int (p0 &&& (255 : Int32)))]) (rest := [(.int (F1 (p0.toInt8.toInt32)))]) (lenOf pd__I_I rfl) rfl (by show 2 * 0 + _ ≤ _; exact Nat.le_of_eq rfl) (hb hby at_16) (fun _ _ => ⟨rfl, eq1, (by decide : 0 + 0 ≤ _), (by decide : 0 + 0 ≤ _)⟩)
  dsimp only [Pt.U, Pt.locs, Pt.cells, Pt.slots] at X2 l2 y2 z2 st2 hQ2
  subst l2 y2 z2
  obtain ⟨rfl, N2q, eq2⟩ := hQ2
  have N2 := Fr.app N1 N2q
  refine own_step (U' := T2.setTop (mkF m 19 #[iv p0, iv (p0.toInt8.toInt32), iv (p0 &&& (255 : Int32)), iv (F1 (p0.toInt8.toInt32))] [(.int (F2 (p0 &&& (255 : Int32)))), (.int (F1 (p0.toInt8.toInt32)))])) st2 ?_
  refine own_step (U' := T2.setTop (mkF m 27 #[iv p0, iv (p0.toInt8.toInt32), iv (p0 &&& (255 : Int32)), iv (F1 (p0.toInt8.toInt32))] [(.int (1 : Int32))])) (fun t k => XS.icmpNo X2.here hx rfl (hb hby at_19) rfl (teq (own_law p0)).2 (XS.iconst X2.here hx rfl (hb hby at_22) (XS.goto X2.here hx rfl (pc0 := 23) (pc' := 27) rfl (hb hby at_23) (by decide) (by decide) k))) ?_
  exact own_out X2 (v := (some (.int (1 : Int32)))) hlk (own_nv Bd.returns) (by rw [eq2]; exact ⟨rfl, N2⟩) (by decide) (by decide) (fun fs hr => retN X2 hx (t := .boolean) Bd.returns (by simp) (hb hby at_27) hr)
set_option maxRecDepth 65536 in
set_option maxHeartbeats 40000000 in
theorem comes_1 {Post : Tables → Env → Array Value → State → Outcome → State → Prop} (hpost : ∀ tb e args s v u, (limb_1_1.after args s (.returned v) u = true ∧ limb_1_2.after args s (.returned v) u = true ∧ True) → FrameEnd s (.returned v) u (Jvm.fieldLocs frame_1_writes args s ++ Jvm.arrayLocs frame_1_arrays args s ++ Jvm.staticLocs frame_1_statics s) 0 0 → Post tb e args s (.returned v) u) :
    ArmFor flags0 classFile x code maxLocals ret World_1 tables_1 room_1 Calls_1 rest_1 Pre_1 Post := by
  intro l hfl _ _ p e ha hc hk s m args below hf hA hF happ hP
  obtain ⟨hcalls, hrest, hpre⟩ := hP
  obtain ⟨-, -, -, hnamed, -, -, -, hat⟩ := (Spec.applies_iff hf).mp happ
  obtain ⟨hg, hn⟩ := and_e (Cond.before_iff.mp (show (Jvm.Cond.and given_1 narrow_1).before args s = true from hpre))
  obtain ⟨gc, gr0⟩ := and_e hg
  obtain ⟨w0, rfl⟩ : ∃ w0 : Value, args = #[w0] := by
    have hs : args.size = 1 := by simpa [Cond.value, given_1] using gc
    obtain ⟨L⟩ := args
    match L, hs with
    | [w0], _ => exact ⟨w0, rfl⟩
  have hw := fun d (hd : d ∈ tables_1) => atoms_spec (ws := Jvm.Cond.code x code maxLocals ret :: tables_1) hat d (List.mem_cons_of_mem _ hd)
  have hfit : Fit s := fun {y c} hc i hi => by
    obtain ⟨ha, rfl⟩ := Array.getElem?_eq_some_iff.mp hc
    have q := List.all_eq_true.mp ((Array.all_eq_true_iff_forall_mem.mp hF) _ (Array.getElem_mem ha)) i (List.mem_range.mpr hi)
    simpa [Array.getElem?_eq_getElem hi] using q
  obtain ⟨i0, ei0⟩ := is_v gr0
  obtain rfl : w0 = (.int i0) := Option.some.inj ei0
  obtain ⟨n, o, h1, h2, h3, _, L, rfl, ⟨rfl, N⟩, hq⟩ := rm0 l s _ hw tables_1 i0  s.heap s.heap.size (Nat.le_refl _)  p e ha hc hk s m _ below hf ((Spec.applies_iff_loose hf).mp happ).1 ⟨rfl, State.Warmed39.refl s, rfl⟩ trivial
  refine ⟨n, _, h1, h2, h3, hpost _ _ _ _ _ _ ⟨Cond.after_iff.mpr rfl, Cond.after_iff.mpr (eq_i res_at (Term.int_eval (1)) rfl), trivial⟩ ⟨hq.1, hq.2.1, (hq.2.2.sift fun y hy => Or.inr (N y hy)).mono (by decide) (by decide)⟩⟩
theorem main_1_1 : Claimed_1_1 := comes_1 fun _ _ _ _ _ _ h hF => ⟨h.1, hF⟩
theorem main_1_2 : Claimed_1_2 := comes_1 fun _ _ _ _ _ _ h hF => ⟨h.2.1, hF⟩
end Jvm.Pilot.@@N@@
namespace Jvm.Pilot.@@N@@
open Jvm Jvm.ClassFile Sem Op Lib Jvm.Free Jvm.Stand Jvm.Pilot.@@N@@.Jvm.D
/-! MADE BY PROGRAM (witnessworld.py) out of the Statement's table words and the real class files: 9 classes; the members and pool entries that the words name. The judged class is class 1, her method 2. -/
namespace start1
open Jvm.ClassFile
def u (s : String) : CpInfo := .utf8 (stringToUtf16 s)
/-- a pool by its gaps: so many unusable entries, then the entry; so many at the end -/
def gap : Nat → List CpInfo → List CpInfo
  | 0, r => r
  | n + 1, r => .unusable :: gap n r
def poolList (es : List (Nat × CpInfo)) (last : Nat) : List CpInfo := es.foldr (fun e r => gap e.1 (e.2 :: r)) (gap last [])
def pool (es : List (Nat × CpInfo)) (last : Nat) : Array CpInfo := ⟨poolList es last⟩
def fileOf (pool : Array CpInfo) (this : Nat) (attrs : Array Attribute := #[]) (ms : Array MethodInfo := #[]) (fl : Nat := 33) (sup : Nat := 0) (ifs : Array Nat := #[]) (fds : Array FieldInfo := #[]) : ClassFile where
  minorVersion := 0
  majorVersion := 65
  constantPool := pool
  accessFlags := fl
  thisClass := this
  superClass := sup
  interfaces := ifs
  fields := fds
  methods := ms
  attributes := attrs
def plain (name : String) (sup : Option ClassId) : Class where
  name := name
  kind := .ordinary
  loader := none
  accessFlags := 33
  super := sup
  interfaces := #[]
  cf := none
  fields := #[]
  methods := #[]
  instanceTypes := #[]
  staticTypes := #[]
  resolved := #[]
  callSites := []
  init := .initialized
  statics := none
  mirror := none

def pool0 : Array CpInfo := pool [(5, u "<init>"), (0, u "()V"), (1, .class_ 10), (1, u "java/lang/Object")] 113

def k0m0 : Method := { name := "<init>", desc := "()V", sig := { parameters := [], returnType := none }, accessFlags := 1, code := none }
/-- java/lang/Object -/
def k0 : Class := { plain "java/lang/Object" none with
  accessFlags := 33
  interfaces := #[]
  cf := some (fileOf pool0 8 #[] #[{ accessFlags := 1, nameIndex := 5, descriptorIndex := 6, attributes := #[] }] 33 0 #[] #[])
  fields := #[]
  methods := #[k0m0]
  instanceTypes := #[]
  staticTypes := #[]
  resolved := Array.replicate 124 none
  statics := none }

def pool1 : Array CpInfo := pool [(2, .class_ 4), (1, u "java/lang/Object"), (0, u "<init>"), (0, u "()V"), (0, .integer 1114111), (0, .methodref 9 10), (0, .class_ 11), (0, .nameAndType 12 13), (0, u "com/example/palisade/palisade/xml/Utf8"), (0, u "length"), (0, u "(B)I"), (0, .methodref 15 16), (0, .class_ 17), (0, .nameAndType 18 19), (0, u "com/example/palisade/palisade/xml/Utf8LengthPinLaw"), (0, u "expected"), (0, u "(I)I"), (3, u "law"), (0, u "(I)Z")] 2

def k1m0 : Method := { name := "<init>", desc := "()V", sig := { parameters := [], returnType := none }, accessFlags := 2, code := none }
def k1c1 : Code := { maxStack := 2, maxLocals := 1, code := method_2_code, exceptionTable := #[], attributes := #[] }
def k1m1 : Method := { name := "expected", desc := "(I)I", sig := { parameters := [.int], returnType := some .int }, accessFlags := 10, code := some k1c1 }
def k1c2 : Code := { maxStack := 2, maxLocals := 4, code := code, exceptionTable := #[], attributes := #[] }
def k1m2 : Method := { name := "law", desc := "(I)Z", sig := { parameters := [.int], returnType := some .boolean }, accessFlags := 9, code := some k1c2 }
/-- com/example/palisade/palisade/xml/Utf8LengthPinLaw -/
def k1 : Class := { plain "com/example/palisade/palisade/xml/Utf8LengthPinLaw" (some 0) with
  accessFlags := 49
  interfaces := #[]
  cf := some (fileOf pool1 15 #[] #[{ accessFlags := 2, nameIndex := 5, descriptorIndex := 6, attributes := #[] }, { accessFlags := 10, nameIndex := 18, descriptorIndex := 19, attributes := #[] }, { accessFlags := 9, nameIndex := 23, descriptorIndex := 24, attributes := #[] }] 49 2 #[] #[])
  fields := #[]
  methods := #[k1m0, k1m1, k1m2]
  instanceTypes := #[]
  staticTypes := #[]
  resolved := Array.replicate 27 none
  statics := none }

def pool2 : Array CpInfo := pool [(2, .class_ 4), (1, u "java/lang/Object"), (0, u "<init>"), (0, u "()V"), (2, .class_ 11), (1, u "com/example/palisade/palisade/xml/Utf8"), (8, u "length"), (0, u "(B)I"), (19, u "BYTE_ORDER_MARK"), (0, u "[B")] 11

def k2m0 : Method := { name := "<init>", desc := "()V", sig := { parameters := [], returnType := none }, accessFlags := 2, code := none }
def k2c1 : Code := { maxStack := 2, maxLocals := 2, code := prog_145_method_2_code, exceptionTable := #[], attributes := #[] }
def k2m1 : Method := { name := "length", desc := "(B)I", sig := { parameters := [.byte], returnType := some .int }, accessFlags := 8, code := some k2c1 }
/-- com/example/palisade/palisade/xml/Utf8 -/
def k2 : Class := { plain "com/example/palisade/palisade/xml/Utf8" (some 0) with
  accessFlags := 49
  interfaces := #[]
  cf := some (fileOf pool2 9 #[] #[{ accessFlags := 2, nameIndex := 5, descriptorIndex := 6, attributes := #[] }, { accessFlags := 8, nameIndex := 20, descriptorIndex := 21, attributes := #[] }] 49 2 #[] #[{ accessFlags := 24, nameIndex := 41, descriptorIndex := 42, attributes := #[] }])
  fields := #[{ name := "BYTE_ORDER_MARK", type := (.array .byte), accessFlags := 24, slot := 0, constantValue := 0 }]
  methods := #[k2m0, k2m1]
  instanceTypes := #[]
  staticTypes := #[(.array .byte)]
  resolved := Array.replicate 54 none
  statics := none }

def pool3 : Array CpInfo := pool [(1, u "java/lang/Cloneable"), (0, .class_ 1), (0, u "java/lang/Object"), (0, .class_ 3)] 3

/-- java/lang/Cloneable -/
def k3 : Class := { plain "java/lang/Cloneable" (some 0) with
  accessFlags := 1537
  interfaces := #[]
  cf := some (fileOf pool3 2 #[] #[] 1537 4 #[] #[])
  fields := #[]
  methods := #[]
  instanceTypes := #[]
  staticTypes := #[]
  resolved := Array.replicate 8 none
  statics := none }

def pool4 : Array CpInfo := pool [(1, u "java/io/Serializable"), (0, .class_ 1), (0, u "java/lang/Object"), (0, .class_ 3)] 3

/-- java/io/Serializable -/
def k4 : Class := { plain "java/io/Serializable" (some 0) with
  accessFlags := 1537
  interfaces := #[]
  cf := some (fileOf pool4 2 #[] #[] 1537 4 #[] #[])
  fields := #[]
  methods := #[]
  instanceTypes := #[]
  staticTypes := #[]
  resolved := Array.replicate 8 none
  statics := none }

/-- the primitive byte -/
def k5 : Class := { plain "byte" none with kind := .primitive 'B', accessFlags := 0x411 }
/-- [B -/
def k6 : Class := { plain "[B" (some 0) with kind := .array 5 .byte, interfaces := #[3, 4], accessFlags := 1041 }

/-- the primitive int -/
def k7 : Class := { plain "int" none with kind := .primitive 'I', accessFlags := 0x411 }
/-- [I -/
def k8 : Class := { plain "[I" (some 0) with kind := .array 7 .int, interfaces := #[3, 4], accessFlags := 1041 }

def heap : Heap := #[]
def classes : Array Class := #[k0, k1, k2, k3, k4, k5, k6, k7, k8]
def interned : List (Array UInt16 × Addr) := []
def slotsUsed : Nat := 0
def theMethod : MethodId := ⟨1, 2⟩
def args0 : Array Value := #[.int 5]
def aboutOver (below : List Frame) : State where
  vm := { classes := classes, interned := interned.toArray }
  heap := heap
  slotsUsed := slotsUsed
  threads := #[{ frames := .invoking theMethod args0 :: below }]
def below0 : List Frame := [.native { method := ⟨0, 0⟩, args := #[] }]
def about1 : State := aboutOver below0
def p0 : Program := .bare "" "" ""
def e0 : Env := launch0.env 0 0 0
theorem w_frames : about1.frames = Frame.invoking theMethod args0 :: below0 := rfl
set_option maxRecDepth 65536 in
theorem w_args : argsFit about1.vm theMethod args0 = true := by decide +kernel
set_option maxRecDepth 65536 in
theorem w_heap : heapFits about1 = true := by decide +kernel
set_option maxRecDepth 65536 in
theorem w_runnable : about1.curStatus? = some .runnable := by decide +kernel
set_option maxRecDepth 65536 in
theorem w_alone : about1.alone = true := by decide +kernel
set_option maxRecDepth 65536 in
theorem w_named : about1.methodNamed? x = some theMethod := by decide +kernel
set_option maxRecDepth 65536 in
theorem w_hears : about1.hears theMethod below0 = true := by decide +kernel
set_option maxRecDepth 65536 in
theorem w_ripe : about1.ripe theMethod args0 below0 = true := by decide +kernel
theorem w_running : about1.status = .running := rfl
set_option maxRecDepth 65536 in
theorem w_room : about1.hasRoom e0.platform room_1 = true :=
  launch0.hasRoom_least _ room_1 (by decide +kernel) (by decide +kernel) (by decide +kernel) (by decide +kernel) (by decide +kernel) (by decide +kernel)
theorem allAtoms_all (ts : List Jvm.Cond) (a : Array Jvm.Value) (st : Jvm.State) : (allAtoms ts).before a st = ts.all (fun c => c.before a st) := by
  induction ts with
  | nil => rfl
  | cons c t ih =>
    show (Jvm.Cond.and c (allAtoms t)).before a st = _
    rw [Jvm.Cond.before_and, ih, List.all_cons]
def words1 : List Jvm.Cond := Jvm.Cond.code x code maxLocals ret :: tables_1
/-- a 'code' word, met by the world's own term for the bytes: nothing is compared byte by byte -/
theorem code_word {y : MethodName} {bytes : ByteArray} {mx : Nat} {rt : Option FieldType} {a : Array Value} {s : State} {m : MethodId} {meth : Method} {c : Code} (h1 : s.methodNamed? y = some m) (h2 : s.vm.method? m = some meth) (h3 : meth.code = some c) (h4 : c.code = bytes)
    (h5 : (c.maxLocals == mx && c.exceptionTable.isEmpty && decide (c.maxStack ≤ mostOperands) && decide (meth.sig.returnType = rt) && !meth.locks && decide (parseMethodDescriptor y.desc = some meth.sig)) = true) : (Jvm.Cond.code y bytes mx rt).before a s = true := by
  simp only [Bool.and_eq_true, beq_iff_eq, Bool.not_eq_true', decide_eq_true_eq] at h5
  obtain ⟨⟨⟨⟨⟨g1, g2⟩, g3⟩, g4⟩, g5⟩, g6⟩ := h5
  simp [Cond.before, Cond.holds, Cond.value, h1, h2, h3, h4, g1, g2, g3, g4, g5, g6]
def isCode : Jvm.Cond → Bool
  | .code _ _ _ _ => true
  | _ => false
theorem all_split {L : List Jvm.Cond} {P : Jvm.Cond → Bool} (h1 : L.all (fun c => isCode c || P c) = true) (h2 : ∀ c ∈ L.filter isCode, P c = true) : L.all P = true := by
  refine List.all_eq_true.mpr fun c hc => ?_
  have h := List.all_eq_true.mp h1 c hc
  rcases Bool.eq_false_or_eq_true (isCode c) with hi | hi
  · exact h2 c (List.mem_filter.mpr ⟨hc, hi⟩)
  · simpa [hi] using h
set_option maxRecDepth 65536 in
theorem w_c0 : (Jvm.Cond.code x code maxLocals ret).before args0 about1 = true := code_word (m := ⟨1, 2⟩) (meth := k1m2) (c := k1c2) (by decide +kernel) rfl rfl rfl (by decide +kernel)
set_option maxRecDepth 65536 in
theorem w_c1 : (Jvm.Cond.code ({ cls := "com/example/palisade/palisade/xml/Utf8", name := "length", desc := "(B)I" } : Jvm.MethodName) prog_145_method_2_code (2 : Nat) (Option.some Jvm.ClassFile.FieldType.int)).before args0 about1 = true := code_word (m := ⟨2, 1⟩) (meth := k2m1) (c := k2c1) (by decide +kernel) rfl rfl rfl (by decide +kernel)
set_option maxRecDepth 65536 in
theorem w_c2 : (Jvm.Cond.code ({ cls := "com/example/palisade/palisade/xml/Utf8LengthPinLaw", name := "expected", desc := "(I)I" } : Jvm.MethodName) method_2_code (1 : Nat) (Option.some Jvm.ClassFile.FieldType.int)).before args0 about1 = true := code_word (m := ⟨1, 1⟩) (meth := k1m1) (c := k1c1) (by decide +kernel) rfl rfl rfl (by decide +kernel)
def codes1 : List Jvm.Cond := [Jvm.Cond.code x code maxLocals ret, Jvm.Cond.code ({ cls := "com/example/palisade/palisade/xml/Utf8", name := "length", desc := "(B)I" } : Jvm.MethodName) prog_145_method_2_code (2 : Nat) (Option.some Jvm.ClassFile.FieldType.int), Jvm.Cond.code ({ cls := "com/example/palisade/palisade/xml/Utf8LengthPinLaw", name := "expected", desc := "(I)I" } : Jvm.MethodName) method_2_code (1 : Nat) (Option.some Jvm.ClassFile.FieldType.int)]
set_option maxRecDepth 65536 in
theorem codes_eq : words1.filter isCode = codes1 := rfl
theorem w_codes : ∀ c ∈ words1.filter isCode, c.before args0 about1 = true := by
  rw [codes_eq]
  intro c hc
  simp only [codes1, List.mem_cons, List.not_mem_nil, or_false] at hc
  rcases hc with rfl | rfl | rfl
  · exact w_c0
  · exact w_c1
  · exact w_c2
set_option maxRecDepth 65536 in
theorem w_t1 : words1.all (fun c => isCode c || c.before args0 about1) = true := by decide +kernel
theorem w_tables : (allAtoms (Jvm.Cond.code x code maxLocals ret :: tables_1)).before args0 about1 = true := by
  rw [allAtoms_all]
  show words1.all (fun c => c.before args0 about1) = true
  refine all_split ?_ w_codes
  rw [w_t1]
set_option maxRecDepth 65536 in
theorem w_case : (Jvm.Cond.and given_1 narrow_1).before args0 about1 = true := by decide +kernel
theorem w_applies : (headSpec (Jvm.Cond.code x code maxLocals ret :: tables_1) room_1).applies x e0.platform about1 = true :=
  (Spec.applies_iff w_frames).mpr ⟨w_running, w_runnable, w_alone, w_named, w_hears, w_ripe, w_room, w_tables⟩
theorem atStart : AtStart classFile x code maxLocals ret World_1 tables_1 room_1 Calls_1 rest_1 Pre_1 launch0 p0 e0 about1 theMethod args0 below0 :=
  ⟨lists_1, trivial, launch0.admits_env _ _ _, launch0.least_env, fairChoices_fair.cas, fairChoices_fair.clock, w_frames, w_args, w_heap, w_applies, trivial, trivial, w_case⟩
end start1
theorem witness_1 : WitnessClaimed_1 := ⟨start1.p0, start1.e0, start1.about1, start1.theMethod, start1.args0, start1.below0, start1.atStart⟩
end Jvm.Pilot.@@N@@
