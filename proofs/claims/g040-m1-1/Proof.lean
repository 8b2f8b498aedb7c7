import JvmDerived
import JvmDerived.Pilot.@@N@@Statement
import JvmDerived.Pilot.@@N@@Code
set_option linter.unusedVariables false
set_option linter.unusedSimpArgs false
namespace Jvm.RoadKit
open Sem ClassFile Op Lib Jvm.Stand Jvm.Free Jvm.LawKit
section New
variable {p : Program} {l : Launch} {e : Env} {R : Room} {s : State} {m : MethodId} {args : Array Value} {below : List Frame} {meth : Method} {c : Code} {T : State} {locs : List Loc} {cells slots : Nat}
theorem retI (X : Stand p l e R s m args below meth c T locs cells slots) (hx : p.tables.exec = Jvm.exec) {pc : Nat} {Ls : Array Slot} {z : Int32} {rest : List Value} (hret : meth.sig.returnType = some .int) (hd : decode c.code pc = .ok (.ireturn, 1)) {fs : List Frame}
    (hl : ∀ (f : JFrame) (acts : List Action), f.method = m → f.locked = none → f.entered = [] → (doReturn e (T.setTop f) acts (some (.int z))).1 = T.setFrames fs) : Steps p.tables e below (T.setTop (mkF m pc Ls (.int z :: rest))) (T.setFrames fs) := by
  have hm' : T.vm.method? m = some meth := X.method'
  have hn : narrow .int (.int z) = .int z := rfl
  show Steps p.tables e below (T.setTop { method := m, pc := pc, locals := Ls, stack := _ :: rest, locked := none }) _
  jvm_step X.here [X.here.top, hx, hd, hm', hret, hn]
  first | (intro acts; rw [hl _ acts rfl rfl rfl]) | rw [hl _ _ rfl rfl rfl]
  exact Steps.refl _
end New
end Jvm.RoadKit
namespace Jvm.Pilot.@@N@@
open Jvm Jvm.ClassFile Sem Op Lib Jvm.Free Jvm.Stand Jvm.LawKit Jvm.RoadKit Bundle Jvm.Pilot.@@N@@.Jvm.D
theorem own_w {a0 : Array Value} {Z : State} (hw : ∀ d ∈ tables_1, d.before a0 Z = true) (i : Nat) {d : Jvm.Cond} (h : tables_1[i]? = some d) : d.before a0 Z = true := hw d (List.mem_of_getElem? h)
/-- from U the run comes to the method's end, and Q holds there -/
def own_Go (tb : Tables) (e : Env) (below : List Frame) (s : State) (C N : Nat) (Q : Option Value → Heap → List Loc → Prop) (U : State) : Prop :=
  ∃ t o, Steps tb e below U t ∧ t.status = .running ∧ Ended t below o ∧ ∃ v L, o = .returned v ∧ Q v t.heap L ∧ FrameEnd s o t L C N
theorem own_step {tb : Tables} {e : Env} {below : List Frame} {s : State} {C N : Nat} {Q : Option Value → Heap → List Loc → Prop} {U U' : State} (h : ∀ t, Steps tb e below U' t → Steps tb e below U t) (k : own_Go tb e below s C N Q U') : own_Go tb e below s C N Q U := by
  obtain ⟨t, o, h1, h2⟩ := k
  exact ⟨t, o, h t h1, h2⟩
theorem own_steps {tb : Tables} {e : Env} {below : List Frame} {s : State} {C N : Nat} {Q : Option Value → Heap → List Loc → Prop} {U U' : State} (h : Steps tb e below U U') (k : own_Go tb e below s C N Q U') : own_Go tb e below s C N Q U := own_step (fun _ q => h.trans q) k
theorem own_out {p : Program} {l : Launch} {e : Env} {R : Room} {s : State} {m : MethodId} {args : Array Value} {below : List Frame} {meth : Method} {c : Code} {T : State} {locs : List Loc} {cells slots : Nat} (X : Stand p l e R s m args below meth c T locs cells slots) {v : Option Value}
    (hlk : meth.locks = false) (hv : meth.sig.returnType = none → v = none) {C N : Nat} {Q : Option Value → Heap → List Loc → Prop} (hQ : Q v T.heap locs) (hC : cells ≤ C) (hN : slots ≤ N) {U : State}
    (k : ∀ fs, (∀ (f : JFrame) (acts : List Action), f.method = m → f.locked = none → f.entered = [] → (doReturn e (T.setTop f) acts v).1 = T.setFrames fs) → Steps p.tables e below U (T.setFrames fs)) : own_Go p.tables e below s C N Q U := by
  obtain ⟨fs, hr, hrun, hended, hW, hsame⟩ := X.leave hv hlk
  exact ⟨_, _, k fs hr, hrun, hended, _, _, rfl, hQ, ⟨_, rfl⟩, hW, hsame.mono hC hN⟩
theorem own_exaP {Z : State} {h : Heap} {a : Addr} {C : String} (E : Exa Z h a C) : ∀ c : Cell, h[a]? = some c → c.vm.isStatics = false := fun c hc => by
  obtain ⟨cell, k, h1, -, -, h4, -⟩ := E
  cases h1.symm.trans hc; exact h4
theorem own_staK {Z : State} {h h' : Heap} {C n d : String} {v : Value} {ws : List Addr} (S : Sta Z h C n d v) (K : Keep h h' ws) (q : ∀ w ∈ ws, ∀ c : Cell, h[w]? = some c → c.vm.isStatics = false) : Sta Z h' C n d v := by
  obtain ⟨cf, i, k, f, st, cell, h1, h2, h3, h4, h5, h6, h7⟩ := S
  exact ⟨cf, i, k, f, st, cell, h1, h2, h3, h4, K.2.1 st cell h5 (fun z => by have := q st z cell h5; rw [h6] at this; cases this), h6, h7⟩
theorem own_anyF {Z : State} {a0 : Array Value} {h : Heap} {a : Addr} {C O n d O' n' d' : String} {v' : Value} {k : Nat} (E : Exa Z h a C) (F : Fld Z h a O' n' d' v') (wi : (Cond.instantiable C k).before a0 Z = true) (L : Laid Z a0 C O n d) : ∃ v, Fld Z h a O n d v :=
  fld_laid E (by obtain ⟨cell, _, _, _, _, h1, _, _, h4, _⟩ := F; exact ⟨cell, h1, h4⟩) wi L
theorem own_nv {meth : Method} {t : FieldType} (h : meth.sig.returnType = some t) {v : Option Value} : meth.sig.returnType = none → v = none := fun q => by rw [h] at q; cases q
theorem pd__B_Lcom_example_tallyfield_tallyfield_marc_RecordKind_ : parseMethodDescriptor "(B)Lcom/example/tallyfield/tallyfield/marc/RecordKind;" = some ⟨[.byte], some (.object "com/example/tallyfield/tallyfield/marc/RecordKind")⟩ := by decide +kernel

theorem own_sw1_1 {x : Int32} (h1 : ¬ x = (117 : Int32)) (h2 : ¬ x = (118 : Int32)) (h3 : ¬ x = (119 : Int32)) (h4 : ¬ x = (120 : Int32)) (h5 : ¬ x = (121 : Int32)) (h6 : ¬ x = (122 : Int32)) : x.toInt < 117 ∨ x.toInt > 122 := by
  rw [← Int32.toInt_inj] at h1 h2 h3 h4 h5 h6
  have e1 : (117 : Int32).toInt = 117 := by decide
  have e2 : (118 : Int32).toInt = 118 := by decide
  have e3 : (119 : Int32).toInt = 119 := by decide
  have e4 : (120 : Int32).toInt = 120 := by decide
  have e5 : (121 : Int32).toInt = 121 := by decide
  have e6 : (122 : Int32).toInt = 122 := by decide
  omega

theorem d1_0 : decode prog_53_method_4_code 0 = .ok (.iload_n 0, 1) := by decide +kernel
theorem d1_1 : decode prog_53_method_4_code 1 = .ok (.tableswitch 51 117 122 #[39, 39, 51, 39, 39, 45], 39) := by decide +kernel
theorem d1_40 : decode prog_53_method_4_code 40 = .ok (.getstatic 10, 3) := by decide +kernel
theorem d1_43 : decode prog_53_method_4_code 43 = .ok (.goto 12, 3) := by decide +kernel
theorem d1_46 : decode prog_53_method_4_code 46 = .ok (.getstatic 7, 3) := by decide +kernel
theorem d1_49 : decode prog_53_method_4_code 49 = .ok (.goto 6, 3) := by decide +kernel
theorem d1_52 : decode prog_53_method_4_code 52 = .ok (.getstatic 3, 3) := by decide +kernel
theorem d1_55 : decode prog_53_method_4_code 55 = .ok (.areturn, 1) := by decide +kernel
theorem pn_1 : plainName "com/example/tallyfield/tallyfield/marc/RecordKind" = true := by first | (simp [plainName, overriddenIn]; done) | decide +kernel
theorem ef_1 (m : MethodId) (p0 : Int32) : entryFrame m #[(.int p0)] 1 = mkF m 0 #[iv p0] [] := by first | (simp [entryFrame, mkF, argsToLocals, Value.category]; done) | rfl
def F1 (p0 : Int32) (wB : Addr) (wH : Addr) (wA : Addr) : Addr :=
  if p0 = (117 : Int32) then
    wH
  else
    if p0 = (118 : Int32) then
      wH
    else
      if p0 = (119 : Int32) then
        wB
      else
        if p0 = (120 : Int32) then
          wH
        else
          if p0 = (121 : Int32) then
            wH
          else
            if p0 = (122 : Int32) then
              wA
            else
              wB
def Q1 (Z : State) (p0 : Int32) (wB : Addr) (wH : Addr) (wA : Addr) (h0 : Heap) (n0 : Nat) (v : Option Value) (h : Heap) (L : List Loc) : Prop := v = some (.ref (F1 p0 wB wH wA)) ∧ Fr n0 L ∧ h = h0
set_option maxRecDepth 65536 in
set_option maxHeartbeats 40000000 in
theorem rm1 (l : Launch) (Z : State) (a0 : Array Value) (hw : ∀ d ∈ tables_1, d.before a0 Z = true) (ws : List Jvm.Cond) (p0 : Int32) (wB : Addr) (wH : Addr) (wA : Addr) (h0 : Heap) (n0 : Nat) (Z0 : n0 ≤ h0.size) (S_BIBLIOGRAPHIC : Sta Z h0 "com/example/tallyfield/tallyfield/marc/RecordKind" "BIBLIOGRAPHIC" "Lcom/example/tallyfield/tallyfield/marc/RecordKind;" (.ref wB)) (S_HOLDINGS : Sta Z h0 "com/example/tallyfield/tallyfield/marc/RecordKind" "HOLDINGS" "Lcom/example/tallyfield/tallyfield/marc/RecordKind;" (.ref wH)) (S_AUTHORITY : Sta Z h0 "com/example/tallyfield/tallyfield/marc/RecordKind" "AUTHORITY" "Lcom/example/tallyfield/tallyfield/marc/RecordKind;" (.ref wA)) :
    MetFree l (⟨"com/example/tallyfield/tallyfield/marc/RecordKind", "ofTypeOfRecord", "(B)Lcom/example/tallyfield/tallyfield/marc/RecordKind;"⟩ : MethodName) (head1 (Jvm.Cond.code (⟨"com/example/tallyfield/tallyfield/marc/RecordKind", "ofTypeOfRecord", "(B)Lcom/example/tallyfield/tallyfield/marc/RecordKind;"⟩ : MethodName) prog_53_method_4_code 1 (some (.object "com/example/tallyfield/tallyfield/marc/RecordKind")) :: ws) ({ frames := 0, cells := 0, slots := 0, locals := 0 } : Room)) (fun a U => a = #[(.int p0)] ∧ Z.Warmed39 U.vm ∧ U.heap = h0) (fun _ _ _ _ _ => True) (fun _ U o U' => ∃ v L, o = .returned v ∧ Q1 Z p0 wB wH wA h0 n0 v U'.heap L ∧ FrameEnd U o U' L ({ frames := 0, cells := 0, slots := 0, locals := 0 } : Room).cells ({ frames := 0, cells := 0, slots := 0, locals := 0 } : Room).slots) := by
  refine MetFree.of_bodySF (plainFor_of_name pn_1) hisR ?_
  intro p e s m args below meth c s₁ Bd hml0 hP hK
  obtain ⟨rfl, hZ, hh⟩ := hP
  have hx := Bd.exec
  have hby := Bd.bytes
  have hml : c.maxLocals = 1 := hml0
  have hown : s.vm.findClass "com/example/tallyfield/tallyfield/marc/RecordKind" = some m.cls := findClass_of_methodNamed Bd.named
  have hnm := (name_of_methodNamed Bd.named Bd.method).1
  have hlk : meth.locks = false := Bd.notSynchronized
  have X0 : Stand p l e ({ frames := 0, cells := 0, slots := 0, locals := 0 } : Room) s m #[(.int p0)] below meth c s₁ [] 0 0 := Stand.of_body Bd
  have e0 : s₁.heap = h0 := by rw [← hh, Bd.state]; rfl
  have N0 := Fr.nil n0
  have KK0 := Keep.refl h0 []
  show own_Go p.tables e below s 0 0 (Q1 Z p0 wB wH wA h0 n0) (s₁.setTop (entryFrame m #[(.int p0)] 1))
  rw [ef_1]
  refine own_step (U' := s₁.setTop (mkF m 1 #[iv p0] [(.int p0)])) (fun t k => XS.iloadN X0.here hx rfl (hb hby d1_0) rfl k) ?_
  by_cases hs1_1 : p0 = (117 : Int32)
  · refine own_step (U' := s₁.setTop (mkF m 40 #[iv p0] [])) (fun t k => XS.tswIn X0.here hx rfl (o := 39) (pc0 := 1) (pc' := 40) rfl (hb hby d1_1) rfl (by rw [hs1_1]; decide) (by rw [hs1_1]; rfl) (by decide) (by decide) k) ?_
    obtain ⟨T2, X2, e2, st2⟩ := getS2 X0 hx hZ hown (host := "") (Or.inl (own_w hw 11 rfl)) Via.refl e0 S_HOLDINGS (g := (mkF m 40 #[iv p0] [])) rfl (hb hby d1_40)
    refine own_step (U' := T2.setTop (mkF m 43 #[iv p0] [(.ref wH)])) st2 ?_
    refine own_step (U' := T2.setTop (mkF m 55 #[iv p0] [(.ref wH)])) (fun t k => XS.goto X2.here hx rfl (pc0 := 43) (pc' := 55) rfl (hb hby d1_43) (by decide) (by decide) k) ?_
    exact own_out X2 (v := (some (.ref wH))) hlk (own_nv Bd.returns) (by rw [e2]; exact ⟨by rw [show (F1 p0 wB wH wA) = wH from (by simp only [F1, if_pos hs1_1])], N0, rfl⟩) (by decide) (by decide) (fun fs hr => X2.areturnOut hx rfl Bd.returns rfl (hb hby d1_55) hr)
  · by_cases hs1_3 : p0 = (118 : Int32)
    · refine own_step (U' := s₁.setTop (mkF m 40 #[iv p0] [])) (fun t k => XS.tswIn X0.here hx rfl (o := 39) (pc0 := 1) (pc' := 40) rfl (hb hby d1_1) rfl (by rw [hs1_3]; decide) (by rw [hs1_3]; rfl) (by decide) (by decide) k) ?_
      obtain ⟨T4, X4, e4, st4⟩ := getS2 X0 hx hZ hown (host := "") (Or.inl (own_w hw 11 rfl)) Via.refl e0 S_HOLDINGS (g := (mkF m 40 #[iv p0] [])) rfl (hb hby d1_40)
      refine own_step (U' := T4.setTop (mkF m 43 #[iv p0] [(.ref wH)])) st4 ?_
      refine own_step (U' := T4.setTop (mkF m 55 #[iv p0] [(.ref wH)])) (fun t k => XS.goto X4.here hx rfl (pc0 := 43) (pc' := 55) rfl (hb hby d1_43) (by decide) (by decide) k) ?_
      exact own_out X4 (v := (some (.ref wH))) hlk (own_nv Bd.returns) (by rw [e4]; exact ⟨by rw [show (F1 p0 wB wH wA) = wH from (by simp only [F1, if_neg hs1_1, if_pos hs1_3])], N0, rfl⟩) (by decide) (by decide) (fun fs hr => X4.areturnOut hx rfl Bd.returns rfl (hb hby d1_55) hr)
    · by_cases hs1_5 : p0 = (119 : Int32)
      · refine own_step (U' := s₁.setTop (mkF m 52 #[iv p0] [])) (fun t k => XS.tswIn X0.here hx rfl (o := 51) (pc0 := 1) (pc' := 52) rfl (hb hby d1_1) rfl (by rw [hs1_5]; decide) (by rw [hs1_5]; rfl) (by decide) (by decide) k) ?_
        obtain ⟨T6, X6, e6, st6⟩ := getS2 X0 hx hZ hown (host := "") (Or.inl (own_w hw 4 rfl)) Via.refl e0 S_BIBLIOGRAPHIC (g := (mkF m 52 #[iv p0] [])) rfl (hb hby d1_52)
        refine own_step (U' := T6.setTop (mkF m 55 #[iv p0] [(.ref wB)])) st6 ?_
        exact own_out X6 (v := (some (.ref wB))) hlk (own_nv Bd.returns) (by rw [e6]; exact ⟨by rw [show (F1 p0 wB wH wA) = wB from (by simp only [F1, if_neg hs1_1, if_neg hs1_3, if_pos hs1_5])], N0, rfl⟩) (by decide) (by decide) (fun fs hr => X6.areturnOut hx rfl Bd.returns rfl (hb hby d1_55) hr)
      · by_cases hs1_7 : p0 = (120 : Int32)
        · refine own_step (U' := s₁.setTop (mkF m 40 #[iv p0] [])) (fun t k => XS.tswIn X0.here hx rfl (o := 39) (pc0 := 1) (pc' := 40) rfl (hb hby d1_1) rfl (by rw [hs1_7]; decide) (by rw [hs1_7]; rfl) (by decide) (by decide) k) ?_
          obtain ⟨T8, X8, e8, st8⟩ := getS2 X0 hx hZ hown (host := "") (Or.inl (own_w hw 11 rfl)) Via.refl e0 S_HOLDINGS (g := (mkF m 40 #[iv p0] [])) rfl (hb hby d1_40)
          refine own_step (U' := T8.setTop (mkF m 43 #[iv p0] [(.ref wH)])) st8 ?_
          refine own_step (U' := T8.setTop (mkF m 55 #[iv p0] [(.ref wH)])) (fun t k => XS.goto X8.here hx rfl (pc0 := 43) (pc' := 55) rfl (hb hby d1_43) (by decide) (by decide) k) ?_
          exact own_out X8 (v := (some (.ref wH))) hlk (own_nv Bd.returns) (by rw [e8]; exact ⟨by rw [show (F1 p0 wB wH wA) = wH from (by simp only [F1, if_neg hs1_1, if_neg hs1_3, if_neg hs1_5, if_pos hs1_7])], N0, rfl⟩) (by decide) (by decide) (fun fs hr => X8.areturnOut hx rfl Bd.returns rfl (hb hby d1_55) hr)
        · by_cases hs1_9 : p0 = (121 : Int32)
          · refine own_step (U' := s₁.setTop (mkF m 40 #[iv p0] [])) (fun t k => XS.tswIn X0.here hx rfl (o := 39) (pc0 := 1) (pc' := 40) rfl (hb hby d1_1) rfl (by rw [hs1_9]; decide) (by rw [hs1_9]; rfl) (by decide) (by decide) k) ?_
            obtain ⟨T10, X10, e10, st10⟩ := getS2 X0 hx hZ hown (host := "") (Or.inl (own_w hw 11 rfl)) Via.refl e0 S_HOLDINGS (g := (mkF m 40 #[iv p0] [])) rfl (hb hby d1_40)
            refine own_step (U' := T10.setTop (mkF m 43 #[iv p0] [(.ref wH)])) st10 ?_
            refine own_step (U' := T10.setTop (mkF m 55 #[iv p0] [(.ref wH)])) (fun t k => XS.goto X10.here hx rfl (pc0 := 43) (pc' := 55) rfl (hb hby d1_43) (by decide) (by decide) k) ?_
            exact own_out X10 (v := (some (.ref wH))) hlk (own_nv Bd.returns) (by rw [e10]; exact ⟨by rw [show (F1 p0 wB wH wA) = wH from (by simp only [F1, if_neg hs1_1, if_neg hs1_3, if_neg hs1_5, if_neg hs1_7, if_pos hs1_9])], N0, rfl⟩) (by decide) (by decide) (fun fs hr => X10.areturnOut hx rfl Bd.returns rfl (hb hby d1_55) hr)
          · by_cases hs1_11 : p0 = (122 : Int32)
            · refine own_step (U' := s₁.setTop (mkF m 46 #[iv p0] [])) (fun t k => XS.tswIn X0.here hx rfl (o := 45) (pc0 := 1) (pc' := 46) rfl (hb hby d1_1) rfl (by rw [hs1_11]; decide) (by rw [hs1_11]; rfl) (by decide) (by decide) k) ?_
              obtain ⟨T12, X12, e12, st12⟩ := getS2 X0 hx hZ hown (host := "") (Or.inl (own_w hw 14 rfl)) Via.refl e0 S_AUTHORITY (g := (mkF m 46 #[iv p0] [])) rfl (hb hby d1_46)
              refine own_step (U' := T12.setTop (mkF m 49 #[iv p0] [(.ref wA)])) st12 ?_
              refine own_step (U' := T12.setTop (mkF m 55 #[iv p0] [(.ref wA)])) (fun t k => XS.goto X12.here hx rfl (pc0 := 49) (pc' := 55) rfl (hb hby d1_49) (by decide) (by decide) k) ?_
              exact own_out X12 (v := (some (.ref wA))) hlk (own_nv Bd.returns) (by rw [e12]; exact ⟨by rw [show (F1 p0 wB wH wA) = wA from (by simp only [F1, if_neg hs1_1, if_neg hs1_3, if_neg hs1_5, if_neg hs1_7, if_neg hs1_9, if_pos hs1_11])], N0, rfl⟩) (by decide) (by decide) (fun fs hr => X12.areturnOut hx rfl Bd.returns rfl (hb hby d1_55) hr)
            · refine own_step (U' := s₁.setTop (mkF m 52 #[iv p0] [])) (fun t k => XS.tswOut X0.here hx rfl (pc0 := 1) (pc' := 52) rfl (hb hby d1_1) rfl (own_sw1_1 hs1_1 hs1_3 hs1_5 hs1_7 hs1_9 hs1_11) (by decide) (by decide) k) ?_
              obtain ⟨T13, X13, e13, st13⟩ := getS2 X0 hx hZ hown (host := "") (Or.inl (own_w hw 4 rfl)) Via.refl e0 S_BIBLIOGRAPHIC (g := (mkF m 52 #[iv p0] [])) rfl (hb hby d1_52)
              refine own_step (U' := T13.setTop (mkF m 55 #[iv p0] [(.ref wB)])) st13 ?_
              exact own_out X13 (v := (some (.ref wB))) hlk (own_nv Bd.returns) (by rw [e13]; exact ⟨by rw [show (F1 p0 wB wH wA) = wB from (by simp only [F1, if_neg hs1_1, if_neg hs1_3, if_neg hs1_5, if_neg hs1_7, if_neg hs1_9, if_neg hs1_11])], N0, rfl⟩) (by decide) (by decide) (fun fs hr => X13.areturnOut hx rfl Bd.returns rfl (hb hby d1_55) hr)
theorem d2_0 : decode method_2_code 0 = .ok (.iload_n 0, 1) := by decide +kernel
theorem d2_1 : decode method_2_code 1 = .ok (.bipush 122, 2) := by decide +kernel
theorem d2_3 : decode method_2_code 3 = .ok (.if_icmp .ne 7, 3) := by decide +kernel
theorem d2_6 : decode method_2_code 6 = .ok (.getstatic 7, 3) := by decide +kernel
theorem d2_9 : decode method_2_code 9 = .ok (.areturn, 1) := by decide +kernel
theorem d2_10 : decode method_2_code 10 = .ok (.iload_n 0, 1) := by decide +kernel
theorem d2_11 : decode method_2_code 11 = .ok (.bipush 117, 2) := by decide +kernel
theorem d2_13 : decode method_2_code 13 = .ok (.if_icmp .lt 19, 3) := by decide +kernel
theorem d2_16 : decode method_2_code 16 = .ok (.iload_n 0, 1) := by decide +kernel
theorem d2_17 : decode method_2_code 17 = .ok (.bipush 121, 2) := by decide +kernel
theorem d2_19 : decode method_2_code 19 = .ok (.if_icmp .gt 13, 3) := by decide +kernel
theorem d2_22 : decode method_2_code 22 = .ok (.iload_n 0, 1) := by decide +kernel
theorem d2_23 : decode method_2_code 23 = .ok (.bipush 119, 2) := by decide +kernel
theorem d2_25 : decode method_2_code 25 = .ok (.if_icmp .eq 7, 3) := by decide +kernel
theorem d2_28 : decode method_2_code 28 = .ok (.getstatic 13, 3) := by decide +kernel
theorem d2_31 : decode method_2_code 31 = .ok (.areturn, 1) := by decide +kernel
theorem d2_32 : decode method_2_code 32 = .ok (.getstatic 16, 3) := by decide +kernel
theorem d2_35 : decode method_2_code 35 = .ok (.areturn, 1) := by decide +kernel
theorem pn_2 : plainName "com/example/tallyfield/tallyfield/marc/RecordKindOfTypeOfRecordPinLaw" = true := by first | (simp [plainName, overriddenIn]; done) | decide +kernel
theorem ef_2 (m : MethodId) (p0 : Int32) : entryFrame m #[(.int p0)] 1 = mkF m 0 #[iv p0] [] := by first | (simp [entryFrame, mkF, argsToLocals, Value.category]; done) | rfl
def F2 (p0 : Int32) (wB : Addr) (wH : Addr) (wA : Addr) : Addr :=
  if p0 = (122 : Int32) then
    wA
  else
    if p0 < (117 : Int32) then
      wB
    else
      if (121 : Int32) < p0 then
        wB
      else
        if p0 = (119 : Int32) then
          wB
        else
          wH
def Q2 (Z : State) (p0 : Int32) (wB : Addr) (wH : Addr) (wA : Addr) (h0 : Heap) (n0 : Nat) (v : Option Value) (h : Heap) (L : List Loc) : Prop := v = some (.ref (F2 p0 wB wH wA)) ∧ Fr n0 L ∧ h = h0
set_option maxRecDepth 65536 in
set_option maxHeartbeats 40000000 in
theorem rm2 (l : Launch) (Z : State) (a0 : Array Value) (hw : ∀ d ∈ tables_1, d.before a0 Z = true) (ws : List Jvm.Cond) (p0 : Int32) (wB : Addr) (wH : Addr) (wA : Addr) (h0 : Heap) (n0 : Nat) (Z0 : n0 ≤ h0.size) (S_BIBLIOGRAPHIC : Sta Z h0 "com/example/tallyfield/tallyfield/marc/RecordKind" "BIBLIOGRAPHIC" "Lcom/example/tallyfield/tallyfield/marc/RecordKind;" (.ref wB)) (S_HOLDINGS : Sta Z h0 "com/example/tallyfield/tallyfield/marc/RecordKind" "HOLDINGS" "Lcom/example/tallyfield/tallyfield/marc/RecordKind;" (.ref wH)) (S_AUTHORITY : Sta Z h0 "com/example/tallyfield/tallyfield/marc/RecordKind" "AUTHORITY" "Lcom/example/tallyfield/tallyfield/marc/RecordKind;" (.ref wA)) :
    MetFree l (⟨"com/example/tallyfield/tallyfield/marc/RecordKindOfTypeOfRecordPinLaw", "expected", "(B)Lcom/example/tallyfield/tallyfield/marc/RecordKind;"⟩ : MethodName) (head1 (Jvm.Cond.code (⟨"com/example/tallyfield/tallyfield/marc/RecordKindOfTypeOfRecordPinLaw", "expected", "(B)Lcom/example/tallyfield/tallyfield/marc/RecordKind;"⟩ : MethodName) method_2_code 1 (some (.object "com/example/tallyfield/tallyfield/marc/RecordKind")) :: ws) ({ frames := 0, cells := 0, slots := 0, locals := 0 } : Room)) (fun a U => a = #[(.int p0)] ∧ Z.Warmed39 U.vm ∧ U.heap = h0) (fun _ _ _ _ _ => True) (fun _ U o U' => ∃ v L, o = .returned v ∧ Q2 Z p0 wB wH wA h0 n0 v U'.heap L ∧ FrameEnd U o U' L ({ frames := 0, cells := 0, slots := 0, locals := 0 } : Room).cells ({ frames := 0, cells := 0, slots := 0, locals := 0 } : Room).slots) := by
  refine MetFree.of_bodySF (plainFor_of_name pn_2) hisR ?_
  intro p e s m args below meth c s₁ Bd hml0 hP hK
  obtain ⟨rfl, hZ, hh⟩ := hP
  have hx := Bd.exec
  have hby := Bd.bytes
  have hml : c.maxLocals = 1 := hml0
  have hown : s.vm.findClass "com/example/tallyfield/tallyfield/marc/RecordKindOfTypeOfRecordPinLaw" = some m.cls := findClass_of_methodNamed Bd.named
  have hnm := (name_of_methodNamed Bd.named Bd.method).1
  have hlk : meth.locks = false := Bd.notSynchronized
  have X0 : Stand p l e ({ frames := 0, cells := 0, slots := 0, locals := 0 } : Room) s m #[(.int p0)] below meth c s₁ [] 0 0 := Stand.of_body Bd
  have e0 : s₁.heap = h0 := by rw [← hh, Bd.state]; rfl
  have N0 := Fr.nil n0
  have KK0 := Keep.refl h0 []
  show own_Go p.tables e below s 0 0 (Q2 Z p0 wB wH wA h0 n0) (s₁.setTop (entryFrame m #[(.int p0)] 1))
  rw [ef_2]
  refine own_step (U' := s₁.setTop (mkF m 3 #[iv p0] [(.int (122 : Int32)), (.int p0)])) (fun t k => XS.iloadN X0.here hx rfl (hb hby d2_0) rfl (XS.bipush X0.here hx rfl (hb hby d2_1) k)) ?_
  by_cases hc3_1 : p0 = (122 : Int32)
  · refine own_step (U' := s₁.setTop (mkF m 6 #[iv p0] [])) (fun t k => XS.icmpNo X0.here hx rfl (hb hby d2_3) rfl (teq hc3_1).2 k) ?_
    obtain ⟨T2, X2, e2, st2⟩ := getS2 X0 hx hZ hown (host := "") (Or.inl (own_w hw 16 rfl)) Via.refl e0 S_AUTHORITY (g := (mkF m 6 #[iv p0] [])) rfl (hb hby d2_6)
    refine own_step (U' := T2.setTop (mkF m 9 #[iv p0] [(.ref wA)])) st2 ?_
    exact own_out X2 (v := (some (.ref wA))) hlk (own_nv Bd.returns) (by rw [e2]; exact ⟨by rw [show (F2 p0 wB wH wA) = wA from (by simp only [F2, if_pos hc3_1])], N0, rfl⟩) (by decide) (by decide) (fun fs hr => X2.areturnOut hx rfl Bd.returns rfl (hb hby d2_9) hr)
  · refine own_step (U' := s₁.setTop (mkF m 13 #[iv p0] [(.int (117 : Int32)), (.int p0)])) (fun t k => XS.icmpYes X0.here hx rfl (pc0 := 3) (pc' := 10) rfl (hb hby d2_3) rfl (feq hc3_1).2 (by decide) (by decide) (XS.iloadN X0.here hx rfl (hb hby d2_10) rfl (XS.bipush X0.here hx rfl (hb hby d2_11) k))) ?_
    by_cases hc13_3 : p0 < (117 : Int32)
    · refine own_step (U' := s₁.setTop (mkF m 32 #[iv p0] [])) (fun t k => XS.icmpYes X0.here hx rfl (pc0 := 13) (pc' := 32) rfl (hb hby d2_13) rfl (tlt hc13_3).1 (by decide) (by decide) k) ?_
      obtain ⟨T4, X4, e4, st4⟩ := getS2 X0 hx hZ hown (host := "") (Or.inl (own_w hw 10 rfl)) Via.refl e0 S_BIBLIOGRAPHIC (g := (mkF m 32 #[iv p0] [])) rfl (hb hby d2_32)
      refine own_step (U' := T4.setTop (mkF m 35 #[iv p0] [(.ref wB)])) st4 ?_
      exact own_out X4 (v := (some (.ref wB))) hlk (own_nv Bd.returns) (by rw [e4]; exact ⟨by rw [show (F2 p0 wB wH wA) = wB from (by simp only [F2, if_neg hc3_1, if_pos hc13_3])], N0, rfl⟩) (by decide) (by decide) (fun fs hr => X4.areturnOut hx rfl Bd.returns rfl (hb hby d2_35) hr)
    · refine own_step (U' := s₁.setTop (mkF m 19 #[iv p0] [(.int (121 : Int32)), (.int p0)])) (fun t k => XS.icmpNo X0.here hx rfl (hb hby d2_13) rfl (flt hc13_3).1 (XS.iloadN X0.here hx rfl (hb hby d2_16) rfl (XS.bipush X0.here hx rfl (hb hby d2_17) k))) ?_
      by_cases hc19_5 : (121 : Int32) < p0
      · refine own_step (U' := s₁.setTop (mkF m 32 #[iv p0] [])) (fun t k => XS.icmpYes X0.here hx rfl (pc0 := 19) (pc' := 32) rfl (hb hby d2_19) rfl (tlt hc19_5).2.2.1 (by decide) (by decide) k) ?_
        obtain ⟨T6, X6, e6, st6⟩ := getS2 X0 hx hZ hown (host := "") (Or.inl (own_w hw 10 rfl)) Via.refl e0 S_BIBLIOGRAPHIC (g := (mkF m 32 #[iv p0] [])) rfl (hb hby d2_32)
        refine own_step (U' := T6.setTop (mkF m 35 #[iv p0] [(.ref wB)])) st6 ?_
        exact own_out X6 (v := (some (.ref wB))) hlk (own_nv Bd.returns) (by rw [e6]; exact ⟨by rw [show (F2 p0 wB wH wA) = wB from (by simp only [F2, if_neg hc3_1, if_neg hc13_3, if_pos hc19_5])], N0, rfl⟩) (by decide) (by decide) (fun fs hr => X6.areturnOut hx rfl Bd.returns rfl (hb hby d2_35) hr)
      · refine own_step (U' := s₁.setTop (mkF m 25 #[iv p0] [(.int (119 : Int32)), (.int p0)])) (fun t k => XS.icmpNo X0.here hx rfl (hb hby d2_19) rfl (flt hc19_5).2.2.1 (XS.iloadN X0.here hx rfl (hb hby d2_22) rfl (XS.bipush X0.here hx rfl (hb hby d2_23) k))) ?_
        by_cases hc25_7 : p0 = (119 : Int32)
        · refine own_step (U' := s₁.setTop (mkF m 32 #[iv p0] [])) (fun t k => XS.icmpYes X0.here hx rfl (pc0 := 25) (pc' := 32) rfl (hb hby d2_25) rfl (teq hc25_7).1 (by decide) (by decide) k) ?_
          obtain ⟨T8, X8, e8, st8⟩ := getS2 X0 hx hZ hown (host := "") (Or.inl (own_w hw 10 rfl)) Via.refl e0 S_BIBLIOGRAPHIC (g := (mkF m 32 #[iv p0] [])) rfl (hb hby d2_32)
          refine own_step (U' := T8.setTop (mkF m 35 #[iv p0] [(.ref wB)])) st8 ?_
          exact own_out X8 (v := (some (.ref wB))) hlk (own_nv Bd.returns) (by rw [e8]; exact ⟨by rw [show (F2 p0 wB wH wA) = wB from (by simp only [F2, if_neg hc3_1, if_neg hc13_3, if_neg hc19_5, if_pos hc25_7])], N0, rfl⟩) (by decide) (by decide) (fun fs hr => X8.areturnOut hx rfl Bd.returns rfl (hb hby d2_35) hr)
        · refine own_step (U' := s₁.setTop (mkF m 28 #[iv p0] [])) (fun t k => XS.icmpNo X0.here hx rfl (hb hby d2_25) rfl (feq hc25_7).1 k) ?_
          obtain ⟨T9, X9, e9, st9⟩ := getS2 X0 hx hZ hown (host := "") (Or.inl (own_w hw 13 rfl)) Via.refl e0 S_HOLDINGS (g := (mkF m 28 #[iv p0] [])) rfl (hb hby d2_28)
          refine own_step (U' := T9.setTop (mkF m 31 #[iv p0] [(.ref wH)])) st9 ?_
          exact own_out X9 (v := (some (.ref wH))) hlk (own_nv Bd.returns) (by rw [e9]; exact ⟨by rw [show (F2 p0 wB wH wA) = wH from (by simp only [F2, if_neg hc3_1, if_neg hc13_3, if_neg hc19_5, if_neg hc25_7])], N0, rfl⟩) (by decide) (by decide) (fun fs hr => X9.areturnOut hx rfl Bd.returns rfl (hb hby d2_31) hr)

theorem own_law (x : Int32) (a b c : Addr) : F1 x a b c = F2 x a b c := by
  simp only [F1, F2]
  by_cases h1 : x = (117 : Int32)
  · subst h1; simp
  · by_cases h2 : x = (118 : Int32)
    · subst h2; simp
    · by_cases h3 : x = (119 : Int32)
      · subst h3; simp
      · by_cases h4 : x = (120 : Int32)
        · subst h4; simp
        · by_cases h5 : x = (121 : Int32)
          · subst h5; simp
          · by_cases h6 : x = (122 : Int32)
            · subst h6; simp
            · have h := own_sw1_1 h1 h2 h3 h4 h5 h6
              have e1 : (117 : Int32).toInt = 117 := by decide
              have e5 : (121 : Int32).toInt = 121 := by decide
              rw [if_neg h1, if_neg h2, if_neg h3, if_neg h4, if_neg h5, if_neg h6, if_neg h6]
              by_cases q : x < 117
              · rw [if_pos q]
              · rw [if_neg q, if_pos (by rw [Int32.lt_iff_toInt_lt] at q ⊢; omega)]

theorem pn_0 : plainName "com/example/tallyfield/tallyfield/marc/RecordKindOfTypeOfRecordPinLaw" = true := by first | (simp [plainName, overriddenIn]; done) | decide +kernel
theorem ef_0 (m : MethodId) (p0 : Int32) : entryFrame m #[(.int p0)] maxLocals = mkF m 0 #[iv p0, .unset, .unset] [] := by first | (simp [entryFrame, mkF, argsToLocals, Value.category, maxLocals]; done) | rfl
def Q0 (Z : State) (p0 : Int32) (wB : Addr) (wH : Addr) (wA : Addr) (h0 : Heap) (n0 : Nat) (v : Option Value) (h : Heap) (L : List Loc) : Prop := v = some (.int 1) ∧ Fr n0 L
set_option maxRecDepth 65536 in
set_option maxHeartbeats 40000000 in
theorem rm0 (l : Launch) (Z : State) (a0 : Array Value) (hw : ∀ d ∈ tables_1, d.before a0 Z = true) (ws : List Jvm.Cond) (p0 : Int32) (wB : Addr) (wH : Addr) (wA : Addr) (h0 : Heap) (n0 : Nat) (Z0 : n0 ≤ h0.size) (S_BIBLIOGRAPHIC : Sta Z h0 "com/example/tallyfield/tallyfield/marc/RecordKind" "BIBLIOGRAPHIC" "Lcom/example/tallyfield/tallyfield/marc/RecordKind;" (.ref wB)) (S_HOLDINGS : Sta Z h0 "com/example/tallyfield/tallyfield/marc/RecordKind" "HOLDINGS" "Lcom/example/tallyfield/tallyfield/marc/RecordKind;" (.ref wH)) (S_AUTHORITY : Sta Z h0 "com/example/tallyfield/tallyfield/marc/RecordKind" "AUTHORITY" "Lcom/example/tallyfield/tallyfield/marc/RecordKind;" (.ref wA)) :
    MetFree l x (head1 (Jvm.Cond.code x code maxLocals ret :: ws) room_1) (fun a U => a = #[(.int p0)] ∧ Z.Warmed39 U.vm ∧ U.heap = h0) (fun _ _ _ _ _ => True) (fun _ U o U' => ∃ v L, o = .returned v ∧ Q0 Z p0 wB wH wA h0 n0 v U'.heap L ∧ FrameEnd U o U' L 0 0) := by
  refine MetFree.of_bodySF (plainFor_of_name pn_0) hisR ?_
  intro p e s m args below meth c s₁ Bd hml0 hP hK
  obtain ⟨rfl, hZ, hh⟩ := hP
  have hx := Bd.exec
  have hby := Bd.bytes
  have hml : c.maxLocals = 3 := hml0
  have hown : s.vm.findClass "com/example/tallyfield/tallyfield/marc/RecordKindOfTypeOfRecordPinLaw" = some m.cls := findClass_of_methodNamed Bd.named
  have hnm := (name_of_methodNamed Bd.named Bd.method).1
  have hlk : meth.locks = false := Bd.notSynchronized
  have X0 : Stand p l e room_1 s m #[(.int p0)] below meth c s₁ [] 0 0 := Stand.of_body Bd
  have e0 : s₁.heap = h0 := by rw [← hh, Bd.state]; rfl
  have N0 := Fr.nil n0
  have KK0 := Keep.refl h0 []
  show own_Go p.tables e below s 0 0 (Q0 Z p0 wB wH wA h0 n0) (s₁.setTop (entryFrame m #[(.int p0)] maxLocals))
  rw [ef_0]
  refine own_step (U' := s₁.setTop (mkF m 4 #[iv p0, iv (p0.toInt8.toInt32), .unset] [(.int (p0.toInt8.toInt32))])) (fun t k => XS.iloadN X0.here hx rfl (hb hby at_0) rfl (XS.i2b X0.here hx rfl (hb hby at_1) rfl (XS.istoreN X0.here hx rfl (hb hby at_2) rfl (l' := #[iv p0, iv (p0.toInt8.toInt32), .unset]) rfl (XS.iloadN X0.here hx rfl (hb hby at_3) rfl k)))) ?_
  obtain ⟨_, _, ⟨T1, L1, k1, n1⟩, -, X1, ⟨Lc1, hQ1, l1, y1, z1⟩, st1⟩ := Jvm.LawKit.callS X0 hx (y := (⟨"com/example/tallyfield/tallyfield/marc/RecordKind", "ofTypeOfRecord", "(B)Lcom/example/tallyfield/tallyfield/marc/RecordKind;"⟩ : MethodName)) hown (mvT hZ (own_w hw 0 rfl)) (mvT hZ (own_w hw 1 rfl)) (mvT hZ (own_w hw 2 rfl)) (mvT hZ (own_w hw 3 rfl)) (by decide) (backOf (W := 0) (rm1 l Z a0 hw [] (p0.toInt8.toInt32) wB wH wA h0 n0 Z0 S_BIBLIOGRAPHIC S_HOLDINGS S_AUTHORITY) hZ (own_w hw 3 rfl) (own_w hw 2 rfl) (by decide) (by decide)) (g := (mkF m 4 #[iv p0, iv (p0.toInt8.toInt32), .unset] [(.int (p0.toInt8.toInt32))])) rfl (by rw [hml]; rfl) (argsL := [(.int (p0.toInt8.toInt32))]) (rest := []) (lenOf pd__B_Lcom_example_tallyfield_tallyfield_marc_RecordKind_ rfl) rfl (by show 2 * 0 + _ ≤ _; exact Nat.le_of_eq rfl) (hb hby at_4) (fun _ _ => ⟨rfl, e0, (by decide : 0 + 0 ≤ _), (by decide : 0 + 0 ≤ _)⟩)
  dsimp only [Pt.U, Pt.locs, Pt.cells, Pt.slots] at X1 l1 y1 z1 st1 hQ1
  subst l1 y1 z1
  obtain ⟨rfl, N1q, eq1⟩ := hQ1
  have N1 := Fr.app N0 N1q
  refine own_step (U' := T1.setTop (mkF m 7 #[iv p0, iv (p0.toInt8.toInt32), .unset] [(.ref (F1 (p0.toInt8.toInt32) wB wH wA))])) st1 ?_
  refine own_step (U' := T1.setTop (mkF m 10 #[iv p0, iv (p0.toInt8.toInt32), rv (F1 (p0.toInt8.toInt32) wB wH wA)] [(.int (p0.toInt8.toInt32)), (.ref (F1 (p0.toInt8.toInt32) wB wH wA))])) (fun t k => XS.astoreN X1.here hx rfl (hb hby at_7) rfl rfl (l' := #[iv p0, iv (p0.toInt8.toInt32), rv (F1 (p0.toInt8.toInt32) wB wH wA)]) rfl (XS.aloadN X1.here hx rfl (hb hby at_8) rfl rfl (XS.iloadN X1.here hx rfl (hb hby at_9) rfl k))) ?_
  obtain ⟨_, _, ⟨T2, L2, k2, n2⟩, -, X2, ⟨Lc2, hQ2, l2, y2, z2⟩, st2⟩ := Jvm.LawKit.callS X1 hx (y := (⟨"com/example/tallyfield/tallyfield/marc/RecordKindOfTypeOfRecordPinLaw", "expected", "(B)Lcom/example/tallyfield/tallyfield/marc/RecordKind;"⟩ : MethodName)) hown (mvT hZ (own_w hw 6 rfl)) (mvT hZ (own_w hw 7 rfl)) (mvT hZ (own_w hw 8 rfl)) (mvT hZ (own_w hw 9 rfl)) (by decide) (backOf (W := 1) (rm2 l Z a0 hw [] (p0.toInt8.toInt32) wB wH wA h0 n0 Z0 S_BIBLIOGRAPHIC S_HOLDINGS S_AUTHORITY) hZ (own_w hw 9 rfl) (own_w hw 8 rfl) (by decide) (by decide)) (g := (mkF m 10 #[iv p0, iv (p0.toInt8.toInt32), rv (F1 (p0.toInt8.toInt32) wB wH wA)] [(.int (p0.toInt8.toInt32)), (.ref (F1 (p0.toInt8.toInt32) wB wH wA))])) rfl (by rw [hml]; rfl) (argsL := [(.int (p0.toInt8.toInt32))]) (rest := [(.ref (F1 (p0.toInt8.toInt32) wB wH wA))]) (lenOf pd__B_Lcom_example_tallyfield_tallyfield_marc_RecordKind_ rfl) rfl (by show 2 * 0 + _ ≤ _; exact Nat.le_of_eq rfl) (hb hby at_10) (fun _ _ => ⟨rfl, eq1, (by decide : 0 + 0 ≤ _), (by decide : 0 + 0 ≤ _)⟩)
  dsimp only [Pt.U, Pt.locs, Pt.cells, Pt.slots] at X2 l2 y2 z2 st2 hQ2
  subst l2 y2 z2
  obtain ⟨rfl, N2q, eq2⟩ := hQ2
  have N2 := Fr.app N1 N2q
  refine own_step (U' := T2.setTop (mkF m 13 #[iv p0, iv (p0.toInt8.toInt32), rv (F1 (p0.toInt8.toInt32) wB wH wA)] [(.ref (F2 (p0.toInt8.toInt32) wB wH wA)), (.ref (F1 (p0.toInt8.toInt32) wB wH wA))])) st2 ?_
  refine own_step (U' := T2.setTop (mkF m 21 #[iv p0, iv (p0.toInt8.toInt32), rv (F1 (p0.toInt8.toInt32) wB wH wA)] [(.int (1 : Int32))])) (fun t k => Jvm.RoadKit.acmp (g := (mkF m 13 #[iv p0, iv (p0.toInt8.toInt32), rv (F1 (p0.toInt8.toInt32) wB wH wA)] [(.ref (F2 (p0.toInt8.toInt32) wB wH wA)), (.ref (F1 (p0.toInt8.toInt32) wB wH wA))])) X2 hx rfl rfl rfl (pc0 := 13) (pc' := 16) (same := true) rfl (hb hby at_13) rfl (decide_eq_true (congrArg Value.ref (own_law _ _ _ _))) (by decide) (by decide) (XS.iconst X2.here hx rfl (hb hby at_16) (XS.goto X2.here hx rfl (pc0 := 17) (pc' := 21) rfl (hb hby at_17) (by decide) (by decide) k))) ?_
  exact own_out X2 (v := (some (.int (1 : Int32)))) hlk (own_nv Bd.returns) (by rw [eq2]; exact ⟨rfl, N2⟩) (by decide) (by decide) (fun fs hr => retN X2 hx (t := .boolean) Bd.returns (by simp) (hb hby at_21) hr)
set_option maxRecDepth 65536 in
set_option maxHeartbeats 40000000 in
theorem comes_1 {Post : Tables → Env → Array Value → State → Outcome → State → Prop} (hpost : ∀ tb e args s v u, (limb_1_1.after args s (.returned v) u = true ∧ limb_1_2.after args s (.returned v) u = true ∧ True) → FrameEnd s (.returned v) u (Jvm.fieldLocs frame_1_writes args s ++ Jvm.arrayLocs frame_1_arrays args s ++ Jvm.staticLocs frame_1_statics s) 0 0 → Post tb e args s (.returned v) u) :
    ArmFor flags0 classFile x code maxLocals ret World_1 tables_1 room_1 Calls_1 rest_1 Pre_1 Post := by
  intro l hfl _ _ p e ha hc hk s m args below hf hA hF happ hP
  obtain ⟨hcalls, hrest, hpre⟩ := hP
  obtain ⟨-, -, -, hnamed, -, -, -, hat⟩ := (Spec.applies_iff hf).mp happ
  obtain ⟨hg, hn⟩ := and_e (Cond.before_iff.mp (show (Jvm.Cond.and given_1 narrow_1).before args s = true from hpre))
  obtain ⟨gc, gr0⟩ := and_e hg
  obtain ⟨w0, rfl⟩ : ∃ w0 : Value, args = #[w0] := by
    have hs : args.size = 1 := by simpa [Cond.value, given_1] using gc
    obtain ⟨L⟩ := args
    match L, hs with
    | [w0], _ => exact ⟨w0, rfl⟩
  have hw := fun d (hd : d ∈ tables_1) => atoms_spec (ws := Jvm.Cond.code x code maxLocals ret :: tables_1) hat d (List.mem_cons_of_mem _ hd)
  have hfit : Fit s := fun {y c} hc i hi => by
    obtain ⟨ha, rfl⟩ := Array.getElem?_eq_some_iff.mp hc
    have q := List.all_eq_true.mp ((Array.all_eq_true_iff_forall_mem.mp hF) _ (Array.getElem_mem ha)) i (List.mem_range.mpr hi)
    simpa [Array.getElem?_eq_getElem hi] using q
  obtain ⟨i0, ei0⟩ := is_v gr0
  obtain rfl : w0 = (.int i0) := Option.some.inj ei0
  obtain ⟨hn1, hn23⟩ := and_e hn
  obtain ⟨hn2, hn3⟩ := and_e hn23
  obtain ⟨wB, ev0⟩ := exa_v hn1
  have S0 := Sta.start ev0 (Or.inr ⟨(own_w hw 2 rfl), (own_w hw 5 rfl)⟩)
  obtain ⟨wH, ev1⟩ := exa_v hn2
  have S1 := Sta.start ev1 (Or.inr ⟨(own_w hw 2 rfl), (own_w hw 12 rfl)⟩)
  obtain ⟨wA, ev2⟩ := exa_v hn3
  have S2 := Sta.start ev2 (Or.inr ⟨(own_w hw 2 rfl), (own_w hw 15 rfl)⟩)
  obtain ⟨n, o, h1, h2, h3, _, L, rfl, ⟨rfl, N⟩, hq⟩ := rm0 l s _ hw tables_1 i0 wB wH wA s.heap s.heap.size (Nat.le_refl _) S0 S1 S2 p e ha hc hk s m _ below hf ((Spec.applies_iff_loose hf).mp happ).1 ⟨rfl, State.Warmed39.refl s, rfl⟩ trivial
  refine ⟨n, _, h1, h2, h3, hpost _ _ _ _ _ _ ⟨Cond.after_iff.mpr rfl, Cond.after_iff.mpr (eq_i res_at (Term.int_eval (1)) rfl), trivial⟩ ⟨hq.1, hq.2.1, (hq.2.2.sift fun y hy => Or.inr (N y hy)).mono (by decide) (by decide)⟩⟩
theorem main_1_1 : Claimed_1_1 := comes_1 fun _ _ _ _ _ _ h hF => ⟨h.1, hF⟩
theorem main_1_2 : Claimed_1_2 := comes_1 fun _ _ _ _ _ _ h hF => ⟨h.2.1, hF⟩
end Jvm.Pilot.@@N@@
namespace Jvm.Pilot.@@N@@
open Jvm Jvm.ClassFile Sem Op Lib Jvm.Free Jvm.Stand Jvm.Pilot.@@N@@.Jvm.D
/-! MADE BY PROGRAM (witnessworld.py) out of the Statement's table words and the real class files: 12 classes; the members and pool entries that the words name. The judged class is class 1, her method 2. -/
namespace start1
open Jvm.ClassFile
def u (s : String) : CpInfo := .utf8 (stringToUtf16 s)
/-- a pool by its gaps: so many unusable entries, then the entry; so many at the end -/
def gap : Nat → List CpInfo → List CpInfo
  | 0, r => r
  | n + 1, r => .unusable :: gap n r
def poolList (es : List (Nat × CpInfo)) (last : Nat) : List CpInfo := es.foldr (fun e r => gap e.1 (e.2 :: r)) (gap last [])
def pool (es : List (Nat × CpInfo)) (last : Nat) : Array CpInfo := ⟨poolList es last⟩
def fileOf (pool : Array CpInfo) (this : Nat) (attrs : Array Attribute := #[]) (ms : Array MethodInfo := #[]) (fl : Nat := 33) (sup : Nat := 0) (ifs : Array Nat := #[]) (fds : Array FieldInfo := #[]) : ClassFile where
  minorVersion := 0
  majorVersion := 65
  constantPool := pool
  accessFlags := fl
  thisClass := this
  superClass := sup
  interfaces := ifs
  fields := fds
  methods := ms
  attributes := attrs
def plain (name : String) (sup : Option ClassId) : Class where
  name := name
  kind := .ordinary
  loader := none
  accessFlags := 33
  super := sup
  interfaces := #[]
  cf := none
  fields := #[]
  methods := #[]
  instanceTypes := #[]
  staticTypes := #[]
  resolved := #[]
  callSites := []
  init := .initialized
  statics := none
  mirror := none

def pool0 : Array CpInfo := pool [(5, u "<init>"), (0, u "()V"), (1, .class_ 10), (1, u "java/lang/Object")] 113

def k0m0 : Method := { name := "<init>", desc := "()V", sig := { parameters := [], returnType := none }, accessFlags := 1, code := none }
/-- java/lang/Object -/
def k0 : Class := { plain "java/lang/Object" none with
  accessFlags := 33
  interfaces := #[]
  cf := some (fileOf pool0 8 #[] #[{ accessFlags := 1, nameIndex := 5, descriptorIndex := 6, attributes := #[] }] 33 0 #[] #[])
  fields := #[]
  methods := #[k0m0]
  instanceTypes := #[]
  staticTypes := #[]
  resolved := Array.replicate 124 none
  statics := none }

def pool1 : Array CpInfo := pool [(2, .class_ 4), (1, u "java/lang/Object"), (0, u "<init>"), (0, u "()V"), (0, .fieldref 8 9), (0, .class_ 10), (0, .nameAndType 11 12), (0, u "com/example/tallyfield/tallyfield/marc/RecordKind"), (0, u "AUTHORITY"), (0, u "Lcom/example/tallyfield/tallyfield/marc/RecordKind;"), (0, .fieldref 8 14), (0, .nameAndType 15 12), (0, u "HOLDINGS"), (0, .fieldref 8 17), (0, .nameAndType 18 12), (0, u "BIBLIOGRAPHIC"), (0, .methodref 8 20), (0, .nameAndType 21 22), (0, u "ofTypeOfRecord"), (0, u "(B)Lcom/example/tallyfield/tallyfield/marc/RecordKind;"), (0, .methodref 24 25), (0, .class_ 26), (0, .nameAndType 27 22), (0, u "com/example/tallyfield/tallyfield/marc/RecordKindOfTypeOfRecordPinLaw"), (0, u "expected"), (3, u "law"), (0, u "(I)Z")] 2

def k1m0 : Method := { name := "<init>", desc := "()V", sig := { parameters := [], returnType := none }, accessFlags := 2, code := none }
def k1c1 : Code := { maxStack := 2, maxLocals := 1, code := method_2_code, exceptionTable := #[], attributes := #[] }
def k1m1 : Method := { name := "expected", desc := "(B)Lcom/example/tallyfield/tallyfield/marc/RecordKind;", sig := { parameters := [.byte], returnType := some (.object "com/example/tallyfield/tallyfield/marc/RecordKind") }, accessFlags := 10, code := some k1c1 }
def k1c2 : Code := { maxStack := 2, maxLocals := 3, code := code, exceptionTable := #[], attributes := #[] }
def k1m2 : Method := { name := "law", desc := "(I)Z", sig := { parameters := [.int], returnType := some .boolean }, accessFlags := 9, code := some k1c2 }
/-- com/example/tallyfield/tallyfield/marc/RecordKindOfTypeOfRecordPinLaw -/
def k1 : Class := { plain "com/example/tallyfield/tallyfield/marc/RecordKindOfTypeOfRecordPinLaw" (some 0) with
  accessFlags := 49
  interfaces := #[]
  cf := some (fileOf pool1 24 #[] #[{ accessFlags := 2, nameIndex := 5, descriptorIndex := 6, attributes := #[] }, { accessFlags := 10, nameIndex := 27, descriptorIndex := 22, attributes := #[] }, { accessFlags := 9, nameIndex := 31, descriptorIndex := 32, attributes := #[] }] 49 2 #[] #[])
  fields := #[]
  methods := #[k1m0, k1m1, k1m2]
  instanceTypes := #[]
  staticTypes := #[]
  resolved := Array.replicate 35 none
  statics := none }

def pool2 : Array CpInfo := pool [(1, .class_ 2), (0, u "java/lang/constant/Constable"), (0, .class_ 4), (0, u "java/lang/Object")] 6

/-- java/lang/constant/Constable -/
def k2 : Class := { plain "java/lang/constant/Constable" (some 0) with
  accessFlags := 1537
  interfaces := #[]
  cf := some (fileOf pool2 1 #[] #[] 1537 3 #[] #[])
  fields := #[]
  methods := #[]
  instanceTypes := #[]
  staticTypes := #[]
  resolved := Array.replicate 11 none
  statics := none }

def pool3 : Array CpInfo := pool [(1, .class_ 2), (0, u "java/lang/Comparable"), (0, .class_ 4), (0, u "java/lang/Object")] 7

/-- java/lang/Comparable -/
def k3 : Class := { plain "java/lang/Comparable" (some 0) with
  accessFlags := 1537
  interfaces := #[]
  cf := some (fileOf pool3 1 #[] #[] 1537 3 #[] #[])
  fields := #[]
  methods := #[]
  instanceTypes := #[]
  staticTypes := #[]
  resolved := Array.replicate 12 none
  statics := none }

def pool4 : Array CpInfo := pool [(1, .class_ 2), (0, u "java/io/Serializable"), (0, .class_ 4), (0, u "java/lang/Object")] 2

/-- java/io/Serializable -/
def k4 : Class := { plain "java/io/Serializable" (some 0) with
  accessFlags := 1537
  interfaces := #[]
  cf := some (fileOf pool4 1 #[] #[] 1537 3 #[] #[])
  fields := #[]
  methods := #[]
  instanceTypes := #[]
  staticTypes := #[]
  resolved := Array.replicate 7 none
  statics := none }

def pool5 : Array CpInfo := pool [(2, .class_ 4), (1, u "java/lang/Enum"), (0, u "name"), (0, u "Ljava/lang/String;"), (2, u "ordinal"), (0, u "I"), (1, .class_ 14), (1, u "java/lang/Object"), (4, u "hash"), (86, .class_ 108), (1, u "java/lang/Enum$EnumDesc"), (2, .class_ 112), (0, u "java/lang/constant/Constable"), (0, .class_ 114), (0, u "java/lang/Comparable"), (0, .class_ 116), (0, u "java/io/Serializable")] 87

/-- java/lang/Enum -/
def k5 : Class := { plain "java/lang/Enum" (some 0) with
  accessFlags := 1057
  interfaces := #[2, 3, 4]
  cf := some (fileOf pool5 2 #[.nestMembers #[106]] #[] 1057 12 #[111, 113, 115] #[{ accessFlags := 18, nameIndex := 5, descriptorIndex := 6, attributes := #[] }, { accessFlags := 18, nameIndex := 9, descriptorIndex := 10, attributes := #[] }, { accessFlags := 2, nameIndex := 19, descriptorIndex := 10, attributes := #[] }])
  fields := #[{ name := "name", type := (.object "java/lang/String"), accessFlags := 18, slot := 0, constantValue := 0 }, { name := "ordinal", type := .int, accessFlags := 18, slot := 1, constantValue := 0 }, { name := "hash", type := .int, accessFlags := 2, slot := 2, constantValue := 0 }]
  methods := #[]
  instanceTypes := #[(.object "java/lang/String"), .int, .int]
  staticTypes := #[]
  resolved := Array.replicate 204 none
  statics := none }

def pool6 : Array CpInfo := pool [(1, .class_ 2), (0, u "com/example/tallyfield/tallyfield/marc/RecordKind"), (0, .fieldref 1 4), (0, .nameAndType 5 6), (0, u "BIBLIOGRAPHIC"), (0, u "Lcom/example/tallyfield/tallyfield/marc/RecordKind;"), (0, .fieldref 1 8), (0, .nameAndType 9 6), (0, u "AUTHORITY"), (0, .fieldref 1 11), (0, .nameAndType 12 6), (0, u "HOLDINGS"), (2, u "$VALUES"), (0, u "[Lcom/example/tallyfield/tallyfield/marc/RecordKind;"), (6, .class_ 25), (1, u "java/lang/Enum"), (21, u "ofTypeOfRecord"), (0, u "(B)Lcom/example/tallyfield/tallyfield/marc/RecordKind;")] 5

def k6c0 : Code := { maxStack := 1, maxLocals := 1, code := prog_53_method_4_code, exceptionTable := #[], attributes := #[] }
def k6m0 : Method := { name := "ofTypeOfRecord", desc := "(B)Lcom/example/tallyfield/tallyfield/marc/RecordKind;", sig := { parameters := [.byte], returnType := some (.object "com/example/tallyfield/tallyfield/marc/RecordKind") }, accessFlags := 9, code := some k6c0 }
/-- com/example/tallyfield/tallyfield/marc/RecordKind -/
def k6 : Class := { plain "com/example/tallyfield/tallyfield/marc/RecordKind" (some 5) with
  accessFlags := 16433
  interfaces := #[]
  cf := some (fileOf pool6 1 #[] #[{ accessFlags := 9, nameIndex := 47, descriptorIndex := 48, attributes := #[] }] 16433 23 #[] #[{ accessFlags := 16409, nameIndex := 5, descriptorIndex := 6, attributes := #[] }, { accessFlags := 16409, nameIndex := 9, descriptorIndex := 6, attributes := #[] }, { accessFlags := 16409, nameIndex := 12, descriptorIndex := 6, attributes := #[] }, { accessFlags := 4122, nameIndex := 15, descriptorIndex := 16, attributes := #[] }])
  fields := #[{ name := "BIBLIOGRAPHIC", type := (.object "com/example/tallyfield/tallyfield/marc/RecordKind"), accessFlags := 16409, slot := 0, constantValue := 0 }, { name := "AUTHORITY", type := (.object "com/example/tallyfield/tallyfield/marc/RecordKind"), accessFlags := 16409, slot := 1, constantValue := 0 }, { name := "HOLDINGS", type := (.object "com/example/tallyfield/tallyfield/marc/RecordKind"), accessFlags := 16409, slot := 2, constantValue := 0 }, { name := "$VALUES", type := (.array (.object "com/example/tallyfield/tallyfield/marc/RecordKind")), accessFlags := 4122, slot := 3, constantValue := 0 }]
  methods := #[k6m0]
  instanceTypes := #[(.object "java/lang/String"), .int, .int]
  staticTypes := #[(.object "com/example/tallyfield/tallyfield/marc/RecordKind"), (.object "com/example/tallyfield/tallyfield/marc/RecordKind"), (.object "com/example/tallyfield/tallyfield/marc/RecordKind"), (.array (.object "com/example/tallyfield/tallyfield/marc/RecordKind"))]
  resolved := Array.replicate 54 none
  statics := some 0 }

def pool7 : Array CpInfo := pool [(1, u "java/lang/Cloneable"), (0, .class_ 1), (0, u "java/lang/Object"), (0, .class_ 3)] 3

/-- java/lang/Cloneable -/
def k7 : Class := { plain "java/lang/Cloneable" (some 0) with
  accessFlags := 1537
  interfaces := #[]
  cf := some (fileOf pool7 2 #[] #[] 1537 4 #[] #[])
  fields := #[]
  methods := #[]
  instanceTypes := #[]
  staticTypes := #[]
  resolved := Array.replicate 8 none
  statics := none }

/-- the primitive byte -/
def k8 : Class := { plain "byte" none with kind := .primitive 'B', accessFlags := 0x411 }
/-- [B -/
def k9 : Class := { plain "[B" (some 0) with kind := .array 8 .byte, interfaces := #[7, 4], accessFlags := 1041 }

/-- the primitive int -/
def k10 : Class := { plain "int" none with kind := .primitive 'I', accessFlags := 0x411 }
/-- [I -/
def k11 : Class := { plain "[I" (some 0) with kind := .array 10 .int, interfaces := #[7, 4], accessFlags := 1041 }

def heap : Heap := #[{ cls := 6, slots := #[.ref 1, .ref 3, .ref 2, .null], vm := .statics 6 },
  { cls := 6, slots := #[.null, .int 0, .int 0], vm := .none },
  { cls := 6, slots := #[.null, .int 1, .int 0], vm := .none },
  { cls := 6, slots := #[.null, .int 2, .int 0], vm := .none }]
def classes : Array Class := #[k0, k1, k2, k3, k4, k5, k6, k7, k8, k9, k10, k11]
def interned : List (Array UInt16 × Addr) := []
def slotsUsed : Nat := 13
def theMethod : MethodId := ⟨1, 2⟩
def args0 : Array Value := #[.int 5]
def aboutOver (below : List Frame) : State where
  vm := { classes := classes, interned := interned.toArray }
  heap := heap
  slotsUsed := slotsUsed
  threads := #[{ frames := .invoking theMethod args0 :: below }]
def below0 : List Frame := [.native { method := ⟨0, 0⟩, args := #[] }]
def about1 : State := aboutOver below0
def p0 : Program := .bare "" "" ""
def e0 : Env := launch0.env 0 0 0
theorem w_frames : about1.frames = Frame.invoking theMethod args0 :: below0 := rfl
set_option maxRecDepth 65536 in
theorem w_args : argsFit about1.vm theMethod args0 = true := by decide +kernel
set_option maxRecDepth 65536 in
theorem w_heap : heapFits about1 = true := by decide +kernel
set_option maxRecDepth 65536 in
theorem w_runnable : about1.curStatus? = some .runnable := by decide +kernel
set_option maxRecDepth 65536 in
theorem w_alone : about1.alone = true := by decide +kernel
set_option maxRecDepth 65536 in
theorem w_named : about1.methodNamed? x = some theMethod := by decide +kernel
set_option maxRecDepth 65536 in
theorem w_hears : about1.hears theMethod below0 = true := by decide +kernel
set_option maxRecDepth 65536 in
theorem w_ripe : about1.ripe theMethod args0 below0 = true := by decide +kernel
theorem w_running : about1.status = .running := rfl
set_option maxRecDepth 65536 in
theorem w_room : about1.hasRoom e0.platform room_1 = true :=
  launch0.hasRoom_least _ room_1 (by decide +kernel) (by decide +kernel) (by decide +kernel) (by decide +kernel) (by decide +kernel) (by decide +kernel)
theorem allAtoms_all (ts : List Jvm.Cond) (a : Array Jvm.Value) (st : Jvm.State) : (allAtoms ts).before a st = ts.all (fun c => c.before a st) := by
  induction ts with
  | nil => rfl
  | cons c t ih =>
    show (Jvm.Cond.and c (allAtoms t)).before a st = _
    rw [Jvm.Cond.before_and, ih, List.all_cons]
def words1 : List Jvm.Cond := Jvm.Cond.code x code maxLocals ret :: tables_1
/-- a 'code' word, met by the world's own term for the bytes: nothing is compared byte by byte -/
theorem code_word {y : MethodName} {bytes : ByteArray} {mx : Nat} {rt : Option FieldType} {a : Array Value} {s : State} {m : MethodId} {meth : Method} {c : Code} (h1 : s.methodNamed? y = some m) (h2 : s.vm.method? m = some meth) (h3 : meth.code = some c) (h4 : c.code = bytes)
    (h5 : (c.maxLocals == mx && c.exceptionTable.isEmpty && decide (c.maxStack ≤ mostOperands) && decide (meth.sig.returnType = rt) && !meth.locks && decide (parseMethodDescriptor y.desc = some meth.sig)) = true) : (Jvm.Cond.code y bytes mx rt).before a s = true := by
  simp only [Bool.and_eq_true, beq_iff_eq, Bool.not_eq_true', decide_eq_true_eq] at h5
  obtain ⟨⟨⟨⟨⟨g1, g2⟩, g3⟩, g4⟩, g5⟩, g6⟩ := h5
  simp [Cond.before, Cond.holds, Cond.value, h1, h2, h3, h4, g1, g2, g3, g4, g5, g6]
def isCode : Jvm.Cond → Bool
  | .code _ _ _ _ => true
  | _ => false
theorem all_split {L : List Jvm.Cond} {P : Jvm.Cond → Bool} (h1 : L.all (fun c => isCode c || P c) = true) (h2 : ∀ c ∈ L.filter isCode, P c = true) : L.all P = true := by
  refine List.all_eq_true.mpr fun c hc => ?_
  have h := List.all_eq_true.mp h1 c hc
  rcases Bool.eq_false_or_eq_true (isCode c) with hi | hi
  · exact h2 c (List.mem_filter.mpr ⟨hc, hi⟩)
  · simpa [hi] using h
set_option maxRecDepth 65536 in
theorem w_c0 : (Jvm.Cond.code x code maxLocals ret).before args0 about1 = true := code_word (m := ⟨1, 2⟩) (meth := k1m2) (c := k1c2) (by decide +kernel) rfl rfl rfl (by decide +kernel)
set_option maxRecDepth 65536 in
theorem w_c1 : (Jvm.Cond.code ({ cls := "com/example/tallyfield/tallyfield/marc/RecordKind", name := "ofTypeOfRecord", desc := "(B)Lcom/example/tallyfield/tallyfield/marc/RecordKind;" } : Jvm.MethodName) prog_53_method_4_code (1 : Nat) (Option.some (Jvm.ClassFile.FieldType.object "com/example/tallyfield/tallyfield/marc/RecordKind"))).before args0 about1 = true := code_word (m := ⟨6, 0⟩) (meth := k6m0) (c := k6c0) (by decide +kernel) rfl rfl rfl (by decide +kernel)
set_option maxRecDepth 65536 in
theorem w_c2 : (Jvm.Cond.code ({ cls := "com/example/tallyfield/tallyfield/marc/RecordKindOfTypeOfRecordPinLaw", name := "expected", desc := "(B)Lcom/example/tallyfield/tallyfield/marc/RecordKind;" } : Jvm.MethodName) method_2_code (1 : Nat) (Option.some (Jvm.ClassFile.FieldType.object "com/example/tallyfield/tallyfield/marc/RecordKind"))).before args0 about1 = true := code_word (m := ⟨1, 1⟩) (meth := k1m1) (c := k1c1) (by decide +kernel) rfl rfl rfl (by decide +kernel)
def codes1 : List Jvm.Cond := [Jvm.Cond.code x code maxLocals ret, Jvm.Cond.code ({ cls := "com/example/tallyfield/tallyfield/marc/RecordKind", name := "ofTypeOfRecord", desc := "(B)Lcom/example/tallyfield/tallyfield/marc/RecordKind;" } : Jvm.MethodName) prog_53_method_4_code (1 : Nat) (Option.some (Jvm.ClassFile.FieldType.object "com/example/tallyfield/tallyfield/marc/RecordKind")), Jvm.Cond.code ({ cls := "com/example/tallyfield/tallyfield/marc/RecordKindOfTypeOfRecordPinLaw", name := "expected", desc := "(B)Lcom/example/tallyfield/tallyfield/marc/RecordKind;" } : Jvm.MethodName) method_2_code (1 : Nat) (Option.some (Jvm.ClassFile.FieldType.object "com/example/tallyfield/tallyfield/marc/RecordKind"))]
set_option maxRecDepth 65536 in
theorem codes_eq : words1.filter isCode = codes1 := rfl
theorem w_codes : ∀ c ∈ words1.filter isCode, c.before args0 about1 = true := by
  rw [codes_eq]
  intro c hc
  simp only [codes1, List.mem_cons, List.not_mem_nil, or_false] at hc
  rcases hc with rfl | rfl | rfl
  · exact w_c0
  · exact w_c1
  · exact w_c2
set_option maxRecDepth 65536 in
theorem w_t1 : words1.all (fun c => isCode c || c.before args0 about1) = true := by decide +kernel
theorem w_tables : (allAtoms (Jvm.Cond.code x code maxLocals ret :: tables_1)).before args0 about1 = true := by
  rw [allAtoms_all]
  show words1.all (fun c => c.before args0 about1) = true
  refine all_split ?_ w_codes
  rw [w_t1]
set_option maxRecDepth 65536 in
theorem w_case : (Jvm.Cond.and given_1 narrow_1).before args0 about1 = true := by decide +kernel
theorem w_applies : (headSpec (Jvm.Cond.code x code maxLocals ret :: tables_1) room_1).applies x e0.platform about1 = true :=
  (Spec.applies_iff w_frames).mpr ⟨w_running, w_runnable, w_alone, w_named, w_hears, w_ripe, w_room, w_tables⟩
theorem atStart : AtStart classFile x code maxLocals ret World_1 tables_1 room_1 Calls_1 rest_1 Pre_1 launch0 p0 e0 about1 theMethod args0 below0 :=
  ⟨lists_1, trivial, launch0.admits_env _ _ _, launch0.least_env, fairChoices_fair.cas, fairChoices_fair.clock, w_frames, w_args, w_heap, w_applies, trivial, trivial, w_case⟩
end start1
theorem witness_1 : WitnessClaimed_1 := ⟨start1.p0, start1.e0, start1.about1, start1.theMethod, start1.args0, start1.below0, start1.atStart⟩
end Jvm.Pilot.@@N@@
