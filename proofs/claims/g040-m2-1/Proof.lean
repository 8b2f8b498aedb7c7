import JvmDerived
import JvmDerived.Pilot.@@N@@Statement
import JvmDerived.Pilot.@@N@@Code
set_option linter.unusedVariables false
set_option linter.unusedSimpArgs false
namespace Jvm.RoadKit
open Sem ClassFile Op Lib Jvm.Stand Jvm.Free Jvm.LawKit
section New
variable {p : Program} {l : Launch} {e : Env} {R : Room} {s : State} {m : MethodId} {args : Array Value} {below : List Frame} {meth : Method} {c : Code} {T : State} {locs : List Loc} {cells slots : Nat}
theorem retI (X : Stand p l e R s m args below meth c T locs cells slots) (hx : p.tables.exec = Jvm.exec) {pc : Nat} {Ls : Array Slot} {z : Int32} {rest : List Value} (hret : meth.sig.returnType = some .int) (hd : decode c.code pc = .ok (.ireturn, 1)) {fs : List Frame}
    (hl : ∀ (f : JFrame) (acts : List Action), f.method = m → f.locked = none → f.entered = [] → (doReturn e (T.setTop f) acts (some (.int z))).1 = T.setFrames fs) : Steps p.tables e below (T.setTop (mkF m pc Ls (.int z :: rest))) (T.setFrames fs) := by
  have hm' : T.vm.method? m = some meth := X.method'
  have hn : narrow .int (.int z) = .int z := rfl
  show Steps p.tables e below (T.setTop { method := m, pc := pc, locals := Ls, stack := _ :: rest, locked := none }) _
  jvm_step X.here [X.here.top, hx, hd, hm', hret, hn]
  first | (intro acts; rw [hl _ acts rfl rfl rfl]) | rw [hl _ _ rfl rfl rfl]
  exact Steps.refl _
end New
end Jvm.RoadKit
namespace Jvm.Pilot.@@N@@
open Jvm Jvm.ClassFile Sem Op Lib Jvm.Free Jvm.Stand Jvm.LawKit Jvm.RoadKit Bundle Jvm.Pilot.@@N@@.Jvm.D
theorem own_w {a0 : Array Value} {Z : State} (hw : ∀ d ∈ tables_1, d.before a0 Z = true) (i : Nat) {d : Jvm.Cond} (h : tables_1[i]? = some d) : d.before a0 Z = true := hw d (List.mem_of_getElem? h)
/-- from U the run comes to the method's end, and Q holds there -/
def own_Go (tb : Tables) (e : Env) (below : List Frame) (s : State) (C N : Nat) (Q : Option Value → Heap → List Loc → Prop) (U : State) : Prop :=
  ∃ t o, Steps tb e below U t ∧ t.status = .running ∧ Ended t below o ∧ ∃ v L, o = .returned v ∧ Q v t.heap L ∧ FrameEnd s o t L C N
theorem own_step {tb : Tables} {e : Env} {below : List Frame} {s : State} {C N : Nat} {Q : Option Value → Heap → List Loc → Prop} {U U' : State} (h : ∀ t, Steps tb e below U' t → Steps tb e below U t) (k : own_Go tb e below s C N Q U') : own_Go tb e below s C N Q U := by
  obtain ⟨t, o, h1, h2⟩ := k
  exact ⟨t, o, h t h1, h2⟩
theorem own_steps {tb : Tables} {e : Env} {below : List Frame} {s : State} {C N : Nat} {Q : Option Value → Heap → List Loc → Prop} {U U' : State} (h : Steps tb e below U U') (k : own_Go tb e below s C N Q U') : own_Go tb e below s C N Q U := own_step (fun _ q => h.trans q) k
theorem own_out {p : Program} {l : Launch} {e : Env} {R : Room} {s : State} {m : MethodId} {args : Array Value} {below : List Frame} {meth : Method} {c : Code} {T : State} {locs : List Loc} {cells slots : Nat} (X : Stand p l e R s m args below meth c T locs cells slots) {v : Option Value}
    (hlk : meth.locks = false) (hv : meth.sig.returnType = none → v = none) {C N : Nat} {Q : Option Value → Heap → List Loc → Prop} (hQ : Q v T.heap locs) (hC : cells ≤ C) (hN : slots ≤ N) {U : State}
    (k : ∀ fs, (∀ (f : JFrame) (acts : List Action), f.method = m → f.locked = none → f.entered = [] → (doReturn e (T.setTop f) acts v).1 = T.setFrames fs) → Steps p.tables e below U (T.setFrames fs)) : own_Go p.tables e below s C N Q U := by
  obtain ⟨fs, hr, hrun, hended, hW, hsame⟩ := X.leave hv hlk
  exact ⟨_, _, k fs hr, hrun, hended, _, _, rfl, hQ, ⟨_, rfl⟩, hW, hsame.mono hC hN⟩
theorem own_exaP {Z : State} {h : Heap} {a : Addr} {C : String} (E : Exa Z h a C) : ∀ c : Cell, h[a]? = some c → c.vm.isStatics = false := fun c hc => by
  obtain ⟨cell, k, h1, -, -, h4, -⟩ := E
  cases h1.symm.trans hc; exact h4
theorem own_staK {Z : State} {h h' : Heap} {C n d : String} {v : Value} {ws : List Addr} (S : Sta Z h C n d v) (K : Keep h h' ws) (q : ∀ w ∈ ws, ∀ c : Cell, h[w]? = some c → c.vm.isStatics = false) : Sta Z h' C n d v := by
  obtain ⟨cf, i, k, f, st, cell, h1, h2, h3, h4, h5, h6, h7⟩ := S
  exact ⟨cf, i, k, f, st, cell, h1, h2, h3, h4, K.2.1 st cell h5 (fun z => by have := q st z cell h5; rw [h6] at this; cases this), h6, h7⟩
theorem own_anyF {Z : State} {a0 : Array Value} {h : Heap} {a : Addr} {C O n d O' n' d' : String} {v' : Value} {k : Nat} (E : Exa Z h a C) (F : Fld Z h a O' n' d' v') (wi : (Cond.instantiable C k).before a0 Z = true) (L : Laid Z a0 C O n d) : ∃ v, Fld Z h a O n d v :=
  fld_laid E (by obtain ⟨cell, _, _, _, _, h1, _, _, h4, _⟩ := F; exact ⟨cell, h1, h4⟩) wi L
theorem own_nv {meth : Method} {t : FieldType} (h : meth.sig.returnType = some t) {v : Option Value} : meth.sig.returnType = none → v = none := fun q => by rw [h] at q; cases q
theorem pd___B_I : parseMethodDescriptor "([B)I" = some ⟨[(.array .byte)], some .int⟩ := by decide +kernel
theorem pd__IJI_B : parseMethodDescriptor "(IJI)B" = some ⟨[.int, .long, .int], some .byte⟩ := by decide +kernel
theorem d2_0 : decode method_2_code 0 = .ok (.lload_n 1, 1) := by decide +kernel
theorem d2_1 : decode method_2_code 1 = .ok (.bipush 8, 2) := by decide +kernel
theorem d2_3 : decode method_2_code 3 = .ok (.iload_n 3, 1) := by decide +kernel
theorem d2_4 : decode method_2_code 4 = .ok (.imul, 1) := by decide +kernel
theorem d2_5 : decode method_2_code 5 = .ok (.lushr, 1) := by decide +kernel
theorem d2_6 : decode method_2_code 6 = .ok (.l2i, 1) := by decide +kernel
theorem d2_7 : decode method_2_code 7 = .ok (.i2b, 1) := by decide +kernel
theorem d2_8 : decode method_2_code 8 = .ok (.istore 4, 2) := by decide +kernel
theorem d2_10 : decode method_2_code 10 = .ok (.iload_n 3, 1) := by decide +kernel
theorem d2_11 : decode method_2_code 11 = .ok (.ifCond .ne 18, 3) := by decide +kernel
theorem d2_14 : decode method_2_code 14 = .ok (.iload_n 0, 1) := by decide +kernel
theorem d2_15 : decode method_2_code 15 = .ok (.bipush 7, 2) := by decide +kernel
theorem d2_17 : decode method_2_code 17 = .ok (.iand, 1) := by decide +kernel
theorem d2_18 : decode method_2_code 18 = .ok (.bipush 6, 2) := by decide +kernel
theorem d2_20 : decode method_2_code 20 = .ok (.if_icmp .ge 6, 3) := by decide +kernel
theorem d2_23 : decode method_2_code 23 = .ok (.bipush 40, 2) := by decide +kernel
theorem d2_25 : decode method_2_code 25 = .ok (.ireturn, 1) := by decide +kernel
theorem d2_26 : decode method_2_code 26 = .ok (.iload 4, 2) := by decide +kernel
theorem d2_28 : decode method_2_code 28 = .ok (.ireturn, 1) := by decide +kernel
theorem d2_29 : decode method_2_code 29 = .ok (.iload_n 0, 1) := by decide +kernel
theorem d2_30 : decode method_2_code 30 = .ok (.iconst 3, 1) := by decide +kernel
theorem d2_31 : decode method_2_code 31 = .ok (.iload_n 3, 1) := by decide +kernel
theorem d2_32 : decode method_2_code 32 = .ok (.imul, 1) := by decide +kernel
theorem d2_33 : decode method_2_code 33 = .ok (.iushr, 1) := by decide +kernel
theorem d2_34 : decode method_2_code 34 = .ok (.bipush 7, 2) := by decide +kernel
theorem d2_36 : decode method_2_code 36 = .ok (.iand, 1) := by decide +kernel
theorem d2_37 : decode method_2_code 37 = .ok (.istore 5, 2) := by decide +kernel
theorem d2_39 : decode method_2_code 39 = .ok (.iload 5, 2) := by decide +kernel
theorem d2_41 : decode method_2_code 41 = .ok (.ifCond .eq 9, 3) := by decide +kernel
theorem d2_44 : decode method_2_code 44 = .ok (.iload 5, 2) := by decide +kernel
theorem d2_46 : decode method_2_code 46 = .ok (.iconst 1, 1) := by decide +kernel
theorem d2_47 : decode method_2_code 47 = .ok (.if_icmp .ne 6, 3) := by decide +kernel
theorem d2_50 : decode method_2_code 50 = .ok (.bipush 41, 2) := by decide +kernel
theorem d2_52 : decode method_2_code 52 = .ok (.ireturn, 1) := by decide +kernel
theorem d2_53 : decode method_2_code 53 = .ok (.iload 5, 2) := by decide +kernel
theorem d2_55 : decode method_2_code 55 = .ok (.iconst 2, 1) := by decide +kernel
theorem d2_56 : decode method_2_code 56 = .ok (.if_icmp .ne 6, 3) := by decide +kernel
theorem d2_59 : decode method_2_code 59 = .ok (.bipush 40, 2) := by decide +kernel
theorem d2_61 : decode method_2_code 61 = .ok (.ireturn, 1) := by decide +kernel
theorem d2_62 : decode method_2_code 62 = .ok (.iload 4, 2) := by decide +kernel
theorem d2_64 : decode method_2_code 64 = .ok (.ireturn, 1) := by decide +kernel
theorem pn_2 : plainName "com/example/tallyfield/tallyfield/control/ControlNumbersCodeEndPinLaw" = true := by first | (simp [plainName, overriddenIn]; done) | decide +kernel
theorem ef_2 (m : MethodId) (p0 : Int32) (q1 : Int64) (p2 : Int32) : entryFrame m #[(.int p0), (.long q1), (.int p2)] 6 = mkF m 0 #[iv p0, .val (.long q1), .second, iv p2, .unset, .unset] [] := by first | (simp [entryFrame, mkF, argsToLocals, Value.category]; done) | rfl
def F2 (p0 : Int32) (q1 : Int64) (p2 : Int32) : Int32 :=
  if p2 = (0 : Int32) then
    if (p0 &&& (7 : Int32)) < (6 : Int32) then
      (nar .byte (40 : Int32))
    else
      (nar .byte ((((q1.toUInt64 >>> (((8 : Int32) * p2) &&& 0x3f).toInt64.toUInt64).toInt64).toInt32).toInt8.toInt32))
  else
    if (((p0.toUInt32 >>> (((3 : Int32) * p2) &&& 31).toUInt32).toInt32) &&& (7 : Int32)) = (0 : Int32) then
      (nar .byte (41 : Int32))
    else
      if (((p0.toUInt32 >>> (((3 : Int32) * p2) &&& 31).toUInt32).toInt32) &&& (7 : Int32)) = (1 : Int32) then
        (nar .byte (41 : Int32))
      else
        if (((p0.toUInt32 >>> (((3 : Int32) * p2) &&& 31).toUInt32).toInt32) &&& (7 : Int32)) = (2 : Int32) then
          (nar .byte (40 : Int32))
        else
          (nar .byte ((((q1.toUInt64 >>> (((8 : Int32) * p2) &&& 0x3f).toInt64.toUInt64).toInt64).toInt32).toInt8.toInt32))
def Q2 (Z : State) (p0 : Int32) (q1 : Int64) (p2 : Int32) (h0 : Heap) (n0 : Nat) (v : Option Value) (h : Heap) (L : List Loc) : Prop := v = some (.int (F2 p0 q1 p2)) ∧ Fr n0 L ∧ h = h0
set_option maxRecDepth 65536 in
set_option maxHeartbeats 40000000 in
theorem rm2 (l : Launch) (Z : State) (a0 : Array Value) (hw : ∀ d ∈ tables_1, d.before a0 Z = true) (ws : List Jvm.Cond) (p0 : Int32) (q1 : Int64) (p2 : Int32) (h0 : Heap) (n0 : Nat) (Z0 : n0 ≤ h0.size) :
    MetFree l (⟨"com/example/tallyfield/tallyfield/control/ControlNumbersCodeEndPinLaw", "pick", "(IJI)B"⟩ : MethodName) (head1 (Jvm.Cond.code (⟨"com/example/tallyfield/tallyfield/control/ControlNumbersCodeEndPinLaw", "pick", "(IJI)B"⟩ : MethodName) method_2_code 6 (some .byte) :: ws) ({ frames := 0, cells := 0, slots := 0, locals := 0 } : Room)) (fun a U => a = #[(.int p0), (.long q1), (.int p2)] ∧ Z.Warmed39 U.vm ∧ U.heap = h0) (fun _ _ _ _ _ => True) (fun _ U o U' => ∃ v L, o = .returned v ∧ Q2 Z p0 q1 p2 h0 n0 v U'.heap L ∧ FrameEnd U o U' L ({ frames := 0, cells := 0, slots := 0, locals := 0 } : Room).cells ({ frames := 0, cells := 0, slots := 0, locals := 0 } : Room).slots) := by
  refine MetFree.of_bodySF (plainFor_of_name pn_2) hisR ?_
  intro p e s m args below meth c s₁ Bd hml0 hP hK
  obtain ⟨rfl, hZ, hh⟩ := hP
  have hx := Bd.exec
  have hby := Bd.bytes
  have hml : c.maxLocals = 6 := hml0
  have hown : s.vm.findClass "com/example/tallyfield/tallyfield/control/ControlNumbersCodeEndPinLaw" = some m.cls := findClass_of_methodNamed Bd.named
  have hnm := (name_of_methodNamed Bd.named Bd.method).1
  have hlk : meth.locks = false := Bd.notSynchronized
  have X0 : Stand p l e ({ frames := 0, cells := 0, slots := 0, locals := 0 } : Room) s m #[(.int p0), (.long q1), (.int p2)] below meth c s₁ [] 0 0 := Stand.of_body Bd
  have e0 : s₁.heap = h0 := by rw [← hh, Bd.state]; rfl
  have N0 := Fr.nil n0
  have KK0 := Keep.refl h0 []
  show own_Go p.tables e below s 0 0 (Q2 Z p0 q1 p2 h0 n0) (s₁.setTop (entryFrame m #[(.int p0), (.long q1), (.int p2)] 6))
  rw [ef_2]
  refine own_step (U' := s₁.setTop (mkF m 10 #[iv p0, .val (.long q1), .second, iv p2, iv ((((q1.toUInt64 >>> (((8 : Int32) * p2) &&& 0x3f).toInt64.toUInt64).toInt64).toInt32).toInt8.toInt32), .unset] [])) (fun t k => XS.lloadN X0.here hx rfl (hb hby d2_0) rfl (XS.bipush X0.here hx rfl (hb hby d2_1) (XS.iloadN X0.here hx rfl (hb hby d2_3) rfl (XS.imul X0.here hx rfl (hb hby d2_4) rfl (XS.lushr X0.here hx rfl (hb hby d2_5) rfl (XS.l2i X0.here hx rfl (hb hby d2_6) rfl (XS.i2b X0.here hx rfl (hb hby d2_7) rfl (XS.istore X0.here hx rfl (hb hby d2_8) rfl (l' := #[iv p0, .val (.long q1), .second, iv p2, iv ((((q1.toUInt64 >>> (((8 : Int32) * p2) &&& 0x3f).toInt64.toUInt64).toInt64).toInt32).toInt8.toInt32), .unset]) rfl k)))))))) ?_
  refine own_step (U' := s₁.setTop (mkF m 11 #[iv p0, .val (.long q1), .second, iv p2, iv ((((q1.toUInt64 >>> (((8 : Int32) * p2) &&& 0x3f).toInt64.toUInt64).toInt64).toInt32).toInt8.toInt32), .unset] [(.int p2)])) (fun t k => XS.iloadN X0.here hx rfl (hb hby d2_10) rfl k) ?_
  by_cases hc11_1 : p2 = (0 : Int32)
  · refine own_step (U' := s₁.setTop (mkF m 20 #[iv p0, .val (.long q1), .second, iv p2, iv ((((q1.toUInt64 >>> (((8 : Int32) * p2) &&& 0x3f).toInt64.toUInt64).toInt64).toInt32).toInt8.toInt32), .unset] [(.int (6 : Int32)), (.int (p0 &&& (7 : Int32)))])) (fun t k => XS.ifNo X0.here hx rfl (hb hby d2_11) rfl ((if0 _ _).trans (teq hc11_1).2) (XS.iloadN X0.here hx rfl (hb hby d2_14) rfl (XS.bipush X0.here hx rfl (hb hby d2_15) (XS.iand X0.here hx rfl (hb hby d2_17) rfl (XS.bipush X0.here hx rfl (hb hby d2_18) k))))) ?_
    by_cases hc20_2 : (p0 &&& (7 : Int32)) < (6 : Int32)
    · refine own_step (U' := s₁.setTop (mkF m 25 #[iv p0, .val (.long q1), .second, iv p2, iv ((((q1.toUInt64 >>> (((8 : Int32) * p2) &&& 0x3f).toInt64.toUInt64).toInt64).toInt32).toInt8.toInt32), .unset] [(.int (40 : Int32))])) (fun t k => XS.icmpNo X0.here hx rfl (hb hby d2_20) rfl (tlt hc20_2).2.1 (XS.bipush X0.here hx rfl (hb hby d2_23) k)) ?_
      exact own_out X0 (v := (some (.int (nar .byte (40 : Int32))))) hlk (own_nv Bd.returns) (by rw [e0]; exact ⟨by rw [show (F2 p0 q1 p2) = (nar .byte (40 : Int32)) from (by simp only [F2, if_pos hc11_1, if_pos hc20_2])], N0, rfl⟩) (by decide) (by decide) (fun fs hr => retN X0 hx (t := .byte) Bd.returns (by simp) (hb hby d2_25) hr)
    · refine own_step (U' := s₁.setTop (mkF m 28 #[iv p0, .val (.long q1), .second, iv p2, iv ((((q1.toUInt64 >>> (((8 : Int32) * p2) &&& 0x3f).toInt64.toUInt64).toInt64).toInt32).toInt8.toInt32), .unset] [(.int ((((q1.toUInt64 >>> (((8 : Int32) * p2) &&& 0x3f).toInt64.toUInt64).toInt64).toInt32).toInt8.toInt32))])) (fun t k => XS.icmpYes X0.here hx rfl (pc0 := 20) (pc' := 26) rfl (hb hby d2_20) rfl (flt hc20_2).2.1 (by decide) (by decide) (XS.iload X0.here hx rfl (hb hby d2_26) rfl k)) ?_
      exact own_out X0 (v := (some (.int (nar .byte ((((q1.toUInt64 >>> (((8 : Int32) * p2) &&& 0x3f).toInt64.toUInt64).toInt64).toInt32).toInt8.toInt32))))) hlk (own_nv Bd.returns) (by rw [e0]; exact ⟨by rw [show (F2 p0 q1 p2) = (nar .byte ((((q1.toUInt64 >>> (((8 : Int32) * p2) &&& 0x3f).toInt64.toUInt64).toInt64).toInt32).toInt8.toInt32)) from (by simp only [F2, if_pos hc11_1, if_neg hc20_2])], N0, rfl⟩) (by decide) (by decide) (fun fs hr => retN X0 hx (t := .byte) Bd.returns (by simp) (hb hby d2_28) hr)
  · refine own_step (U' := s₁.setTop (mkF m 37 #[iv p0, .val (.long q1), .second, iv p2, iv ((((q1.toUInt64 >>> (((8 : Int32) * p2) &&& 0x3f).toInt64.toUInt64).toInt64).toInt32).toInt8.toInt32), .unset] [(.int (((p0.toUInt32 >>> (((3 : Int32) * p2) &&& 31).toUInt32).toInt32) &&& (7 : Int32)))])) (fun t k => XS.ifYes X0.here hx rfl (pc0 := 11) (pc' := 29) rfl (hb hby d2_11) rfl ((if0 _ _).trans (feq hc11_1).2) (by decide) (by decide) (XS.iloadN X0.here hx rfl (hb hby d2_29) rfl (XS.iconst X0.here hx rfl (hb hby d2_30) (XS.iloadN X0.here hx rfl (hb hby d2_31) rfl (XS.imul X0.here hx rfl (hb hby d2_32) rfl (XS.iushr X0.here hx rfl (hb hby d2_33) rfl (XS.bipush X0.here hx rfl (hb hby d2_34) (XS.iand X0.here hx rfl (hb hby d2_36) rfl k)))))))) ?_
    refine own_step (U' := s₁.setTop (mkF m 41 #[iv p0, .val (.long q1), .second, iv p2, iv ((((q1.toUInt64 >>> (((8 : Int32) * p2) &&& 0x3f).toInt64.toUInt64).toInt64).toInt32).toInt8.toInt32), iv (((p0.toUInt32 >>> (((3 : Int32) * p2) &&& 31).toUInt32).toInt32) &&& (7 : Int32))] [(.int (((p0.toUInt32 >>> (((3 : Int32) * p2) &&& 31).toUInt32).toInt32) &&& (7 : Int32)))])) (fun t k => XS.istore X0.here hx rfl (hb hby d2_37) rfl (l' := #[iv p0, .val (.long q1), .second, iv p2, iv ((((q1.toUInt64 >>> (((8 : Int32) * p2) &&& 0x3f).toInt64.toUInt64).toInt64).toInt32).toInt8.toInt32), iv (((p0.toUInt32 >>> (((3 : Int32) * p2) &&& 31).toUInt32).toInt32) &&& (7 : Int32))]) rfl (XS.iload X0.here hx rfl (hb hby d2_39) rfl k)) ?_
    by_cases hc41_3 : (((p0.toUInt32 >>> (((3 : Int32) * p2) &&& 31).toUInt32).toInt32) &&& (7 : Int32)) = (0 : Int32)
    · refine own_step (U' := s₁.setTop (mkF m 52 #[iv p0, .val (.long q1), .second, iv p2, iv ((((q1.toUInt64 >>> (((8 : Int32) * p2) &&& 0x3f).toInt64.toUInt64).toInt64).toInt32).toInt8.toInt32), iv (((p0.toUInt32 >>> (((3 : Int32) * p2) &&& 31).toUInt32).toInt32) &&& (7 : Int32))] [(.int (41 : Int32))])) (fun t k => XS.ifYes X0.here hx rfl (pc0 := 41) (pc' := 50) rfl (hb hby d2_41) rfl ((if0 _ _).trans (teq hc41_3).1) (by decide) (by decide) (XS.bipush X0.here hx rfl (hb hby d2_50) k)) ?_
      exact own_out X0 (v := (some (.int (nar .byte (41 : Int32))))) hlk (own_nv Bd.returns) (by rw [e0]; exact ⟨by rw [show (F2 p0 q1 p2) = (nar .byte (41 : Int32)) from (by simp only [F2, if_neg hc11_1, if_pos hc41_3])], N0, rfl⟩) (by decide) (by decide) (fun fs hr => retN X0 hx (t := .byte) Bd.returns (by simp) (hb hby d2_52) hr)
    · refine own_step (U' := s₁.setTop (mkF m 47 #[iv p0, .val (.long q1), .second, iv p2, iv ((((q1.toUInt64 >>> (((8 : Int32) * p2) &&& 0x3f).toInt64.toUInt64).toInt64).toInt32).toInt8.toInt32), iv (((p0.toUInt32 >>> (((3 : Int32) * p2) &&& 31).toUInt32).toInt32) &&& (7 : Int32))] [(.int (1 : Int32)), (.int (((p0.toUInt32 >>> (((3 : Int32) * p2) &&& 31).toUInt32).toInt32) &&& (7 : Int32)))])) (fun t k => XS.ifNo X0.here hx rfl (hb hby d2_41) rfl ((if0 _ _).trans (feq hc41_3).1) (XS.iload X0.here hx rfl (hb hby d2_44) rfl (XS.iconst X0.here hx rfl (hb hby d2_46) k))) ?_
      by_cases hc47_4 : (((p0.toUInt32 >>> (((3 : Int32) * p2) &&& 31).toUInt32).toInt32) &&& (7 : Int32)) = (1 : Int32)
      · refine own_step (U' := s₁.setTop (mkF m 52 #[iv p0, .val (.long q1), .second, iv p2, iv ((((q1.toUInt64 >>> (((8 : Int32) * p2) &&& 0x3f).toInt64.toUInt64).toInt64).toInt32).toInt8.toInt32), iv (((p0.toUInt32 >>> (((3 : Int32) * p2) &&& 31).toUInt32).toInt32) &&& (7 : Int32))] [(.int (41 : Int32))])) (fun t k => XS.icmpNo X0.here hx rfl (hb hby d2_47) rfl (teq hc47_4).2 (XS.bipush X0.here hx rfl (hb hby d2_50) k)) ?_
        exact own_out X0 (v := (some (.int (nar .byte (41 : Int32))))) hlk (own_nv Bd.returns) (by rw [e0]; exact ⟨by rw [show (F2 p0 q1 p2) = (nar .byte (41 : Int32)) from (by simp only [F2, if_neg hc11_1, if_neg hc41_3, if_pos hc47_4])], N0, rfl⟩) (by decide) (by decide) (fun fs hr => retN X0 hx (t := .byte) Bd.returns (by simp) (hb hby d2_52) hr)
      · refine own_step (U' := s₁.setTop (mkF m 56 #[iv p0, .val (.long q1), .second, iv p2, iv ((((q1.toUInt64 >>> (((8 : Int32) * p2) &&& 0x3f).toInt64.toUInt64).toInt64).toInt32).toInt8.toInt32), iv (((p0.toUInt32 >>> (((3 : Int32) * p2) &&& 31).toUInt32).toInt32) &&& (7 : Int32))] [(.int (2 : Int32)), (.int (((p0.toUInt32 >>> (((3 : Int32) * p2) &&& 31).toUInt32).toInt32) &&& (7 : Int32)))])) (fun t k => XS.icmpYes X0.here hx rfl (pc0 := 47) (pc' := 53) rfl (hb hby d2_47) rfl (feq hc47_4).2 (by decide) (by decide) (XS.iload X0.here hx rfl (hb hby d2_53) rfl (XS.iconst X0.here hx rfl (hb hby d2_55) k))) ?_
        by_cases hc56_5 : (((p0.toUInt32 >>> (((3 : Int32) * p2) &&& 31).toUInt32).toInt32) &&& (7 : Int32)) = (2 : Int32)
        · refine own_step (U' := s₁.setTop (mkF m 61 #[iv p0, .val (.long q1), .second, iv p2, iv ((((q1.toUInt64 >>> (((8 : Int32) * p2) &&& 0x3f).toInt64.toUInt64).toInt64).toInt32).toInt8.toInt32), iv (((p0.toUInt32 >>> (((3 : Int32) * p2) &&& 31).toUInt32).toInt32) &&& (7 : Int32))] [(.int (40 : Int32))])) (fun t k => XS.icmpNo X0.here hx rfl (hb hby d2_56) rfl (teq hc56_5).2 (XS.bipush X0.here hx rfl (hb hby d2_59) k)) ?_
          exact own_out X0 (v := (some (.int (nar .byte (40 : Int32))))) hlk (own_nv Bd.returns) (by rw [e0]; exact ⟨by rw [show (F2 p0 q1 p2) = (nar .byte (40 : Int32)) from (by simp only [F2, if_neg hc11_1, if_neg hc41_3, if_neg hc47_4, if_pos hc56_5])], N0, rfl⟩) (by decide) (by decide) (fun fs hr => retN X0 hx (t := .byte) Bd.returns (by simp) (hb hby d2_61) hr)
        · refine own_step (U' := s₁.setTop (mkF m 64 #[iv p0, .val (.long q1), .second, iv p2, iv ((((q1.toUInt64 >>> (((8 : Int32) * p2) &&& 0x3f).toInt64.toUInt64).toInt64).toInt32).toInt8.toInt32), iv (((p0.toUInt32 >>> (((3 : Int32) * p2) &&& 31).toUInt32).toInt32) &&& (7 : Int32))] [(.int ((((q1.toUInt64 >>> (((8 : Int32) * p2) &&& 0x3f).toInt64.toUInt64).toInt64).toInt32).toInt8.toInt32))])) (fun t k => XS.icmpYes X0.here hx rfl (pc0 := 56) (pc' := 62) rfl (hb hby d2_56) rfl (feq hc56_5).2 (by decide) (by decide) (XS.iload X0.here hx rfl (hb hby d2_62) rfl k)) ?_
          exact own_out X0 (v := (some (.int (nar .byte ((((q1.toUInt64 >>> (((8 : Int32) * p2) &&& 0x3f).toInt64.toUInt64).toInt64).toInt32).toInt8.toInt32))))) hlk (own_nv Bd.returns) (by rw [e0]; exact ⟨by rw [show (F2 p0 q1 p2) = (nar .byte ((((q1.toUInt64 >>> (((8 : Int32) * p2) &&& 0x3f).toInt64.toUInt64).toInt64).toInt32).toInt8.toInt32)) from (by simp only [F2, if_neg hc11_1, if_neg hc41_3, if_neg hc47_4, if_neg hc56_5])], N0, rfl⟩) (by decide) (by decide) (fun fs hr => retN X0 hx (t := .byte) Bd.returns (by simp) (hb hby d2_64) hr)
theorem d1_0 : decode prog_8_method_6_code 0 = .ok (.aload_n 0, 1) := by decide +kernel
theorem d1_1 : decode prog_8_method_6_code 1 = .ok (.arraylength, 1) := by decide +kernel
theorem d1_2 : decode prog_8_method_6_code 2 = .ok (.ifCond .eq 11, 3) := by decide +kernel
theorem d1_5 : decode prog_8_method_6_code 5 = .ok (.aload_n 0, 1) := by decide +kernel
theorem d1_6 : decode prog_8_method_6_code 6 = .ok (.iconst 0, 1) := by decide +kernel
theorem d1_7 : decode prog_8_method_6_code 7 = .ok (.baload, 1) := by decide +kernel
theorem d1_8 : decode prog_8_method_6_code 8 = .ok (.bipush 40, 2) := by decide +kernel
theorem d1_10 : decode prog_8_method_6_code 10 = .ok (.if_icmp .eq 5, 3) := by decide +kernel
theorem d1_13 : decode prog_8_method_6_code 13 = .ok (.iconst (-1), 1) := by decide +kernel
theorem d1_14 : decode prog_8_method_6_code 14 = .ok (.ireturn, 1) := by decide +kernel
theorem d1_15 : decode prog_8_method_6_code 15 = .ok (.iconst 1, 1) := by decide +kernel
theorem d1_16 : decode prog_8_method_6_code 16 = .ok (.istore_n 1, 1) := by decide +kernel
theorem d1_17 : decode prog_8_method_6_code 17 = .ok (.iload_n 1, 1) := by decide +kernel
theorem d1_18 : decode prog_8_method_6_code 18 = .ok (.aload_n 0, 1) := by decide +kernel
theorem d1_19 : decode prog_8_method_6_code 19 = .ok (.arraylength, 1) := by decide +kernel
theorem d1_20 : decode prog_8_method_6_code 20 = .ok (.if_icmp .ge 17, 3) := by decide +kernel
theorem d1_23 : decode prog_8_method_6_code 23 = .ok (.aload_n 0, 1) := by decide +kernel
theorem d1_24 : decode prog_8_method_6_code 24 = .ok (.iload_n 1, 1) := by decide +kernel
theorem d1_25 : decode prog_8_method_6_code 25 = .ok (.baload, 1) := by decide +kernel
theorem d1_26 : decode prog_8_method_6_code 26 = .ok (.bipush 41, 2) := by decide +kernel
theorem d1_28 : decode prog_8_method_6_code 28 = .ok (.if_icmp .eq 9, 3) := by decide +kernel
theorem d1_31 : decode prog_8_method_6_code 31 = .ok (.iinc 1 1, 3) := by decide +kernel
theorem d1_34 : decode prog_8_method_6_code 34 = .ok (.goto (-17), 3) := by decide +kernel
theorem d1_37 : decode prog_8_method_6_code 37 = .ok (.iload_n 1, 1) := by decide +kernel
theorem d1_38 : decode prog_8_method_6_code 38 = .ok (.iconst 1, 1) := by decide +kernel
theorem d1_39 : decode prog_8_method_6_code 39 = .ok (.if_icmp .le 13, 3) := by decide +kernel
theorem d1_42 : decode prog_8_method_6_code 42 = .ok (.iload_n 1, 1) := by decide +kernel
theorem d1_43 : decode prog_8_method_6_code 43 = .ok (.aload_n 0, 1) := by decide +kernel
theorem d1_44 : decode prog_8_method_6_code 44 = .ok (.arraylength, 1) := by decide +kernel
theorem d1_45 : decode prog_8_method_6_code 45 = .ok (.if_icmp .ge 7, 3) := by decide +kernel
theorem d1_48 : decode prog_8_method_6_code 48 = .ok (.iload_n 1, 1) := by decide +kernel
theorem d1_49 : decode prog_8_method_6_code 49 = .ok (.goto 4, 3) := by decide +kernel
theorem d1_52 : decode prog_8_method_6_code 52 = .ok (.iconst (-1), 1) := by decide +kernel
theorem d1_53 : decode prog_8_method_6_code 53 = .ok (.ireturn, 1) := by decide +kernel
theorem pn_1 : plainName "com/example/tallyfield/tallyfield/control/ControlNumbers" = true := by first | (simp [plainName, overriddenIn]; done) | decide +kernel
theorem ef_1k7 (m : MethodId) (r0 : Addr) : entryFrame m #[(.ref r0)] 2 = mkF m 0 #[rv r0, .unset] [] := by first | (simp [entryFrame, mkF, argsToLocals, Value.category]; done) | rfl
def F1k7 (w0 : Int32) (w1 : Int32) (w2 : Int32) (w3 : Int32) (w4 : Int32) (w5 : Int32) (w6 : Int32) : Int32 :=
  if w0 = (40 : Int32) then
    if w1 = (41 : Int32) then
      (-1 : Int32)
    else
      if w2 = (41 : Int32) then
        (2 : Int32)
      else
        if w3 = (41 : Int32) then
          (3 : Int32)
        else
          if w4 = (41 : Int32) then
            (4 : Int32)
          else
            if w5 = (41 : Int32) then
              (5 : Int32)
            else
              if w6 = (41 : Int32) then
                (6 : Int32)
              else
                (-1 : Int32)
  else
    (-1 : Int32)
def Q1k7 (Z : State) (r0 : Addr) (w0 : Int32) (w1 : Int32) (w2 : Int32) (w3 : Int32) (w4 : Int32) (w5 : Int32) (w6 : Int32) (k_r0 : ClassId) (h0 : Heap) (n0 : Nat) (v : Option Value) (h : Heap) (L : List Loc) : Prop := v = some (.int (F1k7 w0 w1 w2 w3 w4 w5 w6)) ∧ Fr n0 L ∧ h = h0
set_option maxRecDepth 65536 in
set_option maxHeartbeats 40000000 in
theorem rm1k7 (l : Launch) (Z : State) (a0 : Array Value) (hw : ∀ d ∈ tables_1, d.before a0 Z = true) (ws : List Jvm.Cond) (r0 : Addr) (w0 : Int32) (w1 : Int32) (w2 : Int32) (w3 : Int32) (w4 : Int32) (w5 : Int32) (w6 : Int32) (k_r0 : ClassId) (h0 : Heap) (n0 : Nat) (Z0 : n0 ≤ h0.size) (V_r0 : Arv Z h0 r0 k_r0 .byte (7 : Int32) [(.int w0), (.int w1), (.int w2), (.int w3), (.int w4), (.int w5), (.int w6)] (.int (0 : Int32))) :
    MetFree l (⟨"com/example/tallyfield/tallyfield/control/ControlNumbers", "codeEnd", "([B)I"⟩ : MethodName) (head1 (Jvm.Cond.code (⟨"com/example/tallyfield/tallyfield/control/ControlNumbers", "codeEnd", "([B)I"⟩ : MethodName) prog_8_method_6_code 2 (some .int) :: ws) ({ frames := 0, cells := 0, slots := 0, locals := 0 } : Room)) (fun a U => a = #[(.ref r0)] ∧ Z.Warmed39 U.vm ∧ U.heap = h0) (fun _ _ _ _ _ => True) (fun _ U o U' => ∃ v L, o = .returned v ∧ Q1k7 Z r0 w0 w1 w2 w3 w4 w5 w6 k_r0 h0 n0 v U'.heap L ∧ FrameEnd U o U' L ({ frames := 0, cells := 0, slots := 0, locals := 0 } : Room).cells ({ frames := 0, cells := 0, slots := 0, locals := 0 } : Room).slots) := by
  refine MetFree.of_bodySF (plainFor_of_name pn_1) hisR ?_
  intro p e s m args below meth c s₁ Bd hml0 hP hK
  obtain ⟨rfl, hZ, hh⟩ := hP
  have hx := Bd.exec
  have hby := Bd.bytes
  have hml : c.maxLocals = 2 := hml0
  have hown : s.vm.findClass "com/example/tallyfield/tallyfield/control/ControlNumbers" = some m.cls := findClass_of_methodNamed Bd.named
  have hnm := (name_of_methodNamed Bd.named Bd.method).1
  have hlk : meth.locks = false := Bd.notSynchronized
  have X0 : Stand p l e ({ frames := 0, cells := 0, slots := 0, locals := 0 } : Room) s m #[(.ref r0)] below meth c s₁ [] 0 0 := Stand.of_body Bd
  have e0 : s₁.heap = h0 := by rw [← hh, Bd.state]; rfl
  have N0 := Fr.nil n0
  have KK0 := Keep.refl h0 []
  show own_Go p.tables e below s 0 0 (Q1k7 Z r0 w0 w1 w2 w3 w4 w5 w6 k_r0 h0 n0) (s₁.setTop (entryFrame m #[(.ref r0)] 2))
  rw [ef_1k7]
  refine own_step (U' := s₁.setTop (mkF m 1 #[rv r0, .unset] [(.ref r0)])) (fun t k => XS.aloadN X0.here hx rfl (hb hby d1_0) rfl rfl k) ?_
  obtain ⟨cl1, Ar1, aq1, aS1, aN1, aH1, aG1⟩ := id V_r0
  have hl1 := len_of aS1 aN1
  refine own_step (U' := s₁.setTop (mkF m 7 #[rv r0, .unset] [(.int (0 : Int32)), (.ref r0)])) (fun t k => X0.arraylength hx (by rw [e0]; exact Ar1.1) (State.isArrayOf_alike hZ.alike Ar1.2.1) (g := (mkF m 1 #[rv r0, .unset] [(.ref r0)])) rfl rfl (hb hby d1_1) t (by rw [hl1]; exact (XS.ifNo X0.here hx rfl (hb hby d1_2) rfl (by decide) (XS.aloadN X0.here hx rfl (hb hby d1_5) rfl rfl (XS.iconst X0.here hx rfl (hb hby d1_6) k))))) ?_
  obtain ⟨cl2, Ar2, aq2, aS2, aN2, aH2, aG2⟩ := id V_r0
  have hin2 : ¬ ((0 : Int32) < 0 ∨ cl2.slots.size ≤ ((0 : Int32)).toNatClampNeg) := inb_of aS2 ⟨by decide, by decide⟩
  have hat2 : cl2.slots[((0 : Int32)).toNatClampNeg]? = some (.int w0) := aH2.at hin2 rfl
  refine own_step (U' := s₁.setTop (mkF m 10 #[rv r0, .unset] [(.int (40 : Int32)), (.int w0)])) (fun t k => X0.baloadBytes hx (j := (0 : Int32)) (v := (.int w0)) (by rw [e0]; exact Ar2.1) (State.isArrayOf_alike hZ.alike Ar2.2.1) Ar2.2.2 hin2 hat2 (g := (mkF m 7 #[rv r0, .unset] [(.int (0 : Int32)), (.ref r0)])) rfl rfl (hb hby d1_7) t (XS.bipush X0.here hx rfl (hb hby d1_8) k)) ?_
  by_cases hc10_3 : w0 = (40 : Int32)
  · refine own_step (U' := s₁.setTop (mkF m 19 #[rv r0, iv (1 : Int32)] [(.ref r0), (.int (1 : Int32))])) (fun t k => XS.icmpYes X0.here hx rfl (pc0 := 10) (pc' := 15) rfl (hb hby d1_10) rfl (teq hc10_3).1 (by decide) (by decide) (XS.iconst X0.here hx rfl (hb hby d1_15) (XS.istoreN X0.here hx rfl (hb hby d1_16) rfl (l' := #[rv r0, iv (1 : Int32)]) rfl (XS.iloadN X0.here hx rfl (hb hby d1_17) rfl (XS.aloadN X0.here hx rfl (hb hby d1_18) rfl rfl k))))) ?_
    obtain ⟨cl4, Ar4, aq4, aS4, aN4, aH4, aG4⟩ := id V_r0
    have hl4 := len_of aS4 aN4
    refine own_step (U' := s₁.setTop (mkF m 25 #[rv r0, iv (1 : Int32)] [(.int (1 : Int32)), (.ref r0)])) (fun t k => X0.arraylength hx (by rw [e0]; exact Ar4.1) (State.isArrayOf_alike hZ.alike Ar4.2.1) (g := (mkF m 19 #[rv r0, iv (1 : Int32)] [(.ref r0), (.int (1 : Int32))])) rfl rfl (hb hby d1_19) t (by rw [hl4]; exact (XS.icmpNo X0.here hx rfl (hb hby d1_20) rfl (by decide) (XS.aloadN X0.here hx rfl (hb hby d1_23) rfl rfl (XS.iloadN X0.here hx rfl (hb hby d1_24) rfl k))))) ?_
    obtain ⟨cl5, Ar5, aq5, aS5, aN5, aH5, aG5⟩ := id V_r0
    have hin5 : ¬ ((1 : Int32) < 0 ∨ cl5.slots.size ≤ ((1 : Int32)).toNatClampNeg) := inb_of aS5 ⟨by decide, by decide⟩
    have hat5 : cl5.slots[((1 : Int32)).toNatClampNeg]? = some (.int w1) := aH5.at hin5 rfl
    refine own_step (U' := s₁.setTop (mkF m 28 #[rv r0, iv (1 : Int32)] [(.int (41 : Int32)), (.int w1)])) (fun t k => X0.baloadBytes hx (j := (1 : Int32)) (v := (.int w1)) (by rw [e0]; exact Ar5.1) (State.isArrayOf_alike hZ.alike Ar5.2.1) Ar5.2.2 hin5 hat5 (g := (mkF m 25 #[rv r0, iv (1 : Int32)] [(.int (1 : Int32)), (.ref r0)])) rfl rfl (hb hby d1_25) t (XS.bipush X0.here hx rfl (hb hby d1_26) k)) ?_
    by_cases hc28_6 : w1 = (41 : Int32)
    · refine own_step (U' := s₁.setTop (mkF m 53 #[rv r0, iv (1 : Int32)] [(.int (-1 : Int32))])) (fun t k => XS.icmpYes X0.here hx rfl (pc0 := 28) (pc' := 37) rfl (hb hby d1_28) rfl (teq hc28_6).1 (by decide) (by decide) (XS.iloadN X0.here hx rfl (hb hby d1_37) rfl (XS.iconst X0.here hx rfl (hb hby d1_38) (XS.icmpYes X0.here hx rfl (pc0 := 39) (pc' := 52) rfl (hb hby d1_39) rfl (by decide) (by decide) (by decide) (XS.iconst X0.here hx rfl (hb hby d1_52) k))))) ?_
      exact own_out X0 (v := (some (.int (-1 : Int32)))) hlk (own_nv Bd.returns) (by rw [e0]; exact ⟨by rw [show (F1k7 w0 w1 w2 w3 w4 w5 w6) = (-1 : Int32) from (by simp only [F1k7, if_pos hc10_3, if_pos hc28_6])], N0, rfl⟩) (by decide) (by decide) (fun fs hr => retI X0 hx Bd.returns (hb hby d1_53) hr)
    · refine own_step (U' := s₁.setTop (mkF m 19 #[rv r0, iv (2 : Int32)] [(.ref r0), (.int (2 : Int32))])) (fun t k => XS.icmpNo X0.here hx rfl (hb hby d1_28) rfl (feq hc28_6).1 (XS.iinc X0.here hx rfl (hb hby d1_31) rfl (l' := #[rv r0, iv (2 : Int32)]) rfl (XS.goto X0.here hx rfl (pc0 := 34) (pc' := 17) rfl (hb hby d1_34) (by decide) (by decide) (XS.iloadN X0.here hx rfl (hb hby d1_17) rfl (XS.aloadN X0.here hx rfl (hb hby d1_18) rfl rfl k))))) ?_
      obtain ⟨cl7, Ar7, aq7, aS7, aN7, aH7, aG7⟩ := id V_r0
      have hl7 := len_of aS7 aN7
      refine own_step (U' := s₁.setTop (mkF m 25 #[rv r0, iv (2 : Int32)] [(.int (2 : Int32)), (.ref r0)])) (fun t k => X0.arraylength hx (by rw [e0]; exact Ar7.1) (State.isArrayOf_alike hZ.alike Ar7.2.1) (g := (mkF m 19 #[rv r0, iv (2 : Int32)] [(.ref r0), (.int (2 : Int32))])) rfl rfl (hb hby d1_19) t (by rw [hl7]; exact (XS.icmpNo X0.here hx rfl (hb hby d1_20) rfl (by decide) (XS.aloadN X0.here hx rfl (hb hby d1_23) rfl rfl (XS.iloadN X0.here hx rfl (hb hby d1_24) rfl k))))) ?_
      obtain ⟨cl8, Ar8, aq8, aS8, aN8, aH8, aG8⟩ := id V_r0
      have hin8 : ¬ ((2 : Int32) < 0 ∨ cl8.slots.size ≤ ((2 : Int32)).toNatClampNeg) := inb_of aS8 ⟨by decide, by decide⟩
      have hat8 : cl8.slots[((2 : Int32)).toNatClampNeg]? = some (.int w2) := aH8.at hin8 rfl
      refine own_step (U' := s₁.setTop (mkF m 28 #[rv r0, iv (2 : Int32)] [(.int (41 : Int32)), (.int w2)])) (fun t k => X0.baloadBytes hx (j := (2 : Int32)) (v := (.int w2)) (by rw [e0]; exact Ar8.1) (State.isArrayOf_alike hZ.alike Ar8.2.1) Ar8.2.2 hin8 hat8 (g := (mkF m 25 #[rv r0, iv (2 : Int32)] [(.int (2 : Int32)), (.ref r0)])) rfl rfl (hb hby d1_25) t (XS.bipush X0.here hx rfl (hb hby d1_26) k)) ?_
      by_cases hc28_9 : w2 = (41 : Int32)
      · refine own_step (U' := s₁.setTop (mkF m 44 #[rv r0, iv (2 : Int32)] [(.ref r0), (.int (2 : Int32))])) (fun t k => XS.icmpYes X0.here hx rfl (pc0 := 28) (pc' := 37) rfl (hb hby d1_28) rfl (teq hc28_9).1 (by decide) (by decide) (XS.iloadN X0.here hx rfl (hb hby d1_37) rfl (XS.iconst X0.here hx rfl (hb hby d1_38) (XS.icmpNo X0.here hx rfl (hb hby d1_39) rfl (by decide) (XS.iloadN X0.here hx rfl (hb hby d1_42) rfl (XS.aloadN X0.here hx rfl (hb hby d1_43) rfl rfl k)))))) ?_
        obtain ⟨cl10, Ar10, aq10, aS10, aN10, aH10, aG10⟩ := id V_r0
        have hl10 := len_of aS10 aN10
        refine own_step (U' := s₁.setTop (mkF m 53 #[rv r0, iv (2 : Int32)] [(.int (2 : Int32))])) (fun t k => X0.arraylength hx (by rw [e0]; exact Ar10.1) (State.isArrayOf_alike hZ.alike Ar10.2.1) (g := (mkF m 44 #[rv r0, iv (2 : Int32)] [(.ref r0), (.int (2 : Int32))])) rfl rfl (hb hby d1_44) t (by rw [hl10]; exact (XS.icmpNo X0.here hx rfl (hb hby d1_45) rfl (by decide) (XS.iloadN X0.here hx rfl (hb hby d1_48) rfl (XS.goto X0.here hx rfl (pc0 := 49) (pc' := 53) rfl (hb hby d1_49) (by decide) (by decide) k))))) ?_
        exact own_out X0 (v := (some (.int (2 : Int32)))) hlk (own_nv Bd.returns) (by rw [e0]; exact ⟨by rw [show (F1k7 w0 w1 w2 w3 w4 w5 w6) = (2 : Int32) from (by simp only [F1k7, if_pos hc10_3, if_neg hc28_6, if_pos hc28_9])], N0, rfl⟩) (by decide) (by decide) (fun fs hr => retI X0 hx Bd.returns (hb hby d1_53) hr)
      · refine own_step (U' := s₁.setTop (mkF m 19 #[rv r0, iv (3 : Int32)] [(.ref r0), (.int (3 : Int32))])) (fun t k => XS.icmpNo X0.here hx rfl (hb hby d1_28) rfl (feq hc28_9).1 (XS.iinc X0.here hx rfl (hb hby d1_31) rfl (l' := #[rv r0, iv (3 : Int32)]) rfl (XS.goto X0.here hx rfl (pc0 := 34) (pc' := 17) rfl (hb hby d1_34) (by decide) (by decide) (XS.iloadN X0.here hx rfl (hb hby d1_17) rfl (XS.aloadN X0.here hx rfl (hb hby d1_18) rfl rfl k))))) ?_
        obtain ⟨cl11, Ar11, aq11, aS11, aN11, aH11, aG11⟩ := id V_r0
        have hl11 := len_of aS11 aN11
        refine own_step (U' := s₁.setTop (mkF m 25 #[rv r0, iv (3 : Int32)] [(.int (3 : Int32)), (.ref r0)])) (fun t k => X0.arraylength hx (by rw [e0]; exact Ar11.1) (State.isArrayOf_alike hZ.alike Ar11.2.1) (g := (mkF m 19 #[rv r0, iv (3 : Int32)] [(.ref r0), (.int (3 : Int32))])) rfl rfl (hb hby d1_19) t (by rw [hl11]; exact (XS.icmpNo X0.here hx rfl (hb hby d1_20) rfl (by decide) (XS.aloadN X0.here hx rfl (hb hby d1_23) rfl rfl (XS.iloadN X0.here hx rfl (hb hby d1_24) rfl k))))) ?_
        obtain ⟨cl12, Ar12, aq12, aS12, aN12, aH12, aG12⟩ := id V_r0
        have hin12 : ¬ ((3 : Int32) < 0 ∨ cl12.slots.size ≤ ((3 : Int32)).toNatClampNeg) := inb_of aS12 ⟨by decide, by decide⟩
        have hat12 : cl12.slots[((3 : Int32)).toNatClampNeg]? = some (.int w3) := aH12.at hin12 rfl
        refine own_step (U' := s₁.setTop (mkF m 28 #[rv r0, iv (3 : Int32)] [(.int (41 : Int32)), (.int w3)])) (fun t k => X0.baloadBytes hx (j := (3 : Int32)) (v := (.int w3)) (by rw [e0]; exact Ar12.1) (State.isArrayOf_alike hZ.alike Ar12.2.1) Ar12.2.2 hin12 hat12 (g := (mkF m 25 #[rv r0, iv (3 : Int32)] [(.int (3 : Int32)), (.ref r0)])) rfl rfl (hb hby d1_25) t (XS.bipush X0.here hx rfl (hb hby d1_26) k)) ?_
        by_cases hc28_13 : w3 = (41 : Int32)
        · refine own_step (U' := s₁.setTop (mkF m 44 #[rv r0, iv (3 : Int32)] [(.ref r0), (.int (3 : Int32))])) (fun t k => XS.icmpYes X0.here hx rfl (pc0 := 28) (pc' := 37) rfl (hb hby d1_28) rfl (teq hc28_13).1 (by decide) (by decide) (XS.iloadN X0.here hx rfl (hb hby d1_37) rfl (XS.iconst X0.here hx rfl (hb hby d1_38) (XS.icmpNo X0.here hx rfl (hb hby d1_39) rfl (by decide) (XS.iloadN X0.here hx rfl (hb hby d1_42) rfl (XS.aloadN X0.here hx rfl (hb hby d1_43) rfl rfl k)))))) ?_
          obtain ⟨cl14, Ar14, aq14, aS14, aN14, aH14, aG14⟩ := id V_r0
          have hl14 := len_of aS14 aN14
          refine own_step (U' := s₁.setTop (mkF m 53 #[rv r0, iv (3 : Int32)] [(.int (3 : Int32))])) (fun t k => X0.arraylength hx (by rw [e0]; exact Ar14.1) (State.isArrayOf_alike hZ.alike Ar14.2.1) (g := (mkF m 44 #[rv r0, iv (3 : Int32)] [(.ref r0), (.int (3 : Int32))])) rfl rfl (hb hby d1_44) t (by rw [hl14]; exact (XS.icmpNo X0.here hx rfl (hb hby d1_45) rfl (by decide) (XS.iloadN X0.here hx rfl (hb hby d1_48) rfl (XS.goto X0.here hx rfl (pc0 := 49) (pc' := 53) rfl (hb hby d1_49) (by decide) (by decide) k))))) ?_
          exact own_out X0 (v := (some (.int (3 : Int32)))) hlk (own_nv Bd.returns) (by rw [e0]; exact ⟨by rw [show (F1k7 w0 w1 w2 w3 w4 w5 w6) = (3 : Int32) from (by simp only [F1k7, if_pos hc10_3, if_neg hc28_6, if_neg hc28_9, if_pos hc28_13])], N0, rfl⟩) (by decide) (by decide) (fun fs hr => retI X0 hx Bd.returns (hb hby d1_53) hr)
        · refine own_step (U' := s₁.setTop (mkF m 19 #[rv r0, iv (4 : Int32)] [(.ref r0), (.int (4 : Int32))])) (fun t k => XS.icmpNo X0.here hx rfl (hb hby d1_28) rfl (feq hc28_13).1 (XS.iinc X0.here hx rfl (hb hby d1_31) rfl (l' := #[rv r0, iv (4 : Int32)]) rfl (XS.goto X0.here hx rfl (pc0 := 34) (pc' := 17) rfl (hb hby d1_34) (by decide) (by decide) (XS.iloadN X0.here hx rfl (hb hby d1_17) rfl (XS.aloadN X0.here hx rfl (hb hby d1_18) rfl rfl k))))) ?_
          obtain ⟨cl15, Ar15, aq15, aS15, aN15, aH15, aG15⟩ := id V_r0
          have hl15 := len_of aS15 aN15
          refine own_step (U' := s₁.setTop (mkF m 25 #[rv r0, iv (4 : Int32)] [(.int (4 : Int32)), (.ref r0)])) (fun t k => X0.arraylength hx (by rw [e0]; exact Ar15.1) (State.isArrayOf_alike hZ.alike Ar15.2.1) (g := (mkF m 19 #[rv r0, iv (4 : Int32)] [(.ref r0), (.int (4 : Int32))])) rfl rfl (hb hby d1_19) t (by rw [hl15]; exact (XS.icmpNo X0.here hx rfl (hb hby d1_20) rfl (by decide) (XS.aloadN X0.here hx rfl (hb hby d1_23) rfl rfl (XS.iloadN X0.here hx rfl (hb hby d1_24) rfl k))))) ?_
          obtain ⟨cl16, Ar16, aq16, aS16, aN16, aH16, aG16⟩ := id V_r0
          have hin16 : ¬ ((4 : Int32) < 0 ∨ cl16.slots.size ≤ ((4 : Int32)).toNatClampNeg) := inb_of aS16 ⟨by decide, by decide⟩
          have hat16 : cl16.slots[((4 : Int32)).toNatClampNeg]? = some (.int w4) := aH16.at hin16 rfl
          refine own_step (U' := s₁.setTop (mkF m 28 #[rv r0, iv (4 : Int32)] [(.int (41 : Int32)), (.int w4)])) (fun t k => X0.baloadBytes hx (j := (4 : Int32)) (v := (.int w4)) (by rw [e0]; exact Ar16.1) (State.isArrayOf_alike hZ.alike Ar16.2.1) Ar16.2.2 hin16 hat16 (g := (mkF m 25 #[rv r0, iv (4 : Int32)] [(.int (4 : Int32)), (.ref r0)])) rfl rfl (hb hby d1_25) t (XS.bipush X0.here hx rfl (hb hby d1_26) k)) ?_
          by_cases hc28_17 : w4 = (41 : Int32)
          · refine own_step (U' := s₁.setTop (mkF m 44 #[rv r0, iv (4 : Int32)] [(.ref r0), (.int (4 : Int32))])) (fun t k => XS.icmpYes X0.here hx rfl (pc0 := 28) (pc' := 37) rfl (hb hby d1_28) rfl (teq hc28_17).1 (by decide) (by decide) (XS.iloadN X0.here hx rfl (hb hby d1_37) rfl (XS.iconst X0.here hx rfl (hb hby d1_38) (XS.icmpNo X0.here hx rfl (hb hby d1_39) rfl (by decide) (XS.iloadN X0.here hx rfl (hb hby d1_42) rfl (XS.aloadN X0.here hx rfl (hb hby d1_43) rfl rfl k)))))) ?_
            obtain ⟨cl18, Ar18, aq18, aS18, aN18, aH18, aG18⟩ := id V_r0
            have hl18 := len_of aS18 aN18
            refine own_step (U' := s₁.setTop (mkF m 53 #[rv r0, iv (4 : Int32)] [(.int (4 : Int32))])) (fun t k => X0.arraylength hx (by rw [e0]; exact Ar18.1) (State.isArrayOf_alike hZ.alike Ar18.2.1) (g := (mkF m 44 #[rv r0, iv (4 : Int32)] [(.ref r0), (.int (4 : Int32))])) rfl rfl (hb hby d1_44) t (by rw [hl18]; exact (XS.icmpNo X0.here hx rfl (hb hby d1_45) rfl (by decide) (XS.iloadN X0.here hx rfl (hb hby d1_48) rfl (XS.goto X0.here hx rfl (pc0 := 49) (pc' := 53) rfl (hb hby d1_49) (by decide) (by decide) k))))) ?_
            exact own_out X0 (v := (some (.int (4 : Int32)))) hlk (own_nv Bd.returns) (by rw [e0]; exact ⟨by rw [show (F1k7 w0 w1 w2 w3 w4 w5 w6) = (4 : Int32) from (by simp only [F1k7, if_pos hc10_3, if_neg hc28_6, if_neg hc28_9, if_neg hc28_13, if_pos hc28_17])], N0, rfl⟩) (by decide) (by decide) (fun fs hr => retI X0 hx Bd.returns (hb hby d1_53) hr)
          · refine own_step (U' := s₁.setTop (mkF m 19 #[rv r0, iv (5 : Int32)] [(.ref r0), (.int (5 : Int32))])) (fun t k => XS.icmpNo X0.here hx rfl (hb hby d1_28) rfl (feq hc28_17).1 (XS.iinc X0.here hx rfl (hb hby d1_31) rfl (l' := #[rv r0, iv (5 : Int32)]) rfl (XS.goto X0.here hx rfl (pc0 := 34) (pc' := 17) rfl (hb hby d1_34) (by decide) (by decide) (XS.iloadN X0.here hx rfl (hb hby d1_17) rfl (XS.aloadN X0.here hx rfl (hb hby d1_18) rfl rfl k))))) ?_
            obtain ⟨cl19, Ar19, aq19, aS19, aN19, aH19, aG19⟩ := id V_r0
            have hl19 := len_of aS19 aN19
            refine own_step (U' := s₁.setTop (mkF m 25 #[rv r0, iv (5 : Int32)] [(.int (5 : Int32)), (.ref r0)])) (fun t k => X0.arraylength hx (by rw [e0]; exact Ar19.1) (State.isArrayOf_alike hZ.alike Ar19.2.1) (g := (mkF m 19 #[rv r0, iv (5 : Int32)] [(.ref r0), (.int (5 : Int32))])) rfl rfl (hb hby d1_19) t (by rw [hl19]; exact (XS.icmpNo X0.here hx rfl (hb hby d1_20) rfl (by decide) (XS.aloadN X0.here hx rfl (hb hby d1_23) rfl rfl (XS.iloadN X0.here hx rfl (hb hby d1_24) rfl k))))) ?_
            obtain ⟨cl20, Ar20, aq20, aS20, aN20, aH20, aG20⟩ := id V_r0
            have hin20 : ¬ ((5 : Int32) < 0 ∨ cl20.slots.size ≤ ((5 : Int32)).toNatClampNeg) := inb_of aS20 ⟨by decide, by decide⟩
            have hat20 : cl20.slots[((5 : Int32)).toNatClampNeg]? = some (.int w5) := aH20.at hin20 rfl
            refine own_step (U' := s₁.setTop (mkF m 28 #[rv r0, iv (5 : Int32)] [(.int (41 : Int32)), (.int w5)])) (fun t k => X0.baloadBytes hx (j := (5 : Int32)) (v := (.int w5)) (by rw [e0]; exact Ar20.1) (State.isArrayOf_alike hZ.alike Ar20.2.1) Ar20.2.2 hin20 hat20 (g := (mkF m 25 #[rv r0, iv (5 : Int32)] [(.int (5 : Int32)), (.ref r0)])) rfl rfl (hb hby d1_25) t (XS.bipush X0.here hx rfl (hb hby d1_26) k)) ?_
            by_cases hc28_21 : w5 = (41 : Int32)
            · refine own_step (U' := s₁.setTop (mkF m 44 #[rv r0, iv (5 : Int32)] [(.ref r0), (.int (5 : Int32))])) (fun t k => XS.icmpYes X0.here hx rfl (pc0 := 28) (pc' := 37) rfl (hb hby d1_28) rfl (teq hc28_21).1 (by decide) (by decide) (XS.iloadN X0.here hx rfl (hb hby d1_37) rfl (XS.iconst X0.here hx rfl (hb hby d1_38) (XS.icmpNo X0.here hx rfl (hb hby d1_39) rfl (by decide) (XS.iloadN X0.here hx rfl (hb hby d1_42) rfl (XS.aloadN X0.here hx rfl (hb hby d1_43) rfl rfl k)))))) ?_
              obtain ⟨cl22, Ar22, aq22, aS22, aN22, aH22, aG22⟩ := id V_r0
              have hl22 := len_of aS22 aN22
              refine own_step (U' := s₁.setTop (mkF m 53 #[rv r0, iv (5 : Int32)] [(.int (5 : Int32))])) (fun t k => X0.arraylength hx (by rw [e0]; exact Ar22.1) (State.isArrayOf_alike hZ.alike Ar22.2.1) (g := (mkF m 44 #[rv r0, iv (5 : Int32)] [(.ref r0), (.int (5 : Int32))])) rfl rfl (hb hby d1_44) t (by rw [hl22]; exact (XS.icmpNo X0.here hx rfl (hb hby d1_45) rfl (by decide) (XS.iloadN X0.here hx rfl (hb hby d1_48) rfl (XS.goto X0.here hx rfl (pc0 := 49) (pc' := 53) rfl (hb hby d1_49) (by decide) (by decide) k))))) ?_
              exact own_out X0 (v := (some (.int (5 : Int32)))) hlk (own_nv Bd.returns) (by rw [e0]; exact ⟨by rw [show (F1k7 w0 w1 w2 w3 w4 w5 w6) = (5 : Int32) from (by simp only [F1k7, if_pos hc10_3, if_neg hc28_6, if_neg hc28_9, if_neg hc28_13, if_neg hc28_17, if_pos hc28_21])], N0, rfl⟩) (by decide) (by decide) (fun fs hr => retI X0 hx Bd.returns (hb hby d1_53) hr)
            · refine own_step (U' := s₁.setTop (mkF m 19 #[rv r0, iv (6 : Int32)] [(.ref r0), (.int (6 : Int32))])) (fun t k => XS.icmpNo X0.here hx rfl (hb hby d1_28) rfl (feq hc28_21).1 (XS.iinc X0.here hx rfl (hb hby d1_31) rfl (l' := #[rv r0, iv (6 : Int32)]) rfl (XS.goto X0.here hx rfl (pc0 := 34) (pc' := 17) rfl (hb hby d1_34) (by decide) (by decide) (XS.iloadN X0.here hx rfl (hb hby d1_17) rfl (XS.aloadN X0.here hx rfl (hb hby d1_18) rfl rfl k))))) ?_
              obtain ⟨cl23, Ar23, aq23, aS23, aN23, aH23, aG23⟩ := id V_r0
              have hl23 := len_of aS23 aN23
              refine own_step (U' := s₁.setTop (mkF m 25 #[rv r0, iv (6 : Int32)] [(.int (6 : Int32)), (.ref r0)])) (fun t k => X0.arraylength hx (by rw [e0]; exact Ar23.1) (State.isArrayOf_alike hZ.alike Ar23.2.1) (g := (mkF m 19 #[rv r0, iv (6 : Int32)] [(.ref r0), (.int (6 : Int32))])) rfl rfl (hb hby d1_19) t (by rw [hl23]; exact (XS.icmpNo X0.here hx rfl (hb hby d1_20) rfl (by decide) (XS.aloadN X0.here hx rfl (hb hby d1_23) rfl rfl (XS.iloadN X0.here hx rfl (hb hby d1_24) rfl k))))) ?_
              obtain ⟨cl24, Ar24, aq24, aS24, aN24, aH24, aG24⟩ := id V_r0
              have hin24 : ¬ ((6 : Int32) < 0 ∨ cl24.slots.size ≤ ((6 : Int32)).toNatClampNeg) := inb_of aS24 ⟨by decide, by decide⟩
              have hat24 : cl24.slots[((6 : Int32)).toNatClampNeg]? = some (.int w6) := aH24.at hin24 rfl
              refine own_step (U' := s₁.setTop (mkF m 28 #[rv r0, iv (6 : Int32)] [(.int (41 : Int32)), (.int w6)])) (fun t k => X0.baloadBytes hx (j := (6 : Int32)) (v := (.int w6)) (by rw [e0]; exact Ar24.1) (State.isArrayOf_alike hZ.alike Ar24.2.1) Ar24.2.2 hin24 hat24 (g := (mkF m 25 #[rv r0, iv (6 : Int32)] [(.int (6 : Int32)), (.ref r0)])) rfl rfl (hb hby d1_25) t (XS.bipush X0.here hx rfl (hb hby d1_26) k)) ?_
              by_cases hc28_25 : w6 = (41 : Int32)
              · refine own_step (U' := s₁.setTop (mkF m 44 #[rv r0, iv (6 : Int32)] [(.ref r0), (.int (6 : Int32))])) (fun t k => XS.icmpYes X0.here hx rfl (pc0 := 28) (pc' := 37) rfl (hb hby d1_28) rfl (teq hc28_25).1 (by decide) (by decide) (XS.iloadN X0.here hx rfl (hb hby d1_37) rfl (XS.iconst X0.here hx rfl (hb hby d1_38) (XS.icmpNo X0.here hx rfl (hb hby d1_39) rfl (by decide) (XS.iloadN X0.here hx rfl (hb hby d1_42) rfl (XS.aloadN X0.here hx rfl (hb hby d1_43) rfl rfl k)))))) ?_
                obtain ⟨cl26, Ar26, aq26, aS26, aN26, aH26, aG26⟩ := id V_r0
                have hl26 := len_of aS26 aN26
                refine own_step (U' := s₁.setTop (mkF m 53 #[rv r0, iv (6 : Int32)] [(.int (6 : Int32))])) (fun t k => X0.arraylength hx (by rw [e0]; exact Ar26.1) (State.isArrayOf_alike hZ.alike Ar26.2.1) (g := (mkF m 44 #[rv r0, iv (6 : Int32)] [(.ref r0), (.int (6 : Int32))])) rfl rfl (hb hby d1_44) t (by rw [hl26]; exact (XS.icmpNo X0.here hx rfl (hb hby d1_45) rfl (by decide) (XS.iloadN X0.here hx rfl (hb hby d1_48) rfl (XS.goto X0.here hx rfl (pc0 := 49) (pc' := 53) rfl (hb hby d1_49) (by decide) (by decide) k))))) ?_
                exact own_out X0 (v := (some (.int (6 : Int32)))) hlk (own_nv Bd.returns) (by rw [e0]; exact ⟨by rw [show (F1k7 w0 w1 w2 w3 w4 w5 w6) = (6 : Int32) from (by simp only [F1k7, if_pos hc10_3, if_neg hc28_6, if_neg hc28_9, if_neg hc28_13, if_neg hc28_17, if_neg hc28_21, if_pos hc28_25])], N0, rfl⟩) (by decide) (by decide) (fun fs hr => retI X0 hx Bd.returns (hb hby d1_53) hr)
              · refine own_step (U' := s₁.setTop (mkF m 19 #[rv r0, iv (7 : Int32)] [(.ref r0), (.int (7 : Int32))])) (fun t k => XS.icmpNo X0.here hx rfl (hb hby d1_28) rfl (feq hc28_25).1 (XS.iinc X0.here hx rfl (hb hby d1_31) rfl (l' := #[rv r0, iv (7 : Int32)]) rfl (XS.goto X0.here hx rfl (pc0 := 34) (pc' := 17) rfl (hb hby d1_34) (by decide) (by decide) (XS.iloadN X0.here hx rfl (hb hby d1_17) rfl (XS.aloadN X0.here hx rfl (hb hby d1_18) rfl rfl k))))) ?_
                obtain ⟨cl27, Ar27, aq27, aS27, aN27, aH27, aG27⟩ := id V_r0
                have hl27 := len_of aS27 aN27
                refine own_step (U' := s₁.setTop (mkF m 44 #[rv r0, iv (7 : Int32)] [(.ref r0), (.int (7 : Int32))])) (fun t k => X0.arraylength hx (by rw [e0]; exact Ar27.1) (State.isArrayOf_alike hZ.alike Ar27.2.1) (g := (mkF m 19 #[rv r0, iv (7 : Int32)] [(.ref r0), (.int (7 : Int32))])) rfl rfl (hb hby d1_19) t (by rw [hl27]; exact (XS.icmpYes X0.here hx rfl (pc0 := 20) (pc' := 37) rfl (hb hby d1_20) rfl (by decide) (by decide) (by decide) (XS.iloadN X0.here hx rfl (hb hby d1_37) rfl (XS.iconst X0.here hx rfl (hb hby d1_38) (XS.icmpNo X0.here hx rfl (hb hby d1_39) rfl (by decide) (XS.iloadN X0.here hx rfl (hb hby d1_42) rfl (XS.aloadN X0.here hx rfl (hb hby d1_43) rfl rfl k)))))))) ?_
                obtain ⟨cl28, Ar28, aq28, aS28, aN28, aH28, aG28⟩ := id V_r0
                have hl28 := len_of aS28 aN28
                refine own_step (U' := s₁.setTop (mkF m 53 #[rv r0, iv (7 : Int32)] [(.int (-1 : Int32))])) (fun t k => X0.arraylength hx (by rw [e0]; exact Ar28.1) (State.isArrayOf_alike hZ.alike Ar28.2.1) (g := (mkF m 44 #[rv r0, iv (7 : Int32)] [(.ref r0), (.int (7 : Int32))])) rfl rfl (hb hby d1_44) t (by rw [hl28]; exact (XS.icmpYes X0.here hx rfl (pc0 := 45) (pc' := 52) rfl (hb hby d1_45) rfl (by decide) (by decide) (by decide) (XS.iconst X0.here hx rfl (hb hby d1_52) k)))) ?_
                exact own_out X0 (v := (some (.int (-1 : Int32)))) hlk (own_nv Bd.returns) (by rw [e0]; exact ⟨by rw [show (F1k7 w0 w1 w2 w3 w4 w5 w6) = (-1 : Int32) from (by simp only [F1k7, if_pos hc10_3, if_neg hc28_6, if_neg hc28_9, if_neg hc28_13, if_neg hc28_17, if_neg hc28_21, if_neg hc28_25])], N0, rfl⟩) (by decide) (by decide) (fun fs hr => retI X0 hx Bd.returns (hb hby d1_53) hr)
  · refine own_step (U' := s₁.setTop (mkF m 14 #[rv r0, .unset] [(.int (-1 : Int32))])) (fun t k => XS.icmpNo X0.here hx rfl (hb hby d1_10) rfl (feq hc10_3).1 (XS.iconst X0.here hx rfl (hb hby d1_13) k)) ?_
    exact own_out X0 (v := (some (.int (-1 : Int32)))) hlk (own_nv Bd.returns) (by rw [e0]; exact ⟨by rw [show (F1k7 w0 w1 w2 w3 w4 w5 w6) = (-1 : Int32) from (by simp only [F1k7, if_neg hc10_3])], N0, rfl⟩) (by decide) (by decide) (fun fs hr => retI X0 hx Bd.returns (hb hby d1_14) hr)
theorem ef_1k6 (m : MethodId) (r0 : Addr) : entryFrame m #[(.ref r0)] 2 = mkF m 0 #[rv r0, .unset] [] := by first | (simp [entryFrame, mkF, argsToLocals, Value.category]; done) | rfl
def F1k6 (w0 : Int32) (w1 : Int32) (w2 : Int32) (w3 : Int32) (w4 : Int32) (w5 : Int32) : Int32 :=
  if w0 = (40 : Int32) then
    if w1 = (41 : Int32) then
      (-1 : Int32)
    else
      if w2 = (41 : Int32) then
        (2 : Int32)
      else
        if w3 = (41 : Int32) then
          (3 : Int32)
        else
          if w4 = (41 : Int32) then
            (4 : Int32)
          else
            if w5 = (41 : Int32) then
              (5 : Int32)
            else
              (-1 : Int32)
  else
    (-1 : Int32)
def Q1k6 (Z : State) (r0 : Addr) (w0 : Int32) (w1 : Int32) (w2 : Int32) (w3 : Int32) (w4 : Int32) (w5 : Int32) (k_r0 : ClassId) (h0 : Heap) (n0 : Nat) (v : Option Value) (h : Heap) (L : List Loc) : Prop := v = some (.int (F1k6 w0 w1 w2 w3 w4 w5)) ∧ Fr n0 L ∧ h = h0
set_option maxRecDepth 65536 in
set_option maxHeartbeats 40000000 in
theorem rm1k6 (l : Launch) (Z : State) (a0 : Array Value) (hw : ∀ d ∈ tables_1, d.before a0 Z = true) (ws : List Jvm.Cond) (r0 : Addr) (w0 : Int32) (w1 : Int32) (w2 : Int32) (w3 : Int32) (w4 : Int32) (w5 : Int32) (k_r0 : ClassId) (h0 : Heap) (n0 : Nat) (Z0 : n0 ≤ h0.size) (V_r0 : Arv Z h0 r0 k_r0 .byte (6 : Int32) [(.int w0), (.int w1), (.int w2), (.int w3), (.int w4), (.int w5)] (.int (0 : Int32))) :
    MetFree l (⟨"com/example/tallyfield/tallyfield/control/ControlNumbers", "codeEnd", "([B)I"⟩ : MethodName) (head1 (Jvm.Cond.code (⟨"com/example/tallyfield/tallyfield/control/ControlNumbers", "codeEnd", "([B)I"⟩ : MethodName) prog_8_method_6_code 2 (some .int) :: ws) ({ frames := 0, cells := 0, slots := 0, locals := 0 } : Room)) (fun a U => a = #[(.ref r0)] ∧ Z.Warmed39 U.vm ∧ U.heap = h0) (fun _ _ _ _ _ => True) (fun _ U o U' => ∃ v L, o = .returned v ∧ Q1k6 Z r0 w0 w1 w2 w3 w4 w5 k_r0 h0 n0 v U'.heap L ∧ FrameEnd U o U' L ({ frames := 0, cells := 0, slots := 0, locals := 0 } : Room).cells ({ frames := 0, cells := 0, slots := 0, locals := 0 } : Room).slots) := by
  refine MetFree.of_bodySF (plainFor_of_name pn_1) hisR ?_
  intro p e s m args below meth c s₁ Bd hml0 hP hK
  obtain ⟨rfl, hZ, hh⟩ := hP
  have hx := Bd.exec
  have hby := Bd.bytes
  have hml : c.maxLocals = 2 := hml0
  have hown : s.vm.findClass "com/example/tallyfield/tallyfield/control/ControlNumbers" = some m.cls := findClass_of_methodNamed Bd.named
  have hnm := (name_of_methodNamed Bd.named Bd.method).1
  have hlk : meth.locks = false := Bd.notSynchronized
  have X0 : Stand p l e ({ frames := 0, cells := 0, slots := 0, locals := 0 } : Room) s m #[(.ref r0)] below meth c s₁ [] 0 0 := Stand.of_body Bd
  have e0 : s₁.heap = h0 := by rw [← hh, Bd.state]; rfl
  have N0 := Fr.nil n0
  have KK0 := Keep.refl h0 []
  show own_Go p.tables e below s 0 0 (Q1k6 Z r0 w0 w1 w2 w3 w4 w5 k_r0 h0 n0) (s₁.setTop (entryFrame m #[(.ref r0)] 2))
  rw [ef_1k6]
  refine own_step (U' := s₁.setTop (mkF m 1 #[rv r0, .unset] [(.ref r0)])) (fun t k => XS.aloadN X0.here hx rfl (hb hby d1_0) rfl rfl k) ?_
  obtain ⟨cl1, Ar1, aq1, aS1, aN1, aH1, aG1⟩ := id V_r0
  have hl1 := len_of aS1 aN1
  refine own_step (U' := s₁.setTop (mkF m 7 #[rv r0, .unset] [(.int (0 : Int32)), (.ref r0)])) (fun t k => X0.arraylength hx (by rw [e0]; exact Ar1.1) (State.isArrayOf_alike hZ.alike Ar1.2.1) (g := (mkF m 1 #[rv r0, .unset] [(.ref r0)])) rfl rfl (hb hby d1_1) t (by rw [hl1]; exact (XS.ifNo X0.here hx rfl (hb hby d1_2) rfl (by decide) (XS.aloadN X0.here hx rfl (hb hby d1_5) rfl rfl (XS.iconst X0.here hx rfl (hb hby d1_6) k))))) ?_
  obtain ⟨cl2, Ar2, aq2, aS2, aN2, aH2, aG2⟩ := id V_r0
  have hin2 : ¬ ((0 : Int32) < 0 ∨ cl2.slots.size ≤ ((0 : Int32)).toNatClampNeg) := inb_of aS2 ⟨by decide, by decide⟩
  have hat2 : cl2.slots[((0 : Int32)).toNatClampNeg]? = some (.int w0) := aH2.at hin2 rfl
  refine own_step (U' := s₁.setTop (mkF m 10 #[rv r0, .unset] [(.int (40 : Int32)), (.int w0)])) (fun t k => X0.baloadBytes hx (j := (0 : Int32)) (v := (.int w0)) (by rw [e0]; exact Ar2.1) (State.isArrayOf_alike hZ.alike Ar2.2.1) Ar2.2.2 hin2 hat2 (g := (mkF m 7 #[rv r0, .unset] [(.int (0 : Int32)), (.ref r0)])) rfl rfl (hb hby d1_7) t (XS.bipush X0.here hx rfl (hb hby d1_8) k)) ?_
  by_cases hc10_3 : w0 = (40 : Int32)
  · refine own_step (U' := s₁.setTop (mkF m 19 #[rv r0, iv (1 : Int32)] [(.ref r0), (.int (1 : Int32))])) (fun t k => XS.icmpYes X0.here hx rfl (pc0 := 10) (pc' := 15) rfl (hb hby d1_10) rfl (teq hc10_3).1 (by decide) (by decide) (XS.iconst X0.here hx rfl (hb hby d1_15) (XS.istoreN X0.here hx rfl (hb hby d1_16) rfl (l' := #[rv r0, iv (1 : Int32)]) rfl (XS.iloadN X0.here hx rfl (hb hby d1_17) rfl (XS.aloadN X0.here hx rfl (hb hby d1_18) rfl rfl k))))) ?_
    obtain ⟨cl4, Ar4, aq4, aS4, aN4, aH4, aG4⟩ := id V_r0
    have hl4 := len_of aS4 aN4
    refine own_step (U' := s₁.setTop (mkF m 25 #[rv r0, iv (1 : Int32)] [(.int (1 : Int32)), (.ref r0)])) (fun t k => X0.arraylength hx (by rw [e0]; exact Ar4.1) (State.isArrayOf_alike hZ.alike Ar4.2.1) (g := (mkF m 19 #[rv r0, iv (1 : Int32)] [(.ref r0), (.int (1 : Int32))])) rfl rfl (hb hby d1_19) t (by rw [hl4]; exact (XS.icmpNo X0.here hx rfl (hb hby d1_20) rfl (by decide) (XS.aloadN X0.here hx rfl (hb hby d1_23) rfl rfl (XS.iloadN X0.here hx rfl (hb hby d1_24) rfl k))))) ?_
    obtain ⟨cl5, Ar5, aq5, aS5, aN5, aH5, aG5⟩ := id V_r0
    have hin5 : ¬ ((1 : Int32) < 0 ∨ cl5.slots.size ≤ ((1 : Int32)).toNatClampNeg) := inb_of aS5 ⟨by decide, by decide⟩
    have hat5 : cl5.slots[((1 : Int32)).toNatClampNeg]? = some (.int w1) := aH5.at hin5 rfl
    refine own_step (U' := s₁.setTop (mkF m 28 #[rv r0, iv (1 : Int32)] [(.int (41 : Int32)), (.int w1)])) (fun t k => X0.baloadBytes hx (j := (1 : Int32)) (v := (.int w1)) (by rw [e0]; exact Ar5.1) (State.isArrayOf_alike hZ.alike Ar5.2.1) Ar5.2.2 hin5 hat5 (g := (mkF m 25 #[rv r0, iv (1 : Int32)] [(.int (1 : Int32)), (.ref r0)])) rfl rfl (hb hby d1_25) t (XS.bipush X0.here hx rfl (hb hby d1_26) k)) ?_
    by_cases hc28_6 : w1 = (41 : Int32)
    · refine own_step (U' := s₁.setTop (mkF m 53 #[rv r0, iv (1 : Int32)] [(.int (-1 : Int32))])) (fun t k => XS.icmpYes X0.here hx rfl (pc0 := 28) (pc' := 37) rfl (hb hby d1_28) rfl (teq hc28_6).1 (by decide) (by decide) (XS.iloadN X0.here hx rfl (hb hby d1_37) rfl (XS.iconst X0.here hx rfl (hb hby d1_38) (XS.icmpYes X0.here hx rfl (pc0 := 39) (pc' := 52) rfl (hb hby d1_39) rfl (by decide) (by decide) (by decide) (XS.iconst X0.here hx rfl (hb hby d1_52) k))))) ?_
      exact own_out X0 (v := (some (.int (-1 : Int32)))) hlk (own_nv Bd.returns) (by rw [e0]; exact ⟨by rw [show (F1k6 w0 w1 w2 w3 w4 w5) = (-1 : Int32) from (by simp only [F1k6, if_pos hc10_3, if_pos hc28_6])], N0, rfl⟩) (by decide) (by decide) (fun fs hr => retI X0 hx Bd.returns (hb hby d1_53) hr)
    · refine own_step (U' := s₁.setTop (mkF m 19 #[rv r0, iv (2 : Int32)] [(.ref r0), (.int (2 : Int32))])) (fun t k => XS.icmpNo X0.here hx rfl (hb hby d1_28) rfl (feq hc28_6).1 (XS.iinc X0.here hx rfl (hb hby d1_31) rfl (l' := #[rv r0, iv (2 : Int32)]) rfl (XS.goto X0.here hx rfl (pc0 := 34) (pc' := 17) rfl (hb hby d1_34) (by decide) (by decide) (XS.iloadN X0.here hx rfl (hb hby d1_17) rfl (XS.aloadN X0.here hx rfl (hb hby d1_18) rfl rfl k))))) ?_
      obtain ⟨cl7, Ar7, aq7, aS7, aN7, aH7, aG7⟩ := id V_r0
      have hl7 := len_of aS7 aN7
      refine own_step (U' := s₁.setTop (mkF m 25 #[rv r0, iv (2 : Int32)] [(.int (2 : Int32)), (.ref r0)])) (fun t k => X0.arraylength hx (by rw [e0]; exact Ar7.1) (State.isArrayOf_alike hZ.alike Ar7.2.1) (g := (mkF m 19 #[rv r0, iv (2 : Int32)] [(.ref r0), (.int (2 : Int32))])) rfl rfl (hb hby d1_19) t (by rw [hl7]; exact (XS.icmpNo X0.here hx rfl (hb hby d1_20) rfl (by decide) (XS.aloadN X0.here hx rfl (hb hby d1_23) rfl rfl (XS.iloadN X0.here hx rfl (hb hby d1_24) rfl k))))) ?_
      obtain ⟨cl8, Ar8, aq8, aS8, aN8, aH8, aG8⟩ := id V_r0
      have hin8 : ¬ ((2 : Int32) < 0 ∨ cl8.slots.size ≤ ((2 : Int32)).toNatClampNeg) := inb_of aS8 ⟨by decide, by decide⟩
      have hat8 : cl8.slots[((2 : Int32)).toNatClampNeg]? = some (.int w2) := aH8.at hin8 rfl
      refine own_step (U' := s₁.setTop (mkF m 28 #[rv r0, iv (2 : Int32)] [(.int (41 : Int32)), (.int w2)])) (fun t k => X0.baloadBytes hx (j := (2 : Int32)) (v := (.int w2)) (by rw [e0]; exact Ar8.1) (State.isArrayOf_alike hZ.alike Ar8.2.1) Ar8.2.2 hin8 hat8 (g := (mkF m 25 #[rv r0, iv (2 : Int32)] [(.int (2 : Int32)), (.ref r0)])) rfl rfl (hb hby d1_25) t (XS.bipush X0.here hx rfl (hb hby d1_26) k)) ?_
      by_cases hc28_9 : w2 = (41 : Int32)
      · refine own_step (U' := s₁.setTop (mkF m 44 #[rv r0, iv (2 : Int32)] [(.ref r0), (.int (2 : Int32))])) (fun t k => XS.icmpYes X0.here hx rfl (pc0 := 28) (pc' := 37) rfl (hb hby d1_28) rfl (teq hc28_9).1 (by decide) (by decide) (XS.iloadN X0.here hx rfl (hb hby d1_37) rfl (XS.iconst X0.here hx rfl (hb hby d1_38) (XS.icmpNo X0.here hx rfl (hb hby d1_39) rfl (by decide) (XS.iloadN X0.here hx rfl (hb hby d1_42) rfl (XS.aloadN X0.here hx rfl (hb hby d1_43) rfl rfl k)))))) ?_
        obtain ⟨cl10, Ar10, aq10, aS10, aN10, aH10, aG10⟩ := id V_r0
        have hl10 := len_of aS10 aN10
        refine own_step (U' := s₁.setTop (mkF m 53 #[rv r0, iv (2 : Int32)] [(.int (2 : Int32))])) (fun t k => X0.arraylength hx (by rw [e0]; exact Ar10.1) (State.isArrayOf_alike hZ.alike Ar10.2.1) (g := (mkF m 44 #[rv r0, iv (2 : Int32)] [(.ref r0), (.int (2 : Int32))])) rfl rfl (hb hby d1_44) t (by rw [hl10]; exact (XS.icmpNo X0.here hx rfl (hb hby d1_45) rfl (by decide) (XS.iloadN X0.here hx rfl (hb hby d1_48) rfl (XS.goto X0.here hx rfl (pc0 := 49) (pc' := 53) rfl (hb hby d1_49) (by decide) (by decide) k))))) ?_
        exact own_out X0 (v := (some (.int (2 : Int32)))) hlk (own_nv Bd.returns) (by rw [e0]; exact ⟨by rw [show (F1k6 w0 w1 w2 w3 w4 w5) = (2 : Int32) from (by simp only [F1k6, if_pos hc10_3, if_neg hc28_6, if_pos hc28_9])], N0, rfl⟩) (by decide) (by decide) (fun fs hr => retI X0 hx Bd.returns (hb hby d1_53) hr)
      · refine own_step (U' := s₁.setTop (mkF m 19 #[rv r0, iv (3 : Int32)] [(.ref r0), (.int (3 : Int32))])) (fun t k => XS.icmpNo X0.here hx rfl (hb hby d1_28) rfl (feq hc28_9).1 (XS.iinc X0.here hx rfl (hb hby d1_31) rfl (l' := #[rv r0, iv (3 : Int32)]) rfl (XS.goto X0.here hx rfl (pc0 := 34) (pc' := 17) rfl (hb hby d1_34) (by decide) (by decide) (XS.iloadN X0.here hx rfl (hb hby d1_17) rfl (XS.aloadN X0.here hx rfl (hb hby d1_18) rfl rfl k))))) ?_
        obtain ⟨cl11, Ar11, aq11, aS11, aN11, aH11, aG11⟩ := id V_r0
        have hl11 := len_of aS11 aN11
        refine own_step (U' := s₁.setTop (mkF m 25 #[rv r0, iv (3 : Int32)] [(.int (3 : Int32)), (.ref r0)])) (fun t k => X0.arraylength hx (by rw [e0]; exact Ar11.1) (State.isArrayOf_alike hZ.alike Ar11.2.1) (g := (mkF m 19 #[rv r0, iv (3 : Int32)] [(.ref r0), (.int (3 : Int32))])) rfl rfl (hb hby d1_19) t (by rw [hl11]; exact (XS.icmpNo X0.here hx rfl (hb hby d1_20) rfl (by decide) (XS.aloadN X0.here hx rfl (hb hby d1_23) rfl rfl (XS.iloadN X0.here hx rfl (hb hby d1_24) rfl k))))) ?_
        obtain ⟨cl12, Ar12, aq12, aS12, aN12, aH12, aG12⟩ := id V_r0
        have hin12 : ¬ ((3 : Int32) < 0 ∨ cl12.slots.size ≤ ((3 : Int32)).toNatClampNeg) := inb_of aS12 ⟨by decide, by decide⟩
        have hat12 : cl12.slots[((3 : Int32)).toNatClampNeg]? = some (.int w3) := aH12.at hin12 rfl
        refine own_step (U' := s₁.setTop (mkF m 28 #[rv r0, iv (3 : Int32)] [(.int (41 : Int32)), (.int w3)])) (fun t k => X0.baloadBytes hx (j := (3 : Int32)) (v := (.int w3)) (by rw [e0]; exact Ar12.1) (State.isArrayOf_alike hZ.alike Ar12.2.1) Ar12.2.2 hin12 hat12 (g := (mkF m 25 #[rv r0, iv (3 : Int32)] [(.int (3 : Int32)), (.ref r0)])) rfl rfl (hb hby d1_25) t (XS.bipush X0.here hx rfl (hb hby d1_26) k)) ?_
        by_cases hc28_13 : w3 = (41 : Int32)
        · refine own_step (U' := s₁.setTop (mkF m 44 #[rv r0, iv (3 : Int32)] [(.ref r0), (.int (3 : Int32))])) (fun t k => XS.icmpYes X0.here hx rfl (pc0 := 28) (pc' := 37) rfl (hb hby d1_28) rfl (teq hc28_13).1 (by decide) (by decide) (XS.iloadN X0.here hx rfl (hb hby d1_37) rfl (XS.iconst X0.here hx rfl (hb hby d1_38) (XS.icmpNo X0.here hx rfl (hb hby d1_39) rfl (by decide) (XS.iloadN X0.here hx rfl (hb hby d1_42) rfl (XS.aloadN X0.here hx rfl (hb hby d1_43) rfl rfl k)))))) ?_
          obtain ⟨cl14, Ar14, aq14, aS14, aN14, aH14, aG14⟩ := id V_r0
          have hl14 := len_of aS14 aN14
          refine own_step (U' := s₁.setTop (mkF m 53 #[rv r0, iv (3 : Int32)] [(.int (3 : Int32))])) (fun t k => X0.arraylength hx (by rw [e0]; exact Ar14.1) (State.isArrayOf_alike hZ.alike Ar14.2.1) (g := (mkF m 44 #[rv r0, iv (3 : Int32)] [(.ref r0), (.int (3 : Int32))])) rfl rfl (hb hby d1_44) t (by rw [hl14]; exact (XS.icmpNo X0.here hx rfl (hb hby d1_45) rfl (by decide) (XS.iloadN X0.here hx rfl (hb hby d1_48) rfl (XS.goto X0.here hx rfl (pc0 := 49) (pc' := 53) rfl (hb hby d1_49) (by decide) (by decide) k))))) ?_
          exact own_out X0 (v := (some (.int (3 : Int32)))) hlk (own_nv Bd.returns) (by rw [e0]; exact ⟨by rw [show (F1k6 w0 w1 w2 w3 w4 w5) = (3 : Int32) from (by simp only [F1k6, if_pos hc10_3, if_neg hc28_6, if_neg hc28_9, if_pos hc28_13])], N0, rfl⟩) (by decide) (by decide) (fun fs hr => retI X0 hx Bd.returns (hb hby d1_53) hr)
        · refine own_step (U' := s₁.setTop (mkF m 19 #[rv r0, iv (4 : Int32)] [(.ref r0), (.int (4 : Int32))])) (fun t k => XS.icmpNo X0.here hx rfl (hb hby d1_28) rfl (feq hc28_13).1 (XS.iinc X0.here hx rfl (hb hby d1_31) rfl (l' := #[rv r0, iv (4 : Int32)]) rfl (XS.goto X0.here hx rfl (pc0 := 34) (pc' := 17) rfl (hb hby d1_34) (by decide) (by decide) (XS.iloadN X0.here hx rfl (hb hby d1_17) rfl (XS.aloadN X0.here hx rfl (hb hby d1_18) rfl rfl k))))) ?_
          obtain ⟨cl15, Ar15, aq15, aS15, aN15, aH15, aG15⟩ := id V_r0
          have hl15 := len_of aS15 aN15
          refine own_step (U' := s₁.setTop (mkF m 25 #[rv r0, iv (4 : Int32)] [(.int (4 : Int32)), (.ref r0)])) (fun t k => X0.arraylength hx (by rw [e0]; exact Ar15.1) (State.isArrayOf_alike hZ.alike Ar15.2.1) (g := (mkF m 19 #[rv r0, iv (4 : Int32)] [(.ref r0), (.int (4 : Int32))])) rfl rfl (hb hby d1_19) t (by rw [hl15]; exact (XS.icmpNo X0.here hx rfl (hb hby d1_20) rfl (by decide) (XS.aloadN X0.here hx rfl (hb hby d1_23) rfl rfl (XS.iloadN X0.here hx rfl (hb hby d1_24) rfl k))))) ?_
          obtain ⟨cl16, Ar16, aq16, aS16, aN16, aH16, aG16⟩ := id V_r0
          have hin16 : ¬ ((4 : Int32) < 0 ∨ cl16.slots.size ≤ ((4 : Int32)).toNatClampNeg) := inb_of aS16 ⟨by decide, by decide⟩
          have hat16 : cl16.slots[((4 : Int32)).toNatClampNeg]? = some (.int w4) := aH16.at hin16 rfl
          refine own_step (U' := s₁.setTop (mkF m 28 #[rv r0, iv (4 : Int32)] [(.int (41 : Int32)), (.int w4)])) (fun t k => X0.baloadBytes hx (j := (4 : Int32)) (v := (.int w4)) (by rw [e0]; exact Ar16.1) (State.isArrayOf_alike hZ.alike Ar16.2.1) Ar16.2.2 hin16 hat16 (g := (mkF m 25 #[rv r0, iv (4 : Int32)] [(.int (4 : Int32)), (.ref r0)])) rfl rfl (hb hby d1_25) t (XS.bipush X0.here hx rfl (hb hby d1_26) k)) ?_
          by_cases hc28_17 : w4 = (41 : Int32)
          · refine own_step (U' := s₁.setTop (mkF m 44 #[rv r0, iv (4 : Int32)] [(.ref r0), (.int (4 : Int32))])) (fun t k => XS.icmpYes X0.here hx rfl (pc0 := 28) (pc' := 37) rfl (hb hby d1_28) rfl (teq hc28_17).1 (by decide) (by decide) (XS.iloadN X0.here hx rfl (hb hby d1_37) rfl (XS.iconst X0.here hx rfl (hb hby d1_38) (XS.icmpNo X0.here hx rfl (hb hby d1_39) rfl (by decide) (XS.iloadN X0.here hx rfl (hb hby d1_42) rfl (XS.aloadN X0.here hx rfl (hb hby d1_43) rfl rfl k)))))) ?_
            obtain ⟨cl18, Ar18, aq18, aS18, aN18, aH18, aG18⟩ := id V_r0
            have hl18 := len_of aS18 aN18
            refine own_step (U' := s₁.setTop (mkF m 53 #[rv r0, iv (4 : Int32)] [(.int (4 : Int32))])) (fun t k => X0.arraylength hx (by rw [e0]; exact Ar18.1) (State.isArrayOf_alike hZ.alike Ar18.2.1) (g := (mkF m 44 #[rv r0, iv (4 : Int32)] [(.ref r0), (.int (4 : Int32))])) rfl rfl (hb hby d1_44) t (by rw [hl18]; exact (XS.icmpNo X0.here hx rfl (hb hby d1_45) rfl (by decide) (XS.iloadN X0.here hx rfl (hb hby d1_48) rfl (XS.goto X0.here hx rfl (pc0 := 49) (pc' := 53) rfl (hb hby d1_49) (by decide) (by decide) k))))) ?_
            exact own_out X0 (v := (some (.int (4 : Int32)))) hlk (own_nv Bd.returns) (by rw [e0]; exact ⟨by rw [show (F1k6 w0 w1 w2 w3 w4 w5) = (4 : Int32) from (by simp only [F1k6, if_pos hc10_3, if_neg hc28_6, if_neg hc28_9, if_neg hc28_13, if_pos hc28_17])], N0, rfl⟩) (by decide) (by decide) (fun fs hr => retI X0 hx Bd.returns (hb hby d1_53) hr)
          · refine own_step (U' := s₁.setTop (mkF m 19 #[rv r0, iv (5 : Int32)] [(.ref r0), (.int (5 : Int32))])) (fun t k => XS.icmpNo X0.here hx rfl (hb hby d1_28) rfl (feq hc28_17).1 (XS.iinc X0.here hx rfl (hb hby d1_31) rfl (l' := #[rv r0, iv (5 : Int32)]) rfl (XS.goto X0.here hx rfl (pc0 := 34) (pc' := 17) rfl (hb hby d1_34) (by decide) (by decide) (XS.iloadN X0.here hx rfl (hb hby d1_17) rfl (XS.aloadN X0.here hx rfl (hb hby d1_18) rfl rfl k))))) ?_
            obtain ⟨cl19, Ar19, aq19, aS19, aN19, aH19, aG19⟩ := id V_r0
            have hl19 := len_of aS19 aN19
            refine own_step (U' := s₁.setTop (mkF m 25 #[rv r0, iv (5 : Int32)] [(.int (5 : Int32)), (.ref r0)])) (fun t k => X0.arraylength hx (by rw [e0]; exact Ar19.1) (State.isArrayOf_alike hZ.alike Ar19.2.1) (g := (mkF m 19 #[rv r0, iv (5 : Int32)] [(.ref r0), (.int (5 : Int32))])) rfl rfl (hb hby d1_19) t (by rw [hl19]; exact (XS.icmpNo X0.here hx rfl (hb hby d1_20) rfl (by decide) (XS.aloadN X0.here hx rfl (hb hby d1_23) rfl rfl (XS.iloadN X0.here hx rfl (hb hby d1_24) rfl k))))) ?_
            obtain ⟨cl20, Ar20, aq20, aS20, aN20, aH20, aG20⟩ := id V_r0
            have hin20 : ¬ ((5 : Int32) < 0 ∨ cl20.slots.size ≤ ((5 : Int32)).toNatClampNeg) := inb_of aS20 ⟨by decide, by decide⟩
            have hat20 : cl20.slots[((5 : Int32)).toNatClampNeg]? = some (.int w5) := aH20.at hin20 rfl
            refine own_step (U' := s₁.setTop (mkF m 28 #[rv r0, iv (5 : Int32)] [(.int (41 : Int32)), (.int w5)])) (fun t k => X0.baloadBytes hx (j := (5 : Int32)) (v := (.int w5)) (by rw [e0]; exact Ar20.1) (State.isArrayOf_alike hZ.alike Ar20.2.1) Ar20.2.2 hin20 hat20 (g := (mkF m 25 #[rv r0, iv (5 : Int32)] [(.int (5 : Int32)), (.ref r0)])) rfl rfl (hb hby d1_25) t (XS.bipush X0.here hx rfl (hb hby d1_26) k)) ?_
            by_cases hc28_21 : w5 = (41 : Int32)
            · refine own_step (U' := s₁.setTop (mkF m 44 #[rv r0, iv (5 : Int32)] [(.ref r0), (.int (5 : Int32))])) (fun t k => XS.icmpYes X0.here hx rfl (pc0 := 28) (pc' := 37) rfl (hb hby d1_28) rfl (teq hc28_21).1 (by decide) (by decide) (XS.iloadN X0.here hx rfl (hb hby d1_37) rfl (XS.iconst X0.here hx rfl (hb hby d1_38) (XS.icmpNo X0.here hx rfl (hb hby d1_39) rfl (by decide) (XS.iloadN X0.here hx rfl (hb hby d1_42) rfl (XS.aloadN X0.here hx rfl (hb hby d1_43) rfl rfl k)))))) ?_
              obtain ⟨cl22, Ar22, aq22, aS22, aN22, aH22, aG22⟩ := id V_r0
              have hl22 := len_of aS22 aN22
              refine own_step (U' := s₁.setTop (mkF m 53 #[rv r0, iv (5 : Int32)] [(.int (5 : Int32))])) (fun t k => X0.arraylength hx (by rw [e0]; exact Ar22.1) (State.isArrayOf_alike hZ.alike Ar22.2.1) (g := (mkF m 44 #[rv r0, iv (5 : Int32)] [(.ref r0), (.int (5 : Int32))])) rfl rfl (hb hby d1_44) t (by rw [hl22]; exact (XS.icmpNo X0.here hx rfl (hb hby d1_45) rfl (by decide) (XS.iloadN X0.here hx rfl (hb hby d1_48) rfl (XS.goto X0.here hx rfl (pc0 := 49) (pc' := 53) rfl (hb hby d1_49) (by decide) (by decide) k))))) ?_
              exact own_out X0 (v := (some (.int (5 : Int32)))) hlk (own_nv Bd.returns) (by rw [e0]; exact ⟨by rw [show (F1k6 w0 w1 w2 w3 w4 w5) = (5 : Int32) from (by simp only [F1k6, if_pos hc10_3, if_neg hc28_6, if_neg hc28_9, if_neg hc28_13, if_neg hc28_17, if_pos hc28_21])], N0, rfl⟩) (by decide) (by decide) (fun fs hr => retI X0 hx Bd.returns (hb hby d1_53) hr)
            · refine own_step (U' := s₁.setTop (mkF m 19 #[rv r0, iv (6 : Int32)] [(.ref r0), (.int (6 : Int32))])) (fun t k => XS.icmpNo X0.here hx rfl (hb hby d1_28) rfl (feq hc28_21).1 (XS.iinc X0.here hx rfl (hb hby d1_31) rfl (l' := #[rv r0, iv (6 : Int32)]) rfl (XS.goto X0.here hx rfl (pc0 := 34) (pc' := 17) rfl (hb hby d1_34) (by decide) (by decide) (XS.iloadN X0.here hx rfl (hb hby d1_17) rfl (XS.aloadN X0.here hx rfl (hb hby d1_18) rfl rfl k))))) ?_
              obtain ⟨cl23, Ar23, aq23, aS23, aN23, aH23, aG23⟩ := id V_r0
              have hl23 := len_of aS23 aN23
              refine own_step (U' := s₁.setTop (mkF m 44 #[rv r0, iv (6 : Int32)] [(.ref r0), (.int (6 : Int32))])) (fun t k => X0.arraylength hx (by rw [e0]; exact Ar23.1) (State.isArrayOf_alike hZ.alike Ar23.2.1) (g := (mkF m 19 #[rv r0, iv (6 : Int32)] [(.ref r0), (.int (6 : Int32))])) rfl rfl (hb hby d1_19) t (by rw [hl23]; exact (XS.icmpYes X0.here hx rfl (pc0 := 20) (pc' := 37) rfl (hb hby d1_20) rfl (by decide) (by decide) (by decide) (XS.iloadN X0.here hx rfl (hb hby d1_37) rfl (XS.iconst X0.here hx rfl (hb hby d1_38) (XS.icmpNo X0.here hx rfl (hb hby d1_39) rfl (by decide) (XS.iloadN X0.here hx rfl (hb hby d1_42) rfl (XS.aloadN X0.here hx rfl (hb hby d1_43) rfl rfl k)))))))) ?_
              obtain ⟨cl24, Ar24, aq24, aS24, aN24, aH24, aG24⟩ := id V_r0
              have hl24 := len_of aS24 aN24
              refine own_step (U' := s₁.setTop (mkF m 53 #[rv r0, iv (6 : Int32)] [(.int (-1 : Int32))])) (fun t k => X0.arraylength hx (by rw [e0]; exact Ar24.1) (State.isArrayOf_alike hZ.alike Ar24.2.1) (g := (mkF m 44 #[rv r0, iv (6 : Int32)] [(.ref r0), (.int (6 : Int32))])) rfl rfl (hb hby d1_44) t (by rw [hl24]; exact (XS.icmpYes X0.here hx rfl (pc0 := 45) (pc' := 52) rfl (hb hby d1_45) rfl (by decide) (by decide) (by decide) (XS.iconst X0.here hx rfl (hb hby d1_52) k)))) ?_
              exact own_out X0 (v := (some (.int (-1 : Int32)))) hlk (own_nv Bd.returns) (by rw [e0]; exact ⟨by rw [show (F1k6 w0 w1 w2 w3 w4 w5) = (-1 : Int32) from (by simp only [F1k6, if_pos hc10_3, if_neg hc28_6, if_neg hc28_9, if_neg hc28_13, if_neg hc28_17, if_neg hc28_21])], N0, rfl⟩) (by decide) (by decide) (fun fs hr => retI X0 hx Bd.returns (hb hby d1_53) hr)
  · refine own_step (U' := s₁.setTop (mkF m 14 #[rv r0, .unset] [(.int (-1 : Int32))])) (fun t k => XS.icmpNo X0.here hx rfl (hb hby d1_10) rfl (feq hc10_3).1 (XS.iconst X0.here hx rfl (hb hby d1_13) k)) ?_
    exact own_out X0 (v := (some (.int (-1 : Int32)))) hlk (own_nv Bd.returns) (by rw [e0]; exact ⟨by rw [show (F1k6 w0 w1 w2 w3 w4 w5) = (-1 : Int32) from (by simp only [F1k6, if_neg hc10_3])], N0, rfl⟩) (by decide) (by decide) (fun fs hr => retI X0 hx Bd.returns (hb hby d1_14) hr)
theorem ef_1k5 (m : MethodId) (r0 : Addr) : entryFrame m #[(.ref r0)] 2 = mkF m 0 #[rv r0, .unset] [] := by first | (simp [entryFrame, mkF, argsToLocals, Value.category]; done) | rfl
def F1k5 (w0 : Int32) (w1 : Int32) (w2 : Int32) (w3 : Int32) (w4 : Int32) : Int32 :=
  if w0 = (40 : Int32) then
    if w1 = (41 : Int32) then
      (-1 : Int32)
    else
      if w2 = (41 : Int32) then
        (2 : Int32)
      else
        if w3 = (41 : Int32) then
          (3 : Int32)
        else
          if w4 = (41 : Int32) then
            (4 : Int32)
          else
            (-1 : Int32)
  else
    (-1 : Int32)
def Q1k5 (Z : State) (r0 : Addr) (w0 : Int32) (w1 : Int32) (w2 : Int32) (w3 : Int32) (w4 : Int32) (k_r0 : ClassId) (h0 : Heap) (n0 : Nat) (v : Option Value) (h : Heap) (L : List Loc) : Prop := v = some (.int (F1k5 w0 w1 w2 w3 w4)) ∧ Fr n0 L ∧ h = h0
set_option maxRecDepth 65536 in
set_option maxHeartbeats 40000000 in
theorem rm1k5 (l : Launch) (Z : State) (a0 : Array Value) (hw : ∀ d ∈ tables_1, d.before a0 Z = true) (ws : List Jvm.Cond) (r0 : Addr) (w0 : Int32) (w1 : Int32) (w2 : Int32) (w3 : Int32) (w4 : Int32) (k_r0 : ClassId) (h0 : Heap) (n0 : Nat) (Z0 : n0 ≤ h0.size) (V_r0 : Arv Z h0 r0 k_r0 .byte (5 : Int32) [(.int w0), (.int w1), (.int w2), (.int w3), (.int w4)] (.int (0 : Int32))) :
    MetFree l (⟨"com/example/tallyfield/tallyfield/control/ControlNumbers", "codeEnd", "([B)I"⟩ : MethodName) (head1 (Jvm.Cond.code (⟨"com/example/tallyfield/tallyfield/control/ControlNumbers", "codeEnd", "([B)I"⟩ : MethodName) prog_8_method_6_code 2 (some .int) :: ws) ({ frames := 0, cells := 0, slots := 0, locals := 0 } : Room)) (fun a U => a = #[(.ref r0)] ∧ Z.Warmed39 U.vm ∧ U.heap = h0) (fun _ _ _ _ _ => True) (fun _ U o U' => ∃ v L, o = .returned v ∧ Q1k5 Z r0 w0 w1 w2 w3 w4 k_r0 h0 n0 v U'.heap L ∧ FrameEnd U o U' L ({ frames := 0, cells := 0, slots := 0, locals := 0 } : Room).cells ({ frames := 0, cells := 0, slots := 0, locals := 0 } : Room).slots) := by
  refine MetFree.of_bodySF (plainFor_of_name pn_1) hisR ?_
  intro p e s m args below meth c s₁ Bd hml0 hP hK
  obtain ⟨rfl, hZ, hh⟩ := hP
  have hx := Bd.exec
  have hby := Bd.bytes
  have hml : c.maxLocals = 2 := hml0
  have hown : s.vm.findClass "com/example/tallyfield/tallyfield/control/ControlNumbers" = some m.cls := findClass_of_methodNamed Bd.named
  have hnm := (name_of_methodNamed Bd.named Bd.method).1
  have hlk : meth.locks = false := Bd.notSynchronized
  have X0 : Stand p l e ({ frames := 0, cells := 0, slots := 0, locals := 0 } : Room) s m #[(.ref r0)] below meth c s₁ [] 0 0 := Stand.of_body Bd
  have e0 : s₁.heap = h0 := by rw [← hh, Bd.state]; rfl
  have N0 := Fr.nil n0
  have KK0 := Keep.refl h0 []
  show own_Go p.tables e below s 0 0 (Q1k5 Z r0 w0 w1 w2 w3 w4 k_r0 h0 n0) (s₁.setTop (entryFrame m #[(.ref r0)] 2))
  rw [ef_1k5]
  refine own_step (U' := s₁.setTop (mkF m 1 #[rv r0, .unset] [(.ref r0)])) (fun t k => XS.aloadN X0.here hx rfl (hb hby d1_0) rfl rfl k) ?_
  obtain ⟨cl1, Ar1, aq1, aS1, aN1, aH1, aG1⟩ := id V_r0
  have hl1 := len_of aS1 aN1
  refine own_step (U' := s₁.setTop (mkF m 7 #[rv r0, .unset] [(.int (0 : Int32)), (.ref r0)])) (fun t k => X0.arraylength hx (by rw [e0]; exact Ar1.1) (State.isArrayOf_alike hZ.alike Ar1.2.1) (g := (mkF m 1 #[rv r0, .unset] [(.ref r0)])) rfl rfl (hb hby d1_1) t (by rw [hl1]; exact (XS.ifNo X0.here hx rfl (hb hby d1_2) rfl (by decide) (XS.aloadN X0.here hx rfl (hb hby d1_5) rfl rfl (XS.iconst X0.here hx rfl (hb hby d1_6) k))))) ?_
  obtain ⟨cl2, Ar2, aq2, aS2, aN2, aH2, aG2⟩ := id V_r0
  have hin2 : ¬ ((0 : Int32) < 0 ∨ cl2.slots.size ≤ ((0 : Int32)).toNatClampNeg) := inb_of aS2 ⟨by decide, by decide⟩
  have hat2 : cl2.slots[((0 : Int32)).toNatClampNeg]? = some (.int w0) := aH2.at hin2 rfl
  refine own_step (U' := s₁.setTop (mkF m 10 #[rv r0, .unset] [(.int (40 : Int32)), (.int w0)])) (fun t k => X0.baloadBytes hx (j := (0 : Int32)) (v := (.int w0)) (by rw [e0]; exact Ar2.1) (State.isArrayOf_alike hZ.alike Ar2.2.1) Ar2.2.2 hin2 hat2 (g := (mkF m 7 #[rv r0, .unset] [(.int (0 : Int32)), (.ref r0)])) rfl rfl (hb hby d1_7) t (XS.bipush X0.here hx rfl (hb hby d1_8) k)) ?_
  by_cases hc10_3 : w0 = (40 : Int32)
  · refine own_step (U' := s₁.setTop (mkF m 19 #[rv r0, iv (1 : Int32)] [(.ref r0), (.int (1 : Int32))])) (fun t k => XS.icmpYes X0.here hx rfl (pc0 := 10) (pc' := 15) rfl (hb hby d1_10) rfl (teq hc10_3).1 (by decide) (by decide) (XS.iconst X0.here hx rfl (hb hby d1_15) (XS.istoreN X0.here hx rfl (hb hby d1_16) rfl (l' := #[rv r0, iv (1 : Int32)]) rfl (XS.iloadN X0.here hx rfl (hb hby d1_17) rfl (XS.aloadN X0.here hx rfl (hb hby d1_18) rfl rfl k))))) ?_
    obtain ⟨cl4, Ar4, aq4, aS4, aN4, aH4, aG4⟩ := id V_r0
    have hl4 := len_of aS4 aN4
    refine own_step (U' := s₁.setTop (mkF m 25 #[rv r0, iv (1 : Int32)] [(.int (1 : Int32)), (.ref r0)])) (fun t k => X0.arraylength hx (by rw [e0]; exact Ar4.1) (State.isArrayOf_alike hZ.alike Ar4.2.1) (g := (mkF m 19 #[rv r0, iv (1 : Int32)] [(.ref r0), (.int (1 : Int32))])) rfl rfl (hb hby d1_19) t (by rw [hl4]; exact (XS.icmpNo X0.here hx rfl (hb hby d1_20) rfl (by decide) (XS.aloadN X0.here hx rfl (hb hby d1_23) rfl rfl (XS.iloadN X0.here hx rfl (hb hby d1_24) rfl k))))) ?_
    obtain ⟨cl5, Ar5, aq5, aS5, aN5, aH5, aG5⟩ := id V_r0
    have hin5 : ¬ ((1 : Int32) < 0 ∨ cl5.slots.size ≤ ((1 : Int32)).toNatClampNeg) := inb_of aS5 ⟨by decide, by decide⟩
    have hat5 : cl5.slots[((1 : Int32)).toNatClampNeg]? = some (.int w1) := aH5.at hin5 rfl
    refine own_step (U' := s₁.setTop (mkF m 28 #[rv r0, iv (1 : Int32)] [(.int (41 : Int32)), (.int w1)])) (fun t k => X0.baloadBytes hx (j := (1 : Int32)) (v := (.int w1)) (by rw [e0]; exact Ar5.1) (State.isArrayOf_alike hZ.alike Ar5.2.1) Ar5.2.2 hin5 hat5 (g := (mkF m 25 #[rv r0, iv (1 : Int32)] [(.int (1 : Int32)), (.ref r0)])) rfl rfl (hb hby d1_25) t (XS.bipush X0.here hx rfl (hb hby d1_26) k)) ?_
    by_cases hc28_6 : w1 = (41 : Int32)
    · refine own_step (U' := s₁.setTop (mkF m 53 #[rv r0, iv (1 : Int32)] [(.int (-1 : Int32))])) (fun t k => XS.icmpYes X0.here hx rfl (pc0 := 28) (pc' := 37) rfl (hb hby d1_28) rfl (teq hc28_6).1 (by decide) (by decide) (XS.iloadN X0.here hx rfl (hb hby d1_37) rfl (XS.iconst X0.here hx rfl (hb hby d1_38) (XS.icmpYes X0.here hx rfl (pc0 := 39) (pc' := 52) rfl (hb hby d1_39) rfl (by decide) (by decide) (by decide) (XS.iconst X0.here hx rfl (hb hby d1_52) k))))) ?_
      exact own_out X0 (v := (some (.int (-1 : Int32)))) hlk (own_nv Bd.returns) (by rw [e0]; exact ⟨by rw [show (F1k5 w0 w1 w2 w3 w4) = (-1 : Int32) from (by simp only [F1k5, if_pos hc10_3, if_pos hc28_6])], N0, rfl⟩) (by decide) (by decide) (fun fs hr => retI X0 hx Bd.returns (hb hby d1_53) hr)
    · refine own_step (U' := s₁.setTop (mkF m 19 #[rv r0, iv (2 : Int32)] [(.ref r0), (.int (2 : Int32))])) (fun t k => XS.icmpNo X0.here hx rfl (hb hby d1_28) rfl (feq hc28_6).1 (XS.iinc X0.here hx rfl (hb hby d1_31) rfl (l' := #[rv r0, iv (2 : Int32)]) rfl (XS.goto X0.here hx rfl (pc0 := 34) (pc' := 17) rfl (hb hby d1_34) (by decide) (by decide) (XS.iloadN X0.here hx rfl (hb hby d1_17) rfl (XS.aloadN X0.here hx rfl (hb hby d1_18) rfl rfl k))))) ?_
      obtain ⟨cl7, Ar7, aq7, aS7, aN7, aH7, aG7⟩ := id V_r0
      have hl7 := len_of aS7 aN7
      refine own_step (U' := s₁.setTop (mkF m 25 #[rv r0, iv (2 : Int32)] [(.int (2 : Int32)), (.ref r0)])) (fun t k => X0.arraylength hx (by rw [e0]; exact Ar7.1) (State.isArrayOf_alike hZ.alike Ar7.2.1) (g := (mkF m 19 #[rv r0, iv (2 : Int32)] [(.ref r0), (.int (2 : Int32))])) rfl rfl (hb hby d1_19) t (by rw [hl7]; exact (XS.icmpNo X0.here hx rfl (hb hby d1_20) rfl (by decide) (XS.aloadN X0.here hx rfl (hb hby d1_23) rfl rfl (XS.iloadN X0.here hx rfl (hb hby d1_24) rfl k))))) ?_
      obtain ⟨cl8, Ar8, aq8, aS8, aN8, aH8, aG8⟩ := id V_r0
      have hin8 : ¬ ((2 : Int32) < 0 ∨ cl8.slots.size ≤ ((2 : Int32)).toNatClampNeg) := inb_of aS8 ⟨by decide, by decide⟩
      have hat8 : cl8.slots[((2 : Int32)).toNatClampNeg]? = some (.int w2) := aH8.at hin8 rfl
      refine own_step (U' := s₁.setTop (mkF m 28 #[rv r0, iv (2 : Int32)] [(.int (41 : Int32)), (.int w2)])) (fun t k => X0.baloadBytes hx (j := (2 : Int32)) (v := (.int w2)) (by rw [e0]; exact Ar8.1) (State.isArrayOf_alike hZ.alike Ar8.2.1) Ar8.2.2 hin8 hat8 (g := (mkF m 25 #[rv r0, iv (2 : Int32)] [(.int (2 : Int32)), (.ref r0)])) rfl rfl (hb hby d1_25) t (XS.bipush X0.here hx rfl (hb hby d1_26) k)) ?_
      by_cases hc28_9 : w2 = (41 : Int32)
      · refine own_step (U' := s₁.setTop (mkF m 44 #[rv r0, iv (2 : Int32)] [(.ref r0), (.int (2 : Int32))])) (fun t k => XS.icmpYes X0.here hx rfl (pc0 := 28) (pc' := 37) rfl (hb hby d1_28) rfl (teq hc28_9).1 (by decide) (by decide) (XS.iloadN X0.here hx rfl (hb hby d1_37) rfl (XS.iconst X0.here hx rfl (hb hby d1_38) (XS.icmpNo X0.here hx rfl (hb hby d1_39) rfl (by decide) (XS.iloadN X0.here hx rfl (hb hby d1_42) rfl (XS.aloadN X0.here hx rfl (hb hby d1_43) rfl rfl k)))))) ?_
        obtain ⟨cl10, Ar10, aq10, aS10, aN10, aH10, aG10⟩ := id V_r0
        have hl10 := len_of aS10 aN10
        refine own_step (U' := s₁.setTop (mkF m 53 #[rv r0, iv (2 : Int32)] [(.int (2 : Int32))])) (fun t k => X0.arraylength hx (by rw [e0]; exact Ar10.1) (State.isArrayOf_alike hZ.alike Ar10.2.1) (g := (mkF m 44 #[rv r0, iv (2 : Int32)] [(.ref r0), (.int (2 : Int32))])) rfl rfl (hb hby d1_44) t (by rw [hl10]; exact (XS.icmpNo X0.here hx rfl (hb hby d1_45) rfl (by decide) (XS.iloadN X0.here hx rfl (hb hby d1_48) rfl (XS.goto X0.here hx rfl (pc0 := 49) (pc' := 53) rfl (hb hby d1_49) (by decide) (by decide) k))))) ?_
        exact own_out X0 (v := (some (.int (2 : Int32)))) hlk (own_nv Bd.returns) (by rw [e0]; exact ⟨by rw [show (F1k5 w0 w1 w2 w3 w4) = (2 : Int32) from (by simp only [F1k5, if_pos hc10_3, if_neg hc28_6, if_pos hc28_9])], N0, rfl⟩) (by decide) (by decide) (fun fs hr => retI X0 hx Bd.returns (hb hby d1_53) hr)
      · refine own_step (U' := s₁.setTop (mkF m 19 #[rv r0, iv (3 : Int32)] [(.ref r0), (.int (3 : Int32))])) (fun t k => XS.icmpNo X0.here hx rfl (hb hby d1_28) rfl (feq hc28_9).1 (XS.iinc X0.here hx rfl (hb hby d1_31) rfl (l' := #[rv r0, iv (3 : Int32)]) rfl (XS.goto X0.here hx rfl (pc0 := 34) (pc' := 17) rfl (hb hby d1_34) (by decide) (by decide) (XS.iloadN X0.here hx rfl (hb hby d1_17) rfl (XS.aloadN X0.here hx rfl (hb hby d1_18) rfl rfl k))))) ?_
        obtain ⟨cl11, Ar11, aq11, aS11, aN11, aH11, aG11⟩ := id V_r0
        have hl11 := len_of aS11 aN11
        refine own_step (U' := s₁.setTop (mkF m 25 #[rv r0, iv (3 : Int32)] [(.int (3 : Int32)), (.ref r0)])) (fun t k => X0.arraylength hx (by rw [e0]; exact Ar11.1) (State.isArrayOf_alike hZ.alike Ar11.2.1) (g := (mkF m 19 #[rv r0, iv (3 : Int32)] [(.ref r0), (.int (3 : Int32))])) rfl rfl (hb hby d1_19) t (by rw [hl11]; exact (XS.icmpNo X0.here hx rfl (hb hby d1_20) rfl (by decide) (XS.aloadN X0.here hx rfl (hb hby d1_23) rfl rfl (XS.iloadN X0.here hx rfl (hb hby d1_24) rfl k))))) ?_
        obtain ⟨cl12, Ar12, aq12, aS12, aN12, aH12, aG12⟩ := id V_r0
        have hin12 : ¬ ((3 : Int32) < 0 ∨ cl12.slots.size ≤ ((3 : Int32)).toNatClampNeg) := inb_of aS12 ⟨by decide, by decide⟩
        have hat12 : cl12.slots[((3 : Int32)).toNatClampNeg]? = some (.int w3) := aH12.at hin12 rfl
        refine own_step (U' := s₁.setTop (mkF m 28 #[rv r0, iv (3 : Int32)] [(.int (41 : Int32)), (.int w3)])) (fun t k => X0.baloadBytes hx (j := (3 : Int32)) (v := (.int w3)) (by rw [e0]; exact Ar12.1) (State.isArrayOf_alike hZ.alike Ar12.2.1) Ar12.2.2 hin12 hat12 (g := (mkF m 25 #[rv r0, iv (3 : Int32)] [(.int (3 : Int32)), (.ref r0)])) rfl rfl (hb hby d1_25) t (XS.bipush X0.here hx rfl (hb hby d1_26) k)) ?_
        by_cases hc28_13 : w3 = (41 : Int32)
        · refine own_step (U' := s₁.setTop (mkF m 44 #[rv r0, iv (3 : Int32)] [(.ref r0), (.int (3 : Int32))])) (fun t k => XS.icmpYes X0.here hx rfl (pc0 := 28) (pc' := 37) rfl (hb hby d1_28) rfl (teq hc28_13).1 (by decide) (by decide) (XS.iloadN X0.here hx rfl (hb hby d1_37) rfl (XS.iconst X0.here hx rfl (hb hby d1_38) (XS.icmpNo X0.here hx rfl (hb hby d1_39) rfl (by decide) (XS.iloadN X0.here hx rfl (hb hby d1_42) rfl (XS.aloadN X0.here hx rfl (hb hby d1_43) rfl rfl k)))))) ?_
          obtain ⟨cl14, Ar14, aq14, aS14, aN14, aH14, aG14⟩ := id V_r0
          have hl14 := len_of aS14 aN14
          refine own_step (U' := s₁.setTop (mkF m 53 #[rv r0, iv (3 : Int32)] [(.int (3 : Int32))])) (fun t k => X0.arraylength hx (by rw [e0]; exact Ar14.1) (State.isArrayOf_alike hZ.alike Ar14.2.1) (g := (mkF m 44 #[rv r0, iv (3 : Int32)] [(.ref r0), (.int (3 : Int32))])) rfl rfl (hb hby d1_44) t (by rw [hl14]; exact (XS.icmpNo X0.here hx rfl (hb hby d1_45) rfl (by decide) (XS.iloadN X0.here hx rfl (hb hby d1_48) rfl (XS.goto X0.here hx rfl (pc0 := 49) (pc' := 53) rfl (hb hby d1_49) (by decide) (by decide) k))))) ?_
          exact own_out X0 (v := (some (.int (3 : Int32)))) hlk (own_nv Bd.returns) (by rw [e0]; exact ⟨by rw [show (F1k5 w0 w1 w2 w3 w4) = (3 : Int32) from (by simp only [F1k5, if_pos hc10_3, if_neg hc28_6, if_neg hc28_9, if_pos hc28_13])], N0, rfl⟩) (by decide) (by decide) (fun fs hr => retI X0 hx Bd.returns (hb hby d1_53) hr)
        · refine own_step (U' := s₁.setTop (mkF m 19 #[rv r0, iv (4 : Int32)] [(.ref r0), (.int (4 : Int32))])) (fun t k => XS.icmpNo X0.here hx rfl (hb hby d1_28) rfl (feq hc28_13).1 (XS.iinc X0.here hx rfl (hb hby d1_31) rfl (l' := #[rv r0, iv (4 : Int32)]) rfl (XS.goto X0.here hx rfl (pc0 := 34) (pc' := 17) rfl (hb hby d1_34) (by decide) (by decide) (XS.iloadN X0.here hx rfl (hb hby d1_17) rfl (XS.aloadN X0.here hx rfl (hb hby d1_18) rfl rfl k))))) ?_
          obtain ⟨cl15, Ar15, aq15, aS15, aN15, aH15, aG15⟩ := id V_r0
          have hl15 := len_of aS15 aN15
          refine own_step (U' := s₁.setTop (mkF m 25 #[rv r0, iv (4 : Int32)] [(.int (4 : Int32)), (.ref r0)])) (fun t k => X0.arraylength hx (by rw [e0]; exact Ar15.1) (State.isArrayOf_alike hZ.alike Ar15.2.1) (g := (mkF m 19 #[rv r0, iv (4 : Int32)] [(.ref r0), (.int (4 : Int32))])) rfl rfl (hb hby d1_19) t (by rw [hl15]; exact (XS.icmpNo X0.here hx rfl (hb hby d1_20) rfl (by decide) (XS.aloadN X0.here hx rfl (hb hby d1_23) rfl rfl (XS.iloadN X0.here hx rfl (hb hby d1_24) rfl k))))) ?_
          obtain ⟨cl16, Ar16, aq16, aS16, aN16, aH16, aG16⟩ := id V_r0
          have hin16 : ¬ ((4 : Int32) < 0 ∨ cl16.slots.size ≤ ((4 : Int32)).toNatClampNeg) := inb_of aS16 ⟨by decide, by decide⟩
          have hat16 : cl16.slots[((4 : Int32)).toNatClampNeg]? = some (.int w4) := aH16.at hin16 rfl
          refine own_step (U' := s₁.setTop (mkF m 28 #[rv r0, iv (4 : Int32)] [(.int (41 : Int32)), (.int w4)])) (fun t k => X0.baloadBytes hx (j := (4 : Int32)) (v := (.int w4)) (by rw [e0]; exact Ar16.1) (State.isArrayOf_alike hZ.alike Ar16.2.1) Ar16.2.2 hin16 hat16 (g := (mkF m 25 #[rv r0, iv (4 : Int32)] [(.int (4 : Int32)), (.ref r0)])) rfl rfl (hb hby d1_25) t (XS.bipush X0.here hx rfl (hb hby d1_26) k)) ?_
          by_cases hc28_17 : w4 = (41 : Int32)
          · refine own_step (U' := s₁.setTop (mkF m 44 #[rv r0, iv (4 : Int32)] [(.ref r0), (.int (4 : Int32))])) (fun t k => XS.icmpYes X0.here hx rfl (pc0 := 28) (pc' := 37) rfl (hb hby d1_28) rfl (teq hc28_17).1 (by decide) (by decide) (XS.iloadN X0.here hx rfl (hb hby d1_37) rfl (XS.iconst X0.here hx rfl (hb hby d1_38) (XS.icmpNo X0.here hx rfl (hb hby d1_39) rfl (by decide) (XS.iloadN X0.here hx rfl (hb hby d1_42) rfl (XS.aloadN X0.here hx rfl (hb hby d1_43) rfl rfl k)))))) ?_
            obtain ⟨cl18, Ar18, aq18, aS18, aN18, aH18, aG18⟩ := id V_r0
            have hl18 := len_of aS18 aN18
            refine own_step (U' := s₁.setTop (mkF m 53 #[rv r0, iv (4 : Int32)] [(.int (4 : Int32))])) (fun t k => X0.arraylength hx (by rw [e0]; exact Ar18.1) (State.isArrayOf_alike hZ.alike Ar18.2.1) (g := (mkF m 44 #[rv r0, iv (4 : Int32)] [(.ref r0), (.int (4 : Int32))])) rfl rfl (hb hby d1_44) t (by rw [hl18]; exact (XS.icmpNo X0.here hx rfl (hb hby d1_45) rfl (by decide) (XS.iloadN X0.here hx rfl (hb hby d1_48) rfl (XS.goto X0.here hx rfl (pc0 := 49) (pc' := 53) rfl (hb hby d1_49) (by decide) (by decide) k))))) ?_
            exact own_out X0 (v := (some (.int (4 : Int32)))) hlk (own_nv Bd.returns) (by rw [e0]; exact ⟨by rw [show (F1k5 w0 w1 w2 w3 w4) = (4 : Int32) from (by simp only [F1k5, if_pos hc10_3, if_neg hc28_6, if_neg hc28_9, if_neg hc28_13, if_pos hc28_17])], N0, rfl⟩) (by decide) (by decide) (fun fs hr => retI X0 hx Bd.returns (hb hby d1_53) hr)
          · refine own_step (U' := s₁.setTop (mkF m 19 #[rv r0, iv (5 : Int32)] [(.ref r0), (.int (5 : Int32))])) (fun t k => XS.icmpNo X0.here hx rfl (hb hby d1_28) rfl (feq hc28_17).1 (XS.iinc X0.here hx rfl (hb hby d1_31) rfl (l' := #[rv r0, iv (5 : Int32)]) rfl (XS.goto X0.here hx rfl (pc0 := 34) (pc' := 17) rfl (hb hby d1_34) (by decide) (by decide) (XS.iloadN X0.here hx rfl (hb hby d1_17) rfl (XS.aloadN X0.here hx rfl (hb hby d1_18) rfl rfl k))))) ?_
            obtain ⟨cl19, Ar19, aq19, aS19, aN19, aH19, aG19⟩ := id V_r0
            have hl19 := len_of aS19 aN19
            refine own_step (U' := s₁.setTop (mkF m 44 #[rv r0, iv (5 : Int32)] [(.ref r0), (.int (5 : Int32))])) (fun t k => X0.arraylength hx (by rw [e0]; exact Ar19.1) (State.isArrayOf_alike hZ.alike Ar19.2.1) (g := (mkF m 19 #[rv r0, iv (5 : Int32)] [(.ref r0), (.int (5 : Int32))])) rfl rfl (hb hby d1_19) t (by rw [hl19]; exact (XS.icmpYes X0.here hx rfl (pc0 := 20) (pc' := 37) rfl (hb hby d1_20) rfl (by decide) (by decide) (by decide) (XS.iloadN X0.here hx rfl (hb hby d1_37) rfl (XS.iconst X0.here hx rfl (hb hby d1_38) (XS.icmpNo X0.here hx rfl (hb hby d1_39) rfl (by decide) (XS.iloadN X0.here hx rfl (hb hby d1_42) rfl (XS.aloadN X0.here hx rfl (hb hby d1_43) rfl rfl k)))))))) ?_
            obtain ⟨cl20, Ar20, aq20, aS20, aN20, aH20, aG20⟩ := id V_r0
            have hl20 := len_of aS20 aN20
            refine own_step (U' := s₁.setTop (mkF m 53 #[rv r0, iv (5 : Int32)] [(.int (-1 : Int32))])) (fun t k => X0.arraylength hx (by rw [e0]; exact Ar20.1) (State.isArrayOf_alike hZ.alike Ar20.2.1) (g := (mkF m 44 #[rv r0, iv (5 : Int32)] [(.ref r0), (.int (5 : Int32))])) rfl rfl (hb hby d1_44) t (by rw [hl20]; exact (XS.icmpYes X0.here hx rfl (pc0 := 45) (pc' := 52) rfl (hb hby d1_45) rfl (by decide) (by decide) (by decide) (XS.iconst X0.here hx rfl (hb hby d1_52) k)))) ?_
            exact own_out X0 (v := (some (.int (-1 : Int32)))) hlk (own_nv Bd.returns) (by rw [e0]; exact ⟨by rw [show (F1k5 w0 w1 w2 w3 w4) = (-1 : Int32) from (by simp only [F1k5, if_pos hc10_3, if_neg hc28_6, if_neg hc28_9, if_neg hc28_13, if_neg hc28_17])], N0, rfl⟩) (by decide) (by decide) (fun fs hr => retI X0 hx Bd.returns (hb hby d1_53) hr)
  · refine own_step (U' := s₁.setTop (mkF m 14 #[rv r0, .unset] [(.int (-1 : Int32))])) (fun t k => XS.icmpNo X0.here hx rfl (hb hby d1_10) rfl (feq hc10_3).1 (XS.iconst X0.here hx rfl (hb hby d1_13) k)) ?_
    exact own_out X0 (v := (some (.int (-1 : Int32)))) hlk (own_nv Bd.returns) (by rw [e0]; exact ⟨by rw [show (F1k5 w0 w1 w2 w3 w4) = (-1 : Int32) from (by simp only [F1k5, if_neg hc10_3])], N0, rfl⟩) (by decide) (by decide) (fun fs hr => retI X0 hx Bd.returns (hb hby d1_14) hr)
theorem ef_1k4 (m : MethodId) (r0 : Addr) : entryFrame m #[(.ref r0)] 2 = mkF m 0 #[rv r0, .unset] [] := by first | (simp [entryFrame, mkF, argsToLocals, Value.category]; done) | rfl
def F1k4 (w0 : Int32) (w1 : Int32) (w2 : Int32) (w3 : Int32) : Int32 :=
  if w0 = (40 : Int32) then
    if w1 = (41 : Int32) then
      (-1 : Int32)
    else
      if w2 = (41 : Int32) then
        (2 : Int32)
      else
        if w3 = (41 : Int32) then
          (3 : Int32)
        else
          (-1 : Int32)
  else
    (-1 : Int32)
def Q1k4 (Z : State) (r0 : Addr) (w0 : Int32) (w1 : Int32) (w2 : Int32) (w3 : Int32) (k_r0 : ClassId) (h0 : Heap) (n0 : Nat) (v : Option Value) (h : Heap) (L : List Loc) : Prop := v = some (.int (F1k4 w0 w1 w2 w3)) ∧ Fr n0 L ∧ h = h0
set_option maxRecDepth 65536 in
set_option maxHeartbeats 40000000 in
theorem rm1k4 (l : Launch) (Z : State) (a0 : Array Value) (hw : ∀ d ∈ tables_1, d.before a0 Z = true) (ws : List Jvm.Cond) (r0 : Addr) (w0 : Int32) (w1 : Int32) (w2 : Int32) (w3 : Int32) (k_r0 : ClassId) (h0 : Heap) (n0 : Nat) (Z0 : n0 ≤ h0.size) (V_r0 : Arv Z h0 r0 k_r0 .byte (4 : Int32) [(.int w0), (.int w1), (.int w2), (.int w3)] (.int (0 : Int32))) :
    MetFree l (⟨"com/example/tallyfield/tallyfield/control/ControlNumbers", "codeEnd", "([B)I"⟩ : MethodName) (head1 (Jvm.Cond.code (⟨"com/example/tallyfield/tallyfield/control/ControlNumbers", "codeEnd", "([B)I"⟩ : MethodName) prog_8_method_6_code 2 (some .int) :: ws) ({ frames := 0, cells := 0, slots := 0, locals := 0 } : Room)) (fun a U => a = #[(.ref r0)] ∧ Z.Warmed39 U.vm ∧ U.heap = h0) (fun _ _ _ _ _ => True) (fun _ U o U' => ∃ v L, o = .returned v ∧ Q1k4 Z r0 w0 w1 w2 w3 k_r0 h0 n0 v U'.heap L ∧ FrameEnd U o U' L ({ frames := 0, cells := 0, slots := 0, locals := 0 } : Room).cells ({ frames := 0, cells := 0, slots := 0, locals := 0 } : Room).slots) := by
  refine MetFree.of_bodySF (plainFor_of_name pn_1) hisR ?_
  intro p e s m args below meth c s₁ Bd hml0 hP hK
  obtain ⟨rfl, hZ, hh⟩ := hP
  have hx := Bd.exec
  have hby := Bd.bytes
  have hml : c.maxLocals = 2 := hml0
  have hown : s.vm.findClass "com/example/tallyfield/tallyfield/control/ControlNumbers" = some m.cls := findClass_of_methodNamed Bd.named
  have hnm := (name_of_methodNamed Bd.named Bd.method).1
  have hlk : meth.locks = false := Bd.notSynchronized
  have X0 : Stand p l e ({ frames := 0, cells := 0, slots := 0, locals := 0 } : Room) s m #[(.ref r0)] below meth c s₁ [] 0 0 := Stand.of_body Bd
  have e0 : s₁.heap = h0 := by rw [← hh, Bd.state]; rfl
  have N0 := Fr.nil n0
  have KK0 := Keep.refl h0 []
  show own_Go p.tables e below s 0 0 (Q1k4 Z r0 w0 w1 w2 w3 k_r0 h0 n0) (s₁.setTop (entryFrame m #[(.ref r0)] 2))
  rw [ef_1k4]
  refine own_step (U' := s₁.setTop (mkF m 1 #[rv r0, .unset] [(.ref r0)])) (fun t k => XS.aloadN X0.here hx rfl (hb hby d1_0) rfl rfl k) ?_
  obtain ⟨cl1, Ar1, aq1, aS1, aN1, aH1, aG1⟩ := id V_r0
  have hl1 := len_of aS1 aN1
  refine own_step (U' := s₁.setTop (mkF m 7 #[rv r0, .unset] [(.int (0 : Int32)), (.ref r0)])) (fun t k => X0.arraylength hx (by rw [e0]; exact Ar1.1) (State.isArrayOf_alike hZ.alike Ar1.2.1) (g := (mkF m 1 #[rv r0, .unset] [(.ref r0)])) rfl rfl (hb hby d1_1) t (by rw [hl1]; exact (XS.ifNo X0.here hx rfl (hb hby d1_2) rfl (by decide) (XS.aloadN X0.here hx rfl (hb hby d1_5) rfl rfl (XS.iconst X0.here hx rfl (hb hby d1_6) k))))) ?_
  obtain ⟨cl2, Ar2, aq2, aS2, aN2, aH2, aG2⟩ := id V_r0
  have hin2 : ¬ ((0 : Int32) < 0 ∨ cl2.slots.size ≤ ((0 : Int32)).toNatClampNeg) := inb_of aS2 ⟨by decide, by decide⟩
  have hat2 : cl2.slots[((0 : Int32)).toNatClampNeg]? = some (.int w0) := aH2.at hin2 rfl
  refine own_step (U' := s₁.setTop (mkF m 10 #[rv r0, .unset] [(.int (40 : Int32)), (.int w0)])) (fun t k => X0.baloadBytes hx (j := (0 : Int32)) (v := (.int w0)) (by rw [e0]; exact Ar2.1) (State.isArrayOf_alike hZ.alike Ar2.2.1) Ar2.2.2 hin2 hat2 (g := (mkF m 7 #[rv r0, .unset] [(.int (0 : Int32)), (.ref r0)])) rfl rfl (hb hby d1_7) t (XS.bipush X0.here hx rfl (hb hby d1_8) k)) ?_
  by_cases hc10_3 : w0 = (40 : Int32)
  · refine own_step (U' := s₁.setTop (mkF m 19 #[rv r0, iv (1 : Int32)] [(.ref r0), (.int (1 : Int32))])) (fun t k => XS.icmpYes X0.here hx rfl (pc0 := 10) (pc' := 15) rfl (hb hby d1_10) rfl (teq hc10_3).1 (by decide) (by decide) (XS.iconst X0.here hx rfl (hb hby d1_15) (XS.istoreN X0.here hx rfl (hb hby d1_16) rfl (l' := #[rv r0, iv (1 : Int32)]) rfl (XS.iloadN X0.here hx rfl (hb hby d1_17) rfl (XS.aloadN X0.here hx rfl (hb hby d1_18) rfl rfl k))))) ?_
    obtain ⟨cl4, Ar4, aq4, aS4, aN4, aH4, aG4⟩ := id V_r0
    have hl4 := len_of aS4 aN4
    refine own_step (U' := s₁.setTop (mkF m 25 #[rv r0, iv (1 : Int32)] [(.int (1 : Int32)), (.ref r0)])) (fun t k => X0.arraylength hx (by rw [e0]; exact Ar4.1) (State.isArrayOf_alike hZ.alike Ar4.2.1) (g := (mkF m 19 #[rv r0, iv (1 : Int32)] [(.ref r0), (.int (1 : Int32))])) rfl rfl (hb hby d1_19) t (by rw [hl4]; exact (XS.icmpNo X0.here hx rfl (hb hby d1_20) rfl (by decide) (XS.aloadN X0.here hx rfl (hb hby d1_23) rfl rfl (XS.iloadN X0.here hx rfl (hb hby d1_24) rfl k))))) ?_
    obtain ⟨cl5, Ar5, aq5, aS5, aN5, aH5, aG5⟩ := id V_r0
    have hin5 : ¬ ((1 : Int32) < 0 ∨ cl5.slots.size ≤ ((1 : Int32)).toNatClampNeg) := inb_of aS5 ⟨by decide, by decide⟩
    have hat5 : cl5.slots[((1 : Int32)).toNatClampNeg]? = some (.int w1) := aH5.at hin5 rfl
    refine own_step (U' := s₁.setTop (mkF m 28 #[rv r0, iv (1 : Int32)] [(.int (41 : Int32)), (.int w1)])) (fun t k => X0.baloadBytes hx (j := (1 : Int32)) (v := (.int w1)) (by rw [e0]; exact Ar5.1) (State.isArrayOf_alike hZ.alike Ar5.2.1) Ar5.2.2 hin5 hat5 (g := (mkF m 25 #[rv r0, iv (1 : Int32)] [(.int (1 : Int32)), (.ref r0)])) rfl rfl (hb hby d1_25) t (XS.bipush X0.here hx rfl (hb hby d1_26) k)) ?_
    by_cases hc28_6 : w1 = (41 : Int32)
    · refine own_step (U' := s₁.setTop (mkF m 53 #[rv r0, iv (1 : Int32)] [(.int (-1 : Int32))])) (fun t k => XS.icmpYes X0.here hx rfl (pc0 := 28) (pc' := 37) rfl (hb hby d1_28) rfl (teq hc28_6).1 (by decide) (by decide) (XS.iloadN X0.here hx rfl (hb hby d1_37) rfl (XS.iconst X0.here hx rfl (hb hby d1_38) (XS.icmpYes X0.here hx rfl (pc0 := 39) (pc' := 52) rfl (hb hby d1_39) rfl (by decide) (by decide) (by decide) (XS.iconst X0.here hx rfl (hb hby d1_52) k))))) ?_
      exact own_out X0 (v := (some (.int (-1 : Int32)))) hlk (own_nv Bd.returns) (by rw [e0]; exact ⟨by rw [show (F1k4 w0 w1 w2 w3) = (-1 : Int32) from (by simp only [F1k4, if_pos hc10_3, if_pos hc28_6])], N0, rfl⟩) (by decide) (by decide) (fun fs hr => retI X0 hx Bd.returns (hb hby d1_53) hr)
    · refine own_step (U' := s₁.setTop (mkF m 19 #[rv r0, iv (2 : Int32)] [(.ref r0), (.int (2 : Int32))])) (fun t k => XS.icmpNo X0.here hx rfl (hb hby d1_28) rfl (feq hc28_6).1 (XS.iinc X0.here hx rfl (hb hby d1_31) rfl (l' := #[rv r0, iv (2 : Int32)]) rfl (XS.goto X0.here hx rfl (pc0 := 34) (pc' := 17) rfl (hb hby d1_34) (by decide) (by decide) (XS.iloadN X0.here hx rfl (hb hby d1_17) rfl (XS.aloadN X0.here hx rfl (hb hby d1_18) rfl rfl k))))) ?_
      obtain ⟨cl7, Ar7, aq7, aS7, aN7, aH7, aG7⟩ := id V_r0
      have hl7 := len_of aS7 aN7
      refine own_step (U' := s₁.setTop (mkF m 25 #[rv r0, iv (2 : Int32)] [(.int (2 : Int32)), (.ref r0)])) (fun t k => X0.arraylength hx (by rw [e0]; exact Ar7.1) (State.isArrayOf_alike hZ.alike Ar7.2.1) (g := (mkF m 19 #[rv r0, iv (2 : Int32)] [(.ref r0), (.int (2 : Int32))])) rfl rfl (hb hby d1_19) t (by rw [hl7]; exact (XS.icmpNo X0.here hx rfl (hb hby d1_20) rfl (by decide) (XS.aloadN X0.here hx rfl (hb hby d1_23) rfl rfl (XS.iloadN X0.here hx rfl (hb hby d1_24) rfl k))))) ?_
      obtain ⟨cl8, Ar8, aq8, aS8, aN8, aH8, aG8⟩ := id V_r0
      have hin8 : ¬ ((2 : Int32) < 0 ∨ cl8.slots.size ≤ ((2 : Int32)).toNatClampNeg) := inb_of aS8 ⟨by decide, by decide⟩
      have hat8 : cl8.slots[((2 : Int32)).toNatClampNeg]? = some (.int w2) := aH8.at hin8 rfl
      refine own_step (U' := s₁.setTop (mkF m 28 #[rv r0, iv (2 : Int32)] [(.int (41 : Int32)), (.int w2)])) (fun t k => X0.baloadBytes hx (j := (2 : Int32)) (v := (.int w2)) (by rw [e0]; exact Ar8.1) (State.isArrayOf_alike hZ.alike Ar8.2.1) Ar8.2.2 hin8 hat8 (g := (mkF m 25 #[rv r0, iv (2 : Int32)] [(.int (2 : Int32)), (.ref r0)])) rfl rfl (hb hby d1_25) t (XS.bipush X0.here hx rfl (hb hby d1_26) k)) ?_
      by_cases hc28_9 : w2 = (41 : Int32)
      · refine own_step (U' := s₁.setTop (mkF m 44 #[rv r0, iv (2 : Int32)] [(.ref r0), (.int (2 : Int32))])) (fun t k => XS.icmpYes X0.here hx rfl (pc0 := 28) (pc' := 37) rfl (hb hby d1_28) rfl (teq hc28_9).1 (by decide) (by decide) (XS.iloadN X0.here hx rfl (hb hby d1_37) rfl (XS.iconst X0.here hx rfl (hb hby d1_38) (XS.icmpNo X0.here hx rfl (hb hby d1_39) rfl (by decide) (XS.iloadN X0.here hx rfl (hb hby d1_42) rfl (XS.aloadN X0.here hx rfl (hb hby d1_43) rfl rfl k)))))) ?_
        obtain ⟨cl10, Ar10, aq10, aS10, aN10, aH10, aG10⟩ := id V_r0
        have hl10 := len_of aS10 aN10
        refine own_step (U' := s₁.setTop (mkF m 53 #[rv r0, iv (2 : Int32)] [(.int (2 : Int32))])) (fun t k => X0.arraylength hx (by rw [e0]; exact Ar10.1) (State.isArrayOf_alike hZ.alike Ar10.2.1) (g := (mkF m 44 #[rv r0, iv (2 : Int32)] [(.ref r0), (.int (2 : Int32))])) rfl rfl (hb hby d1_44) t (by rw [hl10]; exact (XS.icmpNo X0.here hx rfl (hb hby d1_45) rfl (by decide) (XS.iloadN X0.here hx rfl (hb hby d1_48) rfl (XS.goto X0.here hx rfl (pc0 := 49) (pc' := 53) rfl (hb hby d1_49) (by decide) (by decide) k))))) ?_
        exact own_out X0 (v := (some (.int (2 : Int32)))) hlk (own_nv Bd.returns) (by rw [e0]; exact ⟨by rw [show (F1k4 w0 w1 w2 w3) = (2 : Int32) from (by simp only [F1k4, if_pos hc10_3, if_neg hc28_6, if_pos hc28_9])], N0, rfl⟩) (by decide) (by decide) (fun fs hr => retI X0 hx Bd.returns (hb hby d1_53) hr)
      · refine own_step (U' := s₁.setTop (mkF m 19 #[rv r0, iv (3 : Int32)] [(.ref r0), (.int (3 : Int32))])) (fun t k => XS.icmpNo X0.here hx rfl (hb hby d1_28) rfl (feq hc28_9).1 (XS.iinc X0.here hx rfl (hb hby d1_31) rfl (l' := #[rv r0, iv (3 : Int32)]) rfl (XS.goto X0.here hx rfl (pc0 := 34) (pc' := 17) rfl (hb hby d1_34) (by decide) (by decide) (XS.iloadN X0.here hx rfl (hb hby d1_17) rfl (XS.aloadN X0.here hx rfl (hb hby d1_18) rfl rfl k))))) ?_
        obtain ⟨cl11, Ar11, aq11, aS11, aN11, aH11, aG11⟩ := id V_r0
        have hl11 := len_of aS11 aN11
        refine own_step (U' := s₁.setTop (mkF m 25 #[rv r0, iv (3 : Int32)] [(.int (3 : Int32)), (.ref r0)])) (fun t k => X0.arraylength hx (by rw [e0]; exact Ar11.1) (State.isArrayOf_alike hZ.alike Ar11.2.1) (g := (mkF m 19 #[rv r0, iv (3 : Int32)] [(.ref r0), (.int (3 : Int32))])) rfl rfl (hb hby d1_19) t (by rw [hl11]; exact (XS.icmpNo X0.here hx rfl (hb hby d1_20) rfl (by decide) (XS.aloadN X0.here hx rfl (hb hby d1_23) rfl rfl (XS.iloadN X0.here hx rfl (hb hby d1_24) rfl k))))) ?_
        obtain ⟨cl12, Ar12, aq12, aS12, aN12, aH12, aG12⟩ := id V_r0
        have hin12 : ¬ ((3 : Int32) < 0 ∨ cl12.slots.size ≤ ((3 : Int32)).toNatClampNeg) := inb_of aS12 ⟨by decide, by decide⟩
        have hat12 : cl12.slots[((3 : Int32)).toNatClampNeg]? = some (.int w3) := aH12.at hin12 rfl
        refine own_step (U' := s₁.setTop (mkF m 28 #[rv r0, iv (3 : Int32)] [(.int (41 : Int32)), (.int w3)])) (fun t k => X0.baloadBytes hx (j := (3 : Int32)) (v := (.int w3)) (by rw [e0]; exact Ar12.1) (State.isArrayOf_alike hZ.alike Ar12.2.1) Ar12.2.2 hin12 hat12 (g := (mkF m 25 #[rv r0, iv (3 : Int32)] [(.int (3 : Int32)), (.ref r0)])) rfl rfl (hb hby d1_25) t (XS.bipush X0.here hx rfl (hb hby d1_26) k)) ?_
        by_cases hc28_13 : w3 = (41 : Int32)
        · refine own_step (U' := s₁.setTop (mkF m 44 #[rv r0, iv (3 : Int32)] [(.ref r0), (.int (3 : Int32))])) (fun t k => XS.icmpYes X0.here hx rfl (pc0 := 28) (pc' := 37) rfl (hb hby d1_28) rfl (teq hc28_13).1 (by decide) (by decide) (XS.iloadN X0.here hx rfl (hb hby d1_37) rfl (XS.iconst X0.here hx rfl (hb hby d1_38) (XS.icmpNo X0.here hx rfl (hb hby d1_39) rfl (by decide) (XS.iloadN X0.here hx rfl (hb hby d1_42) rfl (XS.aloadN X0.here hx rfl (hb hby d1_43) rfl rfl k)))))) ?_
          obtain ⟨cl14, Ar14, aq14, aS14, aN14, aH14, aG14⟩ := id V_r0
          have hl14 := len_of aS14 aN14
          refine own_step (U' := s₁.setTop (mkF m 53 #[rv r0, iv (3 : Int32)] [(.int (3 : Int32))])) (fun t k => X0.arraylength hx (by rw [e0]; exact Ar14.1) (State.isArrayOf_alike hZ.alike Ar14.2.1) (g := (mkF m 44 #[rv r0, iv (3 : Int32)] [(.ref r0), (.int (3 : Int32))])) rfl rfl (hb hby d1_44) t (by rw [hl14]; exact (XS.icmpNo X0.here hx rfl (hb hby d1_45) rfl (by decide) (XS.iloadN X0.here hx rfl (hb hby d1_48) rfl (XS.goto X0.here hx rfl (pc0 := 49) (pc' := 53) rfl (hb hby d1_49) (by decide) (by decide) k))))) ?_
          exact own_out X0 (v := (some (.int (3 : Int32)))) hlk (own_nv Bd.returns) (by rw [e0]; exact ⟨by rw [show (F1k4 w0 w1 w2 w3) = (3 : Int32) from (by simp only [F1k4, if_pos hc10_3, if_neg hc28_6, if_neg hc28_9, if_pos hc28_13])], N0, rfl⟩) (by decide) (by decide) (fun fs hr => retI X0 hx Bd.returns (hb hby d1_53) hr)
        · refine own_step (U' := s₁.setTop (mkF m 19 #[rv r0, iv (4 : Int32)] [(.ref r0), (.int (4 : Int32))])) (fun t k => XS.icmpNo X0.here hx rfl (hb hby d1_28) rfl (feq hc28_13).1 (XS.iinc X0.here hx rfl (hb hby d1_31) rfl (l' := #[rv r0, iv (4 : Int32)]) rfl (XS.goto X0.here hx rfl (pc0 := 34) (pc' := 17) rfl (hb hby d1_34) (by decide) (by decide) (XS.iloadN X0.here hx rfl (hb hby d1_17) rfl (XS.aloadN X0.here hx rfl (hb hby d1_18) rfl rfl k))))) ?_
          obtain ⟨cl15, Ar15, aq15, aS15, aN15, aH15, aG15⟩ := id V_r0
          have hl15 := len_of aS15 aN15
          refine own_step (U' := s₁.setTop (mkF m 44 #[rv r0, iv (4 : Int32)] [(.ref r0), (.int (4 : Int32))])) (fun t k => X0.arraylength hx (by rw [e0]; exact Ar15.1) (State.isArrayOf_alike hZ.alike Ar15.2.1) (g := (mkF m 19 #[rv r0, iv (4 : Int32)] [(.ref r0), (.int (4 : Int32))])) rfl rfl (hb hby d1_19) t (by rw [hl15]; exact (XS.icmpYes X0.here hx rfl (pc0 := 20) (pc' := 37) rfl (hb hby d1_20) rfl (by decide) (by decide) (by decide) (XS.iloadN X0.here hx rfl (hb hby d1_37) rfl (XS.iconst X0.here hx rfl (hb hby d1_38) (XS.icmpNo X0.here hx rfl (hb hby d1_39) rfl (by decide) (XS.iloadN X0.here hx rfl (hb hby d1_42) rfl (XS.aloadN X0.here hx rfl (hb hby d1_43) rfl rfl k)))))))) ?_
          obtain ⟨cl16, Ar16, aq16, aS16, aN16, aH16, aG16⟩ := id V_r0
          have hl16 := len_of aS16 aN16
          refine own_step (U' := s₁.setTop (mkF m 53 #[rv r0, iv (4 : Int32)] [(.int (-1 : Int32))])) (fun t k => X0.arraylength hx (by rw [e0]; exact Ar16.1) (State.isArrayOf_alike hZ.alike Ar16.2.1) (g := (mkF m 44 #[rv r0, iv (4 : Int32)] [(.ref r0), (.int (4 : Int32))])) rfl rfl (hb hby d1_44) t (by rw [hl16]; exact (XS.icmpYes X0.here hx rfl (pc0 := 45) (pc' := 52) rfl (hb hby d1_45) rfl (by decide) (by decide) (by decide) (XS.iconst X0.here hx rfl (hb hby d1_52) k)))) ?_
          exact own_out X0 (v := (some (.int (-1 : Int32)))) hlk (own_nv Bd.returns) (by rw [e0]; exact ⟨by rw [show (F1k4 w0 w1 w2 w3) = (-1 : Int32) from (by simp only [F1k4, if_pos hc10_3, if_neg hc28_6, if_neg hc28_9, if_neg hc28_13])], N0, rfl⟩) (by decide) (by decide) (fun fs hr => retI X0 hx Bd.returns (hb hby d1_53) hr)
  · refine own_step (U' := s₁.setTop (mkF m 14 #[rv r0, .unset] [(.int (-1 : Int32))])) (fun t k => XS.icmpNo X0.here hx rfl (hb hby d1_10) rfl (feq hc10_3).1 (XS.iconst X0.here hx rfl (hb hby d1_13) k)) ?_
    exact own_out X0 (v := (some (.int (-1 : Int32)))) hlk (own_nv Bd.returns) (by rw [e0]; exact ⟨by rw [show (F1k4 w0 w1 w2 w3) = (-1 : Int32) from (by simp only [F1k4, if_neg hc10_3])], N0, rfl⟩) (by decide) (by decide) (fun fs hr => retI X0 hx Bd.returns (hb hby d1_14) hr)
theorem ef_1k3 (m : MethodId) (r0 : Addr) : entryFrame m #[(.ref r0)] 2 = mkF m 0 #[rv r0, .unset] [] := by first | (simp [entryFrame, mkF, argsToLocals, Value.category]; done) | rfl
def F1k3 (w0 : Int32) (w1 : Int32) (w2 : Int32) : Int32 :=
  if w0 = (40 : Int32) then
    if w1 = (41 : Int32) then
      (-1 : Int32)
    else
      if w2 = (41 : Int32) then
        (2 : Int32)
      else
        (-1 : Int32)
  else
    (-1 : Int32)
def Q1k3 (Z : State) (r0 : Addr) (w0 : Int32) (w1 : Int32) (w2 : Int32) (k_r0 : ClassId) (h0 : Heap) (n0 : Nat) (v : Option Value) (h : Heap) (L : List Loc) : Prop := v = some (.int (F1k3 w0 w1 w2)) ∧ Fr n0 L ∧ h = h0
set_option maxRecDepth 65536 in
set_option maxHeartbeats 40000000 in
theorem rm1k3 (l : Launch) (Z : State) (a0 : Array Value) (hw : ∀ d ∈ tables_1, d.before a0 Z = true) (ws : List Jvm.Cond) (r0 : Addr) (w0 : Int32) (w1 : Int32) (w2 : Int32) (k_r0 : ClassId) (h0 : Heap) (n0 : Nat) (Z0 : n0 ≤ h0.size) (V_r0 : Arv Z h0 r0 k_r0 .byte (3 : Int32) [(.int w0), (.int w1), (.int w2)] (.int (0 : Int32))) :
    MetFree l (⟨"com/example/tallyfield/tallyfield/control/ControlNumbers", "codeEnd", "([B)I"⟩ : MethodName) (head1 (Jvm.Cond.code (⟨"com/example/tallyfield/tallyfield/control/ControlNumbers", "codeEnd", "([B)I"⟩ : MethodName) prog_8_method_6_code 2 (some .int) :: ws) ({ frames := 0, cells := 0, slots := 0, locals := 0 } : Room)) (fun a U => a = #[(.ref r0)] ∧ Z.Warmed39 U.vm ∧ U.heap = h0) (fun _ _ _ _ _ => True) (fun _ U o U' => ∃ v L, o = .returned v ∧ Q1k3 Z r0 w0 w1 w2 k_r0 h0 n0 v U'.heap L ∧ FrameEnd U o U' L ({ frames := 0, cells := 0, slots := 0, locals := 0 } : Room).cells ({ frames := 0, cells := 0, slots := 0, locals := 0 } : Room).slots) := by
  refine MetFree.of_bodySF (plainFor_of_name pn_1) hisR ?_
  intro p e s m args below meth c s₁ Bd hml0 hP hK
  obtain ⟨rfl, hZ, hh⟩ := hP
  have hx := Bd.exec
  have hby := Bd.bytes
  have hml : c.maxLocals = 2 := hml0
  have hown : s.vm.findClass "com/example/tallyfield/tallyfield/control/ControlNumbers" = some m.cls := findClass_of_methodNamed Bd.named
  have hnm := (name_of_methodNamed Bd.named Bd.method).1
  have hlk : meth.locks = false := Bd.notSynchronized
  have X0 : Stand p l e ({ frames := 0, cells := 0, slots := 0, locals := 0 } : Room) s m #[(.ref r0)] below meth c s₁ [] 0 0 := Stand.of_body Bd
  have e0 : s₁.heap = h0 := by rw [← hh, Bd.state]; rfl
  have N0 := Fr.nil n0
  have KK0 := Keep.refl h0 []
  show own_Go p.tables e below s 0 0 (Q1k3 Z r0 w0 w1 w2 k_r0 h0 n0) (s₁.setTop (entryFrame m #[(.ref r0)] 2))
  rw [ef_1k3]
  refine own_step (U' := s₁.setTop (mkF m 1 #[rv r0, .unset] [(.ref r0)])) (fun t k => XS.aloadN X0.here hx rfl (hb hby d1_0) rfl rfl k) ?_
  obtain ⟨cl1, Ar1, aq1, aS1, aN1, aH1, aG1⟩ := id V_r0
  have hl1 := len_of aS1 aN1
  refine own_step (U' := s₁.setTop (mkF m 7 #[rv r0, .unset] [(.int (0 : Int32)), (.ref r0)])) (fun t k => X0.arraylength hx (by rw [e0]; exact Ar1.1) (State.isArrayOf_alike hZ.alike Ar1.2.1) (g := (mkF m 1 #[rv r0, .unset] [(.ref r0)])) rfl rfl (hb hby d1_1) t (by rw [hl1]; exact (XS.ifNo X0.here hx rfl (hb hby d1_2) rfl (by decide) (XS.aloadN X0.here hx rfl (hb hby d1_5) rfl rfl (XS.iconst X0.here hx rfl (hb hby d1_6) k))))) ?_
  obtain ⟨cl2, Ar2, aq2, aS2, aN2, aH2, aG2⟩ := id V_r0
  have hin2 : ¬ ((0 : Int32) < 0 ∨ cl2.slots.size ≤ ((0 : Int32)).toNatClampNeg) := inb_of aS2 ⟨by decide, by decide⟩
  have hat2 : cl2.slots[((0 : Int32)).toNatClampNeg]? = some (.int w0) := aH2.at hin2 rfl
  refine own_step (U' := s₁.setTop (mkF m 10 #[rv r0, .unset] [(.int (40 : Int32)), (.int w0)])) (fun t k => X0.baloadBytes hx (j := (0 : Int32)) (v := (.int w0)) (by rw [e0]; exact Ar2.1) (State.isArrayOf_alike hZ.alike Ar2.2.1) Ar2.2.2 hin2 hat2 (g := (mkF m 7 #[rv r0, .unset] [(.int (0 : Int32)), (.ref r0)])) rfl rfl (hb hby d1_7) t (XS.bipush X0.here hx rfl (hb hby d1_8) k)) ?_
  by_cases hc10_3 : w0 = (40 : Int32)
  · refine own_step (U' := s₁.setTop (mkF m 19 #[rv r0, iv (1 : Int32)] [(.ref r0), (.int (1 : Int32))])) (fun t k => XS.icmpYes X0.here hx rfl (pc0 := 10) (pc' := 15) rfl (hb hby d1_10) rfl (teq hc10_3).1 (by decide) (by decide) (XS.iconst X0.here hx rfl (hb hby d1_15) (XS.istoreN X0.here hx rfl (hb hby d1_16) rfl (l' := #[rv r0, iv (1 : Int32)]) rfl (XS.iloadN X0.here hx rfl (hb hby d1_17) rfl (XS.aloadN X0.here hx rfl (hb hby d1_18) rfl rfl k))))) ?_
    obtain ⟨cl4, Ar4, aq4, aS4, aN4, aH4, aG4⟩ := id V_r0
    have hl4 := len_of aS4 aN4
    refine own_step (U' := s₁.setTop (mkF m 25 #[rv r0, iv (1 : Int32)] [(.int (1 : Int32)), (.ref r0)])) (fun t k => X0.arraylength hx (by rw [e0]; exact Ar4.1) (State.isArrayOf_alike hZ.alike Ar4.2.1) (g := (mkF m 19 #[rv r0, iv (1 : Int32)] [(.ref r0), (.int (1 : Int32))])) rfl rfl (hb hby d1_19) t (by rw [hl4]; exact (XS.icmpNo X0.here hx rfl (hb hby d1_20) rfl (by decide) (XS.aloadN X0.here hx rfl (hb hby d1_23) rfl rfl (XS.iloadN X0.here hx rfl (hb hby d1_24) rfl k))))) ?_
    obtain ⟨cl5, Ar5, aq5, aS5, aN5, aH5, aG5⟩ := id V_r0
    have hin5 : ¬ ((1 : Int32) < 0 ∨ cl5.slots.size ≤ ((1 : Int32)).toNatClampNeg) := inb_of aS5 ⟨by decide, by decide⟩
    have hat5 : cl5.slots[((1 : Int32)).toNatClampNeg]? = some (.int w1) := aH5.at hin5 rfl
    refine own_step (U' := s₁.setTop (mkF m 28 #[rv r0, iv (1 : Int32)] [(.int (41 : Int32)), (.int w1)])) (fun t k => X0.baloadBytes hx (j := (1 : Int32)) (v := (.int w1)) (by rw [e0]; exact Ar5.1) (State.isArrayOf_alike hZ.alike Ar5.2.1) Ar5.2.2 hin5 hat5 (g := (mkF m 25 #[rv r0, iv (1 : Int32)] [(.int (1 : Int32)), (.ref r0)])) rfl rfl (hb hby d1_25) t (XS.bipush X0.here hx rfl (hb hby d1_26) k)) ?_
    by_cases hc28_6 : w1 = (41 : Int32)
    · refine own_step (U' := s₁.setTop (mkF m 53 #[rv r0, iv (1 : Int32)] [(.int (-1 : Int32))])) (fun t k => XS.icmpYes X0.here hx rfl (pc0 := 28) (pc' := 37) rfl (hb hby d1_28) rfl (teq hc28_6).1 (by decide) (by decide) (XS.iloadN X0.here hx rfl (hb hby d1_37) rfl (XS.iconst X0.here hx rfl (hb hby d1_38) (XS.icmpYes X0.here hx rfl (pc0 := 39) (pc' := 52) rfl (hb hby d1_39) rfl (by decide) (by decide) (by decide) (XS.iconst X0.here hx rfl (hb hby d1_52) k))))) ?_
      exact own_out X0 (v := (some (.int (-1 : Int32)))) hlk (own_nv Bd.returns) (by rw [e0]; exact ⟨by rw [show (F1k3 w0 w1 w2) = (-1 : Int32) from (by simp only [F1k3, if_pos hc10_3, if_pos hc28_6])], N0, rfl⟩) (by decide) (by decide) (fun fs hr => retI X0 hx Bd.returns (hb hby d1_53) hr)
    · refine own_step (U' := s₁.setTop (mkF m 19 #[rv r0, iv (2 : Int32)] [(.ref r0), (.int (2 : Int32))])) (fun t k => XS.icmpNo X0.here hx rfl (hb hby d1_28) rfl (feq hc28_6).1 (XS.iinc X0.here hx rfl (hb hby d1_31) rfl (l' := #[rv r0, iv (2 : Int32)]) rfl (XS.goto X0.here hx rfl (pc0 := 34) (pc' := 17) rfl (hb hby d1_34) (by decide) (by decide) (XS.iloadN X0.here hx rfl (hb hby d1_17) rfl (XS.aloadN X0.here hx rfl (hb hby d1_18) rfl rfl k))))) ?_
      obtain ⟨cl7, Ar7, aq7, aS7, aN7, aH7, aG7⟩ := id V_r0
      have hl7 := len_of aS7 aN7
      refine own_step (U' := s₁.setTop (mkF m 25 #[rv r0, iv (2 : Int32)] [(.int (2 : Int32)), (.ref r0)])) (fun t k => X0.arraylength hx (by rw [e0]; exact Ar7.1) (State.isArrayOf_alike hZ.alike Ar7.2.1) (g := (mkF m 19 #[rv r0, iv (2 : Int32)] [(.ref r0), (.int (2 : Int32))])) rfl rfl (hb hby d1_19) t (by rw [hl7]; exact (XS.icmpNo X0.here hx rfl (hb hby d1_20) rfl (by decide) (XS.aloadN X0.here hx rfl (hb hby d1_23) rfl rfl (XS.iloadN X0.here hx rfl (hb hby d1_24) rfl k))))) ?_
      obtain ⟨cl8, Ar8, aq8, aS8, aN8, aH8, aG8⟩ := id V_r0
      have hin8 : ¬ ((2 : Int32) < 0 ∨ cl8.slots.size ≤ ((2 : Int32)).toNatClampNeg) := inb_of aS8 ⟨by decide, by decide⟩
      have hat8 : cl8.slots[((2 : Int32)).toNatClampNeg]? = some (.int w2) := aH8.at hin8 rfl
      refine own_step (U' := s₁.setTop (mkF m 28 #[rv r0, iv (2 : Int32)] [(.int (41 : Int32)), (.int w2)])) (fun t k => X0.baloadBytes hx (j := (2 : Int32)) (v := (.int w2)) (by rw [e0]; exact Ar8.1) (State.isArrayOf_alike hZ.alike Ar8.2.1) Ar8.2.2 hin8 hat8 (g := (mkF m 25 #[rv r0, iv (2 : Int32)] [(.int (2 : Int32)), (.ref r0)])) rfl rfl (hb hby d1_25) t (XS.bipush X0.here hx rfl (hb hby d1_26) k)) ?_
      by_cases hc28_9 : w2 = (41 : Int32)
      · refine own_step (U' := s₁.setTop (mkF m 44 #[rv r0, iv (2 : Int32)] [(.ref r0), (.int (2 : Int32))])) (fun t k => XS.icmpYes X0.here hx rfl (pc0 := 28) (pc' := 37) rfl (hb hby d1_28) rfl (teq hc28_9).1 (by decide) (by decide) (XS.iloadN X0.here hx rfl (hb hby d1_37) rfl (XS.iconst X0.here hx rfl (hb hby d1_38) (XS.icmpNo X0.here hx rfl (hb hby d1_39) rfl (by decide) (XS.iloadN X0.here hx rfl (hb hby d1_42) rfl (XS.aloadN X0.here hx rfl (hb hby d1_43) rfl rfl k)))))) ?_
        obtain ⟨cl10, Ar10, aq10, aS10, aN10, aH10, aG10⟩ := id V_r0
        have hl10 := len_of aS10 aN10
        refine own_step (U' := s₁.setTop (mkF m 53 #[rv r0, iv (2 : Int32)] [(.int (2 : Int32))])) (fun t k => X0.arraylength hx (by rw [e0]; exact Ar10.1) (State.isArrayOf_alike hZ.alike Ar10.2.1) (g := (mkF m 44 #[rv r0, iv (2 : Int32)] [(.ref r0), (.int (2 : Int32))])) rfl rfl (hb hby d1_44) t (by rw [hl10]; exact (XS.icmpNo X0.here hx rfl (hb hby d1_45) rfl (by decide) (XS.iloadN X0.here hx rfl (hb hby d1_48) rfl (XS.goto X0.here hx rfl (pc0 := 49) (pc' := 53) rfl (hb hby d1_49) (by decide) (by decide) k))))) ?_
        exact own_out X0 (v := (some (.int (2 : Int32)))) hlk (own_nv Bd.returns) (by rw [e0]; exact ⟨by rw [show (F1k3 w0 w1 w2) = (2 : Int32) from (by simp only [F1k3, if_pos hc10_3, if_neg hc28_6, if_pos hc28_9])], N0, rfl⟩) (by decide) (by decide) (fun fs hr => retI X0 hx Bd.returns (hb hby d1_53) hr)
      · refine own_step (U' := s₁.setTop (mkF m 19 #[rv r0, iv (3 : Int32)] [(.ref r0), (.int (3 : Int32))])) (fun t k => XS.icmpNo X0.here hx rfl (hb hby d1_28) rfl (feq hc28_9).1 (XS.iinc X0.here hx rfl (hb hby d1_31) rfl (l' := #[rv r0, iv (3 : Int32)]) rfl (XS.goto X0.here hx rfl (pc0 := 34) (pc' := 17) rfl (hb hby d1_34) (by decide) (by decide) (XS.iloadN X0.here hx rfl (hb hby d1_17) rfl (XS.aloadN X0.here hx rfl (hb hby d1_18) rfl rfl k))))) ?_
        obtain ⟨cl11, Ar11, aq11, aS11, aN11, aH11, aG11⟩ := id V_r0
        have hl11 := len_of aS11 aN11
        refine own_step (U' := s₁.setTop (mkF m 44 #[rv r0, iv (3 : Int32)] [(.ref r0), (.int (3 : Int32))])) (fun t k => X0.arraylength hx (by rw [e0]; exact Ar11.1) (State.isArrayOf_alike hZ.alike Ar11.2.1) (g := (mkF m 19 #[rv r0, iv (3 : Int32)] [(.ref r0), (.int (3 : Int32))])) rfl rfl (hb hby d1_19) t (by rw [hl11]; exact (XS.icmpYes X0.here hx rfl (pc0 := 20) (pc' := 37) rfl (hb hby d1_20) rfl (by decide) (by decide) (by decide) (XS.iloadN X0.here hx rfl (hb hby d1_37) rfl (XS.iconst X0.here hx rfl (hb hby d1_38) (XS.icmpNo X0.here hx rfl (hb hby d1_39) rfl (by decide) (XS.iloadN X0.here hx rfl (hb hby d1_42) rfl (XS.aloadN X0.here hx rfl (hb hby d1_43) rfl rfl k)))))))) ?_
        obtain ⟨cl12, Ar12, aq12, aS12, aN12, aH12, aG12⟩ := id V_r0
        have hl12 := len_of aS12 aN12
        refine own_step (U' := s₁.setTop (mkF m 53 #[rv r0, iv (3 : Int32)] [(.int (-1 : Int32))])) (fun t k => X0.arraylength hx (by rw [e0]; exact Ar12.1) (State.isArrayOf_alike hZ.alike Ar12.2.1) (g := (mkF m 44 #[rv r0, iv (3 : Int32)] [(.ref r0), (.int (3 : Int32))])) rfl rfl (hb hby d1_44) t (by rw [hl12]; exact (XS.icmpYes X0.here hx rfl (pc0 := 45) (pc' := 52) rfl (hb hby d1_45) rfl (by decide) (by decide) (by decide) (XS.iconst X0.here hx rfl (hb hby d1_52) k)))) ?_
        exact own_out X0 (v := (some (.int (-1 : Int32)))) hlk (own_nv Bd.returns) (by rw [e0]; exact ⟨by rw [show (F1k3 w0 w1 w2) = (-1 : Int32) from (by simp only [F1k3, if_pos hc10_3, if_neg hc28_6, if_neg hc28_9])], N0, rfl⟩) (by decide) (by decide) (fun fs hr => retI X0 hx Bd.returns (hb hby d1_53) hr)
  · refine own_step (U' := s₁.setTop (mkF m 14 #[rv r0, .unset] [(.int (-1 : Int32))])) (fun t k => XS.icmpNo X0.here hx rfl (hb hby d1_10) rfl (feq hc10_3).1 (XS.iconst X0.here hx rfl (hb hby d1_13) k)) ?_
    exact own_out X0 (v := (some (.int (-1 : Int32)))) hlk (own_nv Bd.returns) (by rw [e0]; exact ⟨by rw [show (F1k3 w0 w1 w2) = (-1 : Int32) from (by simp only [F1k3, if_neg hc10_3])], N0, rfl⟩) (by decide) (by decide) (fun fs hr => retI X0 hx Bd.returns (hb hby d1_14) hr)
theorem ef_1k2 (m : MethodId) (r0 : Addr) : entryFrame m #[(.ref r0)] 2 = mkF m 0 #[rv r0, .unset] [] := by first | (simp [entryFrame, mkF, argsToLocals, Value.category]; done) | rfl
def F1k2 (w0 : Int32) (w1 : Int32) : Int32 :=
  if w0 = (40 : Int32) then
    if w1 = (41 : Int32) then
      (-1 : Int32)
    else
      (-1 : Int32)
  else
    (-1 : Int32)
def Q1k2 (Z : State) (r0 : Addr) (w0 : Int32) (w1 : Int32) (k_r0 : ClassId) (h0 : Heap) (n0 : Nat) (v : Option Value) (h : Heap) (L : List Loc) : Prop := v = some (.int (F1k2 w0 w1)) ∧ Fr n0 L ∧ h = h0
set_option maxRecDepth 65536 in
set_option maxHeartbeats 40000000 in
theorem rm1k2 (l : Launch) (Z : State) (a0 : Array Value) (hw : ∀ d ∈ tables_1, d.before a0 Z = true) (ws : List Jvm.Cond) (r0 : Addr) (w0 : Int32) (w1 : Int32) (k_r0 : ClassId) (h0 : Heap) (n0 : Nat) (Z0 : n0 ≤ h0.size) (V_r0 : Arv Z h0 r0 k_r0 .byte (2 : Int32) [(.int w0), (.int w1)] (.int (0 : Int32))) :
    MetFree l (⟨"com/example/tallyfield/tallyfield/control/ControlNumbers", "codeEnd", "([B)I"⟩ : MethodName) (head1 (Jvm.Cond.code (⟨"com/example/tallyfield/tallyfield/control/ControlNumbers", "codeEnd", "([B)I"⟩ : MethodName) prog_8_method_6_code 2 (some .int) :: ws) ({ frames := 0, cells := 0, slots := 0, locals := 0 } : Room)) (fun a U => a = #[(.ref r0)] ∧ Z.Warmed39 U.vm ∧ U.heap = h0) (fun _ _ _ _ _ => True) (fun _ U o U' => ∃ v L, o = .returned v ∧ Q1k2 Z r0 w0 w1 k_r0 h0 n0 v U'.heap L ∧ FrameEnd U o U' L ({ frames := 0, cells := 0, slots := 0, locals := 0 } : Room).cells ({ frames := 0, cells := 0, slots := 0, locals := 0 } : Room).slots) := by
  refine MetFree.of_bodySF (plainFor_of_name pn_1) hisR ?_
  intro p e s m args below meth c s₁ Bd hml0 hP hK
  obtain ⟨rfl, hZ, hh⟩ := hP
  have hx := Bd.exec
  have hby := Bd.bytes
  have hml : c.maxLocals = 2 := hml0
  have hown : s.vm.findClass "com/example/tallyfield/tallyfield/control/ControlNumbers" = some m.cls := findClass_of_methodNamed Bd.named
  have hnm := (name_of_methodNamed Bd.named Bd.method).1
  have hlk : meth.locks = false := Bd.notSynchronized
  have X0 : Stand p l e ({ frames := 0, cells := 0, slots := 0, locals := 0 } : Room) s m #[(.ref r0)] below meth c s₁ [] 0 0 := Stand.of_body Bd
  have e0 : s₁.heap = h0 := by rw [← hh, Bd.state]; rfl
  have N0 := Fr.nil n0
  have KK0 := Keep.refl h0 []
  show own_Go p.tables e below s 0 0 (Q1k2 Z r0 w0 w1 k_r0 h0 n0) (s₁.setTop (entryFrame m #[(.ref r0)] 2))
  rw [ef_1k2]
  refine own_step (U' := s₁.setTop (mkF m 1 #[rv r0, .unset] [(.ref r0)])) (fun t k => XS.aloadN X0.here hx rfl (hb hby d1_0) rfl rfl k) ?_
  obtain ⟨cl1, Ar1, aq1, aS1, aN1, aH1, aG1⟩ := id V_r0
  have hl1 := len_of aS1 aN1
  refine own_step (U' := s₁.setTop (mkF m 7 #[rv r0, .unset] [(.int (0 : Int32)), (.ref r0)])) (fun t k => X0.arraylength hx (by rw [e0]; exact Ar1.1) (State.isArrayOf_alike hZ.alike Ar1.2.1) (g := (mkF m 1 #[rv r0, .unset] [(.ref r0)])) rfl rfl (hb hby d1_1) t (by rw [hl1]; exact (XS.ifNo X0.here hx rfl (hb hby d1_2) rfl (by decide) (XS.aloadN X0.here hx rfl (hb hby d1_5) rfl rfl (XS.iconst X0.here hx rfl (hb hby d1_6) k))))) ?_
  obtain ⟨cl2, Ar2, aq2, aS2, aN2, aH2, aG2⟩ := id V_r0
  have hin2 : ¬ ((0 : Int32) < 0 ∨ cl2.slots.size ≤ ((0 : Int32)).toNatClampNeg) := inb_of aS2 ⟨by decide, by decide⟩
  have hat2 : cl2.slots[((0 : Int32)).toNatClampNeg]? = some (.int w0) := aH2.at hin2 rfl
  refine own_step (U' := s₁.setTop (mkF m 10 #[rv r0, .unset] [(.int (40 : Int32)), (.int w0)])) (fun t k => X0.baloadBytes hx (j := (0 : Int32)) (v := (.int w0)) (by rw [e0]; exact Ar2.1) (State.isArrayOf_alike hZ.alike Ar2.2.1) Ar2.2.2 hin2 hat2 (g := (mkF m 7 #[rv r0, .unset] [(.int (0 : Int32)), (.ref r0)])) rfl rfl (hb hby d1_7) t (XS.bipush X0.here hx rfl (hb hby d1_8) k)) ?_
  by_cases hc10_3 : w0 = (40 : Int32)
  · refine own_step (U' := s₁.setTop (mkF m 19 #[rv r0, iv (1 : Int32)] [(.ref r0), (.int (1 : Int32))])) (fun t k => XS.icmpYes X0.here hx rfl (pc0 := 10) (pc' := 15) rfl (hb hby d1_10) rfl (teq hc10_3).1 (by decide) (by decide) (XS.iconst X0.here hx rfl (hb hby d1_15) (XS.istoreN X0.here hx rfl (hb hby d1_16) rfl (l' := #[rv r0, iv (1 : Int32)]) rfl (XS.iloadN X0.here hx rfl (hb hby d1_17) rfl (XS.aloadN X0.here hx rfl (hb hby d1_18) rfl rfl k))))) ?_
    obtain ⟨cl4, Ar4, aq4, aS4, aN4, aH4, aG4⟩ := id V_r0
    have hl4 := len_of aS4 aN4
    refine own_step (U' := s₁.setTop (mkF m 25 #[rv r0, iv (1 : Int32)] [(.int (1 : Int32)), (.ref r0)])) (fun t k => X0.arraylength hx (by rw [e0]; exact Ar4.1) (State.isArrayOf_alike hZ.alike Ar4.2.1) (g := (mkF m 19 #[rv r0, iv (1 : Int32)] [(.ref r0), (.int (1 : Int32))])) rfl rfl (hb hby d1_19) t (by rw [hl4]; exact (XS.icmpNo X0.here hx rfl (hb hby d1_20) rfl (by decide) (XS.aloadN X0.here hx rfl (hb hby d1_23) rfl rfl (XS.iloadN X0.here hx rfl (hb hby d1_24) rfl k))))) ?_
    obtain ⟨cl5, Ar5, aq5, aS5, aN5, aH5, aG5⟩ := id V_r0
    have hin5 : ¬ ((1 : Int32) < 0 ∨ cl5.slots.size ≤ ((1 : Int32)).toNatClampNeg) := inb_of aS5 ⟨by decide, by decide⟩
    have hat5 : cl5.slots[((1 : Int32)).toNatClampNeg]? = some (.int w1) := aH5.at hin5 rfl
    refine own_step (U' := s₁.setTop (mkF m 28 #[rv r0, iv (1 : Int32)] [(.int (41 : Int32)), (.int w1)])) (fun t k => X0.baloadBytes hx (j := (1 : Int32)) (v := (.int w1)) (by rw [e0]; exact Ar5.1) (State.isArrayOf_alike hZ.alike Ar5.2.1) Ar5.2.2 hin5 hat5 (g := (mkF m 25 #[rv r0, iv (1 : Int32)] [(.int (1 : Int32)), (.ref r0)])) rfl rfl (hb hby d1_25) t (XS.bipush X0.here hx rfl (hb hby d1_26) k)) ?_
    by_cases hc28_6 : w1 = (41 : Int32)
    · refine own_step (U' := s₁.setTop (mkF m 53 #[rv r0, iv (1 : Int32)] [(.int (-1 : Int32))])) (fun t k => XS.icmpYes X0.here hx rfl (pc0 := 28) (pc' := 37) rfl (hb hby d1_28) rfl (teq hc28_6).1 (by decide) (by decide) (XS.iloadN X0.here hx rfl (hb hby d1_37) rfl (XS.iconst X0.here hx rfl (hb hby d1_38) (XS.icmpYes X0.here hx rfl (pc0 := 39) (pc' := 52) rfl (hb hby d1_39) rfl (by decide) (by decide) (by decide) (XS.iconst X0.here hx rfl (hb hby d1_52) k))))) ?_
      exact own_out X0 (v := (some (.int (-1 : Int32)))) hlk (own_nv Bd.returns) (by rw [e0]; exact ⟨by rw [show (F1k2 w0 w1) = (-1 : Int32) from (by simp only [F1k2, if_pos hc10_3, if_pos hc28_6])], N0, rfl⟩) (by decide) (by decide) (fun fs hr => retI X0 hx Bd.returns (hb hby d1_53) hr)
    · refine own_step (U' := s₁.setTop (mkF m 19 #[rv r0, iv (2 : Int32)] [(.ref r0), (.int (2 : Int32))])) (fun t k => XS.icmpNo X0.here hx rfl (hb hby d1_28) rfl (feq hc28_6).1 (XS.iinc X0.here hx rfl (hb hby d1_31) rfl (l' := #[rv r0, iv (2 : Int32)]) rfl (XS.goto X0.here hx rfl (pc0 := 34) (pc' := 17) rfl (hb hby d1_34) (by decide) (by decide) (XS.iloadN X0.here hx rfl (hb hby d1_17) rfl (XS.aloadN X0.here hx rfl (hb hby d1_18) rfl rfl k))))) ?_
      obtain ⟨cl7, Ar7, aq7, aS7, aN7, aH7, aG7⟩ := id V_r0
      have hl7 := len_of aS7 aN7
      refine own_step (U' := s₁.setTop (mkF m 44 #[rv r0, iv (2 : Int32)] [(.ref r0), (.int (2 : Int32))])) (fun t k => X0.arraylength hx (by rw [e0]; exact Ar7.1) (State.isArrayOf_alike hZ.alike Ar7.2.1) (g := (mkF m 19 #[rv r0, iv (2 : Int32)] [(.ref r0), (.int (2 : Int32))])) rfl rfl (hb hby d1_19) t (by rw [hl7]; exact (XS.icmpYes X0.here hx rfl (pc0 := 20) (pc' := 37) rfl (hb hby d1_20) rfl (by decide) (by decide) (by decide) (XS.iloadN X0.here hx rfl (hb hby d1_37) rfl (XS.iconst X0.here hx rfl (hb hby d1_38) (XS.icmpNo X0.here hx rfl (hb hby d1_39) rfl (by decide) (XS.iloadN X0.here hx rfl (hb hby d1_42) rfl (XS.aloadN X0.here hx rfl (hb hby d1_43) rfl rfl k)))))))) ?_
      obtain ⟨cl8, Ar8, aq8, aS8, aN8, aH8, aG8⟩ := id V_r0
      have hl8 := len_of aS8 aN8
      refine own_step (U' := s₁.setTop (mkF m 53 #[rv r0, iv (2 : Int32)] [(.int (-1 : Int32))])) (fun t k => X0.arraylength hx (by rw [e0]; exact Ar8.1) (State.isArrayOf_alike hZ.alike Ar8.2.1) (g := (mkF m 44 #[rv r0, iv (2 : Int32)] [(.ref r0), (.int (2 : Int32))])) rfl rfl (hb hby d1_44) t (by rw [hl8]; exact (XS.icmpYes X0.here hx rfl (pc0 := 45) (pc' := 52) rfl (hb hby d1_45) rfl (by decide) (by decide) (by decide) (XS.iconst X0.here hx rfl (hb hby d1_52) k)))) ?_
      exact own_out X0 (v := (some (.int (-1 : Int32)))) hlk (own_nv Bd.returns) (by rw [e0]; exact ⟨by rw [show (F1k2 w0 w1) = (-1 : Int32) from (by simp only [F1k2, if_pos hc10_3, if_neg hc28_6])], N0, rfl⟩) (by decide) (by decide) (fun fs hr => retI X0 hx Bd.returns (hb hby d1_53) hr)
  · refine own_step (U' := s₁.setTop (mkF m 14 #[rv r0, .unset] [(.int (-1 : Int32))])) (fun t k => XS.icmpNo X0.here hx rfl (hb hby d1_10) rfl (feq hc10_3).1 (XS.iconst X0.here hx rfl (hb hby d1_13) k)) ?_
    exact own_out X0 (v := (some (.int (-1 : Int32)))) hlk (own_nv Bd.returns) (by rw [e0]; exact ⟨by rw [show (F1k2 w0 w1) = (-1 : Int32) from (by simp only [F1k2, if_neg hc10_3])], N0, rfl⟩) (by decide) (by decide) (fun fs hr => retI X0 hx Bd.returns (hb hby d1_14) hr)
theorem ef_1k1 (m : MethodId) (r0 : Addr) : entryFrame m #[(.ref r0)] 2 = mkF m 0 #[rv r0, .unset] [] := by first | (simp [entryFrame, mkF, argsToLocals, Value.category]; done) | rfl
def F1k1 (w0 : Int32) : Int32 :=
  if w0 = (40 : Int32) then
    (-1 : Int32)
  else
    (-1 : Int32)
def Q1k1 (Z : State) (r0 : Addr) (w0 : Int32) (k_r0 : ClassId) (h0 : Heap) (n0 : Nat) (v : Option Value) (h : Heap) (L : List Loc) : Prop := v = some (.int (F1k1 w0)) ∧ Fr n0 L ∧ h = h0
set_option maxRecDepth 65536 in
set_option maxHeartbeats 40000000 in
theorem rm1k1 (l : Launch) (Z : State) (a0 : Array Value) (hw : ∀ d ∈ tables_1, d.before a0 Z = true) (ws : List Jvm.Cond) (r0 : Addr) (w0 : Int32) (k_r0 : ClassId) (h0 : Heap) (n0 : Nat) (Z0 : n0 ≤ h0.size) (V_r0 : Arv Z h0 r0 k_r0 .byte (1 : Int32) [(.int w0)] (.int (0 : Int32))) :
    MetFree l (⟨"com/example/tallyfield/tallyfield/control/ControlNumbers", "codeEnd", "([B)I"⟩ : MethodName) (head1 (Jvm.Cond.code (⟨"com/example/tallyfield/tallyfield/control/ControlNumbers", "codeEnd", "([B)I"⟩ : MethodName) prog_8_method_6_code 2 (some .int) :: ws) ({ frames := 0, cells := 0, slots := 0, locals := 0 } : Room)) (fun a U => a = #[(.ref r0)] ∧ Z.Warmed39 U.vm ∧ U.heap = h0) (fun _ _ _ _ _ => True) (fun _ U o U' => ∃ v L, o = .returned v ∧ Q1k1 Z r0 w0 k_r0 h0 n0 v U'.heap L ∧ FrameEnd U o U' L ({ frames := 0, cells := 0, slots := 0, locals := 0 } : Room).cells ({ frames := 0, cells := 0, slots := 0, locals := 0 } : Room).slots) := by
  refine MetFree.of_bodySF (plainFor_of_name pn_1) hisR ?_
  intro p e s m args below meth c s₁ Bd hml0 hP hK
  obtain ⟨rfl, hZ, hh⟩ := hP
  have hx := Bd.exec
  have hby := Bd.bytes
  have hml : c.maxLocals = 2 := hml0
  have hown : s.vm.findClass "com/example/tallyfield/tallyfield/control/ControlNumbers" = some m.cls := findClass_of_methodNamed Bd.named
  have hnm := (name_of_methodNamed Bd.named Bd.method).1
  have hlk : meth.locks = false := Bd.notSynchronized
  have X0 : Stand p l e ({ frames := 0, cells := 0, slots := 0, locals := 0 } : Room) s m #[(.ref r0)] below meth c s₁ [] 0 0 := Stand.of_body Bd
  have e0 : s₁.heap = h0 := by rw [← hh, Bd.state]; rfl
  have N0 := Fr.nil n0
  have KK0 := Keep.refl h0 []
  show own_Go p.tables e below s 0 0 (Q1k1 Z r0 w0 k_r0 h0 n0) (s₁.setTop (entryFrame m #[(.ref r0)] 2))
  rw [ef_1k1]
  refine own_step (U' := s₁.setTop (mkF m 1 #[rv r0, .unset] [(.ref r0)])) (fun t k => XS.aloadN X0.here hx rfl (hb hby d1_0) rfl rfl k) ?_
  obtain ⟨cl1, Ar1, aq1, aS1, aN1, aH1, aG1⟩ := id V_r0
  have hl1 := len_of aS1 aN1
  refine own_step (U' := s₁.setTop (mkF m 7 #[rv r0, .unset] [(.int (0 : Int32)), (.ref r0)])) (fun t k => X0.arraylength hx (by rw [e0]; exact Ar1.1) (State.isArrayOf_alike hZ.alike Ar1.2.1) (g := (mkF m 1 #[rv r0, .unset] [(.ref r0)])) rfl rfl (hb hby d1_1) t (by rw [hl1]; exact (XS.ifNo X0.here hx rfl (hb hby d1_2) rfl (by decide) (XS.aloadN X0.here hx rfl (hb hby d1_5) rfl rfl (XS.iconst X0.here hx rfl (hb hby d1_6) k))))) ?_
  obtain ⟨cl2, Ar2, aq2, aS2, aN2, aH2, aG2⟩ := id V_r0
  have hin2 : ¬ ((0 : Int32) < 0 ∨ cl2.slots.size ≤ ((0 : Int32)).toNatClampNeg) := inb_of aS2 ⟨by decide, by decide⟩
  have hat2 : cl2.slots[((0 : Int32)).toNatClampNeg]? = some (.int w0) := aH2.at hin2 rfl
  refine own_step (U' := s₁.setTop (mkF m 10 #[rv r0, .unset] [(.int (40 : Int32)), (.int w0)])) (fun t k => X0.baloadBytes hx (j := (0 : Int32)) (v := (.int w0)) (by rw [e0]; exact Ar2.1) (State.isArrayOf_alike hZ.alike Ar2.2.1) Ar2.2.2 hin2 hat2 (g := (mkF m 7 #[rv r0, .unset] [(.int (0 : Int32)), (.ref r0)])) rfl rfl (hb hby d1_7) t (XS.bipush X0.here hx rfl (hb hby d1_8) k)) ?_
  by_cases hc10_3 : w0 = (40 : Int32)
  · refine own_step (U' := s₁.setTop (mkF m 19 #[rv r0, iv (1 : Int32)] [(.ref r0), (.int (1 : Int32))])) (fun t k => XS.icmpYes X0.here hx rfl (pc0 := 10) (pc' := 15) rfl (hb hby d1_10) rfl (teq hc10_3).1 (by decide) (by decide) (XS.iconst X0.here hx rfl (hb hby d1_15) (XS.istoreN X0.here hx rfl (hb hby d1_16) rfl (l' := #[rv r0, iv (1 : Int32)]) rfl (XS.iloadN X0.here hx rfl (hb hby d1_17) rfl (XS.aloadN X0.here hx rfl (hb hby d1_18) rfl rfl k))))) ?_
    obtain ⟨cl4, Ar4, aq4, aS4, aN4, aH4, aG4⟩ := id V_r0
    have hl4 := len_of aS4 aN4
    refine own_step (U' := s₁.setTop (mkF m 53 #[rv r0, iv (1 : Int32)] [(.int (-1 : Int32))])) (fun t k => X0.arraylength hx (by rw [e0]; exact Ar4.1) (State.isArrayOf_alike hZ.alike Ar4.2.1) (g := (mkF m 19 #[rv r0, iv (1 : Int32)] [(.ref r0), (.int (1 : Int32))])) rfl rfl (hb hby d1_19) t (by rw [hl4]; exact (XS.icmpYes X0.here hx rfl (pc0 := 20) (pc' := 37) rfl (hb hby d1_20) rfl (by decide) (by decide) (by decide) (XS.iloadN X0.here hx rfl (hb hby d1_37) rfl (XS.iconst X0.here hx rfl (hb hby d1_38) (XS.icmpYes X0.here hx rfl (pc0 := 39) (pc' := 52) rfl (hb hby d1_39) rfl (by decide) (by decide) (by decide) (XS.iconst X0.here hx rfl (hb hby d1_52) k))))))) ?_
    exact own_out X0 (v := (some (.int (-1 : Int32)))) hlk (own_nv Bd.returns) (by rw [e0]; exact ⟨by rw [show (F1k1 w0) = (-1 : Int32) from (by simp only [F1k1, if_pos hc10_3])], N0, rfl⟩) (by decide) (by decide) (fun fs hr => retI X0 hx Bd.returns (hb hby d1_53) hr)
  · refine own_step (U' := s₁.setTop (mkF m 14 #[rv r0, .unset] [(.int (-1 : Int32))])) (fun t k => XS.icmpNo X0.here hx rfl (hb hby d1_10) rfl (feq hc10_3).1 (XS.iconst X0.here hx rfl (hb hby d1_13) k)) ?_
    exact own_out X0 (v := (some (.int (-1 : Int32)))) hlk (own_nv Bd.returns) (by rw [e0]; exact ⟨by rw [show (F1k1 w0) = (-1 : Int32) from (by simp only [F1k1, if_neg hc10_3])], N0, rfl⟩) (by decide) (by decide) (fun fs hr => retI X0 hx Bd.returns (hb hby d1_14) hr)
theorem ef_1k0 (m : MethodId) (r0 : Addr) : entryFrame m #[(.ref r0)] 2 = mkF m 0 #[rv r0, .unset] [] := by first | (simp [entryFrame, mkF, argsToLocals, Value.category]; done) | rfl
def F1k0  : Int32 :=
  (-1 : Int32)
def Q1k0 (Z : State) (r0 : Addr) (k_r0 : ClassId) (h0 : Heap) (n0 : Nat) (v : Option Value) (h : Heap) (L : List Loc) : Prop := v = some (.int F1k0) ∧ Fr n0 L ∧ h = h0
set_option maxRecDepth 65536 in
set_option maxHeartbeats 40000000 in
theorem rm1k0 (l : Launch) (Z : State) (a0 : Array Value) (hw : ∀ d ∈ tables_1, d.before a0 Z = true) (ws : List Jvm.Cond) (r0 : Addr) (k_r0 : ClassId) (h0 : Heap) (n0 : Nat) (Z0 : n0 ≤ h0.size) (V_r0 : Arv Z h0 r0 k_r0 .byte (0 : Int32) [] (.int (0 : Int32))) :
    MetFree l (⟨"com/example/tallyfield/tallyfield/control/ControlNumbers", "codeEnd", "([B)I"⟩ : MethodName) (head1 (Jvm.Cond.code (⟨"com/example/tallyfield/tallyfield/control/ControlNumbers", "codeEnd", "([B)I"⟩ : MethodName) prog_8_method_6_code 2 (some .int) :: ws) ({ frames := 0, cells := 0, slots := 0, locals := 0 } : Room)) (fun a U => a = #[(.ref r0)] ∧ Z.Warmed39 U.vm ∧ U.heap = h0) (fun _ _ _ _ _ => True) (fun _ U o U' => ∃ v L, o = .returned v ∧ Q1k0 Z r0 k_r0 h0 n0 v U'.heap L ∧ FrameEnd U o U' L ({ frames := 0, cells := 0, slots := 0, locals := 0 } : Room).cells ({ frames := 0, cells := 0, slots := 0, locals := 0 } : Room).slots) := by
  refine MetFree.of_bodySF (plainFor_of_name pn_1) hisR ?_
  intro p e s m args below meth c s₁ Bd hml0 hP hK
  obtain ⟨rfl, hZ, hh⟩ := hP
  have hx := Bd.exec
  have hby := Bd.bytes
  have hml : c.maxLocals = 2 := hml0
  have hown : s.vm.findClass "com/example/tallyfield/tallyfield/control/ControlNumbers" = some m.cls := findClass_of_methodNamed Bd.named
  have hnm := (name_of_methodNamed Bd.named Bd.method).1
  have hlk : meth.locks = false := Bd.notSynchronized
  have X0 : Stand p l e ({ frames := 0, cells := 0, slots := 0, locals := 0 } : Room) s m #[(.ref r0)] below meth c s₁ [] 0 0 := Stand.of_body Bd
  have e0 : s₁.heap = h0 := by rw [← hh, Bd.state]; rfl
  have N0 := Fr.nil n0
  have KK0 := Keep.refl h0 []
  show own_Go p.tables e below s 0 0 (Q1k0 Z r0 k_r0 h0 n0) (s₁.setTop (entryFrame m #[(.ref r0)] 2))
  rw [ef_1k0]
  refine own_step (U' := s₁.setTop (mkF m 1 #[rv r0, .unset] [(.ref r0)])) (fun t k => XS.aloadN X0.here hx rfl (hb hby d1_0) rfl rfl k) ?_
  obtain ⟨cl1, Ar1, aq1, aS1, aN1, aH1, aG1⟩ := id V_r0
  have hl1 := len_of aS1 aN1
  refine own_step (U' := s₁.setTop (mkF m 14 #[rv r0, .unset] [(.int (-1 : Int32))])) (fun t k => X0.arraylength hx (by rw [e0]; exact Ar1.1) (State.isArrayOf_alike hZ.alike Ar1.2.1) (g := (mkF m 1 #[rv r0, .unset] [(.ref r0)])) rfl rfl (hb hby d1_1) t (by rw [hl1]; exact (XS.ifYes X0.here hx rfl (pc0 := 2) (pc' := 13) rfl (hb hby d1_2) rfl (by decide) (by decide) (by decide) (XS.iconst X0.here hx rfl (hb hby d1_13) k)))) ?_
  exact own_out X0 (v := (some (.int (-1 : Int32)))) hlk (own_nv Bd.returns) (by rw [e0]; exact ⟨by rw [show F1k0 = (-1 : Int32) from (by simp only [F1k0])], N0, rfl⟩) (by decide) (by decide) (fun fs hr => retI X0 hx Bd.returns (hb hby d1_14) hr)
theorem own_n (x : Int32) : (x &&& (7 : Int32)) = (0 : Int32) ∨ (x &&& (7 : Int32)) = (1 : Int32) ∨ (x &&& (7 : Int32)) = (2 : Int32) ∨ (x &&& (7 : Int32)) = (3 : Int32) ∨ (x &&& (7 : Int32)) = (4 : Int32) ∨ (x &&& (7 : Int32)) = (5 : Int32) ∨ (x &&& (7 : Int32)) = (6 : Int32) ∨ (x &&& (7 : Int32)) = (7 : Int32) := by
  have m := c_mask x 7 3 (by decide) (by decide)
  have e0 : (0 : Int32).toInt = 0 := by decide
  have e1 : (1 : Int32).toInt = 1 := by decide
  have e2 : (2 : Int32).toInt = 2 := by decide
  have e3 : (3 : Int32).toInt = 3 := by decide
  have e4 : (4 : Int32).toInt = 4 := by decide
  have e5 : (5 : Int32).toInt = 5 := by decide
  have e6 : (6 : Int32).toInt = 6 := by decide
  have e7 : (7 : Int32).toInt = 7 := by decide
  simp only [← Int32.toInt_inj]
  omega
theorem own_no7 (w0 w1 w2 w3 w4 w5 w6 : Int32) (h : ¬ w0 = (40 : Int32)) : F1k7 w0 w1 w2 w3 w4 w5 w6 = (-1 : Int32) := by simp only [F1k7, if_neg h]
theorem own_yes7 (w0 w1 w2 w3 w4 w5 w6 u v : Int32) (h : w0 = (40 : Int32)) (hu : u = (if w1 = (41 : Int32) then (1 : Int32) else (if w2 = (41 : Int32) then (2 : Int32) else (if w3 = (41 : Int32) then (3 : Int32) else (if w4 = (41 : Int32) then (4 : Int32) else (if w5 = (41 : Int32) then (5 : Int32) else (if w6 = (41 : Int32) then (6 : Int32) else (-1 : Int32)))))))) (hv : v = (if u < (2 : Int32) then (-1 : Int32) else u)) : F1k7 w0 w1 w2 w3 w4 w5 w6 = v := by
  subst hv hu
  by_cases c1 : w1 = (41 : Int32)
  · simp only [F1k7, if_pos h, if_pos c1]; try decide
  · skip
    by_cases c2 : w2 = (41 : Int32)
    · simp only [F1k7, if_pos h, if_neg c1, if_pos c2]; try decide
    · skip
      by_cases c3 : w3 = (41 : Int32)
      · simp only [F1k7, if_pos h, if_neg c1, if_neg c2, if_pos c3]; try decide
      · skip
        by_cases c4 : w4 = (41 : Int32)
        · simp only [F1k7, if_pos h, if_neg c1, if_neg c2, if_neg c3, if_pos c4]; try decide
        · skip
          by_cases c5 : w5 = (41 : Int32)
          · simp only [F1k7, if_pos h, if_neg c1, if_neg c2, if_neg c3, if_neg c4, if_pos c5]; try decide
          · skip
            by_cases c6 : w6 = (41 : Int32)
            · simp only [F1k7, if_pos h, if_neg c1, if_neg c2, if_neg c3, if_neg c4, if_neg c5, if_pos c6]; try decide
            · simp only [F1k7, if_pos h, if_neg c1, if_neg c2, if_neg c3, if_neg c4, if_neg c5, if_neg c6]; try decide
theorem own_no6 (w0 w1 w2 w3 w4 w5 : Int32) (h : ¬ w0 = (40 : Int32)) : F1k6 w0 w1 w2 w3 w4 w5 = (-1 : Int32) := by simp only [F1k6, if_neg h]
theorem own_yes6 (w0 w1 w2 w3 w4 w5 u v : Int32) (h : w0 = (40 : Int32)) (hu : u = (if w1 = (41 : Int32) then (1 : Int32) else (if w2 = (41 : Int32) then (2 : Int32) else (if w3 = (41 : Int32) then (3 : Int32) else (if w4 = (41 : Int32) then (4 : Int32) else (if w5 = (41 : Int32) then (5 : Int32) else (-1 : Int32))))))) (hv : v = (if u < (2 : Int32) then (-1 : Int32) else u)) : F1k6 w0 w1 w2 w3 w4 w5 = v := by
  subst hv hu
  by_cases c1 : w1 = (41 : Int32)
  · simp only [F1k6, if_pos h, if_pos c1]; try decide
  · skip
    by_cases c2 : w2 = (41 : Int32)
    · simp only [F1k6, if_pos h, if_neg c1, if_pos c2]; try decide
    · skip
      by_cases c3 : w3 = (41 : Int32)
      · simp only [F1k6, if_pos h, if_neg c1, if_neg c2, if_pos c3]; try decide
      · skip
        by_cases c4 : w4 = (41 : Int32)
        · simp only [F1k6, if_pos h, if_neg c1, if_neg c2, if_neg c3, if_pos c4]; try decide
        · skip
          by_cases c5 : w5 = (41 : Int32)
          · simp only [F1k6, if_pos h, if_neg c1, if_neg c2, if_neg c3, if_neg c4, if_pos c5]; try decide
          · simp only [F1k6, if_pos h, if_neg c1, if_neg c2, if_neg c3, if_neg c4, if_neg c5]; try decide
theorem own_no5 (w0 w1 w2 w3 w4 : Int32) (h : ¬ w0 = (40 : Int32)) : F1k5 w0 w1 w2 w3 w4 = (-1 : Int32) := by simp only [F1k5, if_neg h]
theorem own_yes5 (w0 w1 w2 w3 w4 u v : Int32) (h : w0 = (40 : Int32)) (hu : u = (if w1 = (41 : Int32) then (1 : Int32) else (if w2 = (41 : Int32) then (2 : Int32) else (if w3 = (41 : Int32) then (3 : Int32) else (if w4 = (41 : Int32) then (4 : Int32) else (-1 : Int32)))))) (hv : v = (if u < (2 : Int32) then (-1 : Int32) else u)) : F1k5 w0 w1 w2 w3 w4 = v := by
  subst hv hu
  by_cases c1 : w1 = (41 : Int32)
  · simp only [F1k5, if_pos h, if_pos c1]; try decide
  · skip
    by_cases c2 : w2 = (41 : Int32)
    · simp only [F1k5, if_pos h, if_neg c1, if_pos c2]; try decide
    · skip
      by_cases c3 : w3 = (41 : Int32)
      · simp only [F1k5, if_pos h, if_neg c1, if_neg c2, if_pos c3]; try decide
      · skip
        by_cases c4 : w4 = (41 : Int32)
        · simp only [F1k5, if_pos h, if_neg c1, if_neg c2, if_neg c3, if_pos c4]; try decide
        · simp only [F1k5, if_pos h, if_neg c1, if_neg c2, if_neg c3, if_neg c4]; try decide
theorem own_no4 (w0 w1 w2 w3 : Int32) (h : ¬ w0 = (40 : Int32)) : F1k4 w0 w1 w2 w3 = (-1 : Int32) := by simp only [F1k4, if_neg h]
theorem own_yes4 (w0 w1 w2 w3 u v : Int32) (h : w0 = (40 : Int32)) (hu : u = (if w1 = (41 : Int32) then (1 : Int32) else (if w2 = (41 : Int32) then (2 : Int32) else (if w3 = (41 : Int32) then (3 : Int32) else (-1 : Int32))))) (hv : v = (if u < (2 : Int32) then (-1 : Int32) else u)) : F1k4 w0 w1 w2 w3 = v := by
  subst hv hu
  by_cases c1 : w1 = (41 : Int32)
  · simp only [F1k4, if_pos h, if_pos c1]; try decide
  · skip
    by_cases c2 : w2 = (41 : Int32)
    · simp only [F1k4, if_pos h, if_neg c1, if_pos c2]; try decide
    · skip
      by_cases c3 : w3 = (41 : Int32)
      · simp only [F1k4, if_pos h, if_neg c1, if_neg c2, if_pos c3]; try decide
      · simp only [F1k4, if_pos h, if_neg c1, if_neg c2, if_neg c3]; try decide
theorem own_no3 (w0 w1 w2 : Int32) (h : ¬ w0 = (40 : Int32)) : F1k3 w0 w1 w2 = (-1 : Int32) := by simp only [F1k3, if_neg h]
theorem own_yes3 (w0 w1 w2 u v : Int32) (h : w0 = (40 : Int32)) (hu : u = (if w1 = (41 : Int32) then (1 : Int32) else (if w2 = (41 : Int32) then (2 : Int32) else (-1 : Int32)))) (hv : v = (if u < (2 : Int32) then (-1 : Int32) else u)) : F1k3 w0 w1 w2 = v := by
  subst hv hu
  by_cases c1 : w1 = (41 : Int32)
  · simp only [F1k3, if_pos h, if_pos c1]; try decide
  · skip
    by_cases c2 : w2 = (41 : Int32)
    · simp only [F1k3, if_pos h, if_neg c1, if_pos c2]; try decide
    · simp only [F1k3, if_pos h, if_neg c1, if_neg c2]; try decide
theorem own_no2 (w0 w1 : Int32) (h : ¬ w0 = (40 : Int32)) : F1k2 w0 w1 = (-1 : Int32) := by simp only [F1k2, if_neg h]
theorem own_yes2 (w0 w1 u v : Int32) (h : w0 = (40 : Int32)) (hu : u = (if w1 = (41 : Int32) then (1 : Int32) else (-1 : Int32))) (hv : v = (if u < (2 : Int32) then (-1 : Int32) else u)) : F1k2 w0 w1 = v := by
  subst hv hu
  by_cases c1 : w1 = (41 : Int32)
  · simp only [F1k2, if_pos h, if_pos c1]; try decide
  · simp only [F1k2, if_pos h, if_neg c1]; try decide
theorem own_no1 (w0 : Int32) (h : ¬ w0 = (40 : Int32)) : F1k1 w0 = (-1 : Int32) := by simp only [F1k1, if_neg h]
theorem own_yes1 (w0 : Int32) (h : w0 = (40 : Int32)) : F1k1 w0 = (-1 : Int32) := by simp only [F1k1, if_pos h]
theorem pn_0 : plainName "com/example/tallyfield/tallyfield/control/ControlNumbersCodeEndPinLaw" = true := by first | (simp [plainName, overriddenIn]; done) | decide +kernel
theorem ef_0 (m : MethodId) (p0 : Int32) (p1 : Int32) (q2 : Int64) : entryFrame m #[(.int p0), (.int p1), (.long q2)] maxLocals = mkF m 0 #[iv p0, iv p1, .val (.long q2), .second, .unset, .unset, .unset, .unset] [] := by first | (simp [entryFrame, mkF, argsToLocals, Value.category, maxLocals]; done) | rfl
def Q0 (Z : State) (p0 : Int32) (p1 : Int32) (q2 : Int64) (h0 : Heap) (n0 : Nat) (v : Option Value) (h : Heap) (L : List Loc) : Prop := v = some (.int 1) ∧ Fr n0 L
set_option maxRecDepth 65536 in
set_option maxHeartbeats 40000000 in
theorem rm0 (l : Launch) (Z : State) (a0 : Array Value) (hw : ∀ d ∈ tables_1, d.before a0 Z = true) (ws : List Jvm.Cond) (p0 : Int32) (p1 : Int32) (q2 : Int64) (h0 : Heap) (n0 : Nat) (Z0 : n0 ≤ h0.size) :
    MetFree l x (head1 (Jvm.Cond.code x code maxLocals ret :: ws) room_1) (fun a U => a = #[(.int p0), (.int p1), (.long q2)] ∧ Z.Warmed39 U.vm ∧ U.heap = h0) (fun _ _ _ _ _ => True) (fun _ U o U' => ∃ v L, o = .returned v ∧ Q0 Z p0 p1 q2 h0 n0 v U'.heap L ∧ FrameEnd U o U' L 16 128) := by
  refine MetFree.of_bodySF (plainFor_of_name pn_0) hisR ?_
  intro p e s m args below meth c s₁ Bd hml0 hP hK
  obtain ⟨rfl, hZ, hh⟩ := hP
  have hx := Bd.exec
  have hby := Bd.bytes
  have hml : c.maxLocals = 8 := hml0
  have hown : s.vm.findClass "com/example/tallyfield/tallyfield/control/ControlNumbersCodeEndPinLaw" = some m.cls := findClass_of_methodNamed Bd.named
  have hnm := (name_of_methodNamed Bd.named Bd.method).1
  have hlk : meth.locks = false := Bd.notSynchronized
  have X0 : Stand p l e room_1 s m #[(.int p0), (.int p1), (.long q2)] below meth c s₁ [] 0 0 := Stand.of_body Bd
  have e0 : s₁.heap = h0 := by rw [← hh, Bd.state]; rfl
  have N0 := Fr.nil n0
  have KK0 := Keep.refl h0 []
  show own_Go p.tables e below s 16 128 (Q0 Z p0 p1 q2 h0 n0) (s₁.setTop (entryFrame m #[(.int p0), (.int p1), (.long q2)] maxLocals))
  rw [ef_0]
  refine own_step (U' := s₁.setTop (mkF m 4 #[iv p0, iv p1, .val (.long q2), .second, .unset, .unset, .unset, .unset] [(.int (p0 &&& (7 : Int32)))])) (fun t k => XS.iloadN X0.here hx rfl (hb hby at_0) rfl (XS.bipush X0.here hx rfl (hb hby at_1) (XS.iand X0.here hx rfl (hb hby at_3) rfl k))) ?_
  rcases own_n p0 with hn0 | hn1 | hn2 | hn3 | hn4 | hn5 | hn6 | hn7
  · rw [hn0]
    refine own_step (U' := s₁.setTop (mkF m 8 #[iv p0, iv p1, .val (.long q2), .second, iv (0 : Int32), .unset, .unset, .unset] [(.int (0 : Int32))])) (fun t k => XS.istore X0.here hx rfl (hb hby at_4) rfl (l' := #[iv p0, iv p1, .val (.long q2), .second, iv (0 : Int32), .unset, .unset, .unset]) rfl (XS.iload X0.here hx rfl (hb hby at_6) rfl k)) ?_
    obtain ⟨T1, h1, k1, X1, e1, E1, A1, st1⟩ := newP X0 hx hZ (own_w hw 0 rfl) e0 (g := (mkF m 8 #[iv p0, iv p1, .val (.long q2), .second, iv (0 : Int32), .unset, .unset, .unset] [(.int (0 : Int32))])) rfl (hb hby at_8) rfl (by decide) (cap := 0) (by decide) (by decide) (by decide) (by decide)
    obtain ⟨b1, g1⟩ : ∃ z, z = h0.size := ⟨_, rfl⟩
    have ge_b1 : n0 ≤ b1 := Nat.le_trans Z0 (Nat.le_of_eq g1.symm)
    have sz_b1 : h0.size ≤ b1 := Nat.le_trans KK0.1 (Nat.le_of_eq g1.symm)
    rw [← g1] at A1 st1
    have V_b1 : Arv Z h1 b1 k1 .byte (0 : Int32) [] (.int (0 : Int32)) := (Arv.new A1 (by decide)).pad (pad_rep [] (.int (0 : Int32)) 0)
    have Z1 : n0 ≤ h1.size := Nat.le_trans Z0 E1.1
    have KK1 := KK0.ext E1
    refine own_step (U' := T1.setTop (mkF m 10 #[iv p0, iv p1, .val (.long q2), .second, iv (0 : Int32), .unset, .unset, .unset] [(.ref b1)])) st1 ?_
    refine own_step (U' := T1.setTop (mkF m 46 #[iv p0, iv p1, .val (.long q2), .second, iv (0 : Int32), rv b1, .unset, .unset] [(.int (2 : Int32)), (.int (0 : Int32))])) (fun t k => XS.astore X1.here hx rfl (hb hby at_10) rfl rfl (l' := #[iv p0, iv p1, .val (.long q2), .second, iv (0 : Int32), rv b1, .unset, .unset]) rfl (XS.iload X1.here hx rfl (hb hby at_12) rfl (XS.ifYes X1.here hx rfl (pc0 := 14) (pc' := 27) rfl (hb hby at_14) rfl (by decide) (by decide) (by decide) (XS.iload X1.here hx rfl (hb hby at_27) rfl (XS.iconst X1.here hx rfl (hb hby at_29) (XS.icmpYes X1.here hx rfl (pc0 := 30) (pc' := 43) rfl (hb hby at_30) rfl (by decide) (by decide) (by decide) (XS.iload X1.here hx rfl (hb hby at_43) rfl (XS.iconst X1.here hx rfl (hb hby at_45) k)))))))) ?_
    refine own_step (U' := T1.setTop (mkF m 93 #[iv p0, iv p1, .val (.long q2), .second, iv (0 : Int32), rv b1, .unset, .unset] [(.int (0 : Int32))])) (fun t k => XS.icmpYes X1.here hx rfl (pc0 := 46) (pc' := 59) rfl (hb hby at_46) rfl (by decide) (by decide) (by decide) (XS.iload X1.here hx rfl (hb hby at_59) rfl (XS.iconst X1.here hx rfl (hb hby at_61) (XS.icmpYes X1.here hx rfl (pc0 := 62) (pc' := 75) rfl (hb hby at_62) rfl (by decide) (by decide) (by decide) (XS.iload X1.here hx rfl (hb hby at_75) rfl (XS.iconst X1.here hx rfl (hb hby at_77) (XS.icmpYes X1.here hx rfl (pc0 := 78) (pc' := 91) rfl (hb hby at_78) rfl (by decide) (by decide) (by decide) (XS.iload X1.here hx rfl (hb hby at_91) rfl k)))))))) ?_
    refine own_step (U' := T1.setTop (mkF m 141 #[iv p0, iv p1, .val (.long q2), .second, iv (0 : Int32), rv b1, .unset, .unset] [(.int (-1 : Int32))])) (fun t k => XS.iconst X1.here hx rfl (hb hby at_93) (XS.icmpYes X1.here hx rfl (pc0 := 94) (pc' := 107) rfl (hb hby at_94) rfl (by decide) (by decide) (by decide) (XS.iload X1.here hx rfl (hb hby at_107) rfl (XS.bipush X1.here hx rfl (hb hby at_109) (XS.icmpYes X1.here hx rfl (pc0 := 111) (pc' := 126) rfl (hb hby at_111) rfl (by decide) (by decide) (by decide) (XS.iload X1.here hx rfl (hb hby at_126) rfl (XS.ifYes X1.here hx rfl (pc0 := 128) (pc' := 140) rfl (hb hby at_128) rfl (by decide) (by decide) (by decide) (XS.iconst X1.here hx rfl (hb hby at_140) k)))))))) ?_
    refine own_step (U' := T1.setTop (mkF m 291 #[iv p0, iv p1, .val (.long q2), .second, iv (0 : Int32), rv b1, iv (-1 : Int32), .unset] [(.ref b1)])) (fun t k => XS.istore X1.here hx rfl (hb hby at_141) rfl (l' := #[iv p0, iv p1, .val (.long q2), .second, iv (0 : Int32), rv b1, iv (-1 : Int32), .unset]) rfl (XS.goto X1.here hx rfl (pc0 := 143) (pc' := 289) rfl (hb hby at_143) (by decide) (by decide) (XS.aload X1.here hx rfl (hb hby at_289) rfl rfl k))) ?_
    obtain ⟨_, _, ⟨T2, L2, k2, n2⟩, -, X2, ⟨Lc2, hQ2, l2, y2, z2⟩, st2⟩ := Jvm.LawKit.callS X1 hx (y := (⟨"com/example/tallyfield/tallyfield/control/ControlNumbers", "codeEnd", "([B)I"⟩ : MethodName)) hown (mvT hZ (own_w hw 1 rfl)) (mvT hZ (own_w hw 2 rfl)) (mvT hZ (own_w hw 3 rfl)) (mvT hZ (own_w hw 4 rfl)) (by decide) (backOf (W := 0) (rm1k0 l Z a0 hw [] b1 k1 h1 n0 Z1 V_b1) hZ (own_w hw 4 rfl) (own_w hw 3 rfl) (by decide) (by decide)) (g := (mkF m 291 #[iv p0, iv p1, .val (.long q2), .second, iv (0 : Int32), rv b1, iv (-1 : Int32), .unset] [(.ref b1)])) rfl (by rw [hml]; rfl) (argsL := [(.ref b1)]) (rest := []) (lenOf pd___B_I rfl) rfl (by show 2 * 0 + _ ≤ _; exact Nat.le_of_eq rfl) (hb hby at_291) (fun _ _ => ⟨rfl, e1, (by decide : 1 + 0 ≤ _), (by decide : 0 + 0 ≤ _)⟩)
    dsimp only [Pt.U, Pt.locs, Pt.cells, Pt.slots] at X2 l2 y2 z2 st2 hQ2
    subst l2 y2 z2
    obtain ⟨rfl, N2q, eq2⟩ := hQ2
    have N2 := Fr.app N0 N2q
    refine own_step (U' := T2.setTop (mkF m 294 #[iv p0, iv p1, .val (.long q2), .second, iv (0 : Int32), rv b1, iv (-1 : Int32), .unset] [(.int F1k0)])) st2 ?_
    refine own_step (U' := T2.setTop (mkF m 304 #[iv p0, iv p1, .val (.long q2), .second, iv (0 : Int32), rv b1, iv (-1 : Int32), .unset] [(.int (1 : Int32))])) (fun t k => XS.iload X2.here hx rfl (hb hby at_294) rfl (XS.icmpNo X2.here hx rfl (hb hby at_296) rfl (teq (rfl : F1k0 = (-1 : Int32))).2 (XS.iconst X2.here hx rfl (hb hby at_299) (XS.goto X2.here hx rfl (pc0 := 300) (pc' := 304) rfl (hb hby at_300) (by decide) (by decide) k)))) ?_
    exact own_out X2 (v := (some (.int (1 : Int32)))) hlk (own_nv Bd.returns) (by rw [eq2]; exact ⟨rfl, N2⟩) (by decide) (by decide) (fun fs hr => retN X2 hx (t := .boolean) Bd.returns (by simp) (hb hby at_304) hr)
  · rw [hn1]
    refine own_step (U' := s₁.setTop (mkF m 8 #[iv p0, iv p1, .val (.long q2), .second, iv (1 : Int32), .unset, .unset, .unset] [(.int (1 : Int32))])) (fun t k => XS.istore X0.here hx rfl (hb hby at_4) rfl (l' := #[iv p0, iv p1, .val (.long q2), .second, iv (1 : Int32), .unset, .unset, .unset]) rfl (XS.iload X0.here hx rfl (hb hby at_6) rfl k)) ?_
    obtain ⟨T3, h3, k3, X3, e3, E3, A3, st3⟩ := newP X0 hx hZ (own_w hw 0 rfl) e0 (g := (mkF m 8 #[iv p0, iv p1, .val (.long q2), .second, iv (1 : Int32), .unset, .unset, .unset] [(.int (1 : Int32))])) rfl (hb hby at_8) rfl (by decide) (cap := 1) (by decide) (by decide) (by decide) (by decide)
    obtain ⟨b3, g3⟩ : ∃ z, z = h0.size := ⟨_, rfl⟩
    have ge_b3 : n0 ≤ b3 := Nat.le_trans Z0 (Nat.le_of_eq g3.symm)
    have sz_b3 : h0.size ≤ b3 := Nat.le_trans KK0.1 (Nat.le_of_eq g3.symm)
    rw [← g3] at A3 st3
    have V_b3 : Arv Z h3 b3 k3 .byte (1 : Int32) [(.int (0 : Int32))] (.int (0 : Int32)) := (Arv.new A3 (by decide)).pad (pad_rep [] (.int (0 : Int32)) 1)
    have Z3 : n0 ≤ h3.size := Nat.le_trans Z0 E3.1
    have KK3 := KK0.ext E3
    refine own_step (U' := T3.setTop (mkF m 10 #[iv p0, iv p1, .val (.long q2), .second, iv (1 : Int32), .unset, .unset, .unset] [(.ref b3)])) st3 ?_
    refine own_step (U' := T3.setTop (mkF m 23 #[iv p0, iv p1, .val (.long q2), .second, iv (1 : Int32), rv b3, .unset, .unset] [(.int (0 : Int32)), (.long q2), (.int p1), (.int (0 : Int32)), (.ref b3)])) (fun t k => XS.astore X3.here hx rfl (hb hby at_10) rfl rfl (l' := #[iv p0, iv p1, .val (.long q2), .second, iv (1 : Int32), rv b3, .unset, .unset]) rfl (XS.iload X3.here hx rfl (hb hby at_12) rfl (XS.ifNo X3.here hx rfl (hb hby at_14) rfl (by decide) (XS.aload X3.here hx rfl (hb hby at_17) rfl rfl (XS.iconst X3.here hx rfl (hb hby at_19) (XS.iloadN X3.here hx rfl (hb hby at_20) rfl (XS.lloadN X3.here hx rfl (hb hby at_21) rfl (XS.iconst X3.here hx rfl (hb hby at_22) k)))))))) ?_
    obtain ⟨_, _, ⟨T4, L4, k4, n4⟩, -, X4, ⟨Lc4, hQ4, l4, y4, z4⟩, st4⟩ := Jvm.LawKit.callS X3 hx (y := (⟨"com/example/tallyfield/tallyfield/control/ControlNumbersCodeEndPinLaw", "pick", "(IJI)B"⟩ : MethodName)) hown (mvT hZ (own_w hw 5 rfl)) (mvT hZ (own_w hw 6 rfl)) (mvT hZ (own_w hw 7 rfl)) (mvT hZ (own_w hw 8 rfl)) (by decide) (backOf (W := 2) (rm2 l Z a0 hw [] p1 q2 (0 : Int32) h3 n0 Z3) hZ (own_w hw 8 rfl) (own_w hw 7 rfl) (by decide) (by decide)) (g := (mkF m 23 #[iv p0, iv p1, .val (.long q2), .second, iv (1 : Int32), rv b3, .unset, .unset] [(.int (0 : Int32)), (.long q2), (.int p1), (.int (0 : Int32)), (.ref b3)])) rfl (by rw [hml]; rfl) (argsL := [(.int p1), (.long q2), (.int (0 : Int32))]) (rest := [(.int (0 : Int32)), (.ref b3)]) (lenOf pd__IJI_B rfl) rfl (by show 2 * 0 + _ ≤ _; exact Nat.le_of_eq rfl) (hb hby at_23) (fun _ _ => ⟨rfl, e3, (by decide : 1 + 0 ≤ _), (by decide : 1 + 0 ≤ _)⟩)
    dsimp only [Pt.U, Pt.locs, Pt.cells, Pt.slots] at X4 l4 y4 z4 st4 hQ4
    subst l4 y4 z4
    obtain ⟨rfl, N4q, eq4⟩ := hQ4
    have N4 := Fr.app N0 N4q
    refine own_step (U' := T4.setTop (mkF m 26 #[iv p0, iv p1, .val (.long q2), .second, iv (1 : Int32), rv b3, .unset, .unset] [(.int (F2 p1 q2 (0 : Int32))), (.int (0 : Int32)), (.ref b3)])) st4 ?_
    obtain ⟨cl5, Ar5, aq5, aS5, aN5, aH5, aG5⟩ := id V_b3
    have hin5 : ¬ ((0 : Int32) < 0 ∨ cl5.slots.size ≤ ((0 : Int32)).toNatClampNeg) := inb_of aS5 ⟨by decide, by decide⟩
    obtain ⟨T5, h5, X5, e5, W5, st5⟩ := stB X4 hx hZ eq4 Ar5 (j := (0 : Int32)) hin5 (g := (mkF m 26 #[iv p0, iv p1, .val (.long q2), .second, iv (1 : Int32), rv b3, .unset, .unset] [(.int (F2 p1 q2 (0 : Int32))), (.int (0 : Int32)), (.ref b3)])) rfl rfl (hb hby at_26)
    have V_b3_5 : Arv Z h5 b3 k3 .byte (1 : Int32) [(.int (nar .byte (F2 p1 q2 (0 : Int32))))] (.int (0 : Int32)) := Arv.set Ar5 aq5 aS5 aN5 aH5 aG5 (fits_nar_byte _) W5 0 rfl (Nat.le_of_ble_eq_true rfl)
    have Z5 : n0 ≤ h5.size := Nat.le_trans Z3 (Keep.of_wr W5).1
    have KK5 := KK3.wr W5 (Or.inr sz_b3)
    have N5 := Fr.snoc X5 N4 ge_b3
    refine own_step (U' := T5.setTop (mkF m 27 #[iv p0, iv p1, .val (.long q2), .second, iv (1 : Int32), rv b3, .unset, .unset] [])) st5 ?_
    refine own_step (U' := T5.setTop (mkF m 62 #[iv p0, iv p1, .val (.long q2), .second, iv (1 : Int32), rv b3, .unset, .unset] [(.int (3 : Int32)), (.int (1 : Int32))])) (fun t k => XS.iload X5.here hx rfl (hb hby at_27) rfl (XS.iconst X5.here hx rfl (hb hby at_29) (XS.icmpYes X5.here hx rfl (pc0 := 30) (pc' := 43) rfl (hb hby at_30) rfl (by decide) (by decide) (by decide) (XS.iload X5.here hx rfl (hb hby at_43) rfl (XS.iconst X5.here hx rfl (hb hby at_45) (XS.icmpYes X5.here hx rfl (pc0 := 46) (pc' := 59) rfl (hb hby at_46) rfl (by decide) (by decide) (by decide) (XS.iload X5.here hx rfl (hb hby at_59) rfl (XS.iconst X5.here hx rfl (hb hby at_61) k)))))))) ?_
    refine own_step (U' := T5.setTop (mkF m 109 #[iv p0, iv p1, .val (.long q2), .second, iv (1 : Int32), rv b3, .unset, .unset] [(.int (1 : Int32))])) (fun t k => XS.icmpYes X5.here hx rfl (pc0 := 62) (pc' := 75) rfl (hb hby at_62) rfl (by decide) (by decide) (by decide) (XS.iload X5.here hx rfl (hb hby at_75) rfl (XS.iconst X5.here hx rfl (hb hby at_77) (XS.icmpYes X5.here hx rfl (pc0 := 78) (pc' := 91) rfl (hb hby at_78) rfl (by decide) (by decide) (by decide) (XS.iload X5.here hx rfl (hb hby at_91) rfl (XS.iconst X5.here hx rfl (hb hby at_93) (XS.icmpYes X5.here hx rfl (pc0 := 94) (pc' := 107) rfl (hb hby at_94) rfl (by decide) (by decide) (by decide) (XS.iload X5.here hx rfl (hb hby at_107) rfl k)))))))) ?_
    refine own_step (U' := T5.setTop (mkF m 134 #[iv p0, iv p1, .val (.long q2), .second, iv (1 : Int32), rv b3, .unset, .unset] [(.int (0 : Int32)), (.ref b3)])) (fun t k => XS.bipush X5.here hx rfl (hb hby at_109) (XS.icmpYes X5.here hx rfl (pc0 := 111) (pc' := 126) rfl (hb hby at_111) rfl (by decide) (by decide) (by decide) (XS.iload X5.here hx rfl (hb hby at_126) rfl (XS.ifNo X5.here hx rfl (hb hby at_128) rfl (by decide) (XS.aload X5.here hx rfl (hb hby at_131) rfl rfl (XS.iconst X5.here hx rfl (hb hby at_133) k)))))) ?_
    obtain ⟨cl6, Ar6, aq6, aS6, aN6, aH6, aG6⟩ := id V_b3_5
    have hin6 : ¬ ((0 : Int32) < 0 ∨ cl6.slots.size ≤ ((0 : Int32)).toNatClampNeg) := inb_of aS6 ⟨by decide, by decide⟩
    have hat6 : cl6.slots[((0 : Int32)).toNatClampNeg]? = some (.int (nar .byte (F2 p1 q2 (0 : Int32)))) := aH6.at hin6 rfl
    refine own_step (U' := T5.setTop (mkF m 137 #[iv p0, iv p1, .val (.long q2), .second, iv (1 : Int32), rv b3, .unset, .unset] [(.int (40 : Int32)), (.int (nar .byte (F2 p1 q2 (0 : Int32))))])) (fun t k => X5.baloadBytes hx (j := (0 : Int32)) (v := (.int (nar .byte (F2 p1 q2 (0 : Int32))))) (by rw [e5]; exact Ar6.1) (State.isArrayOf_alike hZ.alike Ar6.2.1) Ar6.2.2 hin6 hat6 (g := (mkF m 134 #[iv p0, iv p1, .val (.long q2), .second, iv (1 : Int32), rv b3, .unset, .unset] [(.int (0 : Int32)), (.ref b3)])) rfl rfl (hb hby at_134) t (XS.bipush X5.here hx rfl (hb hby at_135) k)) ?_
    by_cases hc137_7 : (nar .byte (F2 p1 q2 (0 : Int32))) = (40 : Int32)
    · refine own_step (U' := T5.setTop (mkF m 173 #[iv p0, iv p1, .val (.long q2), .second, iv (1 : Int32), rv b3, .unset, iv (-1 : Int32)] [(.int (2 : Int32)), (.int (1 : Int32))])) (fun t k => XS.icmpYes X5.here hx rfl (pc0 := 137) (pc' := 146) rfl (hb hby at_137) rfl (teq hc137_7).1 (by decide) (by decide) (XS.iconst X5.here hx rfl (hb hby at_146) (XS.istore X5.here hx rfl (hb hby at_147) rfl (l' := #[iv p0, iv p1, .val (.long q2), .second, iv (1 : Int32), rv b3, .unset, iv (-1 : Int32)]) rfl (XS.iload X5.here hx rfl (hb hby at_149) rfl (XS.iconst X5.here hx rfl (hb hby at_151) (XS.icmpYes X5.here hx rfl (pc0 := 152) (pc' := 170) rfl (hb hby at_152) rfl (by decide) (by decide) (by decide) (XS.iload X5.here hx rfl (hb hby at_170) rfl (XS.iconst X5.here hx rfl (hb hby at_172) k)))))))) ?_
      refine own_step (U' := T5.setTop (mkF m 235 #[iv p0, iv p1, .val (.long q2), .second, iv (1 : Int32), rv b3, .unset, iv (-1 : Int32)] [(.int (1 : Int32))])) (fun t k => XS.icmpYes X5.here hx rfl (pc0 := 173) (pc' := 191) rfl (hb hby at_173) rfl (by decide) (by decide) (by decide) (XS.iload X5.here hx rfl (hb hby at_191) rfl (XS.iconst X5.here hx rfl (hb hby at_193) (XS.icmpYes X5.here hx rfl (pc0 := 194) (pc' := 212) rfl (hb hby at_194) rfl (by decide) (by decide) (by decide) (XS.iload X5.here hx rfl (hb hby at_212) rfl (XS.iconst X5.here hx rfl (hb hby at_214) (XS.icmpYes X5.here hx rfl (pc0 := 215) (pc' := 233) rfl (hb hby at_215) rfl (by decide) (by decide) (by decide) (XS.iload X5.here hx rfl (hb hby at_233) rfl k)))))))) ?_
      refine own_step (U' := T5.setTop (mkF m 286 #[iv p0, iv p1, .val (.long q2), .second, iv (1 : Int32), rv b3, .unset, iv (-1 : Int32)] [])) (fun t k => XS.iconst X5.here hx rfl (hb hby at_235) (XS.icmpYes X5.here hx rfl (pc0 := 236) (pc' := 254) rfl (hb hby at_236) rfl (by decide) (by decide) (by decide) (XS.iload X5.here hx rfl (hb hby at_254) rfl (XS.bipush X5.here hx rfl (hb hby at_256) (XS.icmpYes X5.here hx rfl (pc0 := 258) (pc' := 275) rfl (hb hby at_258) rfl (by decide) (by decide) (by decide) (XS.iload X5.here hx rfl (hb hby at_275) rfl (XS.iconst X5.here hx rfl (hb hby at_277) (XS.icmpYes X5.here hx rfl (pc0 := 278) (pc' := 286) rfl (hb hby at_278) rfl (by decide) (by decide) (by decide) k)))))))) ?_
      refine own_step (U' := T5.setTop (mkF m 291 #[iv p0, iv p1, .val (.long q2), .second, iv (1 : Int32), rv b3, iv (-1 : Int32), iv (-1 : Int32)] [(.ref b3)])) (fun t k => XS.iconst X5.here hx rfl (hb hby at_286) (XS.istore X5.here hx rfl (hb hby at_287) rfl (l' := #[iv p0, iv p1, .val (.long q2), .second, iv (1 : Int32), rv b3, iv (-1 : Int32), iv (-1 : Int32)]) rfl (XS.aload X5.here hx rfl (hb hby at_289) rfl rfl k))) ?_
      obtain ⟨_, _, ⟨T8, L8, k8, n8⟩, -, X8, ⟨Lc8, hQ8, l8, y8, z8⟩, st8⟩ := Jvm.LawKit.callS X5 hx (y := (⟨"com/example/tallyfield/tallyfield/control/ControlNumbers", "codeEnd", "([B)I"⟩ : MethodName)) hown (mvT hZ (own_w hw 1 rfl)) (mvT hZ (own_w hw 2 rfl)) (mvT hZ (own_w hw 3 rfl)) (mvT hZ (own_w hw 4 rfl)) (by decide) (backOf (W := 0) (rm1k1 l Z a0 hw [] b3 (nar .byte (F2 p1 q2 (0 : Int32))) k3 h5 n0 Z5 V_b3_5) hZ (own_w hw 4 rfl) (own_w hw 3 rfl) (by decide) (by decide)) (g := (mkF m 291 #[iv p0, iv p1, .val (.long q2), .second, iv (1 : Int32), rv b3, iv (-1 : Int32), iv (-1 : Int32)] [(.ref b3)])) rfl (by rw [hml]; rfl) (argsL := [(.ref b3)]) (rest := []) (lenOf pd___B_I rfl) rfl (by show 2 * 0 + _ ≤ _; exact Nat.le_of_eq rfl) (hb hby at_291) (fun _ _ => ⟨rfl, e5, (by decide : 1 + 0 ≤ _), (by decide : 1 + 0 ≤ _)⟩)
      dsimp only [Pt.U, Pt.locs, Pt.cells, Pt.slots] at X8 l8 y8 z8 st8 hQ8
      subst l8 y8 z8
      obtain ⟨rfl, N8q, eq8⟩ := hQ8
      have N8 := Fr.app N5 N8q
      refine own_step (U' := T8.setTop (mkF m 294 #[iv p0, iv p1, .val (.long q2), .second, iv (1 : Int32), rv b3, iv (-1 : Int32), iv (-1 : Int32)] [(.int (F1k1 (nar .byte (F2 p1 q2 (0 : Int32)))))])) st8 ?_
      refine own_step (U' := T8.setTop (mkF m 304 #[iv p0, iv p1, .val (.long q2), .second, iv (1 : Int32), rv b3, iv (-1 : Int32), iv (-1 : Int32)] [(.int (1 : Int32))])) (fun t k => XS.iload X8.here hx rfl (hb hby at_294) rfl (XS.icmpNo X8.here hx rfl (hb hby at_296) rfl (teq (own_yes1 _ hc137_7)).2 (XS.iconst X8.here hx rfl (hb hby at_299) (XS.goto X8.here hx rfl (pc0 := 300) (pc' := 304) rfl (hb hby at_300) (by decide) (by decide) k)))) ?_
      exact own_out X8 (v := (some (.int (1 : Int32)))) hlk (own_nv Bd.returns) (by rw [eq8]; exact ⟨rfl, N8⟩) (by decide) (by decide) (fun fs hr => retN X8 hx (t := .boolean) Bd.returns (by simp) (hb hby at_304) hr)
    · refine own_step (U' := T5.setTop (mkF m 291 #[iv p0, iv p1, .val (.long q2), .second, iv (1 : Int32), rv b3, iv (-1 : Int32), .unset] [(.ref b3)])) (fun t k => XS.icmpNo X5.here hx rfl (hb hby at_137) rfl (feq hc137_7).1 (XS.iconst X5.here hx rfl (hb hby at_140) (XS.istore X5.here hx rfl (hb hby at_141) rfl (l' := #[iv p0, iv p1, .val (.long q2), .second, iv (1 : Int32), rv b3, iv (-1 : Int32), .unset]) rfl (XS.goto X5.here hx rfl (pc0 := 143) (pc' := 289) rfl (hb hby at_143) (by decide) (by decide) (XS.aload X5.here hx rfl (hb hby at_289) rfl rfl k))))) ?_
      obtain ⟨_, _, ⟨T9, L9, k9, n9⟩, -, X9, ⟨Lc9, hQ9, l9, y9, z9⟩, st9⟩ := Jvm.LawKit.callS X5 hx (y := (⟨"com/example/tallyfield/tallyfield/control/ControlNumbers", "codeEnd", "([B)I"⟩ : MethodName)) hown (mvT hZ (own_w hw 1 rfl)) (mvT hZ (own_w hw 2 rfl)) (mvT hZ (own_w hw 3 rfl)) (mvT hZ (own_w hw 4 rfl)) (by decide) (backOf (W := 0) (rm1k1 l Z a0 hw [] b3 (nar .byte (F2 p1 q2 (0 : Int32))) k3 h5 n0 Z5 V_b3_5) hZ (own_w hw 4 rfl) (own_w hw 3 rfl) (by decide) (by decide)) (g := (mkF m 291 #[iv p0, iv p1, .val (.long q2), .second, iv (1 : Int32), rv b3, iv (-1 : Int32), .unset] [(.ref b3)])) rfl (by rw [hml]; rfl) (argsL := [(.ref b3)]) (rest := []) (lenOf pd___B_I rfl) rfl (by show 2 * 0 + _ ≤ _; exact Nat.le_of_eq rfl) (hb hby at_291) (fun _ _ => ⟨rfl, e5, (by decide : 1 + 0 ≤ _), (by decide : 1 + 0 ≤ _)⟩)
      dsimp only [Pt.U, Pt.locs, Pt.cells, Pt.slots] at X9 l9 y9 z9 st9 hQ9
      subst l9 y9 z9
      obtain ⟨rfl, N9q, eq9⟩ := hQ9
      have N9 := Fr.app N5 N9q
      refine own_step (U' := T9.setTop (mkF m 294 #[iv p0, iv p1, .val (.long q2), .second, iv (1 : Int32), rv b3, iv (-1 : Int32), .unset] [(.int (F1k1 (nar .byte (F2 p1 q2 (0 : Int32)))))])) st9 ?_
      refine own_step (U' := T9.setTop (mkF m 304 #[iv p0, iv p1, .val (.long q2), .second, iv (1 : Int32), rv b3, iv (-1 : Int32), .unset] [(.int (1 : Int32))])) (fun t k => XS.iload X9.here hx rfl (hb hby at_294) rfl (XS.icmpNo X9.here hx rfl (hb hby at_296) rfl (teq (own_no1 _ hc137_7)).2 (XS.iconst X9.here hx rfl (hb hby at_299) (XS.goto X9.here hx rfl (pc0 := 300) (pc' := 304) rfl (hb hby at_300) (by decide) (by decide) k)))) ?_
      exact own_out X9 (v := (some (.int (1 : Int32)))) hlk (own_nv Bd.returns) (by rw [eq9]; exact ⟨rfl, N9⟩) (by decide) (by decide) (fun fs hr => retN X9 hx (t := .boolean) Bd.returns (by simp) (hb hby at_304) hr)
  · rw [hn2]
    refine own_step (U' := s₁.setTop (mkF m 8 #[iv p0, iv p1, .val (.long q2), .second, iv (2 : Int32), .unset, .unset, .unset] [(.int (2 : Int32))])) (fun t k => XS.istore X0.here hx rfl (hb hby at_4) rfl (l' := #[iv p0, iv p1, .val (.long q2), .second, iv (2 : Int32), .unset, .unset, .unset]) rfl (XS.iload X0.here hx rfl (hb hby at_6) rfl k)) ?_
    obtain ⟨T10, h10, k10, X10, e10, E10, A10, st10⟩ := newP X0 hx hZ (own_w hw 0 rfl) e0 (g := (mkF m 8 #[iv p0, iv p1, .val (.long q2), .second, iv (2 : Int32), .unset, .unset, .unset] [(.int (2 : Int32))])) rfl (hb hby at_8) rfl (by decide) (cap := 2) (by decide) (by decide) (by decide) (by decide)
    obtain ⟨b10, g10⟩ : ∃ z, z = h0.size := ⟨_, rfl⟩
    have ge_b10 : n0 ≤ b10 := Nat.le_trans Z0 (Nat.le_of_eq g10.symm)
    have sz_b10 : h0.size ≤ b10 := Nat.le_trans KK0.1 (Nat.le_of_eq g10.symm)
    rw [← g10] at A10 st10
    have V_b10 : Arv Z h10 b10 k10 .byte (2 : Int32) [(.int (0 : Int32)), (.int (0 : Int32))] (.int (0 : Int32)) := (Arv.new A10 (by decide)).pad (pad_rep [] (.int (0 : Int32)) 2)
    have Z10 : n0 ≤ h10.size := Nat.le_trans Z0 E10.1
    have KK10 := KK0.ext E10
    refine own_step (U' := T10.setTop (mkF m 10 #[iv p0, iv p1, .val (.long q2), .second, iv (2 : Int32), .unset, .unset, .unset] [(.ref b10)])) st10 ?_
    refine own_step (U' := T10.setTop (mkF m 23 #[iv p0, iv p1, .val (.long q2), .second, iv (2 : Int32), rv b10, .unset, .unset] [(.int (0 : Int32)), (.long q2), (.int p1), (.int (0 : Int32)), (.ref b10)])) (fun t k => XS.astore X10.here hx rfl (hb hby at_10) rfl rfl (l' := #[iv p0, iv p1, .val (.long q2), .second, iv (2 : Int32), rv b10, .unset, .unset]) rfl (XS.iload X10.here hx rfl (hb hby at_12) rfl (XS.ifNo X10.here hx rfl (hb hby at_14) rfl (by decide) (XS.aload X10.here hx rfl (hb hby at_17) rfl rfl (XS.iconst X10.here hx rfl (hb hby at_19) (XS.iloadN X10.here hx rfl (hb hby at_20) rfl (XS.lloadN X10.here hx rfl (hb hby at_21) rfl (XS.iconst X10.here hx rfl (hb hby at_22) k)))))))) ?_
    obtain ⟨_, _, ⟨T11, L11, k11, n11⟩, -, X11, ⟨Lc11, hQ11, l11, y11, z11⟩, st11⟩ := Jvm.LawKit.callS X10 hx (y := (⟨"com/example/tallyfield/tallyfield/control/ControlNumbersCodeEndPinLaw", "pick", "(IJI)B"⟩ : MethodName)) hown (mvT hZ (own_w hw 5 rfl)) (mvT hZ (own_w hw 6 rfl)) (mvT hZ (own_w hw 7 rfl)) (mvT hZ (own_w hw 8 rfl)) (by decide) (backOf (W := 2) (rm2 l Z a0 hw [] p1 q2 (0 : Int32) h10 n0 Z10) hZ (own_w hw 8 rfl) (own_w hw 7 rfl) (by decide) (by decide)) (g := (mkF m 23 #[iv p0, iv p1, .val (.long q2), .second, iv (2 : Int32), rv b10, .unset, .unset] [(.int (0 : Int32)), (.long q2), (.int p1), (.int (0 : Int32)), (.ref b10)])) rfl (by rw [hml]; rfl) (argsL := [(.int p1), (.long q2), (.int (0 : Int32))]) (rest := [(.int (0 : Int32)), (.ref b10)]) (lenOf pd__IJI_B rfl) rfl (by show 2 * 0 + _ ≤ _; exact Nat.le_of_eq rfl) (hb hby at_23) (fun _ _ => ⟨rfl, e10, (by decide : 1 + 0 ≤ _), (by decide : 2 + 0 ≤ _)⟩)
    dsimp only [Pt.U, Pt.locs, Pt.cells, Pt.slots] at X11 l11 y11 z11 st11 hQ11
    subst l11 y11 z11
    obtain ⟨rfl, N11q, eq11⟩ := hQ11
    have N11 := Fr.app N0 N11q
    refine own_step (U' := T11.setTop (mkF m 26 #[iv p0, iv p1, .val (.long q2), .second, iv (2 : Int32), rv b10, .unset, .unset] [(.int (F2 p1 q2 (0 : Int32))), (.int (0 : Int32)), (.ref b10)])) st11 ?_
    obtain ⟨cl12, Ar12, aq12, aS12, aN12, aH12, aG12⟩ := id V_b10
    have hin12 : ¬ ((0 : Int32) < 0 ∨ cl12.slots.size ≤ ((0 : Int32)).toNatClampNeg) := inb_of aS12 ⟨by decide, by decide⟩
    obtain ⟨T12, h12, X12, e12, W12, st12⟩ := stB X11 hx hZ eq11 Ar12 (j := (0 : Int32)) hin12 (g := (mkF m 26 #[iv p0, iv p1, .val (.long q2), .second, iv (2 : Int32), rv b10, .unset, .unset] [(.int (F2 p1 q2 (0 : Int32))), (.int (0 : Int32)), (.ref b10)])) rfl rfl (hb hby at_26)
    have V_b10_12 : Arv Z h12 b10 k10 .byte (2 : Int32) [(.int (nar .byte (F2 p1 q2 (0 : Int32)))), (.int (0 : Int32))] (.int (0 : Int32)) := Arv.set Ar12 aq12 aS12 aN12 aH12 aG12 (fits_nar_byte _) W12 0 rfl (Nat.le_of_ble_eq_true rfl)
    have Z12 : n0 ≤ h12.size := Nat.le_trans Z10 (Keep.of_wr W12).1
    have KK12 := KK10.wr W12 (Or.inr sz_b10)
    have N12 := Fr.snoc X12 N11 ge_b10
    refine own_step (U' := T12.setTop (mkF m 27 #[iv p0, iv p1, .val (.long q2), .second, iv (2 : Int32), rv b10, .unset, .unset] [])) st12 ?_
    refine own_step (U' := T12.setTop (mkF m 39 #[iv p0, iv p1, .val (.long q2), .second, iv (2 : Int32), rv b10, .unset, .unset] [(.int (1 : Int32)), (.long q2), (.int p1), (.int (1 : Int32)), (.ref b10)])) (fun t k => XS.iload X12.here hx rfl (hb hby at_27) rfl (XS.iconst X12.here hx rfl (hb hby at_29) (XS.icmpNo X12.here hx rfl (hb hby at_30) rfl (by decide) (XS.aload X12.here hx rfl (hb hby at_33) rfl rfl (XS.iconst X12.here hx rfl (hb hby at_35) (XS.iloadN X12.here hx rfl (hb hby at_36) rfl (XS.lloadN X12.here hx rfl (hb hby at_37) rfl (XS.iconst X12.here hx rfl (hb hby at_38) k)))))))) ?_
    obtain ⟨_, _, ⟨T13, L13, k13, n13⟩, -, X13, ⟨Lc13, hQ13, l13, y13, z13⟩, st13⟩ := Jvm.LawKit.callS X12 hx (y := (⟨"com/example/tallyfield/tallyfield/control/ControlNumbersCodeEndPinLaw", "pick", "(IJI)B"⟩ : MethodName)) hown (mvT hZ (own_w hw 5 rfl)) (mvT hZ (own_w hw 6 rfl)) (mvT hZ (own_w hw 7 rfl)) (mvT hZ (own_w hw 8 rfl)) (by decide) (backOf (W := 2) (rm2 l Z a0 hw [] p1 q2 (1 : Int32) h12 n0 Z12) hZ (own_w hw 8 rfl) (own_w hw 7 rfl) (by decide) (by decide)) (g := (mkF m 39 #[iv p0, iv p1, .val (.long q2), .second, iv (2 : Int32), rv b10, .unset, .unset] [(.int (1 : Int32)), (.long q2), (.int p1), (.int (1 : Int32)), (.ref b10)])) rfl (by rw [hml]; rfl) (argsL := [(.int p1), (.long q2), (.int (1 : Int32))]) (rest := [(.int (1 : Int32)), (.ref b10)]) (lenOf pd__IJI_B rfl) rfl (by show 2 * 0 + _ ≤ _; exact Nat.le_of_eq rfl) (hb hby at_39) (fun _ _ => ⟨rfl, e12, (by decide : 1 + 0 ≤ _), (by decide : 2 + 0 ≤ _)⟩)
    dsimp only [Pt.U, Pt.locs, Pt.cells, Pt.slots] at X13 l13 y13 z13 st13 hQ13
    subst l13 y13 z13
    obtain ⟨rfl, N13q, eq13⟩ := hQ13
    have N13 := Fr.app N12 N13q
    refine own_step (U' := T13.setTop (mkF m 42 #[iv p0, iv p1, .val (.long q2), .second, iv (2 : Int32), rv b10, .unset, .unset] [(.int (F2 p1 q2 (1 : Int32))), (.int (1 : Int32)), (.ref b10)])) st13 ?_
    obtain ⟨cl14, Ar14, aq14, aS14, aN14, aH14, aG14⟩ := id V_b10_12
    have hin14 : ¬ ((1 : Int32) < 0 ∨ cl14.slots.size ≤ ((1 : Int32)).toNatClampNeg) := inb_of aS14 ⟨by decide, by decide⟩
    obtain ⟨T14, h14, X14, e14, W14, st14⟩ := stB X13 hx hZ eq13 Ar14 (j := (1 : Int32)) hin14 (g := (mkF m 42 #[iv p0, iv p1, .val (.long q2), .second, iv (2 : Int32), rv b10, .unset, .unset] [(.int (F2 p1 q2 (1 : Int32))), (.int (1 : Int32)), (.ref b10)])) rfl rfl (hb hby at_42)
    have V_b10_14 : Arv Z h14 b10 k10 .byte (2 : Int32) [(.int (nar .byte (F2 p1 q2 (0 : Int32)))), (.int (nar .byte (F2 p1 q2 (1 : Int32))))] (.int (0 : Int32)) := Arv.set Ar14 aq14 aS14 aN14 aH14 aG14 (fits_nar_byte _) W14 1 rfl (Nat.le_of_ble_eq_true rfl)
    have Z14 : n0 ≤ h14.size := Nat.le_trans Z12 (Keep.of_wr W14).1
    have KK14 := KK12.wr W14 (Or.inr sz_b10)
    have N14 := Fr.snoc X14 N13 ge_b10
    refine own_step (U' := T14.setTop (mkF m 43 #[iv p0, iv p1, .val (.long q2), .second, iv (2 : Int32), rv b10, .unset, .unset] [])) st14 ?_
    refine own_step (U' := T14.setTop (mkF m 78 #[iv p0, iv p1, .val (.long q2), .second, iv (2 : Int32), rv b10, .unset, .unset] [(.int (4 : Int32)), (.int (2 : Int32))])) (fun t k => XS.iload X14.here hx rfl (hb hby at_43) rfl (XS.iconst X14.here hx rfl (hb hby at_45) (XS.icmpYes X14.here hx rfl (pc0 := 46) (pc' := 59) rfl (hb hby at_46) rfl (by decide) (by decide) (by decide) (XS.iload X14.here hx rfl (hb hby at_59) rfl (XS.iconst X14.here hx rfl (hb hby at_61) (XS.icmpYes X14.here hx rfl (pc0 := 62) (pc' := 75) rfl (hb hby at_62) rfl (by decide) (by decide) (by decide) (XS.iload X14.here hx rfl (hb hby at_75) rfl (XS.iconst X14.here hx rfl (hb hby at_77) k)))))))) ?_
    refine own_step (U' := T14.setTop (mkF m 128 #[iv p0, iv p1, .val (.long q2), .second, iv (2 : Int32), rv b10, .unset, .unset] [(.int (2 : Int32))])) (fun t k => XS.icmpYes X14.here hx rfl (pc0 := 78) (pc' := 91) rfl (hb hby at_78) rfl (by decide) (by decide) (by decide) (XS.iload X14.here hx rfl (hb hby at_91) rfl (XS.iconst X14.here hx rfl (hb hby at_93) (XS.icmpYes X14.here hx rfl (pc0 := 94) (pc' := 107) rfl (hb hby at_94) rfl (by decide) (by decide) (by decide) (XS.iload X14.here hx rfl (hb hby at_107) rfl (XS.bipush X14.here hx rfl (hb hby at_109) (XS.icmpYes X14.here hx rfl (pc0 := 111) (pc' := 126) rfl (hb hby at_111) rfl (by decide) (by decide) (by decide) (XS.iload X14.here hx rfl (hb hby at_126) rfl k)))))))) ?_
    refine own_step (U' := T14.setTop (mkF m 134 #[iv p0, iv p1, .val (.long q2), .second, iv (2 : Int32), rv b10, .unset, .unset] [(.int (0 : Int32)), (.ref b10)])) (fun t k => XS.ifNo X14.here hx rfl (hb hby at_128) rfl (by decide) (XS.aload X14.here hx rfl (hb hby at_131) rfl rfl (XS.iconst X14.here hx rfl (hb hby at_133) k))) ?_
    obtain ⟨cl15, Ar15, aq15, aS15, aN15, aH15, aG15⟩ := id V_b10_14
    have hin15 : ¬ ((0 : Int32) < 0 ∨ cl15.slots.size ≤ ((0 : Int32)).toNatClampNeg) := inb_of aS15 ⟨by decide, by decide⟩
    have hat15 : cl15.slots[((0 : Int32)).toNatClampNeg]? = some (.int (nar .byte (F2 p1 q2 (0 : Int32)))) := aH15.at hin15 rfl
    refine own_step (U' := T14.setTop (mkF m 137 #[iv p0, iv p1, .val (.long q2), .second, iv (2 : Int32), rv b10, .unset, .unset] [(.int (40 : Int32)), (.int (nar .byte (F2 p1 q2 (0 : Int32))))])) (fun t k => X14.baloadBytes hx (j := (0 : Int32)) (v := (.int (nar .byte (F2 p1 q2 (0 : Int32))))) (by rw [e14]; exact Ar15.1) (State.isArrayOf_alike hZ.alike Ar15.2.1) Ar15.2.2 hin15 hat15 (g := (mkF m 134 #[iv p0, iv p1, .val (.long q2), .second, iv (2 : Int32), rv b10, .unset, .unset] [(.int (0 : Int32)), (.ref b10)])) rfl rfl (hb hby at_134) t (XS.bipush X14.here hx rfl (hb hby at_135) k)) ?_
    by_cases hc137_16 : (nar .byte (F2 p1 q2 (0 : Int32))) = (40 : Int32)
    · refine own_step (U' := T14.setTop (mkF m 158 #[iv p0, iv p1, .val (.long q2), .second, iv (2 : Int32), rv b10, .unset, iv (-1 : Int32)] [(.int (1 : Int32)), (.ref b10)])) (fun t k => XS.icmpYes X14.here hx rfl (pc0 := 137) (pc' := 146) rfl (hb hby at_137) rfl (teq hc137_16).1 (by decide) (by decide) (XS.iconst X14.here hx rfl (hb hby at_146) (XS.istore X14.here hx rfl (hb hby at_147) rfl (l' := #[iv p0, iv p1, .val (.long q2), .second, iv (2 : Int32), rv b10, .unset, iv (-1 : Int32)]) rfl (XS.iload X14.here hx rfl (hb hby at_149) rfl (XS.iconst X14.here hx rfl (hb hby at_151) (XS.icmpNo X14.here hx rfl (hb hby at_152) rfl (by decide) (XS.aload X14.here hx rfl (hb hby at_155) rfl rfl (XS.iconst X14.here hx rfl (hb hby at_157) k)))))))) ?_
      obtain ⟨cl17, Ar17, aq17, aS17, aN17, aH17, aG17⟩ := id V_b10_14
      have hin17 : ¬ ((1 : Int32) < 0 ∨ cl17.slots.size ≤ ((1 : Int32)).toNatClampNeg) := inb_of aS17 ⟨by decide, by decide⟩
      have hat17 : cl17.slots[((1 : Int32)).toNatClampNeg]? = some (.int (nar .byte (F2 p1 q2 (1 : Int32)))) := aH17.at hin17 rfl
      refine own_step (U' := T14.setTop (mkF m 161 #[iv p0, iv p1, .val (.long q2), .second, iv (2 : Int32), rv b10, .unset, iv (-1 : Int32)] [(.int (41 : Int32)), (.int (nar .byte (F2 p1 q2 (1 : Int32))))])) (fun t k => X14.baloadBytes hx (j := (1 : Int32)) (v := (.int (nar .byte (F2 p1 q2 (1 : Int32))))) (by rw [e14]; exact Ar17.1) (State.isArrayOf_alike hZ.alike Ar17.2.1) Ar17.2.2 hin17 hat17 (g := (mkF m 158 #[iv p0, iv p1, .val (.long q2), .second, iv (2 : Int32), rv b10, .unset, iv (-1 : Int32)] [(.int (1 : Int32)), (.ref b10)])) rfl rfl (hb hby at_158) t (XS.bipush X14.here hx rfl (hb hby at_159) k)) ?_
      obtain ⟨v275_19, hv275_19⟩ : ∃ v : Int32, v = (if (nar .byte (F2 p1 q2 (1 : Int32))) = (41 : Int32) then (1 : Int32) else (-1 : Int32)) := ⟨_, rfl⟩
      have K275_20 : ∀ (T' : State) (locs' : List Loc) (X' : Stand p l e room_1 s m #[(.int p0), (.int p1), (.long q2)] below meth c T' locs' 1 2) (N' : Fr n0 locs') (e' : T'.heap = h14), own_Go p.tables e below s 16 128 (Q0 Z p0 p1 q2 h0 n0) (T'.setTop (mkF m 275 #[iv p0, iv p1, .val (.long q2), .second, iv (2 : Int32), rv b10, .unset, iv v275_19] [])) := by
        intro T20 L20 X20 N20 e20
        refine own_step (U' := T20.setTop (mkF m 278 #[iv p0, iv p1, .val (.long q2), .second, iv (2 : Int32), rv b10, .unset, iv v275_19] [(.int (2 : Int32)), (.int v275_19)])) (fun t k => XS.iload X20.here hx rfl (hb hby at_275) rfl (XS.iconst X20.here hx rfl (hb hby at_277) k)) ?_
        obtain ⟨v287_22, hv287_22⟩ : ∃ v : Int32, v = (if v275_19 < (2 : Int32) then (-1 : Int32) else v275_19) := ⟨_, rfl⟩
        have K287_23 : ∀ (T' : State) (locs' : List Loc) (X' : Stand p l e room_1 s m #[(.int p0), (.int p1), (.long q2)] below meth c T' locs' 1 2) (N' : Fr n0 locs') (e' : T'.heap = h14), own_Go p.tables e below s 16 128 (Q0 Z p0 p1 q2 h0 n0) (T'.setTop (mkF m 287 #[iv p0, iv p1, .val (.long q2), .second, iv (2 : Int32), rv b10, .unset, iv v275_19] [(.int v287_22)])) := by
          intro T23 L23 X23 N23 e23
          refine own_step (U' := T23.setTop (mkF m 291 #[iv p0, iv p1, .val (.long q2), .second, iv (2 : Int32), rv b10, iv v287_22, iv v275_19] [(.ref b10)])) (fun t k => XS.istore X23.here hx rfl (hb hby at_287) rfl (l' := #[iv p0, iv p1, .val (.long q2), .second, iv (2 : Int32), rv b10, iv v287_22, iv v275_19]) rfl (XS.aload X23.here hx rfl (hb hby at_289) rfl rfl k)) ?_
          obtain ⟨_, _, ⟨T24, L24, k24, n24⟩, -, X24, ⟨Lc24, hQ24, l24, y24, z24⟩, st24⟩ := Jvm.LawKit.callS X23 hx (y := (⟨"com/example/tallyfield/tallyfield/control/ControlNumbers", "codeEnd", "([B)I"⟩ : MethodName)) hown (mvT hZ (own_w hw 1 rfl)) (mvT hZ (own_w hw 2 rfl)) (mvT hZ (own_w hw 3 rfl)) (mvT hZ (own_w hw 4 rfl)) (by decide) (backOf (W := 0) (rm1k2 l Z a0 hw [] b10 (nar .byte (F2 p1 q2 (0 : Int32))) (nar .byte (F2 p1 q2 (1 : Int32))) k10 h14 n0 Z14 V_b10_14) hZ (own_w hw 4 rfl) (own_w hw 3 rfl) (by decide) (by decide)) (g := (mkF m 291 #[iv p0, iv p1, .val (.long q2), .second, iv (2 : Int32), rv b10, iv v287_22, iv v275_19] [(.ref b10)])) rfl (by rw [hml]; rfl) (argsL := [(.ref b10)]) (rest := []) (lenOf pd___B_I rfl) rfl (by show 2 * 0 + _ ≤ _; exact Nat.le_of_eq rfl) (hb hby at_291) (fun _ _ => ⟨rfl, e23, (by decide : 1 + 0 ≤ _), (by decide : 2 + 0 ≤ _)⟩)
          dsimp only [Pt.U, Pt.locs, Pt.cells, Pt.slots] at X24 l24 y24 z24 st24 hQ24
          subst l24 y24 z24
          obtain ⟨rfl, N24q, eq24⟩ := hQ24
          have N24 := Fr.app N23 N24q
          refine own_step (U' := T24.setTop (mkF m 294 #[iv p0, iv p1, .val (.long q2), .second, iv (2 : Int32), rv b10, iv v287_22, iv v275_19] [(.int (F1k2 (nar .byte (F2 p1 q2 (0 : Int32))) (nar .byte (F2 p1 q2 (1 : Int32)))))])) st24 ?_
          refine own_step (U' := T24.setTop (mkF m 304 #[iv p0, iv p1, .val (.long q2), .second, iv (2 : Int32), rv b10, iv v287_22, iv v275_19] [(.int (1 : Int32))])) (fun t k => XS.iload X24.here hx rfl (hb hby at_294) rfl (XS.icmpNo X24.here hx rfl (hb hby at_296) rfl (teq (own_yes2 _ _ _ _ hc137_16 hv275_19 hv287_22)).2 (XS.iconst X24.here hx rfl (hb hby at_299) (XS.goto X24.here hx rfl (pc0 := 300) (pc' := 304) rfl (hb hby at_300) (by decide) (by decide) k)))) ?_
          exact own_out X24 (v := (some (.int (1 : Int32)))) hlk (own_nv Bd.returns) (by rw [eq24]; exact ⟨rfl, N24⟩) (by decide) (by decide) (fun fs hr => retN X24 hx (t := .boolean) Bd.returns (by simp) (hb hby at_304) hr)
        by_cases hc278_25 : v275_19 < (2 : Int32)
        · refine own_step (U' := T20.setTop (mkF m 287 #[iv p0, iv p1, .val (.long q2), .second, iv (2 : Int32), rv b10, .unset, iv v275_19] [(.int (-1 : Int32))])) (fun t k => XS.icmpYes X20.here hx rfl (pc0 := 278) (pc' := 286) rfl (hb hby at_278) rfl (tlt hc278_25).1 (by decide) (by decide) (XS.iconst X20.here hx rfl (hb hby at_286) k)) ?_
          have q_v287_22 : v287_22 = (-1 : Int32) := by rw [hv287_22, if_pos hc278_25]
          rw [q_v287_22] at K287_23
          exact K287_23 _ _ X20 N20 e20
        · refine own_step (U' := T20.setTop (mkF m 287 #[iv p0, iv p1, .val (.long q2), .second, iv (2 : Int32), rv b10, .unset, iv v275_19] [(.int v275_19)])) (fun t k => XS.icmpNo X20.here hx rfl (hb hby at_278) rfl (flt hc278_25).1 (XS.iload X20.here hx rfl (hb hby at_281) rfl (XS.goto X20.here hx rfl (pc0 := 283) (pc' := 287) rfl (hb hby at_283) (by decide) (by decide) k))) ?_
          have q_v287_22 : v287_22 = v275_19 := by rw [hv287_22, if_neg hc278_25]
          rw [q_v287_22] at K287_23
          exact K287_23 _ _ X20 N20 e20
      by_cases hc161_26 : (nar .byte (F2 p1 q2 (1 : Int32))) = (41 : Int32)
      · refine own_step (U' := T14.setTop (mkF m 275 #[iv p0, iv p1, .val (.long q2), .second, iv (2 : Int32), rv b10, .unset, iv (1 : Int32)] [])) (fun t k => XS.icmpNo X14.here hx rfl (hb hby at_161) rfl (teq hc161_26).2 (XS.iconst X14.here hx rfl (hb hby at_164) (XS.istore X14.here hx rfl (hb hby at_165) rfl (l' := #[iv p0, iv p1, .val (.long q2), .second, iv (2 : Int32), rv b10, .unset, iv (1 : Int32)]) rfl (XS.goto X14.here hx rfl (pc0 := 167) (pc' := 275) rfl (hb hby at_167) (by decide) (by decide) k)))) ?_
        have q_v275_19 : v275_19 = (1 : Int32) := by rw [hv275_19, if_pos hc161_26]
        rw [q_v275_19] at K275_20
        exact K275_20 _ _ X14 N14 e14
      · refine own_step (U' := T14.setTop (mkF m 214 #[iv p0, iv p1, .val (.long q2), .second, iv (2 : Int32), rv b10, .unset, iv (-1 : Int32)] [(.int (2 : Int32))])) (fun t k => XS.icmpYes X14.here hx rfl (pc0 := 161) (pc' := 170) rfl (hb hby at_161) rfl (feq hc161_26).2 (by decide) (by decide) (XS.iload X14.here hx rfl (hb hby at_170) rfl (XS.iconst X14.here hx rfl (hb hby at_172) (XS.icmpYes X14.here hx rfl (pc0 := 173) (pc' := 191) rfl (hb hby at_173) rfl (by decide) (by decide) (by decide) (XS.iload X14.here hx rfl (hb hby at_191) rfl (XS.iconst X14.here hx rfl (hb hby at_193) (XS.icmpYes X14.here hx rfl (pc0 := 194) (pc' := 212) rfl (hb hby at_194) rfl (by decide) (by decide) (by decide) (XS.iload X14.here hx rfl (hb hby at_212) rfl k)))))))) ?_
        refine own_step (U' := T14.setTop (mkF m 275 #[iv p0, iv p1, .val (.long q2), .second, iv (2 : Int32), rv b10, .unset, iv (-1 : Int32)] [])) (fun t k => XS.iconst X14.here hx rfl (hb hby at_214) (XS.icmpYes X14.here hx rfl (pc0 := 215) (pc' := 233) rfl (hb hby at_215) rfl (by decide) (by decide) (by decide) (XS.iload X14.here hx rfl (hb hby at_233) rfl (XS.iconst X14.here hx rfl (hb hby at_235) (XS.icmpYes X14.here hx rfl (pc0 := 236) (pc' := 254) rfl (hb hby at_236) rfl (by decide) (by decide) (by decide) (XS.iload X14.here hx rfl (hb hby at_254) rfl (XS.bipush X14.here hx rfl (hb hby at_256) (XS.icmpYes X14.here hx rfl (pc0 := 258) (pc' := 275) rfl (hb hby at_258) rfl (by decide) (by decide) (by decide) k)))))))) ?_
        have q_v275_19 : v275_19 = (-1 : Int32) := by rw [hv275_19, if_neg hc161_26]
        rw [q_v275_19] at K275_20
        exact K275_20 _ _ X14 N14 e14
    · refine own_step (U' := T14.setTop (mkF m 291 #[iv p0, iv p1, .val (.long q2), .second, iv (2 : Int32), rv b10, iv (-1 : Int32), .unset] [(.ref b10)])) (fun t k => XS.icmpNo X14.here hx rfl (hb hby at_137) rfl (feq hc137_16).1 (XS.iconst X14.here hx rfl (hb hby at_140) (XS.istore X14.here hx rfl (hb hby at_141) rfl (l' := #[iv p0, iv p1, .val (.long q2), .second, iv (2 : Int32), rv b10, iv (-1 : Int32), .unset]) rfl (XS.goto X14.here hx rfl (pc0 := 143) (pc' := 289) rfl (hb hby at_143) (by decide) (by decide) (XS.aload X14.here hx rfl (hb hby at_289) rfl rfl k))))) ?_
      obtain ⟨_, _, ⟨T27, L27, k27, n27⟩, -, X27, ⟨Lc27, hQ27, l27, y27, z27⟩, st27⟩ := Jvm.LawKit.callS X14 hx (y := (⟨"com/example/tallyfield/tallyfield/control/ControlNumbers", "codeEnd", "([B)I"⟩ : MethodName)) hown (mvT hZ (own_w hw 1 rfl)) (mvT hZ (own_w hw 2 rfl)) (mvT hZ (own_w hw 3 rfl)) (mvT hZ (own_w hw 4 rfl)) (by decide) (backOf (W := 0) (rm1k2 l Z a0 hw [] b10 (nar .byte (F2 p1 q2 (0 : Int32))) (nar .byte (F2 p1 q2 (1 : Int32))) k10 h14 n0 Z14 V_b10_14) hZ (own_w hw 4 rfl) (own_w hw 3 rfl) (by decide) (by decide)) (g := (mkF m 291 #[iv p0, iv p1, .val (.long q2), .second, iv (2 : Int32), rv b10, iv (-1 : Int32), .unset] [(.ref b10)])) rfl (by rw [hml]; rfl) (argsL := [(.ref b10)]) (rest := []) (lenOf pd___B_I rfl) rfl (by show 2 * 0 + _ ≤ _; exact Nat.le_of_eq rfl) (hb hby at_291) (fun _ _ => ⟨rfl, e14, (by decide : 1 + 0 ≤ _), (by decide : 2 + 0 ≤ _)⟩)
      dsimp only [Pt.U, Pt.locs, Pt.cells, Pt.slots] at X27 l27 y27 z27 st27 hQ27
      subst l27 y27 z27
      obtain ⟨rfl, N27q, eq27⟩ := hQ27
      have N27 := Fr.app N14 N27q
      refine own_step (U' := T27.setTop (mkF m 294 #[iv p0, iv p1, .val (.long q2), .second, iv (2 : Int32), rv b10, iv (-1 : Int32), .unset] [(.int (F1k2 (nar .byte (F2 p1 q2 (0 : Int32))) (nar .byte (F2 p1 q2 (1 : Int32)))))])) st27 ?_
      refine own_step (U' := T27.setTop (mkF m 304 #[iv p0, iv p1, .val (.long q2), .second, iv (2 : Int32), rv b10, iv (-1 : Int32), .unset] [(.int (1 : Int32))])) (fun t k => XS.iload X27.here hx rfl (hb hby at_294) rfl (XS.icmpNo X27.here hx rfl (hb hby at_296) rfl (teq (own_no2 _ _ hc137_16)).2 (XS.iconst X27.here hx rfl (hb hby at_299) (XS.goto X27.here hx rfl (pc0 := 300) (pc' := 304) rfl (hb hby at_300) (by decide) (by decide) k)))) ?_
      exact own_out X27 (v := (some (.int (1 : Int32)))) hlk (own_nv Bd.returns) (by rw [eq27]; exact ⟨rfl, N27⟩) (by decide) (by decide) (fun fs hr => retN X27 hx (t := .boolean) Bd.returns (by simp) (hb hby at_304) hr)
  · rw [hn3]
    refine own_step (U' := s₁.setTop (mkF m 8 #[iv p0, iv p1, .val (.long q2), .second, iv (3 : Int32), .unset, .unset, .unset] [(.int (3 : Int32))])) (fun t k => XS.istore X0.here hx rfl (hb hby at_4) rfl (l' := #[iv p0, iv p1, .val (.long q2), .second, iv (3 : Int32), .unset, .unset, .unset]) rfl (XS.iload X0.here hx rfl (hb hby at_6) rfl k)) ?_
    obtain ⟨T28, h28, k28, X28, e28, E28, A28, st28⟩ := newP X0 hx hZ (own_w hw 0 rfl) e0 (g := (mkF m 8 #[iv p0, iv p1, .val (.long q2), .second, iv (3 : Int32), .unset, .unset, .unset] [(.int (3 : Int32))])) rfl (hb hby at_8) rfl (by decide) (cap := 3) (by decide) (by decide) (by decide) (by decide)
    obtain ⟨b28, g28⟩ : ∃ z, z = h0.size := ⟨_, rfl⟩
    have ge_b28 : n0 ≤ b28 := Nat.le_trans Z0 (Nat.le_of_eq g28.symm)
    have sz_b28 : h0.size ≤ b28 := Nat.le_trans KK0.1 (Nat.le_of_eq g28.symm)
    rw [← g28] at A28 st28
    have V_b28 : Arv Z h28 b28 k28 .byte (3 : Int32) [(.int (0 : Int32)), (.int (0 : Int32)), (.int (0 : Int32))] (.int (0 : Int32)) := (Arv.new A28 (by decide)).pad (pad_rep [] (.int (0 : Int32)) 3)
    have Z28 : n0 ≤ h28.size := Nat.le_trans Z0 E28.1
    have KK28 := KK0.ext E28
    refine own_step (U' := T28.setTop (mkF m 10 #[iv p0, iv p1, .val (.long q2), .second, iv (3 : Int32), .unset, .unset, .unset] [(.ref b28)])) st28 ?_
    refine own_step (U' := T28.setTop (mkF m 23 #[iv p0, iv p1, .val (.long q2), .second, iv (3 : Int32), rv b28, .unset, .unset] [(.int (0 : Int32)), (.long q2), (.int p1), (.int (0 : Int32)), (.ref b28)])) (fun t k => XS.astore X28.here hx rfl (hb hby at_10) rfl rfl (l' := #[iv p0, iv p1, .val (.long q2), .second, iv (3 : Int32), rv b28, .unset, .unset]) rfl (XS.iload X28.here hx rfl (hb hby at_12) rfl (XS.ifNo X28.here hx rfl (hb hby at_14) rfl (by decide) (XS.aload X28.here hx rfl (hb hby at_17) rfl rfl (XS.iconst X28.here hx rfl (hb hby at_19) (XS.iloadN X28.here hx rfl (hb hby at_20) rfl (XS.lloadN X28.here hx rfl (hb hby at_21) rfl (XS.iconst X28.here hx rfl (hb hby at_22) k)))))))) ?_
    obtain ⟨_, _, ⟨T29, L29, k29, n29⟩, -, X29, ⟨Lc29, hQ29, l29, y29, z29⟩, st29⟩ := Jvm.LawKit.callS X28 hx (y := (⟨"com/example/tallyfield/tallyfield/control/ControlNumbersCodeEndPinLaw", "pick", "(IJI)B"⟩ : MethodName)) hown (mvT hZ (own_w hw 5 rfl)) (mvT hZ (own_w hw 6 rfl)) (mvT hZ (own_w hw 7 rfl)) (mvT hZ (own_w hw 8 rfl)) (by decide) (backOf (W := 2) (rm2 l Z a0 hw [] p1 q2 (0 : Int32) h28 n0 Z28) hZ (own_w hw 8 rfl) (own_w hw 7 rfl) (by decide) (by decide)) (g := (mkF m 23 #[iv p0, iv p1, .val (.long q2), .second, iv (3 : Int32), rv b28, .unset, .unset] [(.int (0 : Int32)), (.long q2), (.int p1), (.int (0 : Int32)), (.ref b28)])) rfl (by rw [hml]; rfl) (argsL := [(.int p1), (.long q2), (.int (0 : Int32))]) (rest := [(.int (0 : Int32)), (.ref b28)]) (lenOf pd__IJI_B rfl) rfl (by show 2 * 0 + _ ≤ _; exact Nat.le_of_eq rfl) (hb hby at_23) (fun _ _ => ⟨rfl, e28, (by decide : 1 + 0 ≤ _), (by decide : 3 + 0 ≤ _)⟩)
    dsimp only [Pt.U, Pt.locs, Pt.cells, Pt.slots] at X29 l29 y29 z29 st29 hQ29
    subst l29 y29 z29
    obtain ⟨rfl, N29q, eq29⟩ := hQ29
    have N29 := Fr.app N0 N29q
    refine own_step (U' := T29.setTop (mkF m 26 #[iv p0, iv p1, .val (.long q2), .second, iv (3 : Int32), rv b28, .unset, .unset] [(.int (F2 p1 q2 (0 : Int32))), (.int (0 : Int32)), (.ref b28)])) st29 ?_
    obtain ⟨cl30, Ar30, aq30, aS30, aN30, aH30, aG30⟩ := id V_b28
    have hin30 : ¬ ((0 : Int32) < 0 ∨ cl30.slots.size ≤ ((0 : Int32)).toNatClampNeg) := inb_of aS30 ⟨by decide, by decide⟩
    obtain ⟨T30, h30, X30, e30, W30, st30⟩ := stB X29 hx hZ eq29 Ar30 (j := (0 : Int32)) hin30 (g := (mkF m 26 #[iv p0, iv p1, .val (.long q2), .second, iv (3 : Int32), rv b28, .unset, .unset] [(.int (F2 p1 q2 (0 : Int32))), (.int (0 : Int32)), (.ref b28)])) rfl rfl (hb hby at_26)
    have V_b28_30 : Arv Z h30 b28 k28 .byte (3 : Int32) [(.int (nar .byte (F2 p1 q2 (0 : Int32)))), (.int (0 : Int32)), (.int (0 : Int32))] (.int (0 : Int32)) := Arv.set Ar30 aq30 aS30 aN30 aH30 aG30 (fits_nar_byte _) W30 0 rfl (Nat.le_of_ble_eq_true rfl)
    have Z30 : n0 ≤ h30.size := Nat.le_trans Z28 (Keep.of_wr W30).1
    have KK30 := KK28.wr W30 (Or.inr sz_b28)
    have N30 := Fr.snoc X30 N29 ge_b28
    refine own_step (U' := T30.setTop (mkF m 27 #[iv p0, iv p1, .val (.long q2), .second, iv (3 : Int32), rv b28, .unset, .unset] [])) st30 ?_
    refine own_step (U' := T30.setTop (mkF m 39 #[iv p0, iv p1, .val (.long q2), .second, iv (3 : Int32), rv b28, .unset, .unset] [(.int (1 : Int32)), (.long q2), (.int p1), (.int (1 : Int32)), (.ref b28)])) (fun t k => XS.iload X30.here hx rfl (hb hby at_27) rfl (XS.iconst X30.here hx rfl (hb hby at_29) (XS.icmpNo X30.here hx rfl (hb hby at_30) rfl (by decide) (XS.aload X30.here hx rfl (hb hby at_33) rfl rfl (XS.iconst X30.here hx rfl (hb hby at_35) (XS.iloadN X30.here hx rfl (hb hby at_36) rfl (XS.lloadN X30.here hx rfl (hb hby at_37) rfl (XS.iconst X30.here hx rfl (hb hby at_38) k)))))))) ?_
    obtain ⟨_, _, ⟨T31, L31, k31, n31⟩, -, X31, ⟨Lc31, hQ31, l31, y31, z31⟩, st31⟩ := Jvm.LawKit.callS X30 hx (y := (⟨"com/example/tallyfield/tallyfield/control/ControlNumbersCodeEndPinLaw", "pick", "(IJI)B"⟩ : MethodName)) hown (mvT hZ (own_w hw 5 rfl)) (mvT hZ (own_w hw 6 rfl)) (mvT hZ (own_w hw 7 rfl)) (mvT hZ (own_w hw 8 rfl)) (by decide) (backOf (W := 2) (rm2 l Z a0 hw [] p1 q2 (1 : Int32) h30 n0 Z30) hZ (own_w hw 8 rfl) (own_w hw 7 rfl) (by decide) (by decide)) (g := (mkF m 39 #[iv p0, iv p1, .val (.long q2), .second, iv (3 : Int32), rv b28, .unset, .unset] [(.int (1 : Int32)), (.long q2), (.int p1), (.int (1 : Int32)), (.ref b28)])) rfl (by rw [hml]; rfl) (argsL := [(.int p1), (.long q2), (.int (1 : Int32))]) (rest := [(.int (1 : Int32)), (.ref b28)]) (lenOf pd__IJI_B rfl) rfl (by show 2 * 0 + _ ≤ _; exact Nat.le_of_eq rfl) (hb hby at_39) (fun _ _ => ⟨rfl, e30, (by decide : 1 + 0 ≤ _), (by decide : 3 + 0 ≤ _)⟩)
    dsimp only [Pt.U, Pt.locs, Pt.cells, Pt.slots] at X31 l31 y31 z31 st31 hQ31
    subst l31 y31 z31
    obtain ⟨rfl, N31q, eq31⟩ := hQ31
    have N31 := Fr.app N30 N31q
    refine own_step (U' := T31.setTop (mkF m 42 #[iv p0, iv p1, .val (.long q2), .second, iv (3 : Int32), rv b28, .unset, .unset] [(.int (F2 p1 q2 (1 : Int32))), (.int (1 : Int32)), (.ref b28)])) st31 ?_
    obtain ⟨cl32, Ar32, aq32, aS32, aN32, aH32, aG32⟩ := id V_b28_30
    have hin32 : ¬ ((1 : Int32) < 0 ∨ cl32.slots.size ≤ ((1 : Int32)).toNatClampNeg) := inb_of aS32 ⟨by decide, by decide⟩
    obtain ⟨T32, h32, X32, e32, W32, st32⟩ := stB X31 hx hZ eq31 Ar32 (j := (1 : Int32)) hin32 (g := (mkF m 42 #[iv p0, iv p1, .val (.long q2), .second, iv (3 : Int32), rv b28, .unset, .unset] [(.int (F2 p1 q2 (1 : Int32))), (.int (1 : Int32)), (.ref b28)])) rfl rfl (hb hby at_42)
    have V_b28_32 : Arv Z h32 b28 k28 .byte (3 : Int32) [(.int (nar .byte (F2 p1 q2 (0 : Int32)))), (.int (nar .byte (F2 p1 q2 (1 : Int32)))), (.int (0 : Int32))] (.int (0 : Int32)) := Arv.set Ar32 aq32 aS32 aN32 aH32 aG32 (fits_nar_byte _) W32 1 rfl (Nat.le_of_ble_eq_true rfl)
    have Z32 : n0 ≤ h32.size := Nat.le_trans Z30 (Keep.of_wr W32).1
    have KK32 := KK30.wr W32 (Or.inr sz_b28)
    have N32 := Fr.snoc X32 N31 ge_b28
    refine own_step (U' := T32.setTop (mkF m 43 #[iv p0, iv p1, .val (.long q2), .second, iv (3 : Int32), rv b28, .unset, .unset] [])) st32 ?_
    refine own_step (U' := T32.setTop (mkF m 55 #[iv p0, iv p1, .val (.long q2), .second, iv (3 : Int32), rv b28, .unset, .unset] [(.int (2 : Int32)), (.long q2), (.int p1), (.int (2 : Int32)), (.ref b28)])) (fun t k => XS.iload X32.here hx rfl (hb hby at_43) rfl (XS.iconst X32.here hx rfl (hb hby at_45) (XS.icmpNo X32.here hx rfl (hb hby at_46) rfl (by decide) (XS.aload X32.here hx rfl (hb hby at_49) rfl rfl (XS.iconst X32.here hx rfl (hb hby at_51) (XS.iloadN X32.here hx rfl (hb hby at_52) rfl (XS.lloadN X32.here hx rfl (hb hby at_53) rfl (XS.iconst X32.here hx rfl (hb hby at_54) k)))))))) ?_
    obtain ⟨_, _, ⟨T33, L33, k33, n33⟩, -, X33, ⟨Lc33, hQ33, l33, y33, z33⟩, st33⟩ := Jvm.LawKit.callS X32 hx (y := (⟨"com/example/tallyfield/tallyfield/control/ControlNumbersCodeEndPinLaw", "pick", "(IJI)B"⟩ : MethodName)) hown (mvT hZ (own_w hw 5 rfl)) (mvT hZ (own_w hw 6 rfl)) (mvT hZ (own_w hw 7 rfl)) (mvT hZ (own_w hw 8 rfl)) (by decide) (backOf (W := 2) (rm2 l Z a0 hw [] p1 q2 (2 : Int32) h32 n0 Z32) hZ (own_w hw 8 rfl) (own_w hw 7 rfl) (by decide) (by decide)) (g := (mkF m 55 #[iv p0, iv p1, .val (.long q2), .second, iv (3 : Int32), rv b28, .unset, .unset] [(.int (2 : Int32)), (.long q2), (.int p1), (.int (2 : Int32)), (.ref b28)])) rfl (by rw [hml]; rfl) (argsL := [(.int p1), (.long q2), (.int (2 : Int32))]) (rest := [(.int (2 : Int32)), (.ref b28)]) (lenOf pd__IJI_B rfl) rfl (by show 2 * 0 + _ ≤ _; exact Nat.le_of_eq rfl) (hb hby at_55) (fun _ _ => ⟨rfl, e32, (by decide : 1 + 0 ≤ _), (by decide : 3 + 0 ≤ _)⟩)
    dsimp only [Pt.U, Pt.locs, Pt.cells, Pt.slots] at X33 l33 y33 z33 st33 hQ33
    subst l33 y33 z33
    obtain ⟨rfl, N33q, eq33⟩ := hQ33
    have N33 := Fr.app N32 N33q
    refine own_step (U' := T33.setTop (mkF m 58 #[iv p0, iv p1, .val (.long q2), .second, iv (3 : Int32), rv b28, .unset, .unset] [(.int (F2 p1 q2 (2 : Int32))), (.int (2 : Int32)), (.ref b28)])) st33 ?_
    obtain ⟨cl34, Ar34, aq34, aS34, aN34, aH34, aG34⟩ := id V_b28_32
    have hin34 : ¬ ((2 : Int32) < 0 ∨ cl34.slots.size ≤ ((2 : Int32)).toNatClampNeg) := inb_of aS34 ⟨by decide, by decide⟩
    obtain ⟨T34, h34, X34, e34, W34, st34⟩ := stB X33 hx hZ eq33 Ar34 (j := (2 : Int32)) hin34 (g := (mkF m 58 #[iv p0, iv p1, .val (.long q2), .second, iv (3 : Int32), rv b28, .unset, .unset] [(.int (F2 p1 q2 (2 : Int32))), (.int (2 : Int32)), (.ref b28)])) rfl rfl (hb hby at_58)
    have V_b28_34 : Arv Z h34 b28 k28 .byte (3 : Int32) [(.int (nar .byte (F2 p1 q2 (0 : Int32)))), (.int (nar .byte (F2 p1 q2 (1 : Int32)))), (.int (nar .byte (F2 p1 q2 (2 : Int32))))] (.int (0 : Int32)) := Arv.set Ar34 aq34 aS34 aN34 aH34 aG34 (fits_nar_byte _) W34 2 rfl (Nat.le_of_ble_eq_true rfl)
    have Z34 : n0 ≤ h34.size := Nat.le_trans Z32 (Keep.of_wr W34).1
    have KK34 := KK32.wr W34 (Or.inr sz_b28)
    have N34 := Fr.snoc X34 N33 ge_b28
    refine own_step (U' := T34.setTop (mkF m 59 #[iv p0, iv p1, .val (.long q2), .second, iv (3 : Int32), rv b28, .unset, .unset] [])) st34 ?_
    refine own_step (U' := T34.setTop (mkF m 94 #[iv p0, iv p1, .val (.long q2), .second, iv (3 : Int32), rv b28, .unset, .unset] [(.int (5 : Int32)), (.int (3 : Int32))])) (fun t k => XS.iload X34.here hx rfl (hb hby at_59) rfl (XS.iconst X34.here hx rfl (hb hby at_61) (XS.icmpYes X34.here hx rfl (pc0 := 62) (pc' := 75) rfl (hb hby at_62) rfl (by decide) (by decide) (by decide) (XS.iload X34.here hx rfl (hb hby at_75) rfl (XS.iconst X34.here hx rfl (hb hby at_77) (XS.icmpYes X34.here hx rfl (pc0 := 78) (pc' := 91) rfl (hb hby at_78) rfl (by decide) (by decide) (by decide) (XS.iload X34.here hx rfl (hb hby at_91) rfl (XS.iconst X34.here hx rfl (hb hby at_93) k)))))))) ?_
    refine own_step (U' := T34.setTop (mkF m 134 #[iv p0, iv p1, .val (.long q2), .second, iv (3 : Int32), rv b28, .unset, .unset] [(.int (0 : Int32)), (.ref b28)])) (fun t k => XS.icmpYes X34.here hx rfl (pc0 := 94) (pc' := 107) rfl (hb hby at_94) rfl (by decide) (by decide) (by decide) (XS.iload X34.here hx rfl (hb hby at_107) rfl (XS.bipush X34.here hx rfl (hb hby at_109) (XS.icmpYes X34.here hx rfl (pc0 := 111) (pc' := 126) rfl (hb hby at_111) rfl (by decide) (by decide) (by decide) (XS.iload X34.here hx rfl (hb hby at_126) rfl (XS.ifNo X34.here hx rfl (hb hby at_128) rfl (by decide) (XS.aload X34.here hx rfl (hb hby at_131) rfl rfl (XS.iconst X34.here hx rfl (hb hby at_133) k)))))))) ?_
    obtain ⟨cl35, Ar35, aq35, aS35, aN35, aH35, aG35⟩ := id V_b28_34
    have hin35 : ¬ ((0 : Int32) < 0 ∨ cl35.slots.size ≤ ((0 : Int32)).toNatClampNeg) := inb_of aS35 ⟨by decide, by decide⟩
    have hat35 : cl35.slots[((0 : Int32)).toNatClampNeg]? = some (.int (nar .byte (F2 p1 q2 (0 : Int32)))) := aH35.at hin35 rfl
    refine own_step (U' := T34.setTop (mkF m 137 #[iv p0, iv p1, .val (.long q2), .second, iv (3 : Int32), rv b28, .unset, .unset] [(.int (40 : Int32)), (.int (nar .byte (F2 p1 q2 (0 : Int32))))])) (fun t k => X34.baloadBytes hx (j := (0 : Int32)) (v := (.int (nar .byte (F2 p1 q2 (0 : Int32))))) (by rw [e34]; exact Ar35.1) (State.isArrayOf_alike hZ.alike Ar35.2.1) Ar35.2.2 hin35 hat35 (g := (mkF m 134 #[iv p0, iv p1, .val (.long q2), .second, iv (3 : Int32), rv b28, .unset, .unset] [(.int (0 : Int32)), (.ref b28)])) rfl rfl (hb hby at_134) t (XS.bipush X34.here hx rfl (hb hby at_135) k)) ?_
    by_cases hc137_36 : (nar .byte (F2 p1 q2 (0 : Int32))) = (40 : Int32)
    · refine own_step (U' := T34.setTop (mkF m 158 #[iv p0, iv p1, .val (.long q2), .second, iv (3 : Int32), rv b28, .unset, iv (-1 : Int32)] [(.int (1 : Int32)), (.ref b28)])) (fun t k => XS.icmpYes X34.here hx rfl (pc0 := 137) (pc' := 146) rfl (hb hby at_137) rfl (teq hc137_36).1 (by decide) (by decide) (XS.iconst X34.here hx rfl (hb hby at_146) (XS.istore X34.here hx rfl (hb hby at_147) rfl (l' := #[iv p0, iv p1, .val (.long q2), .second, iv (3 : Int32), rv b28, .unset, iv (-1 : Int32)]) rfl (XS.iload X34.here hx rfl (hb hby at_149) rfl (XS.iconst X34.here hx rfl (hb hby at_151) (XS.icmpNo X34.here hx rfl (hb hby at_152) rfl (by decide) (XS.aload X34.here hx rfl (hb hby at_155) rfl rfl (XS.iconst X34.here hx rfl (hb hby at_157) k)))))))) ?_
      obtain ⟨cl37, Ar37, aq37, aS37, aN37, aH37, aG37⟩ := id V_b28_34
      have hin37 : ¬ ((1 : Int32) < 0 ∨ cl37.slots.size ≤ ((1 : Int32)).toNatClampNeg) := inb_of aS37 ⟨by decide, by decide⟩
      have hat37 : cl37.slots[((1 : Int32)).toNatClampNeg]? = some (.int (nar .byte (F2 p1 q2 (1 : Int32)))) := aH37.at hin37 rfl
      refine own_step (U' := T34.setTop (mkF m 161 #[iv p0, iv p1, .val (.long q2), .second, iv (3 : Int32), rv b28, .unset, iv (-1 : Int32)] [(.int (41 : Int32)), (.int (nar .byte (F2 p1 q2 (1 : Int32))))])) (fun t k => X34.baloadBytes hx (j := (1 : Int32)) (v := (.int (nar .byte (F2 p1 q2 (1 : Int32))))) (by rw [e34]; exact Ar37.1) (State.isArrayOf_alike hZ.alike Ar37.2.1) Ar37.2.2 hin37 hat37 (g := (mkF m 158 #[iv p0, iv p1, .val (.long q2), .second, iv (3 : Int32), rv b28, .unset, iv (-1 : Int32)] [(.int (1 : Int32)), (.ref b28)])) rfl rfl (hb hby at_158) t (XS.bipush X34.here hx rfl (hb hby at_159) k)) ?_
      obtain ⟨v275_41, hv275_41⟩ : ∃ v : Int32, v = (if (nar .byte (F2 p1 q2 (1 : Int32))) = (41 : Int32) then (1 : Int32) else (if (nar .byte (F2 p1 q2 (2 : Int32))) = (41 : Int32) then (2 : Int32) else (-1 : Int32))) := ⟨_, rfl⟩
      have K275_42 : ∀ (T' : State) (locs' : List Loc) (X' : Stand p l e room_1 s m #[(.int p0), (.int p1), (.long q2)] below meth c T' locs' 1 3) (N' : Fr n0 locs') (e' : T'.heap = h34), own_Go p.tables e below s 16 128 (Q0 Z p0 p1 q2 h0 n0) (T'.setTop (mkF m 275 #[iv p0, iv p1, .val (.long q2), .second, iv (3 : Int32), rv b28, .unset, iv v275_41] [])) := by
        intro T42 L42 X42 N42 e42
        refine own_step (U' := T42.setTop (mkF m 278 #[iv p0, iv p1, .val (.long q2), .second, iv (3 : Int32), rv b28, .unset, iv v275_41] [(.int (2 : Int32)), (.int v275_41)])) (fun t k => XS.iload X42.here hx rfl (hb hby at_275) rfl (XS.iconst X42.here hx rfl (hb hby at_277) k)) ?_
        obtain ⟨v287_44, hv287_44⟩ : ∃ v : Int32, v = (if v275_41 < (2 : Int32) then (-1 : Int32) else v275_41) := ⟨_, rfl⟩
        have K287_45 : ∀ (T' : State) (locs' : List Loc) (X' : Stand p l e room_1 s m #[(.int p0), (.int p1), (.long q2)] below meth c T' locs' 1 3) (N' : Fr n0 locs') (e' : T'.heap = h34), own_Go p.tables e below s 16 128 (Q0 Z p0 p1 q2 h0 n0) (T'.setTop (mkF m 287 #[iv p0, iv p1, .val (.long q2), .second, iv (3 : Int32), rv b28, .unset, iv v275_41] [(.int v287_44)])) := by
          intro T45 L45 X45 N45 e45
          refine own_step (U' := T45.setTop (mkF m 291 #[iv p0, iv p1, .val (.long q2), .second, iv (3 : Int32), rv b28, iv v287_44, iv v275_41] [(.ref b28)])) (fun t k => XS.istore X45.here hx rfl (hb hby at_287) rfl (l' := #[iv p0, iv p1, .val (.long q2), .second, iv (3 : Int32), rv b28, iv v287_44, iv v275_41]) rfl (XS.aload X45.here hx rfl (hb hby at_289) rfl rfl k)) ?_
          obtain ⟨_, _, ⟨T46, L46, k46, n46⟩, -, X46, ⟨Lc46, hQ46, l46, y46, z46⟩, st46⟩ := Jvm.LawKit.callS X45 hx (y := (⟨"com/example/tallyfield/tallyfield/control/ControlNumbers", "codeEnd", "([B)I"⟩ : MethodName)) hown (mvT hZ (own_w hw 1 rfl)) (mvT hZ (own_w hw 2 rfl)) (mvT hZ (own_w hw 3 rfl)) (mvT hZ (own_w hw 4 rfl)) (by decide) (backOf (W := 0) (rm1k3 l Z a0 hw [] b28 (nar .byte (F2 p1 q2 (0 : Int32))) (nar .byte (F2 p1 q2 (1 : Int32))) (nar .byte (F2 p1 q2 (2 : Int32))) k28 h34 n0 Z34 V_b28_34) hZ (own_w hw 4 rfl) (own_w hw 3 rfl) (by decide) (by decide)) (g := (mkF m 291 #[iv p0, iv p1, .val (.long q2), .second, iv (3 : Int32), rv b28, iv v287_44, iv v275_41] [(.ref b28)])) rfl (by rw [hml]; rfl) (argsL := [(.ref b28)]) (rest := []) (lenOf pd___B_I rfl) rfl (by show 2 * 0 + _ ≤ _; exact Nat.le_of_eq rfl) (hb hby at_291) (fun _ _ => ⟨rfl, e45, (by decide : 1 + 0 ≤ _), (by decide : 3 + 0 ≤ _)⟩)
          dsimp only [Pt.U, Pt.locs, Pt.cells, Pt.slots] at X46 l46 y46 z46 st46 hQ46
          subst l46 y46 z46
          obtain ⟨rfl, N46q, eq46⟩ := hQ46
          have N46 := Fr.app N45 N46q
          refine own_step (U' := T46.setTop (mkF m 294 #[iv p0, iv p1, .val (.long q2), .second, iv (3 : Int32), rv b28, iv v287_44, iv v275_41] [(.int (F1k3 (nar .byte (F2 p1 q2 (0 : Int32))) (nar .byte (F2 p1 q2 (1 : Int32))) (nar .byte (F2 p1 q2 (2 : Int32)))))])) st46 ?_
          refine own_step (U' := T46.setTop (mkF m 304 #[iv p0, iv p1, .val (.long q2), .second, iv (3 : Int32), rv b28, iv v287_44, iv v275_41] [(.int (1 : Int32))])) (fun t k => XS.iload X46.here hx rfl (hb hby at_294) rfl (XS.icmpNo X46.here hx rfl (hb hby at_296) rfl (teq (own_yes3 _ _ _ _ _ hc137_36 hv275_41 hv287_44)).2 (XS.iconst X46.here hx rfl (hb hby at_299) (XS.goto X46.here hx rfl (pc0 := 300) (pc' := 304) rfl (hb hby at_300) (by decide) (by decide) k)))) ?_
          exact own_out X46 (v := (some (.int (1 : Int32)))) hlk (own_nv Bd.returns) (by rw [eq46]; exact ⟨rfl, N46⟩) (by decide) (by decide) (fun fs hr => retN X46 hx (t := .boolean) Bd.returns (by simp) (hb hby at_304) hr)
        by_cases hc278_47 : v275_41 < (2 : Int32)
        · refine own_step (U' := T42.setTop (mkF m 287 #[iv p0, iv p1, .val (.long q2), .second, iv (3 : Int32), rv b28, .unset, iv v275_41] [(.int (-1 : Int32))])) (fun t k => XS.icmpYes X42.here hx rfl (pc0 := 278) (pc' := 286) rfl (hb hby at_278) rfl (tlt hc278_47).1 (by decide) (by decide) (XS.iconst X42.here hx rfl (hb hby at_286) k)) ?_
          have q_v287_44 : v287_44 = (-1 : Int32) := by rw [hv287_44, if_pos hc278_47]
          rw [q_v287_44] at K287_45
          exact K287_45 _ _ X42 N42 e42
        · refine own_step (U' := T42.setTop (mkF m 287 #[iv p0, iv p1, .val (.long q2), .second, iv (3 : Int32), rv b28, .unset, iv v275_41] [(.int v275_41)])) (fun t k => XS.icmpNo X42.here hx rfl (hb hby at_278) rfl (flt hc278_47).1 (XS.iload X42.here hx rfl (hb hby at_281) rfl (XS.goto X42.here hx rfl (pc0 := 283) (pc' := 287) rfl (hb hby at_283) (by decide) (by decide) k))) ?_
          have q_v287_44 : v287_44 = v275_41 := by rw [hv287_44, if_neg hc278_47]
          rw [q_v287_44] at K287_45
          exact K287_45 _ _ X42 N42 e42
      by_cases hc161_48 : (nar .byte (F2 p1 q2 (1 : Int32))) = (41 : Int32)
      · refine own_step (U' := T34.setTop (mkF m 275 #[iv p0, iv p1, .val (.long q2), .second, iv (3 : Int32), rv b28, .unset, iv (1 : Int32)] [])) (fun t k => XS.icmpNo X34.here hx rfl (hb hby at_161) rfl (teq hc161_48).2 (XS.iconst X34.here hx rfl (hb hby at_164) (XS.istore X34.here hx rfl (hb hby at_165) rfl (l' := #[iv p0, iv p1, .val (.long q2), .second, iv (3 : Int32), rv b28, .unset, iv (1 : Int32)]) rfl (XS.goto X34.here hx rfl (pc0 := 167) (pc' := 275) rfl (hb hby at_167) (by decide) (by decide) k)))) ?_
        have q_v275_41 : v275_41 = (1 : Int32) := by rw [hv275_41, if_pos hc161_48]
        rw [q_v275_41] at K275_42
        exact K275_42 _ _ X34 N34 e34
      · refine own_step (U' := T34.setTop (mkF m 179 #[iv p0, iv p1, .val (.long q2), .second, iv (3 : Int32), rv b28, .unset, iv (-1 : Int32)] [(.int (2 : Int32)), (.ref b28)])) (fun t k => XS.icmpYes X34.here hx rfl (pc0 := 161) (pc' := 170) rfl (hb hby at_161) rfl (feq hc161_48).2 (by decide) (by decide) (XS.iload X34.here hx rfl (hb hby at_170) rfl (XS.iconst X34.here hx rfl (hb hby at_172) (XS.icmpNo X34.here hx rfl (hb hby at_173) rfl (by decide) (XS.aload X34.here hx rfl (hb hby at_176) rfl rfl (XS.iconst X34.here hx rfl (hb hby at_178) k)))))) ?_
        obtain ⟨cl49, Ar49, aq49, aS49, aN49, aH49, aG49⟩ := id V_b28_34
        have hin49 : ¬ ((2 : Int32) < 0 ∨ cl49.slots.size ≤ ((2 : Int32)).toNatClampNeg) := inb_of aS49 ⟨by decide, by decide⟩
        have hat49 : cl49.slots[((2 : Int32)).toNatClampNeg]? = some (.int (nar .byte (F2 p1 q2 (2 : Int32)))) := aH49.at hin49 rfl
        refine own_step (U' := T34.setTop (mkF m 182 #[iv p0, iv p1, .val (.long q2), .second, iv (3 : Int32), rv b28, .unset, iv (-1 : Int32)] [(.int (41 : Int32)), (.int (nar .byte (F2 p1 q2 (2 : Int32))))])) (fun t k => X34.baloadBytes hx (j := (2 : Int32)) (v := (.int (nar .byte (F2 p1 q2 (2 : Int32))))) (by rw [e34]; exact Ar49.1) (State.isArrayOf_alike hZ.alike Ar49.2.1) Ar49.2.2 hin49 hat49 (g := (mkF m 179 #[iv p0, iv p1, .val (.long q2), .second, iv (3 : Int32), rv b28, .unset, iv (-1 : Int32)] [(.int (2 : Int32)), (.ref b28)])) rfl rfl (hb hby at_179) t (XS.bipush X34.here hx rfl (hb hby at_180) k)) ?_
        by_cases hc182_50 : (nar .byte (F2 p1 q2 (2 : Int32))) = (41 : Int32)
        · refine own_step (U' := T34.setTop (mkF m 275 #[iv p0, iv p1, .val (.long q2), .second, iv (3 : Int32), rv b28, .unset, iv (2 : Int32)] [])) (fun t k => XS.icmpNo X34.here hx rfl (hb hby at_182) rfl (teq hc182_50).2 (XS.iconst X34.here hx rfl (hb hby at_185) (XS.istore X34.here hx rfl (hb hby at_186) rfl (l' := #[iv p0, iv p1, .val (.long q2), .second, iv (3 : Int32), rv b28, .unset, iv (2 : Int32)]) rfl (XS.goto X34.here hx rfl (pc0 := 188) (pc' := 275) rfl (hb hby at_188) (by decide) (by decide) k)))) ?_
          have q_v275_41 : v275_41 = (2 : Int32) := by rw [hv275_41, if_neg hc161_48, if_pos hc182_50]
          rw [q_v275_41] at K275_42
          exact K275_42 _ _ X34 N34 e34
        · refine own_step (U' := T34.setTop (mkF m 235 #[iv p0, iv p1, .val (.long q2), .second, iv (3 : Int32), rv b28, .unset, iv (-1 : Int32)] [(.int (3 : Int32))])) (fun t k => XS.icmpYes X34.here hx rfl (pc0 := 182) (pc' := 191) rfl (hb hby at_182) rfl (feq hc182_50).2 (by decide) (by decide) (XS.iload X34.here hx rfl (hb hby at_191) rfl (XS.iconst X34.here hx rfl (hb hby at_193) (XS.icmpYes X34.here hx rfl (pc0 := 194) (pc' := 212) rfl (hb hby at_194) rfl (by decide) (by decide) (by decide) (XS.iload X34.here hx rfl (hb hby at_212) rfl (XS.iconst X34.here hx rfl (hb hby at_214) (XS.icmpYes X34.here hx rfl (pc0 := 215) (pc' := 233) rfl (hb hby at_215) rfl (by decide) (by decide) (by decide) (XS.iload X34.here hx rfl (hb hby at_233) rfl k)))))))) ?_
          refine own_step (U' := T34.setTop (mkF m 275 #[iv p0, iv p1, .val (.long q2), .second, iv (3 : Int32), rv b28, .unset, iv (-1 : Int32)] [])) (fun t k => XS.iconst X34.here hx rfl (hb hby at_235) (XS.icmpYes X34.here hx rfl (pc0 := 236) (pc' := 254) rfl (hb hby at_236) rfl (by decide) (by decide) (by decide) (XS.iload X34.here hx rfl (hb hby at_254) rfl (XS.bipush X34.here hx rfl (hb hby at_256) (XS.icmpYes X34.here hx rfl (pc0 := 258) (pc' := 275) rfl (hb hby at_258) rfl (by decide) (by decide) (by decide) k))))) ?_
          have q_v275_41 : v275_41 = (-1 : Int32) := by rw [hv275_41, if_neg hc161_48, if_neg hc182_50]
          rw [q_v275_41] at K275_42
          exact K275_42 _ _ X34 N34 e34
    · refine own_step (U' := T34.setTop (mkF m 291 #[iv p0, iv p1, .val (.long q2), .second, iv (3 : Int32), rv b28, iv (-1 : Int32), .unset] [(.ref b28)])) (fun t k => XS.icmpNo X34.here hx rfl (hb hby at_137) rfl (feq hc137_36).1 (XS.iconst X34.here hx rfl (hb hby at_140) (XS.istore X34.here hx rfl (hb hby at_141) rfl (l' := #[iv p0, iv p1, .val (.long q2), .second, iv (3 : Int32), rv b28, iv (-1 : Int32), .unset]) rfl (XS.goto X34.here hx rfl (pc0 := 143) (pc' := 289) rfl (hb hby at_143) (by decide) (by decide) (XS.aload X34.here hx rfl (hb hby at_289) rfl rfl k))))) ?_
      obtain ⟨_, _, ⟨T51, L51, k51, n51⟩, -, X51, ⟨Lc51, hQ51, l51, y51, z51⟩, st51⟩ := Jvm.LawKit.callS X34 hx (y := (⟨"com/example/tallyfield/tallyfield/control/ControlNumbers", "codeEnd", "([B)I"⟩ : MethodName)) hown (mvT hZ (own_w hw 1 rfl)) (mvT hZ (own_w hw 2 rfl)) (mvT hZ (own_w hw 3 rfl)) (mvT hZ (own_w hw 4 rfl)) (by decide) (backOf (W := 0) (rm1k3 l Z a0 hw [] b28 (nar .byte (F2 p1 q2 (0 : Int32))) (nar .byte (F2 p1 q2 (1 : Int32))) (nar .byte (F2 p1 q2 (2 : Int32))) k28 h34 n0 Z34 V_b28_34) hZ (own_w hw 4 rfl) (own_w hw 3 rfl) (by decide) (by decide)) (g := (mkF m 291 #[iv p0, iv p1, .val (.long q2), .second, iv (3 : Int32), rv b28, iv (-1 : Int32), .unset] [(.ref b28)])) rfl (by rw [hml]; rfl) (argsL := [(.ref b28)]) (rest := []) (lenOf pd___B_I rfl) rfl (by show 2 * 0 + _ ≤ _; exact Nat.le_of_eq rfl) (hb hby at_291) (fun _ _ => ⟨rfl, e34, (by decide : 1 + 0 ≤ _), (by decide : 3 + 0 ≤ _)⟩)
      dsimp only [Pt.U, Pt.locs, Pt.cells, Pt.slots] at X51 l51 y51 z51 st51 hQ51
      subst l51 y51 z51
      obtain ⟨rfl, N51q, eq51⟩ := hQ51
      have N51 := Fr.app N34 N51q
      refine own_step (U' := T51.setTop (mkF m 294 #[iv p0, iv p1, .val (.long q2), .second, iv (3 : Int32), rv b28, iv (-1 : Int32), .unset] [(.int (F1k3 (nar .byte (F2 p1 q2 (0 : Int32))) (nar .byte (F2 p1 q2 (1 : Int32))) (nar .byte (F2 p1 q2 (2 : Int32)))))])) st51 ?_
      refine own_step (U' := T51.setTop (mkF m 304 #[iv p0, iv p1, .val (.long q2), .second, iv (3 : Int32), rv b28, iv (-1 : Int32), .unset] [(.int (1 : Int32))])) (fun t k => XS.iload X51.here hx rfl (hb hby at_294) rfl (XS.icmpNo X51.here hx rfl (hb hby at_296) rfl (teq (own_no3 _ _ _ hc137_36)).2 (XS.iconst X51.here hx rfl (hb hby at_299) (XS.goto X51.here hx rfl (pc0 := 300) (pc' := 304) rfl (hb hby at_300) (by decide) (by decide) k)))) ?_
      exact own_out X51 (v := (some (.int (1 : Int32)))) hlk (own_nv Bd.returns) (by rw [eq51]; exact ⟨rfl, N51⟩) (by decide) (by decide) (fun fs hr => retN X51 hx (t := .boolean) Bd.returns (by simp) (hb hby at_304) hr)
  · rw [hn4]
    refine own_step (U' := s₁.setTop (mkF m 8 #[iv p0, iv p1, .val (.long q2), .second, iv (4 : Int32), .unset, .unset, .unset] [(.int (4 : Int32))])) (fun t k => XS.istore X0.here hx rfl (hb hby at_4) rfl (l' := #[iv p0, iv p1, .val (.long q2), .second, iv (4 : Int32), .unset, .unset, .unset]) rfl (XS.iload X0.here hx rfl (hb hby at_6) rfl k)) ?_
    obtain ⟨T52, h52, k52, X52, e52, E52, A52, st52⟩ := newP X0 hx hZ (own_w hw 0 rfl) e0 (g := (mkF m 8 #[iv p0, iv p1, .val (.long q2), .second, iv (4 : Int32), .unset, .unset, .unset] [(.int (4 : Int32))])) rfl (hb hby at_8) rfl (by decide) (cap := 4) (by decide) (by decide) (by decide) (by decide)
    obtain ⟨b52, g52⟩ : ∃ z, z = h0.size := ⟨_, rfl⟩
    have ge_b52 : n0 ≤ b52 := Nat.le_trans Z0 (Nat.le_of_eq g52.symm)
    have sz_b52 : h0.size ≤ b52 := Nat.le_trans KK0.1 (Nat.le_of_eq g52.symm)
    rw [← g52] at A52 st52
    have V_b52 : Arv Z h52 b52 k52 .byte (4 : Int32) [(.int (0 : Int32)), (.int (0 : Int32)), (.int (0 : Int32)), (.int (0 : Int32))] (.int (0 : Int32)) := (Arv.new A52 (by decide)).pad (pad_rep [] (.int (0 : Int32)) 4)
    have Z52 : n0 ≤ h52.size := Nat.le_trans Z0 E52.1
    have KK52 := KK0.ext E52
    refine own_step (U' := T52.setTop (mkF m 10 #[iv p0, iv p1, .val (.long q2), .second, iv (4 : Int32), .unset, .unset, .unset] [(.ref b52)])) st52 ?_
    refine own_step (U' := T52.setTop (mkF m 23 #[iv p0, iv p1, .val (.long q2), .second, iv (4 : Int32), rv b52, .unset, .unset] [(.int (0 : Int32)), (.long q2), (.int p1), (.int (0 : Int32)), (.ref b52)])) (fun t k => XS.astore X52.here hx rfl (hb hby at_10) rfl rfl (l' := #[iv p0, iv p1, .val (.long q2), .second, iv (4 : Int32), rv b52, .unset, .unset]) rfl (XS.iload X52.here hx rfl (hb hby at_12) rfl (XS.ifNo X52.here hx rfl (hb hby at_14) rfl (by decide) (XS.aload X52.here hx rfl (hb hby at_17) rfl rfl (XS.iconst X52.here hx rfl (hb hby at_19) (XS.iloadN X52.here hx rfl (hb hby at_20) rfl (XS.lloadN X52.here hx rfl (hb hby at_21) rfl (XS.iconst X52.here hx rfl (hb hby at_22) k)))))))) ?_
    obtain ⟨_, _, ⟨T53, L53, k53, n53⟩, -, X53, ⟨Lc53, hQ53, l53, y53, z53⟩, st53⟩ := Jvm.LawKit.callS X52 hx (y := (⟨"com/example/tallyfield/tallyfield/control/ControlNumbersCodeEndPinLaw", "pick", "(IJI)B"⟩ : MethodName)) hown (mvT hZ (own_w hw 5 rfl)) (mvT hZ (own_w hw 6 rfl)) (mvT hZ (own_w hw 7 rfl)) (mvT hZ (own_w hw 8 rfl)) (by decide) (backOf (W := 2) (rm2 l Z a0 hw [] p1 q2 (0 : Int32) h52 n0 Z52) hZ (own_w hw 8 rfl) (own_w hw 7 rfl) (by decide) (by decide)) (g := (mkF m 23 #[iv p0, iv p1, .val (.long q2), .second, iv (4 : Int32), rv b52, .unset, .unset] [(.int (0 : Int32)), (.long q2), (.int p1), (.int (0 : Int32)), (.ref b52)])) rfl (by rw [hml]; rfl) (argsL := [(.int p1), (.long q2), (.int (0 : Int32))]) (rest := [(.int (0 : Int32)), (.ref b52)]) (lenOf pd__IJI_B rfl) rfl (by show 2 * 0 + _ ≤ _; exact Nat.le_of_eq rfl) (hb hby at_23) (fun _ _ => ⟨rfl, e52, (by decide : 1 + 0 ≤ _), (by decide : 4 + 0 ≤ _)⟩)
    dsimp only [Pt.U, Pt.locs, Pt.cells, Pt.slots] at X53 l53 y53 z53 st53 hQ53
    subst l53 y53 z53
    obtain ⟨rfl, N53q, eq53⟩ := hQ53
    have N53 := Fr.app N0 N53q
    refine own_step (U' := T53.setTop (mkF m 26 #[iv p0, iv p1, .val (.long q2), .second, iv (4 : Int32), rv b52, .unset, .unset] [(.int (F2 p1 q2 (0 : Int32))), (.int (0 : Int32)), (.ref b52)])) st53 ?_
    obtain ⟨cl54, Ar54, aq54, aS54, aN54, aH54, aG54⟩ := id V_b52
    have hin54 : ¬ ((0 : Int32) < 0 ∨ cl54.slots.size ≤ ((0 : Int32)).toNatClampNeg) := inb_of aS54 ⟨by decide, by decide⟩
    obtain ⟨T54, h54, X54, e54, W54, st54⟩ := stB X53 hx hZ eq53 Ar54 (j := (0 : Int32)) hin54 (g := (mkF m 26 #[iv p0, iv p1, .val (.long q2), .second, iv (4 : Int32), rv b52, .unset, .unset] [(.int (F2 p1 q2 (0 : Int32))), (.int (0 : Int32)), (.ref b52)])) rfl rfl (hb hby at_26)
    have V_b52_54 : Arv Z h54 b52 k52 .byte (4 : Int32) [(.int (nar .byte (F2 p1 q2 (0 : Int32)))), (.int (0 : Int32)), (.int (0 : Int32)), (.int (0 : Int32))] (.int (0 : Int32)) := Arv.set Ar54 aq54 aS54 aN54 aH54 aG54 (fits_nar_byte _) W54 0 rfl (Nat.le_of_ble_eq_true rfl)
    have Z54 : n0 ≤ h54.size := Nat.le_trans Z52 (Keep.of_wr W54).1
    have KK54 := KK52.wr W54 (Or.inr sz_b52)
    have N54 := Fr.snoc X54 N53 ge_b52
    refine own_step (U' := T54.setTop (mkF m 27 #[iv p0, iv p1, .val (.long q2), .second, iv (4 : Int32), rv b52, .unset, .unset] [])) st54 ?_
    refine own_step (U' := T54.setTop (mkF m 39 #[iv p0, iv p1, .val (.long q2), .second, iv (4 : Int32), rv b52, .unset, .unset] [(.int (1 : Int32)), (.long q2), (.int p1), (.int (1 : Int32)), (.ref b52)])) (fun t k => XS.iload X54.here hx rfl (hb hby at_27) rfl (XS.iconst X54.here hx rfl (hb hby at_29) (XS.icmpNo X54.here hx rfl (hb hby at_30) rfl (by decide) (XS.aload X54.here hx rfl (hb hby at_33) rfl rfl (XS.iconst X54.here hx rfl (hb hby at_35) (XS.iloadN X54.here hx rfl (hb hby at_36) rfl (XS.lloadN X54.here hx rfl (hb hby at_37) rfl (XS.iconst X54.here hx rfl (hb hby at_38) k)))))))) ?_
    obtain ⟨_, _, ⟨T55, L55, k55, n55⟩, -, X55, ⟨Lc55, hQ55, l55, y55, z55⟩, st55⟩ := Jvm.LawKit.callS X54 hx (y := (⟨"com/example/tallyfield/tallyfield/control/ControlNumbersCodeEndPinLaw", "pick", "(IJI)B"⟩ : MethodName)) hown (mvT hZ (own_w hw 5 rfl)) (mvT hZ (own_w hw 6 rfl)) (mvT hZ (own_w hw 7 rfl)) (mvT hZ (own_w hw 8 rfl)) (by decide) (backOf (W := 2) (rm2 l Z a0 hw [] p1 q2 (1 : Int32) h54 n0 Z54) hZ (own_w hw 8 rfl) (own_w hw 7 rfl) (by decide) (by decide)) (g := (mkF m 39 #[iv p0, iv p1, .val (.long q2), .second, iv (4 : Int32), rv b52, .unset, .unset] [(.int (1 : Int32)), (.long q2), (.int p1), (.int (1 : Int32)), (.ref b52)])) rfl (by rw [hml]; rfl) (argsL := [(.int p1), (.long q2), (.int (1 : Int32))]) (rest := [(.int (1 : Int32)), (.ref b52)]) (lenOf pd__IJI_B rfl) rfl (by show 2 * 0 + _ ≤ _; exact Nat.le_of_eq rfl) (hb hby at_39) (fun _ _ => ⟨rfl, e54, (by decide : 1 + 0 ≤ _), (by decide : 4 + 0 ≤ _)⟩)
    dsimp only [Pt.U, Pt.locs, Pt.cells, Pt.slots] at X55 l55 y55 z55 st55 hQ55
    subst l55 y55 z55
    obtain ⟨rfl, N55q, eq55⟩ := hQ55
    have N55 := Fr.app N54 N55q
    refine own_step (U' := T55.setTop (mkF m 42 #[iv p0, iv p1, .val (.long q2), .second, iv (4 : Int32), rv b52, .unset, .unset] [(.int (F2 p1 q2 (1 : Int32))), (.int (1 : Int32)), (.ref b52)])) st55 ?_
    obtain ⟨cl56, Ar56, aq56, aS56, aN56, aH56, aG56⟩ := id V_b52_54
    have hin56 : ¬ ((1 : Int32) < 0 ∨ cl56.slots.size ≤ ((1 : Int32)).toNatClampNeg) := inb_of aS56 ⟨by decide, by decide⟩
    obtain ⟨T56, h56, X56, e56, W56, st56⟩ := stB X55 hx hZ eq55 Ar56 (j := (1 : Int32)) hin56 (g := (mkF m 42 #[iv p0, iv p1, .val (.long q2), .second, iv (4 : Int32), rv b52, .unset, .unset] [(.int (F2 p1 q2 (1 : Int32))), (.int (1 : Int32)), (.ref b52)])) rfl rfl (hb hby at_42)
    have V_b52_56 : Arv Z h56 b52 k52 .byte (4 : Int32) [(.int (nar .byte (F2 p1 q2 (0 : Int32)))), (.int (nar .byte (F2 p1 q2 (1 : Int32)))), (.int (0 : Int32)), (.int (0 : Int32))] (.int (0 : Int32)) := Arv.set Ar56 aq56 aS56 aN56 aH56 aG56 (fits_nar_byte _) W56 1 rfl (Nat.le_of_ble_eq_true rfl)
    have Z56 : n0 ≤ h56.size := Nat.le_trans Z54 (Keep.of_wr W56).1
    have KK56 := KK54.wr W56 (Or.inr sz_b52)
    have N56 := Fr.snoc X56 N55 ge_b52
    refine own_step (U' := T56.setTop (mkF m 43 #[iv p0, iv p1, .val (.long q2), .second, iv (4 : Int32), rv b52, .unset, .unset] [])) st56 ?_
    refine own_step (U' := T56.setTop (mkF m 55 #[iv p0, iv p1, .val (.long q2), .second, iv (4 : Int32), rv b52, .unset, .unset] [(.int (2 : Int32)), (.long q2), (.int p1), (.int (2 : Int32)), (.ref b52)])) (fun t k => XS.iload X56.here hx rfl (hb hby at_43) rfl (XS.iconst X56.here hx rfl (hb hby at_45) (XS.icmpNo X56.here hx rfl (hb hby at_46) rfl (by decide) (XS.aload X56.here hx rfl (hb hby at_49) rfl rfl (XS.iconst X56.here hx rfl (hb hby at_51) (XS.iloadN X56.here hx rfl (hb hby at_52) rfl (XS.lloadN X56.here hx rfl (hb hby at_53) rfl (XS.iconst X56.here hx rfl (hb hby at_54) k)))))))) ?_
    obtain ⟨_, _, ⟨T57, L57, k57, n57⟩, -, X57, ⟨Lc57, hQ57, l57, y57, z57⟩, st57⟩ := Jvm.LawKit.callS X56 hx (y := (⟨"com/example/tallyfield/tallyfield/control/ControlNumbersCodeEndPinLaw", "pick", "(IJI)B"⟩ : MethodName)) hown (mvT hZ (own_w hw 5 rfl)) (mvT hZ (own_w hw 6 rfl)) (mvT hZ (own_w hw 7 rfl)) (mvT hZ (own_w hw 8 rfl)) (by decide) (backOf (W := 2) (rm2 l Z a0 hw [] p1 q2 (2 : Int32) h56 n0 Z56) hZ (own_w hw 8 rfl) (own_w hw 7 rfl) (by decide) (by decide)) (g := (mkF m 55 #[iv p0, iv p1, .val (.long q2), .second, iv (4 : Int32), rv b52, .unset, .unset] [(.int (2 : Int32)), (.long q2), (.int p1), (.int (2 : Int32)), (.ref b52)])) rfl (by rw [hml]; rfl) (argsL := [(.int p1), (.long q2), (.int (2 : Int32))]) (rest := [(.int (2 : Int32)), (.ref b52)]) (lenOf pd__IJI_B rfl) rfl (by show 2 * 0 + _ ≤ _; exact Nat.le_of_eq rfl) (hb hby at_55) (fun _ _ => ⟨rfl, e56, (by decide : 1 + 0 ≤ _), (by decide : 4 + 0 ≤ _)⟩)
    dsimp only [Pt.U, Pt.locs, Pt.cells, Pt.slots] at X57 l57 y57 z57 st57 hQ57
    subst l57 y57 z57
    obtain ⟨rfl, N57q, eq57⟩ := hQ57
    have N57 := Fr.app N56 N57q
    refine own_step (U' := T57.setTop (mkF m 58 #[iv p0, iv p1, .val (.long q2), .second, iv (4 : Int32), rv b52, .unset, .unset] [(.int (F2 p1 q2 (2 : Int32))), (.int (2 : Int32)), (.ref b52)])) st57 ?_
    obtain ⟨cl58, Ar58, aq58, aS58, aN58, aH58, aG58⟩ := id V_b52_56
    have hin58 : ¬ ((2 : Int32) < 0 ∨ cl58.slots.size ≤ ((2 : Int32)).toNatClampNeg) := inb_of aS58 ⟨by decide, by decide⟩
    obtain ⟨T58, h58, X58, e58, W58, st58⟩ := stB X57 hx hZ eq57 Ar58 (j := (2 : Int32)) hin58 (g := (mkF m 58 #[iv p0, iv p1, .val (.long q2), .second, iv (4 : Int32), rv b52, .unset, .unset] [(.int (F2 p1 q2 (2 : Int32))), (.int (2 : Int32)), (.ref b52)])) rfl rfl (hb hby at_58)
    have V_b52_58 : Arv Z h58 b52 k52 .byte (4 : Int32) [(.int (nar .byte (F2 p1 q2 (0 : Int32)))), (.int (nar .byte (F2 p1 q2 (1 : Int32)))), (.int (nar .byte (F2 p1 q2 (2 : Int32)))), (.int (0 : Int32))] (.int (0 : Int32)) := Arv.set Ar58 aq58 aS58 aN58 aH58 aG58 (fits_nar_byte _) W58 2 rfl (Nat.le_of_ble_eq_true rfl)
    have Z58 : n0 ≤ h58.size := Nat.le_trans Z56 (Keep.of_wr W58).1
    have KK58 := KK56.wr W58 (Or.inr sz_b52)
    have N58 := Fr.snoc X58 N57 ge_b52
    refine own_step (U' := T58.setTop (mkF m 59 #[iv p0, iv p1, .val (.long q2), .second, iv (4 : Int32), rv b52, .unset, .unset] [])) st58 ?_
    refine own_step (U' := T58.setTop (mkF m 71 #[iv p0, iv p1, .val (.long q2), .second, iv (4 : Int32), rv b52, .unset, .unset] [(.int (3 : Int32)), (.long q2), (.int p1), (.int (3 : Int32)), (.ref b52)])) (fun t k => XS.iload X58.here hx rfl (hb hby at_59) rfl (XS.iconst X58.here hx rfl (hb hby at_61) (XS.icmpNo X58.here hx rfl (hb hby at_62) rfl (by decide) (XS.aload X58.here hx rfl (hb hby at_65) rfl rfl (XS.iconst X58.here hx rfl (hb hby at_67) (XS.iloadN X58.here hx rfl (hb hby at_68) rfl (XS.lloadN X58.here hx rfl (hb hby at_69) rfl (XS.iconst X58.here hx rfl (hb hby at_70) k)))))))) ?_
    obtain ⟨_, _, ⟨T59, L59, k59, n59⟩, -, X59, ⟨Lc59, hQ59, l59, y59, z59⟩, st59⟩ := Jvm.LawKit.callS X58 hx (y := (⟨"com/example/tallyfield/tallyfield/control/ControlNumbersCodeEndPinLaw", "pick", "(IJI)B"⟩ : MethodName)) hown (mvT hZ (own_w hw 5 rfl)) (mvT hZ (own_w hw 6 rfl)) (mvT hZ (own_w hw 7 rfl)) (mvT hZ (own_w hw 8 rfl)) (by decide) (backOf (W := 2) (rm2 l Z a0 hw [] p1 q2 (3 : Int32) h58 n0 Z58) hZ (own_w hw 8 rfl) (own_w hw 7 rfl) (by decide) (by decide)) (g := (mkF m 71 #[iv p0, iv p1, .val (.long q2), .second, iv (4 : Int32), rv b52, .unset, .unset] [(.int (3 : Int32)), (.long q2), (.int p1), (.int (3 : Int32)), (.ref b52)])) rfl (by rw [hml]; rfl) (argsL := [(.int p1), (.long q2), (.int (3 : Int32))]) (rest := [(.int (3 : Int32)), (.ref b52)]) (lenOf pd__IJI_B rfl) rfl (by show 2 * 0 + _ ≤ _; exact Nat.le_of_eq rfl) (hb hby at_71) (fun _ _ => ⟨rfl, e58, (by decide : 1 + 0 ≤ _), (by decide : 4 + 0 ≤ _)⟩)
    dsimp only [Pt.U, Pt.locs, Pt.cells, Pt.slots] at X59 l59 y59 z59 st59 hQ59
    subst l59 y59 z59
    obtain ⟨rfl, N59q, eq59⟩ := hQ59
    have N59 := Fr.app N58 N59q
    refine own_step (U' := T59.setTop (mkF m 74 #[iv p0, iv p1, .val (.long q2), .second, iv (4 : Int32), rv b52, .unset, .unset] [(.int (F2 p1 q2 (3 : Int32))), (.int (3 : Int32)), (.ref b52)])) st59 ?_
    obtain ⟨cl60, Ar60, aq60, aS60, aN60, aH60, aG60⟩ := id V_b52_58
    have hin60 : ¬ ((3 : Int32) < 0 ∨ cl60.slots.size ≤ ((3 : Int32)).toNatClampNeg) := inb_of aS60 ⟨by decide, by decide⟩
    obtain ⟨T60, h60, X60, e60, W60, st60⟩ := stB X59 hx hZ eq59 Ar60 (j := (3 : Int32)) hin60 (g := (mkF m 74 #[iv p0, iv p1, .val (.long q2), .second, iv (4 : Int32), rv b52, .unset, .unset] [(.int (F2 p1 q2 (3 : Int32))), (.int (3 : Int32)), (.ref b52)])) rfl rfl (hb hby at_74)
    have V_b52_60 : Arv Z h60 b52 k52 .byte (4 : Int32) [(.int (nar .byte (F2 p1 q2 (0 : Int32)))), (.int (nar .byte (F2 p1 q2 (1 : Int32)))), (.int (nar .byte (F2 p1 q2 (2 : Int32)))), (.int (nar .byte (F2 p1 q2 (3 : Int32))))] (.int (0 : Int32)) := Arv.set Ar60 aq60 aS60 aN60 aH60 aG60 (fits_nar_byte _) W60 3 rfl (Nat.le_of_ble_eq_true rfl)
    have Z60 : n0 ≤ h60.size := Nat.le_trans Z58 (Keep.of_wr W60).1
    have KK60 := KK58.wr W60 (Or.inr sz_b52)
    have N60 := Fr.snoc X60 N59 ge_b52
    refine own_step (U' := T60.setTop (mkF m 75 #[iv p0, iv p1, .val (.long q2), .second, iv (4 : Int32), rv b52, .unset, .unset] [])) st60 ?_
    refine own_step (U' := T60.setTop (mkF m 111 #[iv p0, iv p1, .val (.long q2), .second, iv (4 : Int32), rv b52, .unset, .unset] [(.int (6 : Int32)), (.int (4 : Int32))])) (fun t k => XS.iload X60.here hx rfl (hb hby at_75) rfl (XS.iconst X60.here hx rfl (hb hby at_77) (XS.icmpYes X60.here hx rfl (pc0 := 78) (pc' := 91) rfl (hb hby at_78) rfl (by decide) (by decide) (by decide) (XS.iload X60.here hx rfl (hb hby at_91) rfl (XS.iconst X60.here hx rfl (hb hby at_93) (XS.icmpYes X60.here hx rfl (pc0 := 94) (pc' := 107) rfl (hb hby at_94) rfl (by decide) (by decide) (by decide) (XS.iload X60.here hx rfl (hb hby at_107) rfl (XS.bipush X60.here hx rfl (hb hby at_109) k)))))))) ?_
    refine own_step (U' := T60.setTop (mkF m 134 #[iv p0, iv p1, .val (.long q2), .second, iv (4 : Int32), rv b52, .unset, .unset] [(.int (0 : Int32)), (.ref b52)])) (fun t k => XS.icmpYes X60.here hx rfl (pc0 := 111) (pc' := 126) rfl (hb hby at_111) rfl (by decide) (by decide) (by decide) (XS.iload X60.here hx rfl (hb hby at_126) rfl (XS.ifNo X60.here hx rfl (hb hby at_128) rfl (by decide) (XS.aload X60.here hx rfl (hb hby at_131) rfl rfl (XS.iconst X60.here hx rfl (hb hby at_133) k))))) ?_
    obtain ⟨cl61, Ar61, aq61, aS61, aN61, aH61, aG61⟩ := id V_b52_60
    have hin61 : ¬ ((0 : Int32) < 0 ∨ cl61.slots.size ≤ ((0 : Int32)).toNatClampNeg) := inb_of aS61 ⟨by decide, by decide⟩
    have hat61 : cl61.slots[((0 : Int32)).toNatClampNeg]? = some (.int (nar .byte (F2 p1 q2 (0 : Int32)))) := aH61.at hin61 rfl
    refine own_step (U' := T60.setTop (mkF m 137 #[iv p0, iv p1, .val (.long q2), .second, iv (4 : Int32), rv b52, .unset, .unset] [(.int (40 : Int32)), (.int (nar .byte (F2 p1 q2 (0 : Int32))))])) (fun t k => X60.baloadBytes hx (j := (0 : Int32)) (v := (.int (nar .byte (F2 p1 q2 (0 : Int32))))) (by rw [e60]; exact Ar61.1) (State.isArrayOf_alike hZ.alike Ar61.2.1) Ar61.2.2 hin61 hat61 (g := (mkF m 134 #[iv p0, iv p1, .val (.long q2), .second, iv (4 : Int32), rv b52, .unset, .unset] [(.int (0 : Int32)), (.ref b52)])) rfl rfl (hb hby at_134) t (XS.bipush X60.here hx rfl (hb hby at_135) k)) ?_
    by_cases hc137_62 : (nar .byte (F2 p1 q2 (0 : Int32))) = (40 : Int32)
    · refine own_step (U' := T60.setTop (mkF m 158 #[iv p0, iv p1, .val (.long q2), .second, iv (4 : Int32), rv b52, .unset, iv (-1 : Int32)] [(.int (1 : Int32)), (.ref b52)])) (fun t k => XS.icmpYes X60.here hx rfl (pc0 := 137) (pc' := 146) rfl (hb hby at_137) rfl (teq hc137_62).1 (by decide) (by decide) (XS.iconst X60.here hx rfl (hb hby at_146) (XS.istore X60.here hx rfl (hb hby at_147) rfl (l' := #[iv p0, iv p1, .val (.long q2), .second, iv (4 : Int32), rv b52, .unset, iv (-1 : Int32)]) rfl (XS.iload X60.here hx rfl (hb hby at_149) rfl (XS.iconst X60.here hx rfl (hb hby at_151) (XS.icmpNo X60.here hx rfl (hb hby at_152) rfl (by decide) (XS.aload X60.here hx rfl (hb hby at_155) rfl rfl (XS.iconst X60.here hx rfl (hb hby at_157) k)))))))) ?_
      obtain ⟨cl63, Ar63, aq63, aS63, aN63, aH63, aG63⟩ := id V_b52_60
      have hin63 : ¬ ((1 : Int32) < 0 ∨ cl63.slots.size ≤ ((1 : Int32)).toNatClampNeg) := inb_of aS63 ⟨by decide, by decide⟩
      have hat63 : cl63.slots[((1 : Int32)).toNatClampNeg]? = some (.int (nar .byte (F2 p1 q2 (1 : Int32)))) := aH63.at hin63 rfl
      refine own_step (U' := T60.setTop (mkF m 161 #[iv p0, iv p1, .val (.long q2), .second, iv (4 : Int32), rv b52, .unset, iv (-1 : Int32)] [(.int (41 : Int32)), (.int (nar .byte (F2 p1 q2 (1 : Int32))))])) (fun t k => X60.baloadBytes hx (j := (1 : Int32)) (v := (.int (nar .byte (F2 p1 q2 (1 : Int32))))) (by rw [e60]; exact Ar63.1) (State.isArrayOf_alike hZ.alike Ar63.2.1) Ar63.2.2 hin63 hat63 (g := (mkF m 158 #[iv p0, iv p1, .val (.long q2), .second, iv (4 : Int32), rv b52, .unset, iv (-1 : Int32)] [(.int (1 : Int32)), (.ref b52)])) rfl rfl (hb hby at_158) t (XS.bipush X60.here hx rfl (hb hby at_159) k)) ?_
      obtain ⟨v275_69, hv275_69⟩ : ∃ v : Int32, v = (if (nar .byte (F2 p1 q2 (1 : Int32))) = (41 : Int32) then (1 : Int32) else (if (nar .byte (F2 p1 q2 (2 : Int32))) = (41 : Int32) then (2 : Int32) else (if (nar .byte (F2 p1 q2 (3 : Int32))) = (41 : Int32) then (3 : Int32) else (-1 : Int32)))) := ⟨_, rfl⟩
      have K275_70 : ∀ (T' : State) (locs' : List Loc) (X' : Stand p l e room_1 s m #[(.int p0), (.int p1), (.long q2)] below meth c T' locs' 1 4) (N' : Fr n0 locs') (e' : T'.heap = h60), own_Go p.tables e below s 16 128 (Q0 Z p0 p1 q2 h0 n0) (T'.setTop (mkF m 275 #[iv p0, iv p1, .val (.long q2), .second, iv (4 : Int32), rv b52, .unset, iv v275_69] [])) := by
        intro T70 L70 X70 N70 e70
        refine own_step (U' := T70.setTop (mkF m 278 #[iv p0, iv p1, .val (.long q2), .second, iv (4 : Int32), rv b52, .unset, iv v275_69] [(.int (2 : Int32)), (.int v275_69)])) (fun t k => XS.iload X70.here hx rfl (hb hby at_275) rfl (XS.iconst X70.here hx rfl (hb hby at_277) k)) ?_
        obtain ⟨v287_72, hv287_72⟩ : ∃ v : Int32, v = (if v275_69 < (2 : Int32) then (-1 : Int32) else v275_69) := ⟨_, rfl⟩
        have K287_73 : ∀ (T' : State) (locs' : List Loc) (X' : Stand p l e room_1 s m #[(.int p0), (.int p1), (.long q2)] below meth c T' locs' 1 4) (N' : Fr n0 locs') (e' : T'.heap = h60), own_Go p.tables e below s 16 128 (Q0 Z p0 p1 q2 h0 n0) (T'.setTop (mkF m 287 #[iv p0, iv p1, .val (.long q2), .second, iv (4 : Int32), rv b52, .unset, iv v275_69] [(.int v287_72)])) := by
          intro T73 L73 X73 N73 e73
          refine own_step (U' := T73.setTop (mkF m 291 #[iv p0, iv p1, .val (.long q2), .second, iv (4 : Int32), rv b52, iv v287_72, iv v275_69] [(.ref b52)])) (fun t k => XS.istore X73.here hx rfl (hb hby at_287) rfl (l' := #[iv p0, iv p1, .val (.long q2), .second, iv (4 : Int32), rv b52, iv v287_72, iv v275_69]) rfl (XS.aload X73.here hx rfl (hb hby at_289) rfl rfl k)) ?_
          obtain ⟨_, _, ⟨T74, L74, k74, n74⟩, -, X74, ⟨Lc74, hQ74, l74, y74, z74⟩, st74⟩ := Jvm.LawKit.callS X73 hx (y := (⟨"com/example/tallyfield/tallyfield/control/ControlNumbers", "codeEnd", "([B)I"⟩ : MethodName)) hown (mvT hZ (own_w hw 1 rfl)) (mvT hZ (own_w hw 2 rfl)) (mvT hZ (own_w hw 3 rfl)) (mvT hZ (own_w hw 4 rfl)) (by decide) (backOf (W := 0) (rm1k4 l Z a0 hw [] b52 (nar .byte (F2 p1 q2 (0 : Int32))) (nar .byte (F2 p1 q2 (1 : Int32))) (nar .byte (F2 p1 q2 (2 : Int32))) (nar .byte (F2 p1 q2 (3 : Int32))) k52 h60 n0 Z60 V_b52_60) hZ (own_w hw 4 rfl) (own_w hw 3 rfl) (by decide) (by decide)) (g := (mkF m 291 #[iv p0, iv p1, .val (.long q2), .second, iv (4 : Int32), rv b52, iv v287_72, iv v275_69] [(.ref b52)])) rfl (by rw [hml]; rfl) (argsL := [(.ref b52)]) (rest := []) (lenOf pd___B_I rfl) rfl (by show 2 * 0 + _ ≤ _; exact Nat.le_of_eq rfl) (hb hby at_291) (fun _ _ => ⟨rfl, e73, (by decide : 1 + 0 ≤ _), (by decide : 4 + 0 ≤ _)⟩)
          dsimp only [Pt.U, Pt.locs, Pt.cells, Pt.slots] at X74 l74 y74 z74 st74 hQ74
          subst l74 y74 z74
          obtain ⟨rfl, N74q, eq74⟩ := hQ74
          have N74 := Fr.app N73 N74q
          refine own_step (U' := T74.setTop (mkF m 294 #[iv p0, iv p1, .val (.long q2), .second, iv (4 : Int32), rv b52, iv v287_72, iv v275_69] [(.int (F1k4 (nar .byte (F2 p1 q2 (0 : Int32))) (nar .byte (F2 p1 q2 (1 : Int32))) (nar .byte (F2 p1 q2 (2 : Int32))) (nar .byte (F2 p1 q2 (3 : Int32)))))])) st74 ?_
          refine own_step (U' := T74.setTop (mkF m 304 #[iv p0, iv p1, .val (.long q2), .second, iv (4 : Int32), rv b52, iv v287_72, iv v275_69] [(.int (1 : Int32))])) (fun t k => XS.iload X74.here hx rfl (hb hby at_294) rfl (XS.icmpNo X74.here hx rfl (hb hby at_296) rfl (teq (own_yes4 _ _ _ _ _ _ hc137_62 hv275_69 hv287_72)).2 (XS.iconst X74.here hx rfl (hb hby at_299) (XS.goto X74.here hx rfl (pc0 := 300) (pc' := 304) rfl (hb hby at_300) (by decide) (by decide) k)))) ?_
          exact own_out X74 (v := (some (.int (1 : Int32)))) hlk (own_nv Bd.returns) (by rw [eq74]; exact ⟨rfl, N74⟩) (by decide) (by decide) (fun fs hr => retN X74 hx (t := .boolean) Bd.returns (by simp) (hb hby at_304) hr)
        by_cases hc278_75 : v275_69 < (2 : Int32)
        · refine own_step (U' := T70.setTop (mkF m 287 #[iv p0, iv p1, .val (.long q2), .second, iv (4 : Int32), rv b52, .unset, iv v275_69] [(.int (-1 : Int32))])) (fun t k => XS.icmpYes X70.here hx rfl (pc0 := 278) (pc' := 286) rfl (hb hby at_278) rfl (tlt hc278_75).1 (by decide) (by decide) (XS.iconst X70.here hx rfl (hb hby at_286) k)) ?_
          have q_v287_72 : v287_72 = (-1 : Int32) := by rw [hv287_72, if_pos hc278_75]
          rw [q_v287_72] at K287_73
          exact K287_73 _ _ X70 N70 e70
        · refine own_step (U' := T70.setTop (mkF m 287 #[iv p0, iv p1, .val (.long q2), .second, iv (4 : Int32), rv b52, .unset, iv v275_69] [(.int v275_69)])) (fun t k => XS.icmpNo X70.here hx rfl (hb hby at_278) rfl (flt hc278_75).1 (XS.iload X70.here hx rfl (hb hby at_281) rfl (XS.goto X70.here hx rfl (pc0 := 283) (pc' := 287) rfl (hb hby at_283) (by decide) (by decide) k))) ?_
          have q_v287_72 : v287_72 = v275_69 := by rw [hv287_72, if_neg hc278_75]
          rw [q_v287_72] at K287_73
          exact K287_73 _ _ X70 N70 e70
      by_cases hc161_76 : (nar .byte (F2 p1 q2 (1 : Int32))) = (41 : Int32)
      · refine own_step (U' := T60.setTop (mkF m 275 #[iv p0, iv p1, .val (.long q2), .second, iv (4 : Int32), rv b52, .unset, iv (1 : Int32)] [])) (fun t k => XS.icmpNo X60.here hx rfl (hb hby at_161) rfl (teq hc161_76).2 (XS.iconst X60.here hx rfl (hb hby at_164) (XS.istore X60.here hx rfl (hb hby at_165) rfl (l' := #[iv p0, iv p1, .val (.long q2), .second, iv (4 : Int32), rv b52, .unset, iv (1 : Int32)]) rfl (XS.goto X60.here hx rfl (pc0 := 167) (pc' := 275) rfl (hb hby at_167) (by decide) (by decide) k)))) ?_
        have q_v275_69 : v275_69 = (1 : Int32) := by rw [hv275_69, if_pos hc161_76]
        rw [q_v275_69] at K275_70
        exact K275_70 _ _ X60 N60 e60
      · refine own_step (U' := T60.setTop (mkF m 179 #[iv p0, iv p1, .val (.long q2), .second, iv (4 : Int32), rv b52, .unset, iv (-1 : Int32)] [(.int (2 : Int32)), (.ref b52)])) (fun t k => XS.icmpYes X60.here hx rfl (pc0 := 161) (pc' := 170) rfl (hb hby at_161) rfl (feq hc161_76).2 (by decide) (by decide) (XS.iload X60.here hx rfl (hb hby at_170) rfl (XS.iconst X60.here hx rfl (hb hby at_172) (XS.icmpNo X60.here hx rfl (hb hby at_173) rfl (by decide) (XS.aload X60.here hx rfl (hb hby at_176) rfl rfl (XS.iconst X60.here hx rfl (hb hby at_178) k)))))) ?_
        obtain ⟨cl77, Ar77, aq77, aS77, aN77, aH77, aG77⟩ := id V_b52_60
        have hin77 : ¬ ((2 : Int32) < 0 ∨ cl77.slots.size ≤ ((2 : Int32)).toNatClampNeg) := inb_of aS77 ⟨by decide, by decide⟩
        have hat77 : cl77.slots[((2 : Int32)).toNatClampNeg]? = some (.int (nar .byte (F2 p1 q2 (2 : Int32)))) := aH77.at hin77 rfl
        refine own_step (U' := T60.setTop (mkF m 182 #[iv p0, iv p1, .val (.long q2), .second, iv (4 : Int32), rv b52, .unset, iv (-1 : Int32)] [(.int (41 : Int32)), (.int (nar .byte (F2 p1 q2 (2 : Int32))))])) (fun t k => X60.baloadBytes hx (j := (2 : Int32)) (v := (.int (nar .byte (F2 p1 q2 (2 : Int32))))) (by rw [e60]; exact Ar77.1) (State.isArrayOf_alike hZ.alike Ar77.2.1) Ar77.2.2 hin77 hat77 (g := (mkF m 179 #[iv p0, iv p1, .val (.long q2), .second, iv (4 : Int32), rv b52, .unset, iv (-1 : Int32)] [(.int (2 : Int32)), (.ref b52)])) rfl rfl (hb hby at_179) t (XS.bipush X60.here hx rfl (hb hby at_180) k)) ?_
        by_cases hc182_78 : (nar .byte (F2 p1 q2 (2 : Int32))) = (41 : Int32)
        · refine own_step (U' := T60.setTop (mkF m 275 #[iv p0, iv p1, .val (.long q2), .second, iv (4 : Int32), rv b52, .unset, iv (2 : Int32)] [])) (fun t k => XS.icmpNo X60.here hx rfl (hb hby at_182) rfl (teq hc182_78).2 (XS.iconst X60.here hx rfl (hb hby at_185) (XS.istore X60.here hx rfl (hb hby at_186) rfl (l' := #[iv p0, iv p1, .val (.long q2), .second, iv (4 : Int32), rv b52, .unset, iv (2 : Int32)]) rfl (XS.goto X60.here hx rfl (pc0 := 188) (pc' := 275) rfl (hb hby at_188) (by decide) (by decide) k)))) ?_
          have q_v275_69 : v275_69 = (2 : Int32) := by rw [hv275_69, if_neg hc161_76, if_pos hc182_78]
          rw [q_v275_69] at K275_70
          exact K275_70 _ _ X60 N60 e60
        · refine own_step (U' := T60.setTop (mkF m 200 #[iv p0, iv p1, .val (.long q2), .second, iv (4 : Int32), rv b52, .unset, iv (-1 : Int32)] [(.int (3 : Int32)), (.ref b52)])) (fun t k => XS.icmpYes X60.here hx rfl (pc0 := 182) (pc' := 191) rfl (hb hby at_182) rfl (feq hc182_78).2 (by decide) (by decide) (XS.iload X60.here hx rfl (hb hby at_191) rfl (XS.iconst X60.here hx rfl (hb hby at_193) (XS.icmpNo X60.here hx rfl (hb hby at_194) rfl (by decide) (XS.aload X60.here hx rfl (hb hby at_197) rfl rfl (XS.iconst X60.here hx rfl (hb hby at_199) k)))))) ?_
          obtain ⟨cl79, Ar79, aq79, aS79, aN79, aH79, aG79⟩ := id V_b52_60
          have hin79 : ¬ ((3 : Int32) < 0 ∨ cl79.slots.size ≤ ((3 : Int32)).toNatClampNeg) := inb_of aS79 ⟨by decide, by decide⟩
          have hat79 : cl79.slots[((3 : Int32)).toNatClampNeg]? = some (.int (nar .byte (F2 p1 q2 (3 : Int32)))) := aH79.at hin79 rfl
          refine own_step (U' := T60.setTop (mkF m 203 #[iv p0, iv p1, .val (.long q2), .second, iv (4 : Int32), rv b52, .unset, iv (-1 : Int32)] [(.int (41 : Int32)), (.int (nar .byte (F2 p1 q2 (3 : Int32))))])) (fun t k => X60.baloadBytes hx (j := (3 : Int32)) (v := (.int (nar .byte (F2 p1 q2 (3 : Int32))))) (by rw [e60]; exact Ar79.1) (State.isArrayOf_alike hZ.alike Ar79.2.1) Ar79.2.2 hin79 hat79 (g := (mkF m 200 #[iv p0, iv p1, .val (.long q2), .second, iv (4 : Int32), rv b52, .unset, iv (-1 : Int32)] [(.int (3 : Int32)), (.ref b52)])) rfl rfl (hb hby at_200) t (XS.bipush X60.here hx rfl (hb hby at_201) k)) ?_
          by_cases hc203_80 : (nar .byte (F2 p1 q2 (3 : Int32))) = (41 : Int32)
          · refine own_step (U' := T60.setTop (mkF m 275 #[iv p0, iv p1, .val (.long q2), .second, iv (4 : Int32), rv b52, .unset, iv (3 : Int32)] [])) (fun t k => XS.icmpNo X60.here hx rfl (hb hby at_203) rfl (teq hc203_80).2 (XS.iconst X60.here hx rfl (hb hby at_206) (XS.istore X60.here hx rfl (hb hby at_207) rfl (l' := #[iv p0, iv p1, .val (.long q2), .second, iv (4 : Int32), rv b52, .unset, iv (3 : Int32)]) rfl (XS.goto X60.here hx rfl (pc0 := 209) (pc' := 275) rfl (hb hby at_209) (by decide) (by decide) k)))) ?_
            have q_v275_69 : v275_69 = (3 : Int32) := by rw [hv275_69, if_neg hc161_76, if_neg hc182_78, if_pos hc203_80]
            rw [q_v275_69] at K275_70
            exact K275_70 _ _ X60 N60 e60
          · refine own_step (U' := T60.setTop (mkF m 256 #[iv p0, iv p1, .val (.long q2), .second, iv (4 : Int32), rv b52, .unset, iv (-1 : Int32)] [(.int (4 : Int32))])) (fun t k => XS.icmpYes X60.here hx rfl (pc0 := 203) (pc' := 212) rfl (hb hby at_203) rfl (feq hc203_80).2 (by decide) (by decide) (XS.iload X60.here hx rfl (hb hby at_212) rfl (XS.iconst X60.here hx rfl (hb hby at_214) (XS.icmpYes X60.here hx rfl (pc0 := 215) (pc' := 233) rfl (hb hby at_215) rfl (by decide) (by decide) (by decide) (XS.iload X60.here hx rfl (hb hby at_233) rfl (XS.iconst X60.here hx rfl (hb hby at_235) (XS.icmpYes X60.here hx rfl (pc0 := 236) (pc' := 254) rfl (hb hby at_236) rfl (by decide) (by decide) (by decide) (XS.iload X60.here hx rfl (hb hby at_254) rfl k)))))))) ?_
            refine own_step (U' := T60.setTop (mkF m 275 #[iv p0, iv p1, .val (.long q2), .second, iv (4 : Int32), rv b52, .unset, iv (-1 : Int32)] [])) (fun t k => XS.bipush X60.here hx rfl (hb hby at_256) (XS.icmpYes X60.here hx rfl (pc0 := 258) (pc' := 275) rfl (hb hby at_258) rfl (by decide) (by decide) (by decide) k)) ?_
            have q_v275_69 : v275_69 = (-1 : Int32) := by rw [hv275_69, if_neg hc161_76, if_neg hc182_78, if_neg hc203_80]
            rw [q_v275_69] at K275_70
            exact K275_70 _ _ X60 N60 e60
    · refine own_step (U' := T60.setTop (mkF m 291 #[iv p0, iv p1, .val (.long q2), .second, iv (4 : Int32), rv b52, iv (-1 : Int32), .unset] [(.ref b52)])) (fun t k => XS.icmpNo X60.here hx rfl (hb hby at_137) rfl (feq hc137_62).1 (XS.iconst X60.here hx rfl (hb hby at_140) (XS.istore X60.here hx rfl (hb hby at_141) rfl (l' := #[iv p0, iv p1, .val (.long q2), .second, iv (4 : Int32), rv b52, iv (-1 : Int32), .unset]) rfl (XS.goto X60.here hx rfl (pc0 := 143) (pc' := 289) rfl (hb hby at_143) (by decide) (by decide) (XS.aload X60.here hx rfl (hb hby at_289) rfl rfl k))))) ?_
      obtain ⟨_, _, ⟨T81, L81, k81, n81⟩, -, X81, ⟨Lc81, hQ81, l81, y81, z81⟩, st81⟩ := Jvm.LawKit.callS X60 hx (y := (⟨"com/example/tallyfield/tallyfield/control/ControlNumbers", "codeEnd", "([B)I"⟩ : MethodName)) hown (mvT hZ (own_w hw 1 rfl)) (mvT hZ (own_w hw 2 rfl)) (mvT hZ (own_w hw 3 rfl)) (mvT hZ (own_w hw 4 rfl)) (by decide) (backOf (W := 0) (rm1k4 l Z a0 hw [] b52 (nar .byte (F2 p1 q2 (0 : Int32))) (nar .byte (F2 p1 q2 (1 : Int32))) (nar .byte (F2 p1 q2 (2 : Int32))) (nar .byte (F2 p1 q2 (3 : Int32))) k52 h60 n0 Z60 V_b52_60) hZ (own_w hw 4 rfl) (own_w hw 3 rfl) (by decide) (by decide)) (g := (mkF m 291 #[iv p0, iv p1, .val (.long q2), .second, iv (4 : Int32), rv b52, iv (-1 : Int32), .unset] [(.ref b52)])) rfl (by rw [hml]; rfl) (argsL := [(.ref b52)]) (rest := []) (lenOf pd___B_I rfl) rfl (by show 2 * 0 + _ ≤ _; exact Nat.le_of_eq rfl) (hb hby at_291) (fun _ _ => ⟨rfl, e60, (by decide : 1 + 0 ≤ _), (by decide : 4 + 0 ≤ _)⟩)
      dsimp only [Pt.U, Pt.locs, Pt.cells, Pt.slots] at X81 l81 y81 z81 st81 hQ81
      subst l81 y81 z81
      obtain ⟨rfl, N81q, eq81⟩ := hQ81
      have N81 := Fr.app N60 N81q
      refine own_step (U' := T81.setTop (mkF m 294 #[iv p0, iv p1, .val (.long q2), .second, iv (4 : Int32), rv b52, iv (-1 : Int32), .unset] [(.int (F1k4 (nar .byte (F2 p1 q2 (0 : Int32))) (nar .byte (F2 p1 q2 (1 : Int32))) (nar .byte (F2 p1 q2 (2 : Int32))) (nar .byte (F2 p1 q2 (3 : Int32)))))])) st81 ?_
      refine own_step (U' := T81.setTop (mkF m 304 #[iv p0, iv p1, .val (.long q2), .second, iv (4 : Int32), rv b52, iv (-1 : Int32), .unset] [(.int (1 : Int32))])) (fun t k => XS.iload X81.here hx rfl (hb hby at_294) rfl (XS.icmpNo X81.here hx rfl (hb hby at_296) rfl (teq (own_no4 _ _ _ _ hc137_62)).2 (XS.iconst X81.here hx rfl (hb hby at_299) (XS.goto X81.here hx rfl (pc0 := 300) (pc' := 304) rfl (hb hby at_300) (by decide) (by decide) k)))) ?_
      exact own_out X81 (v := (some (.int (1 : Int32)))) hlk (own_nv Bd.returns) (by rw [eq81]; exact ⟨rfl, N81⟩) (by decide) (by decide) (fun fs hr => retN X81 hx (t := .boolean) Bd.returns (by simp) (hb hby at_304) hr)
  · rw [hn5]
    refine own_step (U' := s₁.setTop (mkF m 8 #[iv p0, iv p1, .val (.long q2), .second, iv (5 : Int32), .unset, .unset, .unset] [(.int (5 : Int32))])) (fun t k => XS.istore X0.here hx rfl (hb hby at_4) rfl (l' := #[iv p0, iv p1, .val (.long q2), .second, iv (5 : Int32), .unset, .unset, .unset]) rfl (XS.iload X0.here hx rfl (hb hby at_6) rfl k)) ?_
    obtain ⟨T82, h82, k82, X82, e82, E82, A82, st82⟩ := newP X0 hx hZ (own_w hw 0 rfl) e0 (g := (mkF m 8 #[iv p0, iv p1, .val (.long q2), .second, iv (5 : Int32), .unset, .unset, .unset] [(.int (5 : Int32))])) rfl (hb hby at_8) rfl (by decide) (cap := 5) (by decide) (by decide) (by decide) (by decide)
    obtain ⟨b82, g82⟩ : ∃ z, z = h0.size := ⟨_, rfl⟩
    have ge_b82 : n0 ≤ b82 := Nat.le_trans Z0 (Nat.le_of_eq g82.symm)
    have sz_b82 : h0.size ≤ b82 := Nat.le_trans KK0.1 (Nat.le_of_eq g82.symm)
    rw [← g82] at A82 st82
    have V_b82 : Arv Z h82 b82 k82 .byte (5 : Int32) [(.int (0 : Int32)), (.int (0 : Int32)), (.int (0 : Int32)), (.int (0 : Int32)), (.int (0 : Int32))] (.int (0 : Int32)) := (Arv.new A82 (by decide)).pad (pad_rep [] (.int (0 : Int32)) 5)
    have Z82 : n0 ≤ h82.size := Nat.le_trans Z0 E82.1
    have KK82 := KK0.ext E82
    refine own_step (U' := T82.setTop (mkF m 10 #[iv p0, iv p1, .val (.long q2), .second, iv (5 : Int32), .unset, .unset, .unset] [(.ref b82)])) st82 ?_
    refine own_step (U' := T82.setTop (mkF m 23 #[iv p0, iv p1, .val (.long q2), .second, iv (5 : Int32), rv b82, .unset, .unset] [(.int (0 : Int32)), (.long q2), (.int p1), (.int (0 : Int32)), (.ref b82)])) (fun t k => XS.astore X82.here hx rfl (hb hby at_10) rfl rfl (l' := #[iv p0, iv p1, .val (.long q2), .second, iv (5 : Int32), rv b82, .unset, .unset]) rfl (XS.iload X82.here hx rfl (hb hby at_12) rfl (XS.ifNo X82.here hx rfl (hb hby at_14) rfl (by decide) (XS.aload X82.here hx rfl (hb hby at_17) rfl rfl (XS.iconst X82.here hx rfl (hb hby at_19) (XS.iloadN X82.here hx rfl (hb hby at_20) rfl (XS.lloadN X82.here hx rfl (hb hby at_21) rfl (XS.iconst X82.here hx rfl (hb hby at_22) k)))))))) ?_
    obtain ⟨_, _, ⟨T83, L83, k83, n83⟩, -, X83, ⟨Lc83, hQ83, l83, y83, z83⟩, st83⟩ := Jvm.LawKit.callS X82 hx (y := (⟨"com/example/tallyfield/tallyfield/control/ControlNumbersCodeEndPinLaw", "pick", "(IJI)B"⟩ : MethodName)) hown (mvT hZ (own_w hw 5 rfl)) (mvT hZ (own_w hw 6 rfl)) (mvT hZ (own_w hw 7 rfl)) (mvT hZ (own_w hw 8 rfl)) (by decide) (backOf (W := 2) (rm2 l Z a0 hw [] p1 q2 (0 : Int32) h82 n0 Z82) hZ (own_w hw 8 rfl) (own_w hw 7 rfl) (by decide) (by decide)) (g := (mkF m 23 #[iv p0, iv p1, .val (.long q2), .second, iv (5 : Int32), rv b82, .unset, .unset] [(.int (0 : Int32)), (.long q2), (.int p1), (.int (0 : Int32)), (.ref b82)])) rfl (by rw [hml]; rfl) (argsL := [(.int p1), (.long q2), (.int (0 : Int32))]) (rest := [(.int (0 : Int32)), (.ref b82)]) (lenOf pd__IJI_B rfl) rfl (by show 2 * 0 + _ ≤ _; exact Nat.le_of_eq rfl) (hb hby at_23) (fun _ _ => ⟨rfl, e82, (by decide : 1 + 0 ≤ _), (by decide : 5 + 0 ≤ _)⟩)
    dsimp only [Pt.U, Pt.locs, Pt.cells, Pt.slots] at X83 l83 y83 z83 st83 hQ83
    subst l83 y83 z83
    obtain ⟨rfl, N83q, eq83⟩ := hQ83
    have N83 := Fr.app N0 N83q
    refine own_step (U' := T83.setTop (mkF m 26 #[iv p0, iv p1, .val (.long q2), .second, iv (5 : Int32), rv b82, .unset, .unset] [(.int (F2 p1 q2 (0 : Int32))), (.int (0 : Int32)), (.ref b82)])) st83 ?_
    obtain ⟨cl84, Ar84, aq84, aS84, aN84, aH84, aG84⟩ := id V_b82
    have hin84 : ¬ ((0 : Int32) < 0 ∨ cl84.slots.size ≤ ((0 : Int32)).toNatClampNeg) := inb_of aS84 ⟨by decide, by decide⟩
    obtain ⟨T84, h84, X84, e84, W84, st84⟩ := stB X83 hx hZ eq83 Ar84 (j := (0 : Int32)) hin84 (g := (mkF m 26 #[iv p0, iv p1, .val (.long q2), .second, iv (5 : Int32), rv b82, .unset, .unset] [(.int (F2 p1 q2 (0 : Int32))), (.int (0 : Int32)), (.ref b82)])) rfl rfl (hb hby at_26)
    have V_b82_84 : Arv Z h84 b82 k82 .byte (5 : Int32) [(.int (nar .byte (F2 p1 q2 (0 : Int32)))), (.int (0 : Int32)), (.int (0 : Int32)), (.int (0 : Int32)), (.int (0 : Int32))] (.int (0 : Int32)) := Arv.set Ar84 aq84 aS84 aN84 aH84 aG84 (fits_nar_byte _) W84 0 rfl (Nat.le_of_ble_eq_true rfl)
    have Z84 : n0 ≤ h84.size := Nat.le_trans Z82 (Keep.of_wr W84).1
    have KK84 := KK82.wr W84 (Or.inr sz_b82)
    have N84 := Fr.snoc X84 N83 ge_b82
    refine own_step (U' := T84.setTop (mkF m 27 #[iv p0, iv p1, .val (.long q2), .second, iv (5 : Int32), rv b82, .unset, .unset] [])) st84 ?_
    refine own_step (U' := T84.setTop (mkF m 39 #[iv p0, iv p1, .val (.long q2), .second, iv (5 : Int32), rv b82, .unset, .unset] [(.int (1 : Int32)), (.long q2), (.int p1), (.int (1 : Int32)), (.ref b82)])) (fun t k => XS.iload X84.here hx rfl (hb hby at_27) rfl (XS.iconst X84.here hx rfl (hb hby at_29) (XS.icmpNo X84.here hx rfl (hb hby at_30) rfl (by decide) (XS.aload X84.here hx rfl (hb hby at_33) rfl rfl (XS.iconst X84.here hx rfl (hb hby at_35) (XS.iloadN X84.here hx rfl (hb hby at_36) rfl (XS.lloadN X84.here hx rfl (hb hby at_37) rfl (XS.iconst X84.here hx rfl (hb hby at_38) k)))))))) ?_
    obtain ⟨_, _, ⟨T85, L85, k85, n85⟩, -, X85, ⟨Lc85, hQ85, l85, y85, z85⟩, st85⟩ := Jvm.LawKit.callS X84 hx (y := (⟨"com/example/tallyfield/tallyfield/control/ControlNumbersCodeEndPinLaw", "pick", "(IJI)B"⟩ : MethodName)) hown (mvT hZ (own_w hw 5 rfl)) (mvT hZ (own_w hw 6 rfl)) (mvT hZ (own_w hw 7 rfl)) (mvT hZ (own_w hw 8 rfl)) (by decide) (backOf (W := 2) (rm2 l Z a0 hw [] p1 q2 (1 : Int32) h84 n0 Z84) hZ (own_w hw 8 rfl) (own_w hw 7 rfl) (by decide) (by decide)) (g := (mkF m 39 #[iv p0, iv p1, .val (.long q2), .second, iv (5 : Int32), rv b82, .unset, .unset] [(.int (1 : Int32)), (.long q2), (.int p1), (.int (1 : Int32)), (.ref b82)])) rfl (by rw [hml]; rfl) (argsL := [(.int p1), (.long q2), (.int (1 : Int32))]) (rest := [(.int (1 : Int32)), (.ref b82)]) (lenOf pd__IJI_B rfl) rfl (by show 2 * 0 + _ ≤ _; exact Nat.le_of_eq rfl) (hb hby at_39) (fun _ _ => ⟨rfl, e84, (by decide : 1 + 0 ≤ _), (by decide : 5 + 0 ≤ _)⟩)
    dsimp only [Pt.U, Pt.locs, Pt.cells, Pt.slots] at X85 l85 y85 z85 st85 hQ85
    subst l85 y85 z85
    obtain ⟨rfl, N85q, eq85⟩ := hQ85
    have N85 := Fr.app N84 N85q
    refine own_step (U' := T85.setTop (mkF m 42 #[iv p0, iv p1, .val (.long q2), .second, iv (5 : Int32), rv b82, .unset, .unset] [(.int (F2 p1 q2 (1 : Int32))), (.int (1 : Int32)), (.ref b82)])) st85 ?_
    obtain ⟨cl86, Ar86, aq86, aS86, aN86, aH86, aG86⟩ := id V_b82_84
    have hin86 : ¬ ((1 : Int32) < 0 ∨ cl86.slots.size ≤ ((1 : Int32)).toNatClampNeg) := inb_of aS86 ⟨by decide, by decide⟩
    obtain ⟨T86, h86, X86, e86, W86, st86⟩ := stB X85 hx hZ eq85 Ar86 (j := (1 : Int32)) hin86 (g := (mkF m 42 #[iv p0, iv p1, .val (.long q2), .second, iv (5 : Int32), rv b82, .unset, .unset] [(.int (F2 p1 q2 (1 : Int32))), (.int (1 : Int32)), (.ref b82)])) rfl rfl (hb hby at_42)
    have V_b82_86 : Arv Z h86 b82 k82 .byte (5 : Int32) [(.int (nar .byte (F2 p1 q2 (0 : Int32)))), (.int (nar .byte (F2 p1 q2 (1 : Int32)))), (.int (0 : Int32)), (.int (0 : Int32)), (.int (0 : Int32))] (.int (0 : Int32)) := Arv.set Ar86 aq86 aS86 aN86 aH86 aG86 (fits_nar_byte _) W86 1 rfl (Nat.le_of_ble_eq_true rfl)
    have Z86 : n0 ≤ h86.size := Nat.le_trans Z84 (Keep.of_wr W86).1
    have KK86 := KK84.wr W86 (Or.inr sz_b82)
    have N86 := Fr.snoc X86 N85 ge_b82
    refine own_step (U' := T86.setTop (mkF m 43 #[iv p0, iv p1, .val (.long q2), .second, iv (5 : Int32), rv b82, .unset, .unset] [])) st86 ?_
    refine own_step (U' := T86.setTop (mkF m 55 #[iv p0, iv p1, .val (.long q2), .second, iv (5 : Int32), rv b82, .unset, .unset] [(.int (2 : Int32)), (.long q2), (.int p1), (.int (2 : Int32)), (.ref b82)])) (fun t k => XS.iload X86.here hx rfl (hb hby at_43) rfl (XS.iconst X86.here hx rfl (hb hby at_45) (XS.icmpNo X86.here hx rfl (hb hby at_46) rfl (by decide) (XS.aload X86.here hx rfl (hb hby at_49) rfl rfl (XS.iconst X86.here hx rfl (hb hby at_51) (XS.iloadN X86.here hx rfl (hb hby at_52) rfl (XS.lloadN X86.here hx rfl (hb hby at_53) rfl (XS.iconst X86.here hx rfl (hb hby at_54) k)))))))) ?_
    obtain ⟨_, _, ⟨T87, L87, k87, n87⟩, -, X87, ⟨Lc87, hQ87, l87, y87, z87⟩, st87⟩ := Jvm.LawKit.callS X86 hx (y := (⟨"com/example/tallyfield/tallyfield/control/ControlNumbersCodeEndPinLaw", "pick", "(IJI)B"⟩ : MethodName)) hown (mvT hZ (own_w hw 5 rfl)) (mvT hZ (own_w hw 6 rfl)) (mvT hZ (own_w hw 7 rfl)) (mvT hZ (own_w hw 8 rfl)) (by decide) (backOf (W := 2) (rm2 l Z a0 hw [] p1 q2 (2 : Int32) h86 n0 Z86) hZ (own_w hw 8 rfl) (own_w hw 7 rfl) (by decide) (by decide)) (g := (mkF m 55 #[iv p0, iv p1, .val (.long q2), .second, iv (5 : Int32), rv b82, .unset, .unset] [(.int (2 : Int32)), (.long q2), (.int p1), (.int (2 : Int32)), (.ref b82)])) rfl (by rw [hml]; rfl) (argsL := [(.int p1), (.long q2), (.int (2 : Int32))]) (rest := [(.int (2 : Int32)), (.ref b82)]) (lenOf pd__IJI_B rfl) rfl (by show 2 * 0 + _ ≤ _; exact Nat.le_of_eq rfl) (hb hby at_55) (fun _ _ => ⟨rfl, e86, (by decide : 1 + 0 ≤ _), (by decide : 5 + 0 ≤ _)⟩)
    dsimp only [Pt.U, Pt.locs, Pt.cells, Pt.slots] at X87 l87 y87 z87 st87 hQ87
    subst l87 y87 z87
    obtain ⟨rfl, N87q, eq87⟩ := hQ87
    have N87 := Fr.app N86 N87q
    refine own_step (U' := T87.setTop (mkF m 58 #[iv p0, iv p1, .val (.long q2), .second, iv (5 : Int32), rv b82, .unset, .unset] [(.int (F2 p1 q2 (2 : Int32))), (.int (2 : Int32)), (.ref b82)])) st87 ?_
    obtain ⟨cl88, Ar88, aq88, aS88, aN88, aH88, aG88⟩ := id V_b82_86
    have hin88 : ¬ ((2 : Int32) < 0 ∨ cl88.slots.size ≤ ((2 : Int32)).toNatClampNeg) := inb_of aS88 ⟨by decide, by decide⟩
    obtain ⟨T88, h88, X88, e88, W88, st88⟩ := stB X87 hx hZ eq87 Ar88 (j := (2 : Int32)) hin88 (g := (mkF m 58 #[iv p0, iv p1, .val (.long q2), .second, iv (5 : Int32), rv b82, .unset, .unset] [(.int (F2 p1 q2 (2 : Int32))), (.int (2 : Int32)), (.ref b82)])) rfl rfl (hb hby at_58)
    have V_b82_88 : Arv Z h88 b82 k82 .byte (5 : Int32) [(.int (nar .byte (F2 p1 q2 (0 : Int32)))), (.int (nar .byte (F2 p1 q2 (1 : Int32)))), (.int (nar .byte (F2 p1 q2 (2 : Int32)))), (.int (0 : Int32)), (.int (0 : Int32))] (.int (0 : Int32)) := Arv.set Ar88 aq88 aS88 aN88 aH88 aG88 (fits_nar_byte _) W88 2 rfl (Nat.le_of_ble_eq_true rfl)
    have Z88 : n0 ≤ h88.size := Nat.le_trans Z86 (Keep.of_wr W88).1
    have KK88 := KK86.wr W88 (Or.inr sz_b82)
    have N88 := Fr.snoc X88 N87 ge_b82
    refine own_step (U' := T88.setTop (mkF m 59 #[iv p0, iv p1, .val (.long q2), .second, iv (5 : Int32), rv b82, .unset, .unset] [])) st88 ?_
    refine own_step (U' := T88.setTop (mkF m 71 #[iv p0, iv p1, .val (.long q2), .second, iv (5 : Int32), rv b82, .unset, .unset] [(.int (3 : Int32)), (.long q2), (.int p1), (.int (3 : Int32)), (.ref b82)])) (fun t k => XS.iload X88.here hx rfl (hb hby at_59) rfl (XS.iconst X88.here hx rfl (hb hby at_61) (XS.icmpNo X88.here hx rfl (hb hby at_62) rfl (by decide) (XS.aload X88.here hx rfl (hb hby at_65) rfl rfl (XS.iconst X88.here hx rfl (hb hby at_67) (XS.iloadN X88.here hx rfl (hb hby at_68) rfl (XS.lloadN X88.here hx rfl (hb hby at_69) rfl (XS.iconst X88.here hx rfl (hb hby at_70) k)))))))) ?_
    obtain ⟨_, _, ⟨T89, L89, k89, n89⟩, -, X89, ⟨Lc89, hQ89, l89, y89, z89⟩, st89⟩ := Jvm.LawKit.callS X88 hx (y := (⟨"com/example/tallyfield/tallyfield/control/ControlNumbersCodeEndPinLaw", "pick", "(IJI)B"⟩ : MethodName)) hown (mvT hZ (own_w hw 5 rfl)) (mvT hZ (own_w hw 6 rfl)) (mvT hZ (own_w hw 7 rfl)) (mvT hZ (own_w hw 8 rfl)) (by decide) (backOf (W := 2) (rm2 l Z a0 hw [] p1 q2 (3 : Int32) h88 n0 Z88) hZ (own_w hw 8 rfl) (own_w hw 7 rfl) (by decide) (by decide)) (g := (mkF m 71 #[iv p0, iv p1, .val (.long q2), .second, iv (5 : Int32), rv b82, .unset, .unset] [(.int (3 : Int32)), (.long q2), (.int p1), (.int (3 : Int32)), (.ref b82)])) rfl (by rw [hml]; rfl) (argsL := [(.int p1), (.long q2), (.int (3 : Int32))]) (rest := [(.int (3 : Int32)), (.ref b82)]) (lenOf pd__IJI_B rfl) rfl (by show 2 * 0 + _ ≤ _; exact Nat.le_of_eq rfl) (hb hby at_71) (fun _ _ => ⟨rfl, e88, (by decide : 1 + 0 ≤ _), (by decide : 5 + 0 ≤ _)⟩)
    dsimp only [Pt.U, Pt.locs, Pt.cells, Pt.slots] at X89 l89 y89 z89 st89 hQ89
    subst l89 y89 z89
    obtain ⟨rfl, N89q, eq89⟩ := hQ89
    have N89 := Fr.app N88 N89q
    refine own_step (U' := T89.setTop (mkF m 74 #[iv p0, iv p1, .val (.long q2), .second, iv (5 : Int32), rv b82, .unset, .unset] [(.int (F2 p1 q2 (3 : Int32))), (.int (3 : Int32)), (.ref b82)])) st89 ?_
    obtain ⟨cl90, Ar90, aq90, aS90, aN90, aH90, aG90⟩ := id V_b82_88
    have hin90 : ¬ ((3 : Int32) < 0 ∨ cl90.slots.size ≤ ((3 : Int32)).toNatClampNeg) := inb_of aS90 ⟨by decide, by decide⟩
    obtain ⟨T90, h90, X90, e90, W90, st90⟩ := stB X89 hx hZ eq89 Ar90 (j := (3 : Int32)) hin90 (g := (mkF m 74 #[iv p0, iv p1, .val (.long q2), .second, iv (5 : Int32), rv b82, .unset, .unset] [(.int (F2 p1 q2 (3 : Int32))), (.int (3 : Int32)), (.ref b82)])) rfl rfl (hb hby at_74)
    have V_b82_90 : Arv Z h90 b82 k82 .byte (5 : Int32) [(.int (nar .byte (F2 p1 q2 (0 : Int32)))), (.int (nar .byte (F2 p1 q2 (1 : Int32)))), (.int (nar .byte (F2 p1 q2 (2 : Int32)))), (.int (nar .byte (F2 p1 q2 (3 : Int32)))), (.int (0 : Int32))] (.int (0 : Int32)) := Arv.set Ar90 aq90 aS90 aN90 aH90 aG90 (fits_nar_byte _) W90 3 rfl (Nat.le_of_ble_eq_true rfl)
    have Z90 : n0 ≤ h90.size := Nat.le_trans Z88 (Keep.of_wr W90).1
    have KK90 := KK88.wr W90 (Or.inr sz_b82)
    have N90 := Fr.snoc X90 N89 ge_b82
    refine own_step (U' := T90.setTop (mkF m 75 #[iv p0, iv p1, .val (.long q2), .second, iv (5 : Int32), rv b82, .unset, .unset] [])) st90 ?_
    refine own_step (U' := T90.setTop (mkF m 87 #[iv p0, iv p1, .val (.long q2), .second, iv (5 : Int32), rv b82, .unset, .unset] [(.int (4 : Int32)), (.long q2), (.int p1), (.int (4 : Int32)), (.ref b82)])) (fun t k => XS.iload X90.here hx rfl (hb hby at_75) rfl (XS.iconst X90.here hx rfl (hb hby at_77) (XS.icmpNo X90.here hx rfl (hb hby at_78) rfl (by decide) (XS.aload X90.here hx rfl (hb hby at_81) rfl rfl (XS.iconst X90.here hx rfl (hb hby at_83) (XS.iloadN X90.here hx rfl (hb hby at_84) rfl (XS.lloadN X90.here hx rfl (hb hby at_85) rfl (XS.iconst X90.here hx rfl (hb hby at_86) k)))))))) ?_
    obtain ⟨_, _, ⟨T91, L91, k91, n91⟩, -, X91, ⟨Lc91, hQ91, l91, y91, z91⟩, st91⟩ := Jvm.LawKit.callS X90 hx (y := (⟨"com/example/tallyfield/tallyfield/control/ControlNumbersCodeEndPinLaw", "pick", "(IJI)B"⟩ : MethodName)) hown (mvT hZ (own_w hw 5 rfl)) (mvT hZ (own_w hw 6 rfl)) (mvT hZ (own_w hw 7 rfl)) (mvT hZ (own_w hw 8 rfl)) (by decide) (backOf (W := 2) (rm2 l Z a0 hw [] p1 q2 (4 : Int32) h90 n0 Z90) hZ (own_w hw 8 rfl) (own_w hw 7 rfl) (by decide) (by decide)) (g := (mkF m 87 #[iv p0, iv p1, .val (.long q2), .second, iv (5 : Int32), rv b82, .unset, .unset] [(.int (4 : Int32)), (.long q2), (.int p1), (.int (4 : Int32)), (.ref b82)])) rfl (by rw [hml]; rfl) (argsL := [(.int p1), (.long q2), (.int (4 : Int32))]) (rest := [(.int (4 : Int32)), (.ref b82)]) (lenOf pd__IJI_B rfl) rfl (by show 2 * 0 + _ ≤ _; exact Nat.le_of_eq rfl) (hb hby at_87) (fun _ _ => ⟨rfl, e90, (by decide : 1 + 0 ≤ _), (by decide : 5 + 0 ≤ _)⟩)
    dsimp only [Pt.U, Pt.locs, Pt.cells, Pt.slots] at X91 l91 y91 z91 st91 hQ91
    subst l91 y91 z91
    obtain ⟨rfl, N91q, eq91⟩ := hQ91
    have N91 := Fr.app N90 N91q
    refine own_step (U' := T91.setTop (mkF m 90 #[iv p0, iv p1, .val (.long q2), .second, iv (5 : Int32), rv b82, .unset, .unset] [(.int (F2 p1 q2 (4 : Int32))), (.int (4 : Int32)), (.ref b82)])) st91 ?_
    obtain ⟨cl92, Ar92, aq92, aS92, aN92, aH92, aG92⟩ := id V_b82_90
    have hin92 : ¬ ((4 : Int32) < 0 ∨ cl92.slots.size ≤ ((4 : Int32)).toNatClampNeg) := inb_of aS92 ⟨by decide, by decide⟩
    obtain ⟨T92, h92, X92, e92, W92, st92⟩ := stB X91 hx hZ eq91 Ar92 (j := (4 : Int32)) hin92 (g := (mkF m 90 #[iv p0, iv p1, .val (.long q2), .second, iv (5 : Int32), rv b82, .unset, .unset] [(.int (F2 p1 q2 (4 : Int32))), (.int (4 : Int32)), (.ref b82)])) rfl rfl (hb hby at_90)
    have V_b82_92 : Arv Z h92 b82 k82 .byte (5 : Int32) [(.int (nar .byte (F2 p1 q2 (0 : Int32)))), (.int (nar .byte (F2 p1 q2 (1 : Int32)))), (.int (nar .byte (F2 p1 q2 (2 : Int32)))), (.int (nar .byte (F2 p1 q2 (3 : Int32)))), (.int (nar .byte (F2 p1 q2 (4 : Int32))))] (.int (0 : Int32)) := Arv.set Ar92 aq92 aS92 aN92 aH92 aG92 (fits_nar_byte _) W92 4 rfl (Nat.le_of_ble_eq_true rfl)
    have Z92 : n0 ≤ h92.size := Nat.le_trans Z90 (Keep.of_wr W92).1
    have KK92 := KK90.wr W92 (Or.inr sz_b82)
    have N92 := Fr.snoc X92 N91 ge_b82
    refine own_step (U' := T92.setTop (mkF m 91 #[iv p0, iv p1, .val (.long q2), .second, iv (5 : Int32), rv b82, .unset, .unset] [])) st92 ?_
    refine own_step (U' := T92.setTop (mkF m 131 #[iv p0, iv p1, .val (.long q2), .second, iv (5 : Int32), rv b82, .unset, .unset] [])) (fun t k => XS.iload X92.here hx rfl (hb hby at_91) rfl (XS.iconst X92.here hx rfl (hb hby at_93) (XS.icmpYes X92.here hx rfl (pc0 := 94) (pc' := 107) rfl (hb hby at_94) rfl (by decide) (by decide) (by decide) (XS.iload X92.here hx rfl (hb hby at_107) rfl (XS.bipush X92.here hx rfl (hb hby at_109) (XS.icmpYes X92.here hx rfl (pc0 := 111) (pc' := 126) rfl (hb hby at_111) rfl (by decide) (by decide) (by decide) (XS.iload X92.here hx rfl (hb hby at_126) rfl (XS.ifNo X92.here hx rfl (hb hby at_128) rfl (by decide) k)))))))) ?_
    refine own_step (U' := T92.setTop (mkF m 134 #[iv p0, iv p1, .val (.long q2), .second, iv (5 : Int32), rv b82, .unset, .unset] [(.int (0 : Int32)), (.ref b82)])) (fun t k => XS.aload X92.here hx rfl (hb hby at_131) rfl rfl (XS.iconst X92.here hx rfl (hb hby at_133) k)) ?_
    obtain ⟨cl93, Ar93, aq93, aS93, aN93, aH93, aG93⟩ := id V_b82_92
    have hin93 : ¬ ((0 : Int32) < 0 ∨ cl93.slots.size ≤ ((0 : Int32)).toNatClampNeg) := inb_of aS93 ⟨by decide, by decide⟩
    have hat93 : cl93.slots[((0 : Int32)).toNatClampNeg]? = some (.int (nar .byte (F2 p1 q2 (0 : Int32)))) := aH93.at hin93 rfl
    refine own_step (U' := T92.setTop (mkF m 137 #[iv p0, iv p1, .val (.long q2), .second, iv (5 : Int32), rv b82, .unset, .unset] [(.int (40 : Int32)), (.int (nar .byte (F2 p1 q2 (0 : Int32))))])) (fun t k => X92.baloadBytes hx (j := (0 : Int32)) (v := (.int (nar .byte (F2 p1 q2 (0 : Int32))))) (by rw [e92]; exact Ar93.1) (State.isArrayOf_alike hZ.alike Ar93.2.1) Ar93.2.2 hin93 hat93 (g := (mkF m 134 #[iv p0, iv p1, .val (.long q2), .second, iv (5 : Int32), rv b82, .unset, .unset] [(.int (0 : Int32)), (.ref b82)])) rfl rfl (hb hby at_134) t (XS.bipush X92.here hx rfl (hb hby at_135) k)) ?_
    by_cases hc137_94 : (nar .byte (F2 p1 q2 (0 : Int32))) = (40 : Int32)
    · refine own_step (U' := T92.setTop (mkF m 158 #[iv p0, iv p1, .val (.long q2), .second, iv (5 : Int32), rv b82, .unset, iv (-1 : Int32)] [(.int (1 : Int32)), (.ref b82)])) (fun t k => XS.icmpYes X92.here hx rfl (pc0 := 137) (pc' := 146) rfl (hb hby at_137) rfl (teq hc137_94).1 (by decide) (by decide) (XS.iconst X92.here hx rfl (hb hby at_146) (XS.istore X92.here hx rfl (hb hby at_147) rfl (l' := #[iv p0, iv p1, .val (.long q2), .second, iv (5 : Int32), rv b82, .unset, iv (-1 : Int32)]) rfl (XS.iload X92.here hx rfl (hb hby at_149) rfl (XS.iconst X92.here hx rfl (hb hby at_151) (XS.icmpNo X92.here hx rfl (hb hby at_152) rfl (by decide) (XS.aload X92.here hx rfl (hb hby at_155) rfl rfl (XS.iconst X92.here hx rfl (hb hby at_157) k)))))))) ?_
      obtain ⟨cl95, Ar95, aq95, aS95, aN95, aH95, aG95⟩ := id V_b82_92
      have hin95 : ¬ ((1 : Int32) < 0 ∨ cl95.slots.size ≤ ((1 : Int32)).toNatClampNeg) := inb_of aS95 ⟨by decide, by decide⟩
      have hat95 : cl95.slots[((1 : Int32)).toNatClampNeg]? = some (.int (nar .byte (F2 p1 q2 (1 : Int32)))) := aH95.at hin95 rfl
      refine own_step (U' := T92.setTop (mkF m 161 #[iv p0, iv p1, .val (.long q2), .second, iv (5 : Int32), rv b82, .unset, iv (-1 : Int32)] [(.int (41 : Int32)), (.int (nar .byte (F2 p1 q2 (1 : Int32))))])) (fun t k => X92.baloadBytes hx (j := (1 : Int32)) (v := (.int (nar .byte (F2 p1 q2 (1 : Int32))))) (by rw [e92]; exact Ar95.1) (State.isArrayOf_alike hZ.alike Ar95.2.1) Ar95.2.2 hin95 hat95 (g := (mkF m 158 #[iv p0, iv p1, .val (.long q2), .second, iv (5 : Int32), rv b82, .unset, iv (-1 : Int32)] [(.int (1 : Int32)), (.ref b82)])) rfl rfl (hb hby at_158) t (XS.bipush X92.here hx rfl (hb hby at_159) k)) ?_
      obtain ⟨v275_103, hv275_103⟩ : ∃ v : Int32, v = (if (nar .byte (F2 p1 q2 (1 : Int32))) = (41 : Int32) then (1 : Int32) else (if (nar .byte (F2 p1 q2 (2 : Int32))) = (41 : Int32) then (2 : Int32) else (if (nar .byte (F2 p1 q2 (3 : Int32))) = (41 : Int32) then (3 : Int32) else (if (nar .byte (F2 p1 q2 (4 : Int32))) = (41 : Int32) then (4 : Int32) else (-1 : Int32))))) := ⟨_, rfl⟩
      have K275_104 : ∀ (T' : State) (locs' : List Loc) (X' : Stand p l e room_1 s m #[(.int p0), (.int p1), (.long q2)] below meth c T' locs' 1 5) (N' : Fr n0 locs') (e' : T'.heap = h92), own_Go p.tables e below s 16 128 (Q0 Z p0 p1 q2 h0 n0) (T'.setTop (mkF m 275 #[iv p0, iv p1, .val (.long q2), .second, iv (5 : Int32), rv b82, .unset, iv v275_103] [])) := by
        intro T104 L104 X104 N104 e104
        refine own_step (U' := T104.setTop (mkF m 278 #[iv p0, iv p1, .val (.long q2), .second, iv (5 : Int32), rv b82, .unset, iv v275_103] [(.int (2 : Int32)), (.int v275_103)])) (fun t k => XS.iload X104.here hx rfl (hb hby at_275) rfl (XS.iconst X104.here hx rfl (hb hby at_277) k)) ?_
        obtain ⟨v287_106, hv287_106⟩ : ∃ v : Int32, v = (if v275_103 < (2 : Int32) then (-1 : Int32) else v275_103) := ⟨_, rfl⟩
        have K287_107 : ∀ (T' : State) (locs' : List Loc) (X' : Stand p l e room_1 s m #[(.int p0), (.int p1), (.long q2)] below meth c T' locs' 1 5) (N' : Fr n0 locs') (e' : T'.heap = h92), own_Go p.tables e below s 16 128 (Q0 Z p0 p1 q2 h0 n0) (T'.setTop (mkF m 287 #[iv p0, iv p1, .val (.long q2), .second, iv (5 : Int32), rv b82, .unset, iv v275_103] [(.int v287_106)])) := by
          intro T107 L107 X107 N107 e107
          refine own_step (U' := T107.setTop (mkF m 291 #[iv p0, iv p1, .val (.long q2), .second, iv (5 : Int32), rv b82, iv v287_106, iv v275_103] [(.ref b82)])) (fun t k => XS.istore X107.here hx rfl (hb hby at_287) rfl (l' := #[iv p0, iv p1, .val (.long q2), .second, iv (5 : Int32), rv b82, iv v287_106, iv v275_103]) rfl (XS.aload X107.here hx rfl (hb hby at_289) rfl rfl k)) ?_
          obtain ⟨_, _, ⟨T108, L108, k108, n108⟩, -, X108, ⟨Lc108, hQ108, l108, y108, z108⟩, st108⟩ := Jvm.LawKit.callS X107 hx (y := (⟨"com/example/tallyfield/tallyfield/control/ControlNumbers", "codeEnd", "([B)I"⟩ : MethodName)) hown (mvT hZ (own_w hw 1 rfl)) (mvT hZ (own_w hw 2 rfl)) (mvT hZ (own_w hw 3 rfl)) (mvT hZ (own_w hw 4 rfl)) (by decide) (backOf (W := 0) (rm1k5 l Z a0 hw [] b82 (nar .byte (F2 p1 q2 (0 : Int32))) (nar .byte (F2 p1 q2 (1 : Int32))) (nar .byte (F2 p1 q2 (2 : Int32))) (nar .byte (F2 p1 q2 (3 : Int32))) (nar .byte (F2 p1 q2 (4 : Int32))) k82 h92 n0 Z92 V_b82_92) hZ (own_w hw 4 rfl) (own_w hw 3 rfl) (by decide) (by decide)) (g := (mkF m 291 #[iv p0, iv p1, .val (.long q2), .second, iv (5 : Int32), rv b82, iv v287_106, iv v275_103] [(.ref b82)])) rfl (by rw [hml]; rfl) (argsL := [(.ref b82)]) (rest := []) (lenOf pd___B_I rfl) rfl (by show 2 * 0 + _ ≤ _; exact Nat.le_of_eq rfl) (hb hby at_291) (fun _ _ => ⟨rfl, e107, (by decide : 1 + 0 ≤ _), (by decide : 5 + 0 ≤ _)⟩)
          dsimp only [Pt.U, Pt.locs, Pt.cells, Pt.slots] at X108 l108 y108 z108 st108 hQ108
          subst l108 y108 z108
          obtain ⟨rfl, N108q, eq108⟩ := hQ108
          have N108 := Fr.app N107 N108q
          refine own_step (U' := T108.setTop (mkF m 294 #[iv p0, iv p1, .val (.long q2), .second, iv (5 : Int32), rv b82, iv v287_106, iv v275_103] [(.int (F1k5 (nar .byte (F2 p1 q2 (0 : Int32))) (nar .byte (F2 p1 q2 (1 : Int32))) (nar .byte (F2 p1 q2 (2 : Int32))) (nar .byte (F2 p1 q2 (3 : Int32))) (nar .byte (F2 p1 q2 (4 : Int32)))))])) st108 ?_
          refine own_step (U' := T108.setTop (mkF m 304 #[iv p0, iv p1, .val (.long q2), .second, iv (5 : Int32), rv b82, iv v287_106, iv v275_103] [(.int (1 : Int32))])) (fun t k => XS.iload X108.here hx rfl (hb hby at_294) rfl (XS.icmpNo X108.here hx rfl (hb hby at_296) rfl (teq (own_yes5 _ _ _ _ _ _ _ hc137_94 hv275_103 hv287_106)).2 (XS.iconst X108.here hx rfl (hb hby at_299) (XS.goto X108.here hx rfl (pc0 := 300) (pc' := 304) rfl (hb hby at_300) (by decide) (by decide) k)))) ?_
          exact own_out X108 (v := (some (.int (1 : Int32)))) hlk (own_nv Bd.returns) (by rw [eq108]; exact ⟨rfl, N108⟩) (by decide) (by decide) (fun fs hr => retN X108 hx (t := .boolean) Bd.returns (by simp) (hb hby at_304) hr)
        by_cases hc278_109 : v275_103 < (2 : Int32)
        · refine own_step (U' := T104.setTop (mkF m 287 #[iv p0, iv p1, .val (.long q2), .second, iv (5 : Int32), rv b82, .unset, iv v275_103] [(.int (-1 : Int32))])) (fun t k => XS.icmpYes X104.here hx rfl (pc0 := 278) (pc' := 286) rfl (hb hby at_278) rfl (tlt hc278_109).1 (by decide) (by decide) (XS.iconst X104.here hx rfl (hb hby at_286) k)) ?_
          have q_v287_106 : v287_106 = (-1 : Int32) := by rw [hv287_106, if_pos hc278_109]
          rw [q_v287_106] at K287_107
          exact K287_107 _ _ X104 N104 e104
        · refine own_step (U' := T104.setTop (mkF m 287 #[iv p0, iv p1, .val (.long q2), .second, iv (5 : Int32), rv b82, .unset, iv v275_103] [(.int v275_103)])) (fun t k => XS.icmpNo X104.here hx rfl (hb hby at_278) rfl (flt hc278_109).1 (XS.iload X104.here hx rfl (hb hby at_281) rfl (XS.goto X104.here hx rfl (pc0 := 283) (pc' := 287) rfl (hb hby at_283) (by decide) (by decide) k))) ?_
          have q_v287_106 : v287_106 = v275_103 := by rw [hv287_106, if_neg hc278_109]
          rw [q_v287_106] at K287_107
          exact K287_107 _ _ X104 N104 e104
      by_cases hc161_110 : (nar .byte (F2 p1 q2 (1 : Int32))) = (41 : Int32)
      · refine own_step (U' := T92.setTop (mkF m 275 #[iv p0, iv p1, .val (.long q2), .second, iv (5 : Int32), rv b82, .unset, iv (1 : Int32)] [])) (fun t k => XS.icmpNo X92.here hx rfl (hb hby at_161) rfl (teq hc161_110).2 (XS.iconst X92.here hx rfl (hb hby at_164) (XS.istore X92.here hx rfl (hb hby at_165) rfl (l' := #[iv p0, iv p1, .val (.long q2), .second, iv (5 : Int32), rv b82, .unset, iv (1 : Int32)]) rfl (XS.goto X92.here hx rfl (pc0 := 167) (pc' := 275) rfl (hb hby at_167) (by decide) (by decide) k)))) ?_
        have q_v275_103 : v275_103 = (1 : Int32) := by rw [hv275_103, if_pos hc161_110]
        rw [q_v275_103] at K275_104
        exact K275_104 _ _ X92 N92 e92
      · refine own_step (U' := T92.setTop (mkF m 179 #[iv p0, iv p1, .val (.long q2), .second, iv (5 : Int32), rv b82, .unset, iv (-1 : Int32)] [(.int (2 : Int32)), (.ref b82)])) (fun t k => XS.icmpYes X92.here hx rfl (pc0 := 161) (pc' := 170) rfl (hb hby at_161) rfl (feq hc161_110).2 (by decide) (by decide) (XS.iload X92.here hx rfl (hb hby at_170) rfl (XS.iconst X92.here hx rfl (hb hby at_172) (XS.icmpNo X92.here hx rfl (hb hby at_173) rfl (by decide) (XS.aload X92.here hx rfl (hb hby at_176) rfl rfl (XS.iconst X92.here hx rfl (hb hby at_178) k)))))) ?_
        obtain ⟨cl111, Ar111, aq111, aS111, aN111, aH111, aG111⟩ := id V_b82_92
        have hin111 : ¬ ((2 : Int32) < 0 ∨ cl111.slots.size ≤ ((2 : Int32)).toNatClampNeg) := inb_of aS111 ⟨by decide, by decide⟩
        have hat111 : cl111.slots[((2 : Int32)).toNatClampNeg]? = some (.int (nar .byte (F2 p1 q2 (2 : Int32)))) := aH111.at hin111 rfl
        refine own_step (U' := T92.setTop (mkF m 182 #[iv p0, iv p1, .val (.long q2), .second, iv (5 : Int32), rv b82, .unset, iv (-1 : Int32)] [(.int (41 : Int32)), (.int (nar .byte (F2 p1 q2 (2 : Int32))))])) (fun t k => X92.baloadBytes hx (j := (2 : Int32)) (v := (.int (nar .byte (F2 p1 q2 (2 : Int32))))) (by rw [e92]; exact Ar111.1) (State.isArrayOf_alike hZ.alike Ar111.2.1) Ar111.2.2 hin111 hat111 (g := (mkF m 179 #[iv p0, iv p1, .val (.long q2), .second, iv (5 : Int32), rv b82, .unset, iv (-1 : Int32)] [(.int (2 : Int32)), (.ref b82)])) rfl rfl (hb hby at_179) t (XS.bipush X92.here hx rfl (hb hby at_180) k)) ?_
        by_cases hc182_112 : (nar .byte (F2 p1 q2 (2 : Int32))) = (41 : Int32)
        · refine own_step (U' := T92.setTop (mkF m 275 #[iv p0, iv p1, .val (.long q2), .second, iv (5 : Int32), rv b82, .unset, iv (2 : Int32)] [])) (fun t k => XS.icmpNo X92.here hx rfl (hb hby at_182) rfl (teq hc182_112).2 (XS.iconst X92.here hx rfl (hb hby at_185) (XS.istore X92.here hx rfl (hb hby at_186) rfl (l' := #[iv p0, iv p1, .val (.long q2), .second, iv (5 : Int32), rv b82, .unset, iv (2 : Int32)]) rfl (XS.goto X92.here hx rfl (pc0 := 188) (pc' := 275) rfl (hb hby at_188) (by decide) (by decide) k)))) ?_
          have q_v275_103 : v275_103 = (2 : Int32) := by rw [hv275_103, if_neg hc161_110, if_pos hc182_112]
          rw [q_v275_103] at K275_104
          exact K275_104 _ _ X92 N92 e92
        · refine own_step (U' := T92.setTop (mkF m 200 #[iv p0, iv p1, .val (.long q2), .second, iv (5 : Int32), rv b82, .unset, iv (-1 : Int32)] [(.int (3 : Int32)), (.ref b82)])) (fun t k => XS.icmpYes X92.here hx rfl (pc0 := 182) (pc' := 191) rfl (hb hby at_182) rfl (feq hc182_112).2 (by decide) (by decide) (XS.iload X92.here hx rfl (hb hby at_191) rfl (XS.iconst X92.here hx rfl (hb hby at_193) (XS.icmpNo X92.here hx rfl (hb hby at_194) rfl (by decide) (XS.aload X92.here hx rfl (hb hby at_197) rfl rfl (XS.iconst X92.here hx rfl (hb hby at_199) k)))))) ?_
          obtain ⟨cl113, Ar113, aq113, aS113, aN113, aH113, aG113⟩ := id V_b82_92
          have hin113 : ¬ ((3 : Int32) < 0 ∨ cl113.slots.size ≤ ((3 : Int32)).toNatClampNeg) := inb_of aS113 ⟨by decide, by decide⟩
          have hat113 : cl113.slots[((3 : Int32)).toNatClampNeg]? = some (.int (nar .byte (F2 p1 q2 (3 : Int32)))) := aH113.at hin113 rfl
          refine own_step (U' := T92.setTop (mkF m 203 #[iv p0, iv p1, .val (.long q2), .second, iv (5 : Int32), rv b82, .unset, iv (-1 : Int32)] [(.int (41 : Int32)), (.int (nar .byte (F2 p1 q2 (3 : Int32))))])) (fun t k => X92.baloadBytes hx (j := (3 : Int32)) (v := (.int (nar .byte (F2 p1 q2 (3 : Int32))))) (by rw [e92]; exact Ar113.1) (State.isArrayOf_alike hZ.alike Ar113.2.1) Ar113.2.2 hin113 hat113 (g := (mkF m 200 #[iv p0, iv p1, .val (.long q2), .second, iv (5 : Int32), rv b82, .unset, iv (-1 : Int32)] [(.int (3 : Int32)), (.ref b82)])) rfl rfl (hb hby at_200) t (XS.bipush X92.here hx rfl (hb hby at_201) k)) ?_
          by_cases hc203_114 : (nar .byte (F2 p1 q2 (3 : Int32))) = (41 : Int32)
          · refine own_step (U' := T92.setTop (mkF m 275 #[iv p0, iv p1, .val (.long q2), .second, iv (5 : Int32), rv b82, .unset, iv (3 : Int32)] [])) (fun t k => XS.icmpNo X92.here hx rfl (hb hby at_203) rfl (teq hc203_114).2 (XS.iconst X92.here hx rfl (hb hby at_206) (XS.istore X92.here hx rfl (hb hby at_207) rfl (l' := #[iv p0, iv p1, .val (.long q2), .second, iv (5 : Int32), rv b82, .unset, iv (3 : Int32)]) rfl (XS.goto X92.here hx rfl (pc0 := 209) (pc' := 275) rfl (hb hby at_209) (by decide) (by decide) k)))) ?_
            have q_v275_103 : v275_103 = (3 : Int32) := by rw [hv275_103, if_neg hc161_110, if_neg hc182_112, if_pos hc203_114]
            rw [q_v275_103] at K275_104
            exact K275_104 _ _ X92 N92 e92
          · refine own_step (U' := T92.setTop (mkF m 221 #[iv p0, iv p1, .val (.long q2), .second, iv (5 : Int32), rv b82, .unset, iv (-1 : Int32)] [(.int (4 : Int32)), (.ref b82)])) (fun t k => XS.icmpYes X92.here hx rfl (pc0 := 203) (pc' := 212) rfl (hb hby at_203) rfl (feq hc203_114).2 (by decide) (by decide) (XS.iload X92.here hx rfl (hb hby at_212) rfl (XS.iconst X92.here hx rfl (hb hby at_214) (XS.icmpNo X92.here hx rfl (hb hby at_215) rfl (by decide) (XS.aload X92.here hx rfl (hb hby at_218) rfl rfl (XS.iconst X92.here hx rfl (hb hby at_220) k)))))) ?_
            obtain ⟨cl115, Ar115, aq115, aS115, aN115, aH115, aG115⟩ := id V_b82_92
            have hin115 : ¬ ((4 : Int32) < 0 ∨ cl115.slots.size ≤ ((4 : Int32)).toNatClampNeg) := inb_of aS115 ⟨by decide, by decide⟩
            have hat115 : cl115.slots[((4 : Int32)).toNatClampNeg]? = some (.int (nar .byte (F2 p1 q2 (4 : Int32)))) := aH115.at hin115 rfl
            refine own_step (U' := T92.setTop (mkF m 224 #[iv p0, iv p1, .val (.long q2), .second, iv (5 : Int32), rv b82, .unset, iv (-1 : Int32)] [(.int (41 : Int32)), (.int (nar .byte (F2 p1 q2 (4 : Int32))))])) (fun t k => X92.baloadBytes hx (j := (4 : Int32)) (v := (.int (nar .byte (F2 p1 q2 (4 : Int32))))) (by rw [e92]; exact Ar115.1) (State.isArrayOf_alike hZ.alike Ar115.2.1) Ar115.2.2 hin115 hat115 (g := (mkF m 221 #[iv p0, iv p1, .val (.long q2), .second, iv (5 : Int32), rv b82, .unset, iv (-1 : Int32)] [(.int (4 : Int32)), (.ref b82)])) rfl rfl (hb hby at_221) t (XS.bipush X92.here hx rfl (hb hby at_222) k)) ?_
            by_cases hc224_116 : (nar .byte (F2 p1 q2 (4 : Int32))) = (41 : Int32)
            · refine own_step (U' := T92.setTop (mkF m 275 #[iv p0, iv p1, .val (.long q2), .second, iv (5 : Int32), rv b82, .unset, iv (4 : Int32)] [])) (fun t k => XS.icmpNo X92.here hx rfl (hb hby at_224) rfl (teq hc224_116).2 (XS.iconst X92.here hx rfl (hb hby at_227) (XS.istore X92.here hx rfl (hb hby at_228) rfl (l' := #[iv p0, iv p1, .val (.long q2), .second, iv (5 : Int32), rv b82, .unset, iv (4 : Int32)]) rfl (XS.goto X92.here hx rfl (pc0 := 230) (pc' := 275) rfl (hb hby at_230) (by decide) (by decide) k)))) ?_
              have q_v275_103 : v275_103 = (4 : Int32) := by rw [hv275_103, if_neg hc161_110, if_neg hc182_112, if_neg hc203_114, if_pos hc224_116]
              rw [q_v275_103] at K275_104
              exact K275_104 _ _ X92 N92 e92
            · refine own_step (U' := T92.setTop (mkF m 275 #[iv p0, iv p1, .val (.long q2), .second, iv (5 : Int32), rv b82, .unset, iv (-1 : Int32)] [])) (fun t k => XS.icmpYes X92.here hx rfl (pc0 := 224) (pc' := 233) rfl (hb hby at_224) rfl (feq hc224_116).2 (by decide) (by decide) (XS.iload X92.here hx rfl (hb hby at_233) rfl (XS.iconst X92.here hx rfl (hb hby at_235) (XS.icmpYes X92.here hx rfl (pc0 := 236) (pc' := 254) rfl (hb hby at_236) rfl (by decide) (by decide) (by decide) (XS.iload X92.here hx rfl (hb hby at_254) rfl (XS.bipush X92.here hx rfl (hb hby at_256) (XS.icmpYes X92.here hx rfl (pc0 := 258) (pc' := 275) rfl (hb hby at_258) rfl (by decide) (by decide) (by decide) k))))))) ?_
              have q_v275_103 : v275_103 = (-1 : Int32) := by rw [hv275_103, if_neg hc161_110, if_neg hc182_112, if_neg hc203_114, if_neg hc224_116]
              rw [q_v275_103] at K275_104
              exact K275_104 _ _ X92 N92 e92
    · refine own_step (U' := T92.setTop (mkF m 291 #[iv p0, iv p1, .val (.long q2), .second, iv (5 : Int32), rv b82, iv (-1 : Int32), .unset] [(.ref b82)])) (fun t k => XS.icmpNo X92.here hx rfl (hb hby at_137) rfl (feq hc137_94).1 (XS.iconst X92.here hx rfl (hb hby at_140) (XS.istore X92.here hx rfl (hb hby at_141) rfl (l' := #[iv p0, iv p1, .val (.long q2), .second, iv (5 : Int32), rv b82, iv (-1 : Int32), .unset]) rfl (XS.goto X92.here hx rfl (pc0 := 143) (pc' := 289) rfl (hb hby at_143) (by decide) (by decide) (XS.aload X92.here hx rfl (hb hby at_289) rfl rfl k))))) ?_
      obtain ⟨_, _, ⟨T117, L117, k117, n117⟩, -, X117, ⟨Lc117, hQ117, l117, y117, z117⟩, st117⟩ := Jvm.LawKit.callS X92 hx (y := (⟨"com/example/tallyfield/tallyfield/control/ControlNumbers", "codeEnd", "([B)I"⟩ : MethodName)) hown (mvT hZ (own_w hw 1 rfl)) (mvT hZ (own_w hw 2 rfl)) (mvT hZ (own_w hw 3 rfl)) (mvT hZ (own_w hw 4 rfl)) (by decide) (backOf (W := 0) (rm1k5 l Z a0 hw [] b82 (nar .byte (F2 p1 q2 (0 : Int32))) (nar .byte (F2 p1 q2 (1 : Int32))) (nar .byte (F2 p1 q2 (2 : Int32))) (nar .byte (F2 p1 q2 (3 : Int32))) (nar .byte (F2 p1 q2 (4 : Int32))) k82 h92 n0 Z92 V_b82_92) hZ (own_w hw 4 rfl) (own_w hw 3 rfl) (by decide) (by decide)) (g := (mkF m 291 #[iv p0, iv p1, .val (.long q2), .second, iv (5 : Int32), rv b82, iv (-1 : Int32), .unset] [(.ref b82)])) rfl (by rw [hml]; rfl) (argsL := [(.ref b82)]) (rest := []) (lenOf pd___B_I rfl) rfl (by show 2 * 0 + _ ≤ _; exact Nat.le_of_eq rfl) (hb hby at_291) (fun _ _ => ⟨rfl, e92, (by decide : 1 + 0 ≤ _), (by decide : 5 + 0 ≤ _)⟩)
      dsimp only [Pt.U, Pt.locs, Pt.cells, Pt.slots] at X117 l117 y117 z117 st117 hQ117
      subst l117 y117 z117
      obtain ⟨rfl, N117q, eq117⟩ := hQ117
      have N117 := Fr.app N92 N117q
      refine own_step (U' := T117.setTop (mkF m 294 #[iv p0, iv p1, .val (.long q2), .second, iv (5 : Int32), rv b82, iv (-1 : Int32), .unset] [(.int (F1k5 (nar .byte (F2 p1 q2 (0 : Int32))) (nar .byte (F2 p1 q2 (1 : Int32))) (nar .byte (F2 p1 q2 (2 : Int32))) (nar .byte (F2 p1 q2 (3 : Int32))) (nar .byte (F2 p1 q2 (4 : Int32)))))])) st117 ?_
      refine own_step (U' := T117.setTop (mkF m 304 #[iv p0, iv p1, .val (.long q2), .second, iv (5 : Int32), rv b82, iv (-1 : Int32), .unset] [(.int (1 : Int32))])) (fun t k => XS.iload X117.here hx rfl (hb hby at_294) rfl (XS.icmpNo X117.here hx rfl (hb hby at_296) rfl (teq (own_no5 _ _ _ _ _ hc137_94)).2 (XS.iconst X117.here hx rfl (hb hby at_299) (XS.goto X117.here hx rfl (pc0 := 300) (pc' := 304) rfl (hb hby at_300) (by decide) (by decide) k)))) ?_
      exact own_out X117 (v := (some (.int (1 : Int32)))) hlk (own_nv Bd.returns) (by rw [eq117]; exact ⟨rfl, N117⟩) (by decide) (by decide) (fun fs hr => retN X117 hx (t := .boolean) Bd.returns (by simp) (hb hby at_304) hr)
  · rw [hn6]
    refine own_step (U' := s₁.setTop (mkF m 8 #[iv p0, iv p1, .val (.long q2), .second, iv (6 : Int32), .unset, .unset, .unset] [(.int (6 : Int32))])) (fun t k => XS.istore X0.here hx rfl (hb hby at_4) rfl (l' := #[iv p0, iv p1, .val (.long q2), .second, iv (6 : Int32), .unset, .unset, .unset]) rfl (XS.iload X0.here hx rfl (hb hby at_6) rfl k)) ?_
    obtain ⟨T118, h118, k118, X118, e118, E118, A118, st118⟩ := newP X0 hx hZ (own_w hw 0 rfl) e0 (g := (mkF m 8 #[iv p0, iv p1, .val (.long q2), .second, iv (6 : Int32), .unset, .unset, .unset] [(.int (6 : Int32))])) rfl (hb hby at_8) rfl (by decide) (cap := 6) (by decide) (by decide) (by decide) (by decide)
    obtain ⟨b118, g118⟩ : ∃ z, z = h0.size := ⟨_, rfl⟩
    have ge_b118 : n0 ≤ b118 := Nat.le_trans Z0 (Nat.le_of_eq g118.symm)
    have sz_b118 : h0.size ≤ b118 := Nat.le_trans KK0.1 (Nat.le_of_eq g118.symm)
    rw [← g118] at A118 st118
    have V_b118 : Arv Z h118 b118 k118 .byte (6 : Int32) [(.int (0 : Int32)), (.int (0 : Int32)), (.int (0 : Int32)), (.int (0 : Int32)), (.int (0 : Int32)), (.int (0 : Int32))] (.int (0 : Int32)) := (Arv.new A118 (by decide)).pad (pad_rep [] (.int (0 : Int32)) 6)
    have Z118 : n0 ≤ h118.size := Nat.le_trans Z0 E118.1
    have KK118 := KK0.ext E118
    refine own_step (U' := T118.setTop (mkF m 10 #[iv p0, iv p1, .val (.long q2), .second, iv (6 : Int32), .unset, .unset, .unset] [(.ref b118)])) st118 ?_
    refine own_step (U' := T118.setTop (mkF m 23 #[iv p0, iv p1, .val (.long q2), .second, iv (6 : Int32), rv b118, .unset, .unset] [(.int (0 : Int32)), (.long q2), (.int p1), (.int (0 : Int32)), (.ref b118)])) (fun t k => XS.astore X118.here hx rfl (hb hby at_10) rfl rfl (l' := #[iv p0, iv p1, .val (.long q2), .second, iv (6 : Int32), rv b118, .unset, .unset]) rfl (XS.iload X118.here hx rfl (hb hby at_12) rfl (XS.ifNo X118.here hx rfl (hb hby at_14) rfl (by decide) (XS.aload X118.here hx rfl (hb hby at_17) rfl rfl (XS.iconst X118.here hx rfl (hb hby at_19) (XS.iloadN X118.here hx rfl (hb hby at_20) rfl (XS.lloadN X118.here hx rfl (hb hby at_21) rfl (XS.iconst X118.here hx rfl (hb hby at_22) k)))))))) ?_
    obtain ⟨_, _, ⟨T119, L119, k119, n119⟩, -, X119, ⟨Lc119, hQ119, l119, y119, z119⟩, st119⟩ := Jvm.LawKit.callS X118 hx (y := (⟨"com/example/tallyfield/tallyfield/control/ControlNumbersCodeEndPinLaw", "pick", "(IJI)B"⟩ : MethodName)) hown (mvT hZ (own_w hw 5 rfl)) (mvT hZ (own_w hw 6 rfl)) (mvT hZ (own_w hw 7 rfl)) (mvT hZ (own_w hw 8 rfl)) (by decide) (backOf (W := 2) (rm2 l Z a0 hw [] p1 q2 (0 : Int32) h118 n0 Z118) hZ (own_w hw 8 rfl) (own_w hw 7 rfl) (by decide) (by decide)) (g := (mkF m 23 #[iv p0, iv p1, .val (.long q2), .second, iv (6 : Int32), rv b118, .unset, .unset] [(.int (0 : Int32)), (.long q2), (.int p1), (.int (0 : Int32)), (.ref b118)])) rfl (by rw [hml]; rfl) (argsL := [(.int p1), (.long q2), (.int (0 : Int32))]) (rest := [(.int (0 : Int32)), (.ref b118)]) (lenOf pd__IJI_B rfl) rfl (by show 2 * 0 + _ ≤ _; exact Nat.le_of_eq rfl) (hb hby at_23) (fun _ _ => ⟨rfl, e118, (by decide : 1 + 0 ≤ _), (by decide : 6 + 0 ≤ _)⟩)
    dsimp only [Pt.U, Pt.locs, Pt.cells, Pt.slots] at X119 l119 y119 z119 st119 hQ119
    subst l119 y119 z119
    obtain ⟨rfl, N119q, eq119⟩ := hQ119
    have N119 := Fr.app N0 N119q
    refine own_step (U' := T119.setTop (mkF m 26 #[iv p0, iv p1, .val (.long q2), .second, iv (6 : Int32), rv b118, .unset, .unset] [(.int (F2 p1 q2 (0 : Int32))), (.int (0 : Int32)), (.ref b118)])) st119 ?_
    obtain ⟨cl120, Ar120, aq120, aS120, aN120, aH120, aG120⟩ := id V_b118
    have hin120 : ¬ ((0 : Int32) < 0 ∨ cl120.slots.size ≤ ((0 : Int32)).toNatClampNeg) := inb_of aS120 ⟨by decide, by decide⟩
    obtain ⟨T120, h120, X120, e120, W120, st120⟩ := stB X119 hx hZ eq119 Ar120 (j := (0 : Int32)) hin120 (g := (mkF m 26 #[iv p0, iv p1, .val (.long q2), .second, iv (6 : Int32), rv b118, .unset, .unset] [(.int (F2 p1 q2 (0 : Int32))), (.int (0 : Int32)), (.ref b118)])) rfl rfl (hb hby at_26)
    have V_b118_120 : Arv Z h120 b118 k118 .byte (6 : Int32) [(.int (nar .byte (F2 p1 q2 (0 : Int32)))), (.int (0 : Int32)), (.int (0 : Int32)), (.int (0 : Int32)), (.int (0 : Int32)), (.int (0 : Int32))] (.int (0 : Int32)) := Arv.set Ar120 aq120 aS120 aN120 aH120 aG120 (fits_nar_byte _) W120 0 rfl (Nat.le_of_ble_eq_true rfl)
    have Z120 : n0 ≤ h120.size := Nat.le_trans Z118 (Keep.of_wr W120).1
    have KK120 := KK118.wr W120 (Or.inr sz_b118)
    have N120 := Fr.snoc X120 N119 ge_b118
    refine own_step (U' := T120.setTop (mkF m 27 #[iv p0, iv p1, .val (.long q2), .second, iv (6 : Int32), rv b118, .unset, .unset] [])) st120 ?_
    refine own_step (U' := T120.setTop (mkF m 39 #[iv p0, iv p1, .val (.long q2), .second, iv (6 : Int32), rv b118, .unset, .unset] [(.int (1 : Int32)), (.long q2), (.int p1), (.int (1 : Int32)), (.ref b118)])) (fun t k => XS.iload X120.here hx rfl (hb hby at_27) rfl (XS.iconst X120.here hx rfl (hb hby at_29) (XS.icmpNo X120.here hx rfl (hb hby at_30) rfl (by decide) (XS.aload X120.here hx rfl (hb hby at_33) rfl rfl (XS.iconst X120.here hx rfl (hb hby at_35) (XS.iloadN X120.here hx rfl (hb hby at_36) rfl (XS.lloadN X120.here hx rfl (hb hby at_37) rfl (XS.iconst X120.here hx rfl (hb hby at_38) k)))))))) ?_
    obtain ⟨_, _, ⟨T121, L121, k121, n121⟩, -, X121, ⟨Lc121, hQ121, l121, y121, z121⟩, st121⟩ := Jvm.LawKit.callS X120 hx (y := (⟨"com/example/tallyfield/tallyfield/control/ControlNumbersCodeEndPinLaw", "pick", "(IJI)B"⟩ : MethodName)) hown (mvT hZ (own_w hw 5 rfl)) (mvT hZ (own_w hw 6 rfl)) (mvT hZ (own_w hw 7 rfl)) (mvT hZ (own_w hw 8 rfl)) (by decide) (backOf (W := 2) (rm2 l Z a0 hw [] p1 q2 (1 : Int32) h120 n0 Z120) hZ (own_w hw 8 rfl) (own_w hw 7 rfl) (by decide) (by decide)) (g := (mkF m 39 #[iv p0, iv p1, .val (.long q2), .second, iv (6 : Int32), rv b118, .unset, .unset] [(.int (1 : Int32)), (.long q2), (.int p1), (.int (1 : Int32)), (.ref b118)])) rfl (by rw [hml]; rfl) (argsL := [(.int p1), (.long q2), (.int (1 : Int32))]) (rest := [(.int (1 : Int32)), (.ref b118)]) (lenOf pd__IJI_B rfl) rfl (by show 2 * 0 + _ ≤ _; exact Nat.le_of_eq rfl) (hb hby at_39) (fun _ _ => ⟨rfl, e120, (by decide : 1 + 0 ≤ _), (by decide : 6 + 0 ≤ _)⟩)
    dsimp only [Pt.U, Pt.locs, Pt.cells, Pt.slots] at X121 l121 y121 z121 st121 hQ121
    subst l121 y121 z121
    obtain ⟨rfl, N121q, eq121⟩ := hQ121
    have N121 := Fr.app N120 N121q
    refine own_step (U' := T121.setTop (mkF m 42 #[iv p0, iv p1, .val (.long q2), .second, iv (6 : Int32), rv b118, .unset, .unset] [(.int (F2 p1 q2 (1 : Int32))), (.int (1 : Int32)), (.ref b118)])) st121 ?_
    obtain ⟨cl122, Ar122, aq122, aS122, aN122, aH122, aG122⟩ := id V_b118_120
    have hin122 : ¬ ((1 : Int32) < 0 ∨ cl122.slots.size ≤ ((1 : Int32)).toNatClampNeg) := inb_of aS122 ⟨by decide, by decide⟩
    obtain ⟨T122, h122, X122, e122, W122, st122⟩ := stB X121 hx hZ eq121 Ar122 (j := (1 : Int32)) hin122 (g := (mkF m 42 #[iv p0, iv p1, .val (.long q2), .second, iv (6 : Int32), rv b118, .unset, .unset] [(.int (F2 p1 q2 (1 : Int32))), (.int (1 : Int32)), (.ref b118)])) rfl rfl (hb hby at_42)
    have V_b118_122 : Arv Z h122 b118 k118 .byte (6 : Int32) [(.int (nar .byte (F2 p1 q2 (0 : Int32)))), (.int (nar .byte (F2 p1 q2 (1 : Int32)))), (.int (0 : Int32)), (.int (0 : Int32)), (.int (0 : Int32)), (.int (0 : Int32))] (.int (0 : Int32)) := Arv.set Ar122 aq122 aS122 aN122 aH122 aG122 (fits_nar_byte _) W122 1 rfl (Nat.le_of_ble_eq_true rfl)
    have Z122 : n0 ≤ h122.size := Nat.le_trans Z120 (Keep.of_wr W122).1
    have KK122 := KK120.wr W122 (Or.inr sz_b118)
    have N122 := Fr.snoc X122 N121 ge_b118
    refine own_step (U' := T122.setTop (mkF m 43 #[iv p0, iv p1, .val (.long q2), .second, iv (6 : Int32), rv b118, .unset, .unset] [])) st122 ?_
    refine own_step (U' := T122.setTop (mkF m 55 #[iv p0, iv p1, .val (.long q2), .second, iv (6 : Int32), rv b118, .unset, .unset] [(.int (2 : Int32)), (.long q2), (.int p1), (.int (2 : Int32)), (.ref b118)])) (fun t k => XS.iload X122.here hx rfl (hb hby at_43) rfl (XS.iconst X122.here hx rfl (hb hby at_45) (XS.icmpNo X122.here hx rfl (hb hby at_46) rfl (by decide) (XS.aload X122.here hx rfl (hb hby at_49) rfl rfl (XS.iconst X122.here hx rfl (hb hby at_51) (XS.iloadN X122.here hx rfl (hb hby at_52) rfl (XS.lloadN X122.here hx rfl (hb hby at_53) rfl (XS.iconst X122.here hx rfl (hb hby at_54) k)))))))) ?_
    obtain ⟨_, _, ⟨T123, L123, k123, n123⟩, -, X123, ⟨Lc123, hQ123, l123, y123, z123⟩, st123⟩ := Jvm.LawKit.callS X122 hx (y := (⟨"com/example/tallyfield/tallyfield/control/ControlNumbersCodeEndPinLaw", "pick", "(IJI)B"⟩ : MethodName)) hown (mvT hZ (own_w hw 5 rfl)) (mvT hZ (own_w hw 6 rfl)) (mvT hZ (own_w hw 7 rfl)) (mvT hZ (own_w hw 8 rfl)) (by decide) (backOf (W := 2) (rm2 l Z a0 hw [] p1 q2 (2 : Int32) h122 n0 Z122) hZ (own_w hw 8 rfl) (own_w hw 7 rfl) (by decide) (by decide)) (g := (mkF m 55 #[iv p0, iv p1, .val (.long q2), .second, iv (6 : Int32), rv b118, .unset, .unset] [(.int (2 : Int32)), (.long q2), (.int p1), (.int (2 : Int32)), (.ref b118)])) rfl (by rw [hml]; rfl) (argsL := [(.int p1), (.long q2), (.int (2 : Int32))]) (rest := [(.int (2 : Int32)), (.ref b118)]) (lenOf pd__IJI_B rfl) rfl (by show 2 * 0 + _ ≤ _; exact Nat.le_of_eq rfl) (hb hby at_55) (fun _ _ => ⟨rfl, e122, (by decide : 1 + 0 ≤ _), (by decide : 6 + 0 ≤ _)⟩)
    dsimp only [Pt.U, Pt.locs, Pt.cells, Pt.slots] at X123 l123 y123 z123 st123 hQ123
    subst l123 y123 z123
    obtain ⟨rfl, N123q, eq123⟩ := hQ123
    have N123 := Fr.app N122 N123q
    refine own_step (U' := T123.setTop (mkF m 58 #[iv p0, iv p1, .val (.long q2), .second, iv (6 : Int32), rv b118, .unset, .unset] [(.int (F2 p1 q2 (2 : Int32))), (.int (2 : Int32)), (.ref b118)])) st123 ?_
    obtain ⟨cl124, Ar124, aq124, aS124, aN124, aH124, aG124⟩ := id V_b118_122
    have hin124 : ¬ ((2 : Int32) < 0 ∨ cl124.slots.size ≤ ((2 : Int32)).toNatClampNeg) := inb_of aS124 ⟨by decide, by decide⟩
    obtain ⟨T124, h124, X124, e124, W124, st124⟩ := stB X123 hx hZ eq123 Ar124 (j := (2 : Int32)) hin124 (g := (mkF m 58 #[iv p0, iv p1, .val (.long q2), .second, iv (6 : Int32), rv b118, .unset, .unset] [(.int (F2 p1 q2 (2 : Int32))), (.int (2 : Int32)), (.ref b118)])) rfl rfl (hb hby at_58)
    have V_b118_124 : Arv Z h124 b118 k118 .byte (6 : Int32) [(.int (nar .byte (F2 p1 q2 (0 : Int32)))), (.int (nar .byte (F2 p1 q2 (1 : Int32)))), (.int (nar .byte (F2 p1 q2 (2 : Int32)))), (.int (0 : Int32)), (.int (0 : Int32)), (.int (0 : Int32))] (.int (0 : Int32)) := Arv.set Ar124 aq124 aS124 aN124 aH124 aG124 (fits_nar_byte _) W124 2 rfl (Nat.le_of_ble_eq_true rfl)
    have Z124 : n0 ≤ h124.size := Nat.le_trans Z122 (Keep.of_wr W124).1
    have KK124 := KK122.wr W124 (Or.inr sz_b118)
    have N124 := Fr.snoc X124 N123 ge_b118
    refine own_step (U' := T124.setTop (mkF m 59 #[iv p0, iv p1, .val (.long q2), .second, iv (6 : Int32), rv b118, .unset, .unset] [])) st124 ?_
    refine own_step (U' := T124.setTop (mkF m 71 #[iv p0, iv p1, .val (.long q2), .second, iv (6 : Int32), rv b118, .unset, .unset] [(.int (3 : Int32)), (.long q2), (.int p1), (.int (3 : Int32)), (.ref b118)])) (fun t k => XS.iload X124.here hx rfl (hb hby at_59) rfl (XS.iconst X124.here hx rfl (hb hby at_61) (XS.icmpNo X124.here hx rfl (hb hby at_62) rfl (by decide) (XS.aload X124.here hx rfl (hb hby at_65) rfl rfl (XS.iconst X124.here hx rfl (hb hby at_67) (XS.iloadN X124.here hx rfl (hb hby at_68) rfl (XS.lloadN X124.here hx rfl (hb hby at_69) rfl (XS.iconst X124.here hx rfl (hb hby at_70) k)))))))) ?_
    obtain ⟨_, _, ⟨T125, L125, k125, n125⟩, -, X125, ⟨Lc125, hQ125, l125, y125, z125⟩, st125⟩ := Jvm.LawKit.callS X124 hx (y := (⟨"com/example/tallyfield/tallyfield/control/ControlNumbersCodeEndPinLaw", "pick", "(IJI)B"⟩ : MethodName)) hown (mvT hZ (own_w hw 5 rfl)) (mvT hZ (own_w hw 6 rfl)) (mvT hZ (own_w hw 7 rfl)) (mvT hZ (own_w hw 8 rfl)) (by decide) (backOf (W := 2) (rm2 l Z a0 hw [] p1 q2 (3 : Int32) h124 n0 Z124) hZ (own_w hw 8 rfl) (own_w hw 7 rfl) (by decide) (by decide)) (g := (mkF m 71 #[iv p0, iv p1, .val (.long q2), .second, iv (6 : Int32), rv b118, .unset, .unset] [(.int (3 : Int32)), (.long q2), (.int p1), (.int (3 : Int32)), (.ref b118)])) rfl (by rw [hml]; rfl) (argsL := [(.int p1), (.long q2), (.int (3 : Int32))]) (rest := [(.int (3 : Int32)), (.ref b118)]) (lenOf pd__IJI_B rfl) rfl (by show 2 * 0 + _ ≤ _; exact Nat.le_of_eq rfl) (hb hby at_71) (fun _ _ => ⟨rfl, e124, (by decide : 1 + 0 ≤ _), (by decide : 6 + 0 ≤ _)⟩)
    dsimp only [Pt.U, Pt.locs, Pt.cells, Pt.slots] at X125 l125 y125 z125 st125 hQ125
    subst l125 y125 z125
    obtain ⟨rfl, N125q, eq125⟩ := hQ125
    have N125 := Fr.app N124 N125q
    refine own_step (U' := T125.setTop (mkF m 74 #[iv p0, iv p1, .val (.long q2), .second, iv (6 : Int32), rv b118, .unset, .unset] [(.int (F2 p1 q2 (3 : Int32))), (.int (3 : Int32)), (.ref b118)])) st125 ?_
    obtain ⟨cl126, Ar126, aq126, aS126, aN126, aH126, aG126⟩ := id V_b118_124
    have hin126 : ¬ ((3 : Int32) < 0 ∨ cl126.slots.size ≤ ((3 : Int32)).toNatClampNeg) := inb_of aS126 ⟨by decide, by decide⟩
    obtain ⟨T126, h126, X126, e126, W126, st126⟩ := stB X125 hx hZ eq125 Ar126 (j := (3 : Int32)) hin126 (g := (mkF m 74 #[iv p0, iv p1, .val (.long q2), .second, iv (6 : Int32), rv b118, .unset, .unset] [(.int (F2 p1 q2 (3 : Int32))), (.int (3 : Int32)), (.ref b118)])) rfl rfl (hb hby at_74)
    have V_b118_126 : Arv Z h126 b118 k118 .byte (6 : Int32) [(.int (nar .byte (F2 p1 q2 (0 : Int32)))), (.int (nar .byte (F2 p1 q2 (1 : Int32)))), (.int (nar .byte (F2 p1 q2 (2 : Int32)))), (.int (nar .byte (F2 p1 q2 (3 : Int32)))), (.int (0 : Int32)), (.int (0 : Int32))] (.int (0 : Int32)) := Arv.set Ar126 aq126 aS126 aN126 aH126 aG126 (fits_nar_byte _) W126 3 rfl (Nat.le_of_ble_eq_true rfl)
    have Z126 : n0 ≤ h126.size := Nat.le_trans Z124 (Keep.of_wr W126).1
    have KK126 := KK124.wr W126 (Or.inr sz_b118)
    have N126 := Fr.snoc X126 N125 ge_b118
    refine own_step (U' := T126.setTop (mkF m 75 #[iv p0, iv p1, .val (.long q2), .second, iv (6 : Int32), rv b118, .unset, .unset] [])) st126 ?_
    refine own_step (U' := T126.setTop (mkF m 87 #[iv p0, iv p1, .val (.long q2), .second, iv (6 : Int32), rv b118, .unset, .unset] [(.int (4 : Int32)), (.long q2), (.int p1), (.int (4 : Int32)), (.ref b118)])) (fun t k => XS.iload X126.here hx rfl (hb hby at_75) rfl (XS.iconst X126.here hx rfl (hb hby at_77) (XS.icmpNo X126.here hx rfl (hb hby at_78) rfl (by decide) (XS.aload X126.here hx rfl (hb hby at_81) rfl rfl (XS.iconst X126.here hx rfl (hb hby at_83) (XS.iloadN X126.here hx rfl (hb hby at_84) rfl (XS.lloadN X126.here hx rfl (hb hby at_85) rfl (XS.iconst X126.here hx rfl (hb hby at_86) k)))))))) ?_
    obtain ⟨_, _, ⟨T127, L127, k127, n127⟩, -, X127, ⟨Lc127, hQ127, l127, y127, z127⟩, st127⟩ := Jvm.LawKit.callS X126 hx (y := (⟨"com/example/tallyfield/tallyfield/control/ControlNumbersCodeEndPinLaw", "pick", "(IJI)B"⟩ : MethodName)) hown (mvT hZ (own_w hw 5 rfl)) (mvT hZ (own_w hw 6 rfl)) (mvT hZ (own_w hw 7 rfl)) (mvT hZ (own_w hw 8 rfl)) (by decide) (backOf (W := 2) (rm2 l Z a0 hw [] p1 q2 (4 : Int32) h126 n0 Z126) hZ (own_w hw 8 rfl) (own_w hw 7 rfl) (by decide) (by decide)) (g := (mkF m 87 #[iv p0, iv p1, .val (.long q2), .second, iv (6 : Int32), rv b118, .unset, .unset] [(.int (4 : Int32)), (.long q2), (.int p1), (.int (4 : Int32)), (.ref b118)])) rfl (by rw [hml]; rfl) (argsL := [(.int p1), (.long q2), (.int (4 : Int32))]) (rest := [(.int (4 : Int32)), (.ref b118)]) (lenOf pd__IJI_B rfl) rfl (by show 2 * 0 + _ ≤ _; exact Nat.le_of_eq rfl) (hb hby at_87) (fun _ _ => ⟨rfl, e126, (by decide : 1 + 0 ≤ _), (by decide : 6 + 0 ≤ _)⟩)
    dsimp only [Pt.U, Pt.locs, Pt.cells, Pt.slots] at X127 l127 y127 z127 st127 hQ127
    subst l127 y127 z127
    obtain ⟨rfl, N127q, eq127⟩ := hQ127
    have N127 := Fr.app N126 N127q
    refine own_step (U' := T127.setTop (mkF m 90 #[iv p0, iv p1, .val (.long q2), .second, iv (6 : Int32), rv b118, .unset, .unset] [(.int (F2 p1 q2 (4 : Int32))), (.int (4 : Int32)), (.ref b118)])) st127 ?_
    obtain ⟨cl128, Ar128, aq128, aS128, aN128, aH128, aG128⟩ := id V_b118_126
    have hin128 : ¬ ((4 : Int32) < 0 ∨ cl128.slots.size ≤ ((4 : Int32)).toNatClampNeg) := inb_of aS128 ⟨by decide, by decide⟩
    obtain ⟨T128, h128, X128, e128, W128, st128⟩ := stB X127 hx hZ eq127 Ar128 (j := (4 : Int32)) hin128 (g := (mkF m 90 #[iv p0, iv p1, .val (.long q2), .second, iv (6 : Int32), rv b118, .unset, .unset] [(.int (F2 p1 q2 (4 : Int32))), (.int (4 : Int32)), (.ref b118)])) rfl rfl (hb hby at_90)
    have V_b118_128 : Arv Z h128 b118 k118 .byte (6 : Int32) [(.int (nar .byte (F2 p1 q2 (0 : Int32)))), (.int (nar .byte (F2 p1 q2 (1 : Int32)))), (.int (nar .byte (F2 p1 q2 (2 : Int32)))), (.int (nar .byte (F2 p1 q2 (3 : Int32)))), (.int (nar .byte (F2 p1 q2 (4 : Int32)))), (.int (0 : Int32))] (.int (0 : Int32)) := Arv.set Ar128 aq128 aS128 aN128 aH128 aG128 (fits_nar_byte _) W128 4 rfl (Nat.le_of_ble_eq_true rfl)
    have Z128 : n0 ≤ h128.size := Nat.le_trans Z126 (Keep.of_wr W128).1
    have KK128 := KK126.wr W128 (Or.inr sz_b118)
    have N128 := Fr.snoc X128 N127 ge_b118
    refine own_step (U' := T128.setTop (mkF m 91 #[iv p0, iv p1, .val (.long q2), .second, iv (6 : Int32), rv b118, .unset, .unset] [])) st128 ?_
    refine own_step (U' := T128.setTop (mkF m 103 #[iv p0, iv p1, .val (.long q2), .second, iv (6 : Int32), rv b118, .unset, .unset] [(.int (5 : Int32)), (.long q2), (.int p1), (.int (5 : Int32)), (.ref b118)])) (fun t k => XS.iload X128.here hx rfl (hb hby at_91) rfl (XS.iconst X128.here hx rfl (hb hby at_93) (XS.icmpNo X128.here hx rfl (hb hby at_94) rfl (by decide) (XS.aload X128.here hx rfl (hb hby at_97) rfl rfl (XS.iconst X128.here hx rfl (hb hby at_99) (XS.iloadN X128.here hx rfl (hb hby at_100) rfl (XS.lloadN X128.here hx rfl (hb hby at_101) rfl (XS.iconst X128.here hx rfl (hb hby at_102) k)))))))) ?_
    obtain ⟨_, _, ⟨T129, L129, k129, n129⟩, -, X129, ⟨Lc129, hQ129, l129, y129, z129⟩, st129⟩ := Jvm.LawKit.callS X128 hx (y := (⟨"com/example/tallyfield/tallyfield/control/ControlNumbersCodeEndPinLaw", "pick", "(IJI)B"⟩ : MethodName)) hown (mvT hZ (own_w hw 5 rfl)) (mvT hZ (own_w hw 6 rfl)) (mvT hZ (own_w hw 7 rfl)) (mvT hZ (own_w hw 8 rfl)) (by decide) (backOf (W := 2) (rm2 l Z a0 hw [] p1 q2 (5 : Int32) h128 n0 Z128) hZ (own_w hw 8 rfl) (own_w hw 7 rfl) (by decide) (by decide)) (g := (mkF m 103 #[iv p0, iv p1, .val (.long q2), .second, iv (6 : Int32), rv b118, .unset, .unset] [(.int (5 : Int32)), (.long q2), (.int p1), (.int (5 : Int32)), (.ref b118)])) rfl (by rw [hml]; rfl) (argsL := [(.int p1), (.long q2), (.int (5 : Int32))]) (rest := [(.int (5 : Int32)), (.ref b118)]) (lenOf pd__IJI_B rfl) rfl (by show 2 * 0 + _ ≤ _; exact Nat.le_of_eq rfl) (hb hby at_103) (fun _ _ => ⟨rfl, e128, (by decide : 1 + 0 ≤ _), (by decide : 6 + 0 ≤ _)⟩)
    dsimp only [Pt.U, Pt.locs, Pt.cells, Pt.slots] at X129 l129 y129 z129 st129 hQ129
    subst l129 y129 z129
    obtain ⟨rfl, N129q, eq129⟩ := hQ129
    have N129 := Fr.app N128 N129q
    refine own_step (U' := T129.setTop (mkF m 106 #[iv p0, iv p1, .val (.long q2), .second, iv (6 : Int32), rv b118, .unset, .unset] [(.int (F2 p1 q2 (5 : Int32))), (.int (5 : Int32)), (.ref b118)])) st129 ?_
    obtain ⟨cl130, Ar130, aq130, aS130, aN130, aH130, aG130⟩ := id V_b118_128
    have hin130 : ¬ ((5 : Int32) < 0 ∨ cl130.slots.size ≤ ((5 : Int32)).toNatClampNeg) := inb_of aS130 ⟨by decide, by decide⟩
    obtain ⟨T130, h130, X130, e130, W130, st130⟩ := stB X129 hx hZ eq129 Ar130 (j := (5 : Int32)) hin130 (g := (mkF m 106 #[iv p0, iv p1, .val (.long q2), .second, iv (6 : Int32), rv b118, .unset, .unset] [(.int (F2 p1 q2 (5 : Int32))), (.int (5 : Int32)), (.ref b118)])) rfl rfl (hb hby at_106)
    have V_b118_130 : Arv Z h130 b118 k118 .byte (6 : Int32) [(.int (nar .byte (F2 p1 q2 (0 : Int32)))), (.int (nar .byte (F2 p1 q2 (1 : Int32)))), (.int (nar .byte (F2 p1 q2 (2 : Int32)))), (.int (nar .byte (F2 p1 q2 (3 : Int32)))), (.int (nar .byte (F2 p1 q2 (4 : Int32)))), (.int (nar .byte (F2 p1 q2 (5 : Int32))))] (.int (0 : Int32)) := Arv.set Ar130 aq130 aS130 aN130 aH130 aG130 (fits_nar_byte _) W130 5 rfl (Nat.le_of_ble_eq_true rfl)
    have Z130 : n0 ≤ h130.size := Nat.le_trans Z128 (Keep.of_wr W130).1
    have KK130 := KK128.wr W130 (Or.inr sz_b118)
    have N130 := Fr.snoc X130 N129 ge_b118
    refine own_step (U' := T130.setTop (mkF m 107 #[iv p0, iv p1, .val (.long q2), .second, iv (6 : Int32), rv b118, .unset, .unset] [])) st130 ?_
    refine own_step (U' := T130.setTop (mkF m 134 #[iv p0, iv p1, .val (.long q2), .second, iv (6 : Int32), rv b118, .unset, .unset] [(.int (0 : Int32)), (.ref b118)])) (fun t k => XS.iload X130.here hx rfl (hb hby at_107) rfl (XS.bipush X130.here hx rfl (hb hby at_109) (XS.icmpYes X130.here hx rfl (pc0 := 111) (pc' := 126) rfl (hb hby at_111) rfl (by decide) (by decide) (by decide) (XS.iload X130.here hx rfl (hb hby at_126) rfl (XS.ifNo X130.here hx rfl (hb hby at_128) rfl (by decide) (XS.aload X130.here hx rfl (hb hby at_131) rfl rfl (XS.iconst X130.here hx rfl (hb hby at_133) k))))))) ?_
    obtain ⟨cl131, Ar131, aq131, aS131, aN131, aH131, aG131⟩ := id V_b118_130
    have hin131 : ¬ ((0 : Int32) < 0 ∨ cl131.slots.size ≤ ((0 : Int32)).toNatClampNeg) := inb_of aS131 ⟨by decide, by decide⟩
    have hat131 : cl131.slots[((0 : Int32)).toNatClampNeg]? = some (.int (nar .byte (F2 p1 q2 (0 : Int32)))) := aH131.at hin131 rfl
    refine own_step (U' := T130.setTop (mkF m 137 #[iv p0, iv p1, .val (.long q2), .second, iv (6 : Int32), rv b118, .unset, .unset] [(.int (40 : Int32)), (.int (nar .byte (F2 p1 q2 (0 : Int32))))])) (fun t k => X130.baloadBytes hx (j := (0 : Int32)) (v := (.int (nar .byte (F2 p1 q2 (0 : Int32))))) (by rw [e130]; exact Ar131.1) (State.isArrayOf_alike hZ.alike Ar131.2.1) Ar131.2.2 hin131 hat131 (g := (mkF m 134 #[iv p0, iv p1, .val (.long q2), .second, iv (6 : Int32), rv b118, .unset, .unset] [(.int (0 : Int32)), (.ref b118)])) rfl rfl (hb hby at_134) t (XS.bipush X130.here hx rfl (hb hby at_135) k)) ?_
    by_cases hc137_132 : (nar .byte (F2 p1 q2 (0 : Int32))) = (40 : Int32)
    · refine own_step (U' := T130.setTop (mkF m 158 #[iv p0, iv p1, .val (.long q2), .second, iv (6 : Int32), rv b118, .unset, iv (-1 : Int32)] [(.int (1 : Int32)), (.ref b118)])) (fun t k => XS.icmpYes X130.here hx rfl (pc0 := 137) (pc' := 146) rfl (hb hby at_137) rfl (teq hc137_132).1 (by decide) (by decide) (XS.iconst X130.here hx rfl (hb hby at_146) (XS.istore X130.here hx rfl (hb hby at_147) rfl (l' := #[iv p0, iv p1, .val (.long q2), .second, iv (6 : Int32), rv b118, .unset, iv (-1 : Int32)]) rfl (XS.iload X130.here hx rfl (hb hby at_149) rfl (XS.iconst X130.here hx rfl (hb hby at_151) (XS.icmpNo X130.here hx rfl (hb hby at_152) rfl (by decide) (XS.aload X130.here hx rfl (hb hby at_155) rfl rfl (XS.iconst X130.here hx rfl (hb hby at_157) k)))))))) ?_
      obtain ⟨cl133, Ar133, aq133, aS133, aN133, aH133, aG133⟩ := id V_b118_130
      have hin133 : ¬ ((1 : Int32) < 0 ∨ cl133.slots.size ≤ ((1 : Int32)).toNatClampNeg) := inb_of aS133 ⟨by decide, by decide⟩
      have hat133 : cl133.slots[((1 : Int32)).toNatClampNeg]? = some (.int (nar .byte (F2 p1 q2 (1 : Int32)))) := aH133.at hin133 rfl
      refine own_step (U' := T130.setTop (mkF m 161 #[iv p0, iv p1, .val (.long q2), .second, iv (6 : Int32), rv b118, .unset, iv (-1 : Int32)] [(.int (41 : Int32)), (.int (nar .byte (F2 p1 q2 (1 : Int32))))])) (fun t k => X130.baloadBytes hx (j := (1 : Int32)) (v := (.int (nar .byte (F2 p1 q2 (1 : Int32))))) (by rw [e130]; exact Ar133.1) (State.isArrayOf_alike hZ.alike Ar133.2.1) Ar133.2.2 hin133 hat133 (g := (mkF m 158 #[iv p0, iv p1, .val (.long q2), .second, iv (6 : Int32), rv b118, .unset, iv (-1 : Int32)] [(.int (1 : Int32)), (.ref b118)])) rfl rfl (hb hby at_158) t (XS.bipush X130.here hx rfl (hb hby at_159) k)) ?_
      obtain ⟨v275_143, hv275_143⟩ : ∃ v : Int32, v = (if (nar .byte (F2 p1 q2 (1 : Int32))) = (41 : Int32) then (1 : Int32) else (if (nar .byte (F2 p1 q2 (2 : Int32))) = (41 : Int32) then (2 : Int32) else (if (nar .byte (F2 p1 q2 (3 : Int32))) = (41 : Int32) then (3 : Int32) else (if (nar .byte (F2 p1 q2 (4 : Int32))) = (41 : Int32) then (4 : Int32) else (if (nar .byte (F2 p1 q2 (5 : Int32))) = (41 : Int32) then (5 : Int32) else (-1 : Int32)))))) := ⟨_, rfl⟩
      have K275_144 : ∀ (T' : State) (locs' : List Loc) (X' : Stand p l e room_1 s m #[(.int p0), (.int p1), (.long q2)] below meth c T' locs' 1 6) (N' : Fr n0 locs') (e' : T'.heap = h130), own_Go p.tables e below s 16 128 (Q0 Z p0 p1 q2 h0 n0) (T'.setTop (mkF m 275 #[iv p0, iv p1, .val (.long q2), .second, iv (6 : Int32), rv b118, .unset, iv v275_143] [])) := by
        intro T144 L144 X144 N144 e144
        refine own_step (U' := T144.setTop (mkF m 278 #[iv p0, iv p1, .val (.long q2), .second, iv (6 : Int32), rv b118, .unset, iv v275_143] [(.int (2 : Int32)), (.int v275_143)])) (fun t k => XS.iload X144.here hx rfl (hb hby at_275) rfl (XS.iconst X144.here hx rfl (hb hby at_277) k)) ?_
        obtain ⟨v287_146, hv287_146⟩ : ∃ v : Int32, v = (if v275_143 < (2 : Int32) then (-1 : Int32) else v275_143) := ⟨_, rfl⟩
        have K287_147 : ∀ (T' : State) (locs' : List Loc) (X' : Stand p l e room_1 s m #[(.int p0), (.int p1), (.long q2)] below meth c T' locs' 1 6) (N' : Fr n0 locs') (e' : T'.heap = h130), own_Go p.tables e below s 16 128 (Q0 Z p0 p1 q2 h0 n0) (T'.setTop (mkF m 287 #[iv p0, iv p1, .val (.long q2), .second, iv (6 : Int32), rv b118, .unset, iv v275_143] [(.int v287_146)])) := by
          intro T147 L147 X147 N147 e147
          refine own_step (U' := T147.setTop (mkF m 291 #[iv p0, iv p1, .val (.long q2), .second, iv (6 : Int32), rv b118, iv v287_146, iv v275_143] [(.ref b118)])) (fun t k => XS.istore X147.here hx rfl (hb hby at_287) rfl (l' := #[iv p0, iv p1, .val (.long q2), .second, iv (6 : Int32), rv b118, iv v287_146, iv v275_143]) rfl (XS.aload X147.here hx rfl (hb hby at_289) rfl rfl k)) ?_
          obtain ⟨_, _, ⟨T148, L148, k148, n148⟩, -, X148, ⟨Lc148, hQ148, l148, y148, z148⟩, st148⟩ := Jvm.LawKit.callS X147 hx (y := (⟨"com/example/tallyfield/tallyfield/control/ControlNumbers", "codeEnd", "([B)I"⟩ : MethodName)) hown (mvT hZ (own_w hw 1 rfl)) (mvT hZ (own_w hw 2 rfl)) (mvT hZ (own_w hw 3 rfl)) (mvT hZ (own_w hw 4 rfl)) (by decide) (backOf (W := 0) (rm1k6 l Z a0 hw [] b118 (nar .byte (F2 p1 q2 (0 : Int32))) (nar .byte (F2 p1 q2 (1 : Int32))) (nar .byte (F2 p1 q2 (2 : Int32))) (nar .byte (F2 p1 q2 (3 : Int32))) (nar .byte (F2 p1 q2 (4 : Int32))) (nar .byte (F2 p1 q2 (5 : Int32))) k118 h130 n0 Z130 V_b118_130) hZ (own_w hw 4 rfl) (own_w hw 3 rfl) (by decide) (by decide)) (g := (mkF m 291 #[iv p0, iv p1, .val (.long q2), .second, iv (6 : Int32), rv b118, iv v287_146, iv v275_143] [(.ref b118)])) rfl (by rw [hml]; rfl) (argsL := [(.ref b118)]) (rest := []) (lenOf pd___B_I rfl) rfl (by show 2 * 0 + _ ≤ _; exact Nat.le_of_eq rfl) (hb hby at_291) (fun _ _ => ⟨rfl, e147, (by decide : 1 + 0 ≤ _), (by decide : 6 + 0 ≤ _)⟩)
          dsimp only [Pt.U, Pt.locs, Pt.cells, Pt.slots] at X148 l148 y148 z148 st148 hQ148
          subst l148 y148 z148
          obtain ⟨rfl, N148q, eq148⟩ := hQ148
          have N148 := Fr.app N147 N148q
          refine own_step (U' := T148.setTop (mkF m 294 #[iv p0, iv p1, .val (.long q2), .second, iv (6 : Int32), rv b118, iv v287_146, iv v275_143] [(.int (F1k6 (nar .byte (F2 p1 q2 (0 : Int32))) (nar .byte (F2 p1 q2 (1 : Int32))) (nar .byte (F2 p1 q2 (2 : Int32))) (nar .byte (F2 p1 q2 (3 : Int32))) (nar .byte (F2 p1 q2 (4 : Int32))) (nar .byte (F2 p1 q2 (5 : Int32)))))])) st148 ?_
          refine own_step (U' := T148.setTop (mkF m 304 #[iv p0, iv p1, .val (.long q2), .second, iv (6 : Int32), rv b118, iv v287_146, iv v275_143] [(.int (1 : Int32))])) (fun t k => XS.iload X148.here hx rfl (hb hby at_294) rfl (XS.icmpNo X148.here hx rfl (hb hby at_296) rfl (teq (own_yes6 _ _ _ _ _ _ _ _ hc137_132 hv275_143 hv287_146)).2 (XS.iconst X148.here hx rfl (hb hby at_299) (XS.goto X148.here hx rfl (pc0 := 300) (pc' := 304) rfl (hb hby at_300) (by decide) (by decide) k)))) ?_
          exact own_out X148 (v := (some (.int (1 : Int32)))) hlk (own_nv Bd.returns) (by rw [eq148]; exact ⟨rfl, N148⟩) (by decide) (by decide) (fun fs hr => retN X148 hx (t := .boolean) Bd.returns (by simp) (hb hby at_304) hr)
        by_cases hc278_149 : v275_143 < (2 : Int32)
        · refine own_step (U' := T144.setTop (mkF m 287 #[iv p0, iv p1, .val (.long q2), .second, iv (6 : Int32), rv b118, .unset, iv v275_143] [(.int (-1 : Int32))])) (fun t k => XS.icmpYes X144.here hx rfl (pc0 := 278) (pc' := 286) rfl (hb hby at_278) rfl (tlt hc278_149).1 (by decide) (by decide) (XS.iconst X144.here hx rfl (hb hby at_286) k)) ?_
          have q_v287_146 : v287_146 = (-1 : Int32) := by rw [hv287_146, if_pos hc278_149]
          rw [q_v287_146] at K287_147
          exact K287_147 _ _ X144 N144 e144
        · refine own_step (U' := T144.setTop (mkF m 287 #[iv p0, iv p1, .val (.long q2), .second, iv (6 : Int32), rv b118, .unset, iv v275_143] [(.int v275_143)])) (fun t k => XS.icmpNo X144.here hx rfl (hb hby at_278) rfl (flt hc278_149).1 (XS.iload X144.here hx rfl (hb hby at_281) rfl (XS.goto X144.here hx rfl (pc0 := 283) (pc' := 287) rfl (hb hby at_283) (by decide) (by decide) k))) ?_
          have q_v287_146 : v287_146 = v275_143 := by rw [hv287_146, if_neg hc278_149]
          rw [q_v287_146] at K287_147
          exact K287_147 _ _ X144 N144 e144
      by_cases hc161_150 : (nar .byte (F2 p1 q2 (1 : Int32))) = (41 : Int32)
      · refine own_step (U' := T130.setTop (mkF m 275 #[iv p0, iv p1, .val (.long q2), .second, iv (6 : Int32), rv b118, .unset, iv (1 : Int32)] [])) (fun t k => XS.icmpNo X130.here hx rfl (hb hby at_161) rfl (teq hc161_150).2 (XS.iconst X130.here hx rfl (hb hby at_164) (XS.istore X130.here hx rfl (hb hby at_165) rfl (l' := #[iv p0, iv p1, .val (.long q2), .second, iv (6 : Int32), rv b118, .unset, iv (1 : Int32)]) rfl (XS.goto X130.here hx rfl (pc0 := 167) (pc' := 275) rfl (hb hby at_167) (by decide) (by decide) k)))) ?_
        have q_v275_143 : v275_143 = (1 : Int32) := by rw [hv275_143, if_pos hc161_150]
        rw [q_v275_143] at K275_144
        exact K275_144 _ _ X130 N130 e130
      · refine own_step (U' := T130.setTop (mkF m 179 #[iv p0, iv p1, .val (.long q2), .second, iv (6 : Int32), rv b118, .unset, iv (-1 : Int32)] [(.int (2 : Int32)), (.ref b118)])) (fun t k => XS.icmpYes X130.here hx rfl (pc0 := 161) (pc' := 170) rfl (hb hby at_161) rfl (feq hc161_150).2 (by decide) (by decide) (XS.iload X130.here hx rfl (hb hby at_170) rfl (XS.iconst X130.here hx rfl (hb hby at_172) (XS.icmpNo X130.here hx rfl (hb hby at_173) rfl (by decide) (XS.aload X130.here hx rfl (hb hby at_176) rfl rfl (XS.iconst X130.here hx rfl (hb hby at_178) k)))))) ?_
        obtain ⟨cl151, Ar151, aq151, aS151, aN151, aH151, aG151⟩ := id V_b118_130
        have hin151 : ¬ ((2 : Int32) < 0 ∨ cl151.slots.size ≤ ((2 : Int32)).toNatClampNeg) := inb_of aS151 ⟨by decide, by decide⟩
        have hat151 : cl151.slots[((2 : Int32)).toNatClampNeg]? = some (.int (nar .byte (F2 p1 q2 (2 : Int32)))) := aH151.at hin151 rfl
        refine own_step (U' := T130.setTop (mkF m 182 #[iv p0, iv p1, .val (.long q2), .second, iv (6 : Int32), rv b118, .unset, iv (-1 : Int32)] [(.int (41 : Int32)), (.int (nar .byte (F2 p1 q2 (2 : Int32))))])) (fun t k => X130.baloadBytes hx (j := (2 : Int32)) (v := (.int (nar .byte (F2 p1 q2 (2 : Int32))))) (by rw [e130]; exact Ar151.1) (State.isArrayOf_alike hZ.alike Ar151.2.1) Ar151.2.2 hin151 hat151 (g := (mkF m 179 #[iv p0, iv p1, .val (.long q2), .second, iv (6 : Int32), rv b118, .unset, iv (-1 : Int32)] [(.int (2 : Int32)), (.ref b118)])) rfl rfl (hb hby at_179) t (XS.bipush X130.here hx rfl (hb hby at_180) k)) ?_
        by_cases hc182_152 : (nar .byte (F2 p1 q2 (2 : Int32))) = (41 : Int32)
        · refine own_step (U' := T130.setTop (mkF m 275 #[iv p0, iv p1, .val (.long q2), .second, iv (6 : Int32), rv b118, .unset, iv (2 : Int32)] [])) (fun t k => XS.icmpNo X130.here hx rfl (hb hby at_182) rfl (teq hc182_152).2 (XS.iconst X130.here hx rfl (hb hby at_185) (XS.istore X130.here hx rfl (hb hby at_186) rfl (l' := #[iv p0, iv p1, .val (.long q2), .second, iv (6 : Int32), rv b118, .unset, iv (2 : Int32)]) rfl (XS.goto X130.here hx rfl (pc0 := 188) (pc' := 275) rfl (hb hby at_188) (by decide) (by decide) k)))) ?_
          have q_v275_143 : v275_143 = (2 : Int32) := by rw [hv275_143, if_neg hc161_150, if_pos hc182_152]
          rw [q_v275_143] at K275_144
          exact K275_144 _ _ X130 N130 e130
        · refine own_step (U' := T130.setTop (mkF m 200 #[iv p0, iv p1, .val (.long q2), .second, iv (6 : Int32), rv b118, .unset, iv (-1 : Int32)] [(.int (3 : Int32)), (.ref b118)])) (fun t k => XS.icmpYes X130.here hx rfl (pc0 := 182) (pc' := 191) rfl (hb hby at_182) rfl (feq hc182_152).2 (by decide) (by decide) (XS.iload X130.here hx rfl (hb hby at_191) rfl (XS.iconst X130.here hx rfl (hb hby at_193) (XS.icmpNo X130.here hx rfl (hb hby at_194) rfl (by decide) (XS.aload X130.here hx rfl (hb hby at_197) rfl rfl (XS.iconst X130.here hx rfl (hb hby at_199) k)))))) ?_
          obtain ⟨cl153, Ar153, aq153, aS153, aN153, aH153, aG153⟩ := id V_b118_130
          have hin153 : ¬ ((3 : Int32) < 0 ∨ cl153.slots.size ≤ ((3 : Int32)).toNatClampNeg) := inb_of aS153 ⟨by decide, by decide⟩
          have hat153 : cl153.slots[((3 : Int32)).toNatClampNeg]? = some (.int (nar .byte (F2 p1 q2 (3 : Int32)))) := aH153.at hin153 rfl
          refine own_step (U' := T130.setTop (mkF m 203 #[iv p0, iv p1, .val (.long q2), .second, iv (6 : Int32), rv b118, .unset, iv (-1 : Int32)] [(.int (41 : Int32)), (.int (nar .byte (F2 p1 q2 (3 : Int32))))])) (fun t k => X130.baloadBytes hx (j := (3 : Int32)) (v := (.int (nar .byte (F2 p1 q2 (3 : Int32))))) (by rw [e130]; exact Ar153.1) (State.isArrayOf_alike hZ.alike Ar153.2.1) Ar153.2.2 hin153 hat153 (g := (mkF m 200 #[iv p0, iv p1, .val (.long q2), .second, iv (6 : Int32), rv b118, .unset, iv (-1 : Int32)] [(.int (3 : Int32)), (.ref b118)])) rfl rfl (hb hby at_200) t (XS.bipush X130.here hx rfl (hb hby at_201) k)) ?_
          by_cases hc203_154 : (nar .byte (F2 p1 q2 (3 : Int32))) = (41 : Int32)
          · refine own_step (U' := T130.setTop (mkF m 275 #[iv p0, iv p1, .val (.long q2), .second, iv (6 : Int32), rv b118, .unset, iv (3 : Int32)] [])) (fun t k => XS.icmpNo X130.here hx rfl (hb hby at_203) rfl (teq hc203_154).2 (XS.iconst X130.here hx rfl (hb hby at_206) (XS.istore X130.here hx rfl (hb hby at_207) rfl (l' := #[iv p0, iv p1, .val (.long q2), .second, iv (6 : Int32), rv b118, .unset, iv (3 : Int32)]) rfl (XS.goto X130.here hx rfl (pc0 := 209) (pc' := 275) rfl (hb hby at_209) (by decide) (by decide) k)))) ?_
            have q_v275_143 : v275_143 = (3 : Int32) := by rw [hv275_143, if_neg hc161_150, if_neg hc182_152, if_pos hc203_154]
            rw [q_v275_143] at K275_144
            exact K275_144 _ _ X130 N130 e130
          · refine own_step (U' := T130.setTop (mkF m 221 #[iv p0, iv p1, .val (.long q2), .second, iv (6 : Int32), rv b118, .unset, iv (-1 : Int32)] [(.int (4 : Int32)), (.ref b118)])) (fun t k => XS.icmpYes X130.here hx rfl (pc0 := 203) (pc' := 212) rfl (hb hby at_203) rfl (feq hc203_154).2 (by decide) (by decide) (XS.iload X130.here hx rfl (hb hby at_212) rfl (XS.iconst X130.here hx rfl (hb hby at_214) (XS.icmpNo X130.here hx rfl (hb hby at_215) rfl (by decide) (XS.aload X130.here hx rfl (hb hby at_218) rfl rfl (XS.iconst X130.here hx rfl (hb hby at_220) k)))))) ?_
            obtain ⟨cl155, Ar155, aq155, aS155, aN155, aH155, aG155⟩ := id V_b118_130
            have hin155 : ¬ ((4 : Int32) < 0 ∨ cl155.slots.size ≤ ((4 : Int32)).toNatClampNeg) := inb_of aS155 ⟨by decide, by decide⟩
            have hat155 : cl155.slots[((4 : Int32)).toNatClampNeg]? = some (.int (nar .byte (F2 p1 q2 (4 : Int32)))) := aH155.at hin155 rfl
            refine own_step (U' := T130.setTop (mkF m 224 #[iv p0, iv p1, .val (.long q2), .second, iv (6 : Int32), rv b118, .unset, iv (-1 : Int32)] [(.int (41 : Int32)), (.int (nar .byte (F2 p1 q2 (4 : Int32))))])) (fun t k => X130.baloadBytes hx (j := (4 : Int32)) (v := (.int (nar .byte (F2 p1 q2 (4 : Int32))))) (by rw [e130]; exact Ar155.1) (State.isArrayOf_alike hZ.alike Ar155.2.1) Ar155.2.2 hin155 hat155 (g := (mkF m 221 #[iv p0, iv p1, .val (.long q2), .second, iv (6 : Int32), rv b118, .unset, iv (-1 : Int32)] [(.int (4 : Int32)), (.ref b118)])) rfl rfl (hb hby at_221) t (XS.bipush X130.here hx rfl (hb hby at_222) k)) ?_
            by_cases hc224_156 : (nar .byte (F2 p1 q2 (4 : Int32))) = (41 : Int32)
            · refine own_step (U' := T130.setTop (mkF m 275 #[iv p0, iv p1, .val (.long q2), .second, iv (6 : Int32), rv b118, .unset, iv (4 : Int32)] [])) (fun t k => XS.icmpNo X130.here hx rfl (hb hby at_224) rfl (teq hc224_156).2 (XS.iconst X130.here hx rfl (hb hby at_227) (XS.istore X130.here hx rfl (hb hby at_228) rfl (l' := #[iv p0, iv p1, .val (.long q2), .second, iv (6 : Int32), rv b118, .unset, iv (4 : Int32)]) rfl (XS.goto X130.here hx rfl (pc0 := 230) (pc' := 275) rfl (hb hby at_230) (by decide) (by decide) k)))) ?_
              have q_v275_143 : v275_143 = (4 : Int32) := by rw [hv275_143, if_neg hc161_150, if_neg hc182_152, if_neg hc203_154, if_pos hc224_156]
              rw [q_v275_143] at K275_144
              exact K275_144 _ _ X130 N130 e130
            · refine own_step (U' := T130.setTop (mkF m 242 #[iv p0, iv p1, .val (.long q2), .second, iv (6 : Int32), rv b118, .unset, iv (-1 : Int32)] [(.int (5 : Int32)), (.ref b118)])) (fun t k => XS.icmpYes X130.here hx rfl (pc0 := 224) (pc' := 233) rfl (hb hby at_224) rfl (feq hc224_156).2 (by decide) (by decide) (XS.iload X130.here hx rfl (hb hby at_233) rfl (XS.iconst X130.here hx rfl (hb hby at_235) (XS.icmpNo X130.here hx rfl (hb hby at_236) rfl (by decide) (XS.aload X130.here hx rfl (hb hby at_239) rfl rfl (XS.iconst X130.here hx rfl (hb hby at_241) k)))))) ?_
              obtain ⟨cl157, Ar157, aq157, aS157, aN157, aH157, aG157⟩ := id V_b118_130
              have hin157 : ¬ ((5 : Int32) < 0 ∨ cl157.slots.size ≤ ((5 : Int32)).toNatClampNeg) := inb_of aS157 ⟨by decide, by decide⟩
              have hat157 : cl157.slots[((5 : Int32)).toNatClampNeg]? = some (.int (nar .byte (F2 p1 q2 (5 : Int32)))) := aH157.at hin157 rfl
              refine own_step (U' := T130.setTop (mkF m 245 #[iv p0, iv p1, .val (.long q2), .second, iv (6 : Int32), rv b118, .unset, iv (-1 : Int32)] [(.int (41 : Int32)), (.int (nar .byte (F2 p1 q2 (5 : Int32))))])) (fun t k => X130.baloadBytes hx (j := (5 : Int32)) (v := (.int (nar .byte (F2 p1 q2 (5 : Int32))))) (by rw [e130]; exact Ar157.1) (State.isArrayOf_alike hZ.alike Ar157.2.1) Ar157.2.2 hin157 hat157 (g := (mkF m 242 #[iv p0, iv p1, .val (.long q2), .second, iv (6 : Int32), rv b118, .unset, iv (-1 : Int32)] [(.int (5 : Int32)), (.ref b118)])) rfl rfl (hb hby at_242) t (XS.bipush X130.here hx rfl (hb hby at_243) k)) ?_
              by_cases hc245_158 : (nar .byte (F2 p1 q2 (5 : Int32))) = (41 : Int32)
              · refine own_step (U' := T130.setTop (mkF m 275 #[iv p0, iv p1, .val (.long q2), .second, iv (6 : Int32), rv b118, .unset, iv (5 : Int32)] [])) (fun t k => XS.icmpNo X130.here hx rfl (hb hby at_245) rfl (teq hc245_158).2 (XS.iconst X130.here hx rfl (hb hby at_248) (XS.istore X130.here hx rfl (hb hby at_249) rfl (l' := #[iv p0, iv p1, .val (.long q2), .second, iv (6 : Int32), rv b118, .unset, iv (5 : Int32)]) rfl (XS.goto X130.here hx rfl (pc0 := 251) (pc' := 275) rfl (hb hby at_251) (by decide) (by decide) k)))) ?_
                have q_v275_143 : v275_143 = (5 : Int32) := by rw [hv275_143, if_neg hc161_150, if_neg hc182_152, if_neg hc203_154, if_neg hc224_156, if_pos hc245_158]
                rw [q_v275_143] at K275_144
                exact K275_144 _ _ X130 N130 e130
              · refine own_step (U' := T130.setTop (mkF m 275 #[iv p0, iv p1, .val (.long q2), .second, iv (6 : Int32), rv b118, .unset, iv (-1 : Int32)] [])) (fun t k => XS.icmpYes X130.here hx rfl (pc0 := 245) (pc' := 254) rfl (hb hby at_245) rfl (feq hc245_158).2 (by decide) (by decide) (XS.iload X130.here hx rfl (hb hby at_254) rfl (XS.bipush X130.here hx rfl (hb hby at_256) (XS.icmpYes X130.here hx rfl (pc0 := 258) (pc' := 275) rfl (hb hby at_258) rfl (by decide) (by decide) (by decide) k)))) ?_
                have q_v275_143 : v275_143 = (-1 : Int32) := by rw [hv275_143, if_neg hc161_150, if_neg hc182_152, if_neg hc203_154, if_neg hc224_156, if_neg hc245_158]
                rw [q_v275_143] at K275_144
                exact K275_144 _ _ X130 N130 e130
    · refine own_step (U' := T130.setTop (mkF m 291 #[iv p0, iv p1, .val (.long q2), .second, iv (6 : Int32), rv b118, iv (-1 : Int32), .unset] [(.ref b118)])) (fun t k => XS.icmpNo X130.here hx rfl (hb hby at_137) rfl (feq hc137_132).1 (XS.iconst X130.here hx rfl (hb hby at_140) (XS.istore X130.here hx rfl (hb hby at_141) rfl (l' := #[iv p0, iv p1, .val (.long q2), .second, iv (6 : Int32), rv b118, iv (-1 : Int32), .unset]) rfl (XS.goto X130.here hx rfl (pc0 := 143) (pc' := 289) rfl (hb hby at_143) (by decide) (by decide) (XS.aload X130.here hx rfl (hb hby at_289) rfl rfl k))))) ?_
      obtain ⟨_, _, ⟨T159, L159, k159, n159⟩, -, X159, ⟨Lc159, hQ159, l159, y159, z159⟩, st159⟩ := Jvm.LawKit.callS X130 hx (y := (⟨"com/example/tallyfield/tallyfield/control/ControlNumbers", "codeEnd", "([B)I"⟩ : MethodName)) hown (mvT hZ (own_w hw 1 rfl)) (mvT hZ (own_w hw 2 rfl)) (mvT hZ (own_w hw 3 rfl)) (mvT hZ (own_w hw 4 rfl)) (by decide) (backOf (W := 0) (rm1k6 l Z a0 hw [] b118 (nar .byte (F2 p1 q2 (0 : Int32))) (nar .byte (F2 p1 q2 (1 : Int32))) (nar .byte (F2 p1 q2 (2 : Int32))) (nar .byte (F2 p1 q2 (3 : Int32))) (nar .byte (F2 p1 q2 (4 : Int32))) (nar .byte (F2 p1 q2 (5 : Int32))) k118 h130 n0 Z130 V_b118_130) hZ (own_w hw 4 rfl) (own_w hw 3 rfl) (by decide) (by decide)) (g := (mkF m 291 #[iv p0, iv p1, .val (.long q2), .second, iv (6 : Int32), rv b118, iv (-1 : Int32), .unset] [(.ref b118)])) rfl (by rw [hml]; rfl) (argsL := [(.ref b118)]) (rest := []) (lenOf pd___B_I rfl) rfl (by show 2 * 0 + _ ≤ _; exact Nat.le_of_eq rfl) (hb hby at_291) (fun _ _ => ⟨rfl, e130, (by decide : 1 + 0 ≤ _), (by decide : 6 + 0 ≤ _)⟩)
      dsimp only [Pt.U, Pt.locs, Pt.cells, Pt.slots] at X159 l159 y159 z159 st159 hQ159
      subst l159 y159 z159
      obtain ⟨rfl, N159q, eq159⟩ := hQ159
      have N159 := Fr.app N130 N159q
      refine own_step (U' := T159.setTop (mkF m 294 #[iv p0, iv p1, .val (.long q2), .second, iv (6 : Int32), rv b118, iv (-1 : Int32), .unset] [(.int (F1k6 (nar .byte (F2 p1 q2 (0 : Int32))) (nar .byte (F2 p1 q2 (1 : Int32))) (nar .byte (F2 p1 q2 (2 : Int32))) (nar .byte (F2 p1 q2 (3 : Int32))) (nar .byte (F2 p1 q2 (4 : Int32))) (nar .byte (F2 p1 q2 (5 : Int32)))))])) st159 ?_
      refine own_step (U' := T159.setTop (mkF m 304 #[iv p0, iv p1, .val (.long q2), .second, iv (6 : Int32), rv b118, iv (-1 : Int32), .unset] [(.int (1 : Int32))])) (fun t k => XS.iload X159.here hx rfl (hb hby at_294) rfl (XS.icmpNo X159.here hx rfl (hb hby at_296) rfl (teq (own_no6 _ _ _ _ _ _ hc137_132)).2 (XS.iconst X159.here hx rfl (hb hby at_299) (XS.goto X159.here hx rfl (pc0 := 300) (pc' := 304) rfl (hb hby at_300) (by decide) (by decide) k)))) ?_
      exact own_out X159 (v := (some (.int (1 : Int32)))) hlk (own_nv Bd.returns) (by rw [eq159]; exact ⟨rfl, N159⟩) (by decide) (by decide) (fun fs hr => retN X159 hx (t := .boolean) Bd.returns (by simp) (hb hby at_304) hr)
  · rw [hn7]
    refine own_step (U' := s₁.setTop (mkF m 8 #[iv p0, iv p1, .val (.long q2), .second, iv (7 : Int32), .unset, .unset, .unset] [(.int (7 : Int32))])) (fun t k => XS.istore X0.here hx rfl (hb hby at_4) rfl (l' := #[iv p0, iv p1, .val (.long q2), .second, iv (7 : Int32), .unset, .unset, .unset]) rfl (XS.iload X0.here hx rfl (hb hby at_6) rfl k)) ?_
    obtain ⟨T160, h160, k160, X160, e160, E160, A160, st160⟩ := newP X0 hx hZ (own_w hw 0 rfl) e0 (g := (mkF m 8 #[iv p0, iv p1, .val (.long q2), .second, iv (7 : Int32), .unset, .unset, .unset] [(.int (7 : Int32))])) rfl (hb hby at_8) rfl (by decide) (cap := 7) (by decide) (by decide) (by decide) (by decide)
    obtain ⟨b160, g160⟩ : ∃ z, z = h0.size := ⟨_, rfl⟩
    have ge_b160 : n0 ≤ b160 := Nat.le_trans Z0 (Nat.le_of_eq g160.symm)
    have sz_b160 : h0.size ≤ b160 := Nat.le_trans KK0.1 (Nat.le_of_eq g160.symm)
    rw [← g160] at A160 st160
    have V_b160 : Arv Z h160 b160 k160 .byte (7 : Int32) [(.int (0 : Int32)), (.int (0 : Int32)), (.int (0 : Int32)), (.int (0 : Int32)), (.int (0 : Int32)), (.int (0 : Int32)), (.int (0 : Int32))] (.int (0 : Int32)) := (Arv.new A160 (by decide)).pad (pad_rep [] (.int (0 : Int32)) 7)
    have Z160 : n0 ≤ h160.size := Nat.le_trans Z0 E160.1
    have KK160 := KK0.ext E160
    refine own_step (U' := T160.setTop (mkF m 10 #[iv p0, iv p1, .val (.long q2), .second, iv (7 : Int32), .unset, .unset, .unset] [(.ref b160)])) st160 ?_
    refine own_step (U' := T160.setTop (mkF m 23 #[iv p0, iv p1, .val (.long q2), .second, iv (7 : Int32), rv b160, .unset, .unset] [(.int (0 : Int32)), (.long q2), (.int p1), (.int (0 : Int32)), (.ref b160)])) (fun t k => XS.astore X160.here hx rfl (hb hby at_10) rfl rfl (l' := #[iv p0, iv p1, .val (.long q2), .second, iv (7 : Int32), rv b160, .unset, .unset]) rfl (XS.iload X160.here hx rfl (hb hby at_12) rfl (XS.ifNo X160.here hx rfl (hb hby at_14) rfl (by decide) (XS.aload X160.here hx rfl (hb hby at_17) rfl rfl (XS.iconst X160.here hx rfl (hb hby at_19) (XS.iloadN X160.here hx rfl (hb hby at_20) rfl (XS.lloadN X160.here hx rfl (hb hby at_21) rfl (XS.iconst X160.here hx rfl (hb hby at_22) k)))))))) ?_
    obtain ⟨_, _, ⟨T161, L161, k161, n161⟩, -, X161, ⟨Lc161, hQ161, l161, y161, z161⟩, st161⟩ := Jvm.LawKit.callS X160 hx (y := (⟨"com/example/tallyfield/tallyfield/control/ControlNumbersCodeEndPinLaw", "pick", "(IJI)B"⟩ : MethodName)) hown (mvT hZ (own_w hw 5 rfl)) (mvT hZ (own_w hw 6 rfl)) (mvT hZ (own_w hw 7 rfl)) (mvT hZ (own_w hw 8 rfl)) (by decide) (backOf (W := 2) (rm2 l Z a0 hw [] p1 q2 (0 : Int32) h160 n0 Z160) hZ (own_w hw 8 rfl) (own_w hw 7 rfl) (by decide) (by decide)) (g := (mkF m 23 #[iv p0, iv p1, .val (.long q2), .second, iv (7 : Int32), rv b160, .unset, .unset] [(.int (0 : Int32)), (.long q2), (.int p1), (.int (0 : Int32)), (.ref b160)])) rfl (by rw [hml]; rfl) (argsL := [(.int p1), (.long q2), (.int (0 : Int32))]) (rest := [(.int (0 : Int32)), (.ref b160)]) (lenOf pd__IJI_B rfl) rfl (by show 2 * 0 + _ ≤ _; exact Nat.le_of_eq rfl) (hb hby at_23) (fun _ _ => ⟨rfl, e160, (by decide : 1 + 0 ≤ _), (by decide : 7 + 0 ≤ _)⟩)
    dsimp only [Pt.U, Pt.locs, Pt.cells, Pt.slots] at X161 l161 y161 z161 st161 hQ161
    subst l161 y161 z161
    obtain ⟨rfl, N161q, eq161⟩ := hQ161
    have N161 := Fr.app N0 N161q
    refine own_step (U' := T161.setTop (mkF m 26 #[iv p0, iv p1, .val (.long q2), .second, iv (7 : Int32), rv b160, .unset, .unset] [(.int (F2 p1 q2 (0 : Int32))), (.int (0 : Int32)), (.ref b160)])) st161 ?_
    obtain ⟨cl162, Ar162, aq162, aS162, aN162, aH162, aG162⟩ := id V_b160
    have hin162 : ¬ ((0 : Int32) < 0 ∨ cl162.slots.size ≤ ((0 : Int32)).toNatClampNeg) := inb_of aS162 ⟨by decide, by decide⟩
    obtain ⟨T162, h162, X162, e162, W162, st162⟩ := stB X161 hx hZ eq161 Ar162 (j := (0 : Int32)) hin162 (g := (mkF m 26 #[iv p0, iv p1, .val (.long q2), .second, iv (7 : Int32), rv b160, .unset, .unset] [(.int (F2 p1 q2 (0 : Int32))), (.int (0 : Int32)), (.ref b160)])) rfl rfl (hb hby at_26)
    have V_b160_162 : Arv Z h162 b160 k160 .byte (7 : Int32) [(.int (nar .byte (F2 p1 q2 (0 : Int32)))), (.int (0 : Int32)), (.int (0 : Int32)), (.int (0 : Int32)), (.int (0 : Int32)), (.int (0 : Int32)), (.int (0 : Int32))] (.int (0 : Int32)) := Arv.set Ar162 aq162 aS162 aN162 aH162 aG162 (fits_nar_byte _) W162 0 rfl (Nat.le_of_ble_eq_true rfl)
    have Z162 : n0 ≤ h162.size := Nat.le_trans Z160 (Keep.of_wr W162).1
    have KK162 := KK160.wr W162 (Or.inr sz_b160)
    have N162 := Fr.snoc X162 N161 ge_b160
    refine own_step (U' := T162.setTop (mkF m 27 #[iv p0, iv p1, .val (.long q2), .second, iv (7 : Int32), rv b160, .unset, .unset] [])) st162 ?_
    refine own_step (U' := T162.setTop (mkF m 39 #[iv p0, iv p1, .val (.long q2), .second, iv (7 : Int32), rv b160, .unset, .unset] [(.int (1 : Int32)), (.long q2), (.int p1), (.int (1 : Int32)), (.ref b160)])) (fun t k => XS.iload X162.here hx rfl (hb hby at_27) rfl (XS.iconst X162.here hx rfl (hb hby at_29) (XS.icmpNo X162.here hx rfl (hb hby at_30) rfl (by decide) (XS.aload X162.here hx rfl (hb hby at_33) rfl rfl (XS.iconst X162.here hx rfl (hb hby at_35) (XS.iloadN X162.here hx rfl (hb hby at_36) rfl (XS.lloadN X162.here hx rfl (hb hby at_37) rfl (XS.iconst X162.here hx rfl (hb hby at_38) k)))))))) ?_
    obtain ⟨_, _, ⟨T163, L163, k163, n163⟩, -, X163, ⟨Lc163, hQ163, l163, y163, z163⟩, st163⟩ := Jvm.LawKit.callS X162 hx (y := (⟨"com/example/tallyfield/tallyfield/control/ControlNumbersCodeEndPinLaw", "pick", "(IJI)B"⟩ : MethodName)) hown (mvT hZ (own_w hw 5 rfl)) (mvT hZ (own_w hw 6 rfl)) (mvT hZ (own_w hw 7 rfl)) (mvT hZ (own_w hw 8 rfl)) (by decide) (backOf (W := 2) (rm2 l Z a0 hw [] p1 q2 (1 : Int32) h162 n0 Z162) hZ (own_w hw 8 rfl) (own_w hw 7 rfl) (by decide) (by decide)) (g := (mkF m 39 #[iv p0, iv p1, .val (.long q2), .second, iv (7 : Int32), rv b160, .unset, .unset] [(.int (1 : Int32)), (.long q2), (.int p1), (.int (1 : Int32)), (.ref b160)])) rfl (by rw [hml]; rfl) (argsL := [(.int p1), (.long q2), (.int (1 : Int32))]) (rest := [(.int (1 : Int32)), (.ref b160)]) (lenOf pd__IJI_B rfl) rfl (by show 2 * 0 + _ ≤ _; exact Nat.le_of_eq rfl) (hb hby at_39) (fun _ _ => ⟨rfl, e162, (by decide : 1 + 0 ≤ _), (by decide : 7 + 0 ≤ _)⟩)
    dsimp only [Pt.U, Pt.locs, Pt.cells, Pt.slots] at X163 l163 y163 z163 st163 hQ163
    subst l163 y163 z163
    obtain ⟨rfl, N163q, eq163⟩ := hQ163
    have N163 := Fr.app N162 N163q
    refine own_step (U' := T163.setTop (mkF m 42 #[iv p0, iv p1, .val (.long q2), .second, iv (7 : Int32), rv b160, .unset, .unset] [(.int (F2 p1 q2 (1 : Int32))), (.int (1 : Int32)), (.ref b160)])) st163 ?_
    obtain ⟨cl164, Ar164, aq164, aS164, aN164, aH164, aG164⟩ := id V_b160_162
    have hin164 : ¬ ((1 : Int32) < 0 ∨ cl164.slots.size ≤ ((1 : Int32)).toNatClampNeg) := inb_of aS164 ⟨by decide, by decide⟩
    obtain ⟨T164, h164, X164, e164, W164, st164⟩ := stB X163 hx hZ eq163 Ar164 (j := (1 : Int32)) hin164 (g := (mkF m 42 #[iv p0, iv p1, .val (.long q2), .second, iv (7 : Int32), rv b160, .unset, .unset] [(.int (F2 p1 q2 (1 : Int32))), (.int (1 : Int32)), (.ref b160)])) rfl rfl (hb hby at_42)
    have V_b160_164 : Arv Z h164 b160 k160 .byte (7 : Int32) [(.int (nar .byte (F2 p1 q2 (0 : Int32)))), (.int (nar .byte (F2 p1 q2 (1 : Int32)))), (.int (0 : Int32)), (.int (0 : Int32)), (.int (0 : Int32)), (.int (0 : Int32)), (.int (0 : Int32))] (.int (0 : Int32)) := Arv.set Ar164 aq164 aS164 aN164 aH164 aG164 (fits_nar_byte _) W164 1 rfl (Nat.le_of_ble_eq_true rfl)
    have Z164 : n0 ≤ h164.size := Nat.le_trans Z162 (Keep.of_wr W164).1
    have KK164 := KK162.wr W164 (Or.inr sz_b160)
    have N164 := Fr.snoc X164 N163 ge_b160
    refine own_step (U' := T164.setTop (mkF m 43 #[iv p0, iv p1, .val (.long q2), .second, iv (7 : Int32), rv b160, .unset, .unset] [])) st164 ?_
    refine own_step (U' := T164.setTop (mkF m 55 #[iv p0, iv p1, .val (.long q2), .second, iv (7 : Int32), rv b160, .unset, .unset] [(.int (2 : Int32)), (.long q2), (.int p1), (.int (2 : Int32)), (.ref b160)])) (fun t k => XS.iload X164.here hx rfl (hb hby at_43) rfl (XS.iconst X164.here hx rfl (hb hby at_45) (XS.icmpNo X164.here hx rfl (hb hby at_46) rfl (by decide) (XS.aload X164.here hx rfl (hb hby at_49) rfl rfl (XS.iconst X164.here hx rfl (hb hby at_51) (XS.iloadN X164.here hx rfl (hb hby at_52) rfl (XS.lloadN X164.here hx rfl (hb hby at_53) rfl (XS.iconst X164.here hx rfl (hb hby at_54) k)))))))) ?_
    obtain ⟨_, _, ⟨T165, L165, k165, n165⟩, -, X165, ⟨Lc165, hQ165, l165, y165, z165⟩, st165⟩ := Jvm.LawKit.callS X164 hx (y := (⟨"com/example/tallyfield/tallyfield/control/ControlNumbersCodeEndPinLaw", "pick", "(IJI)B"⟩ : MethodName)) hown (mvT hZ (own_w hw 5 rfl)) (mvT hZ (own_w hw 6 rfl)) (mvT hZ (own_w hw 7 rfl)) (mvT hZ (own_w hw 8 rfl)) (by decide) (backOf (W := 2) (rm2 l Z a0 hw [] p1 q2 (2 : Int32) h164 n0 Z164) hZ (own_w hw 8 rfl) (own_w hw 7 rfl) (by decide) (by decide)) (g := (mkF m 55 #[iv p0, iv p1, .val (.long q2), .second, iv (7 : Int32), rv b160, .unset, .unset] [(.int (2 : Int32)), (.long q2), (.int p1), (.int (2 : Int32)), (.ref b160)])) rfl (by rw [hml]; rfl) (argsL := [(.int p1), (.long q2), (.int (2 : Int32))]) (rest := [(.int (2 : Int32)), (.ref b160)]) (lenOf pd__IJI_B rfl) rfl (by show 2 * 0 + _ ≤ _; exact Nat.le_of_eq rfl) (hb hby at_55) (fun _ _ => ⟨rfl, e164, (by decide : 1 + 0 ≤ _), (by decide : 7 + 0 ≤ _)⟩)
    dsimp only [Pt.U, Pt.locs, Pt.cells, Pt.slots] at X165 l165 y165 z165 st165 hQ165
    subst l165 y165 z165
    obtain ⟨rfl, N165q, eq165⟩ := hQ165
    have N165 := Fr.app N164 N165q
    refine own_step (U' := T165.setTop (mkF m 58 #[iv p0, iv p1, .val (.long q2), .second, iv (7 : Int32), rv b160, .unset, .unset] [(.int (F2 p1 q2 (2 : Int32))), (.int (2 : Int32)), (.ref b160)])) st165 ?_
    obtain ⟨cl166, Ar166, aq166, aS166, aN166, aH166, aG166⟩ := id V_b160_164
    have hin166 : ¬ ((2 : Int32) < 0 ∨ cl166.slots.size ≤ ((2 : Int32)).toNatClampNeg) := inb_of aS166 ⟨by decide, by decide⟩
    obtain ⟨T166, h166, X166, e166, W166, st166⟩ := stB X165 hx hZ eq165 Ar166 (j := (2 : Int32)) hin166 (g := (mkF m 58 #[iv p0, iv p1, .val (.long q2), .second, iv (7 : Int32), rv b160, .unset, .unset] [(.int (F2 p1 q2 (2 : Int32))), (.int (2 : Int32)), (.ref b160)])) rfl rfl (hb hby at_58)
    have V_b160_166 : Arv Z h166 b160 k160 .byte (7 : Int32) [(.int (nar .byte (F2 p1 q2 (0 : Int32)))), (.int (nar .byte (F2 p1 q2 (1 : Int32)))), (.int (nar .byte (F2 p1 q2 (2 : Int32)))), (.int (0 : Int32)), (.int (0 : Int32)), (.int (0 : Int32)), (.int (0 : Int32))] (.int (0 : Int32)) := Arv.set Ar166 aq166 aS166 aN166 aH166 aG166 (fits_nar_byte _) W166 2 rfl (Nat.le_of_ble_eq_true rfl)
    have Z166 : n0 ≤ h166.size := Nat.le_trans Z164 (Keep.of_wr W166).1
    have KK166 := KK164.wr W166 (Or.inr sz_b160)
    have N166 := Fr.snoc X166 N165 ge_b160
    refine own_step (U' := T166.setTop (mkF m 59 #[iv p0, iv p1, .val (.long q2), .second, iv (7 : Int32), rv b160, .unset, .unset] [])) st166 ?_
    refine own_step (U' := T166.setTop (mkF m 71 #[iv p0, iv p1, .val (.long q2), .second, iv (7 : Int32), rv b160, .unset, .unset] [(.int (3 : Int32)), (.long q2), (.int p1), (.int (3 : Int32)), (.ref b160)])) (fun t k => XS.iload X166.here hx rfl (hb hby at_59) rfl (XS.iconst X166.here hx rfl (hb hby at_61) (XS.icmpNo X166.here hx rfl (hb hby at_62) rfl (by decide) (XS.aload X166.here hx rfl (hb hby at_65) rfl rfl (XS.iconst X166.here hx rfl (hb hby at_67) (XS.iloadN X166.here hx rfl (hb hby at_68) rfl (XS.lloadN X166.here hx rfl (hb hby at_69) rfl (XS.iconst X166.here hx rfl (hb hby at_70) k)))))))) ?_
    obtain ⟨_, _, ⟨T167, L167, k167, n167⟩, -, X167, ⟨Lc167, hQ167, l167, y167, z167⟩, st167⟩ := Jvm.LawKit.callS X166 hx (y := (⟨"com/example/tallyfield/tallyfield/control/ControlNumbersCodeEndPinLaw", "pick", "(IJI)B"⟩ : MethodName)) hown (mvT hZ (own_w hw 5 rfl)) (mvT hZ (own_w hw 6 rfl)) (mvT hZ (own_w hw 7 rfl)) (mvT hZ (own_w hw 8 rfl)) (by decide) (backOf (W := 2) (rm2 l Z a0 hw [] p1 q2 (3 : Int32) h166 n0 Z166) hZ (own_w hw 8 rfl) (own_w hw 7 rfl) (by decide) (by decide)) (g := (mkF m 71 #[iv p0, iv p1, .val (.long q2), .second, iv (7 : Int32), rv b160, .unset, .unset] [(.int (3 : Int32)), (.long q2), (.int p1), (.int (3 : Int32)), (.ref b160)])) rfl (by rw [hml]; rfl) (argsL := [(.int p1), (.long q2), (.int (3 : Int32))]) (rest := [(.int (3 : Int32)), (.ref b160)]) (lenOf pd__IJI_B rfl) rfl (by show 2 * 0 + _ ≤ _; exact Nat.le_of_eq rfl) (hb hby at_71) (fun _ _ => ⟨rfl, e166, (by decide : 1 + 0 ≤ _), (by decide : 7 + 0 ≤ _)⟩)
    dsimp only [Pt.U, Pt.locs, Pt.cells, Pt.slots] at X167 l167 y167 z167 st167 hQ167
    subst l167 y167 z167
    obtain ⟨rfl, N167q, eq167⟩ := hQ167
    have N167 := Fr.app N166 N167q
    refine own_step (U' := T167.setTop (mkF m 74 #[iv p0, iv p1, .val (.long q2), .second, iv (7 : Int32), rv b160, .unset, .unset] [(.int (F2 p1 q2 (3 : Int32))), (.int (3 : Int32)), (.ref b160)])) st167 ?_
    obtain ⟨cl168, Ar168, aq168, aS168, aN168, aH168, aG168⟩ := id V_b160_166
    have hin168 : ¬ ((3 : Int32) < 0 ∨ cl168.slots.size ≤ ((3 : Int32)).toNatClampNeg) := inb_of aS168 ⟨by decide, by decide⟩
    obtain ⟨T168, h168, X168, e168, W168, st168⟩ := stB X167 hx hZ eq167 Ar168 (j := (3 : Int32)) hin168 (g := (mkF m 74 #[iv p0, iv p1, .val (.long q2), .second, iv (7 : Int32), rv b160, .unset, .unset] [(.int (F2 p1 q2 (3 : Int32))), (.int (3 : Int32)), (.ref b160)])) rfl rfl (hb hby at_74)
    have V_b160_168 : Arv Z h168 b160 k160 .byte (7 : Int32) [(.int (nar .byte (F2 p1 q2 (0 : Int32)))), (.int (nar .byte (F2 p1 q2 (1 : Int32)))), (.int (nar .byte (F2 p1 q2 (2 : Int32)))), (.int (nar .byte (F2 p1 q2 (3 : Int32)))), (.int (0 : Int32)), (.int (0 : Int32)), (.int (0 : Int32))] (.int (0 : Int32)) := Arv.set Ar168 aq168 aS168 aN168 aH168 aG168 (fits_nar_byte _) W168 3 rfl (Nat.le_of_ble_eq_true rfl)
    have Z168 : n0 ≤ h168.size := Nat.le_trans Z166 (Keep.of_wr W168).1
    have KK168 := KK166.wr W168 (Or.inr sz_b160)
    have N168 := Fr.snoc X168 N167 ge_b160
    refine own_step (U' := T168.setTop (mkF m 75 #[iv p0, iv p1, .val (.long q2), .second, iv (7 : Int32), rv b160, .unset, .unset] [])) st168 ?_
    refine own_step (U' := T168.setTop (mkF m 87 #[iv p0, iv p1, .val (.long q2), .second, iv (7 : Int32), rv b160, .unset, .unset] [(.int (4 : Int32)), (.long q2), (.int p1), (.int (4 : Int32)), (.ref b160)])) (fun t k => XS.iload X168.here hx rfl (hb hby at_75) rfl (XS.iconst X168.here hx rfl (hb hby at_77) (XS.icmpNo X168.here hx rfl (hb hby at_78) rfl (by decide) (XS.aload X168.here hx rfl (hb hby at_81) rfl rfl (XS.iconst X168.here hx rfl (hb hby at_83) (XS.iloadN X168.here hx rfl (hb hby at_84) rfl (XS.lloadN X168.here hx rfl (hb hby at_85) rfl (XS.iconst X168.here hx rfl (hb hby at_86) k)))))))) ?_
    obtain ⟨_, _, ⟨T169, L169, k169, n169⟩, -, X169, ⟨Lc169, hQ169, l169, y169, z169⟩, st169⟩ := Jvm.LawKit.callS X168 hx (y := (⟨"com/example/tallyfield/tallyfield/control/ControlNumbersCodeEndPinLaw", "pick", "(IJI)B"⟩ : MethodName)) hown (mvT hZ (own_w hw 5 rfl)) (mvT hZ (own_w hw 6 rfl)) (mvT hZ (own_w hw 7 rfl)) (mvT hZ (own_w hw 8 rfl)) (by decide) (backOf (W := 2) (rm2 l Z a0 hw [] p1 q2 (4 : Int32) h168 n0 Z168) hZ (own_w hw 8 rfl) (own_w hw 7 rfl) (by decide) (by decide)) (g := (mkF m 87 #[iv p0, iv p1, .val (.long q2), .second, iv (7 : Int32), rv b160, .unset, .unset] [(.int (4 : Int32)), (.long q2), (.int p1), (.int (4 : Int32)), (.ref b160)])) rfl (by rw [hml]; rfl) (argsL := [(.int p1), (.long q2), (.int (4 : Int32))]) (rest := [(.int (4 : Int32)), (.ref b160)]) (lenOf pd__IJI_B rfl) rfl (by show 2 * 0 + _ ≤ _; exact Nat.le_of_eq rfl) (hb hby at_87) (fun _ _ => ⟨rfl, e168, (by decide : 1 + 0 ≤ _), (by decide : 7 + 0 ≤ _)⟩)
    dsimp only [Pt.U, Pt.locs, Pt.cells, Pt.slots] at X169 l169 y169 z169 st169 hQ169
    subst l169 y169 z169
    obtain ⟨rfl, N169q, eq169⟩ := hQ169
    have N169 := Fr.app N168 N169q
    refine own_step (U' := T169.setTop (mkF m 90 #[iv p0, iv p1, .val (.long q2), .second, iv (7 : Int32), rv b160, .unset, .unset] [(.int (F2 p1 q2 (4 : Int32))), (.int (4 : Int32)), (.ref b160)])) st169 ?_
    obtain ⟨cl170, Ar170, aq170, aS170, aN170, aH170, aG170⟩ := id V_b160_168
    have hin170 : ¬ ((4 : Int32) < 0 ∨ cl170.slots.size ≤ ((4 : Int32)).toNatClampNeg) := inb_of aS170 ⟨by decide, by decide⟩
    obtain ⟨T170, h170, X170, e170, W170, st170⟩ := stB X169 hx hZ eq169 Ar170 (j := (4 : Int32)) hin170 (g := (mkF m 90 #[iv p0, iv p1, .val (.long q2), .second, iv (7 : Int32), rv b160, .unset, .unset] [(.int (F2 p1 q2 (4 : Int32))), (.int (4 : Int32)), (.ref b160)])) rfl rfl (hb hby at_90)
    have V_b160_170 : Arv Z h170 b160 k160 .byte (7 : Int32) [(.int (nar .byte (F2 p1 q2 (0 : Int32)))), (.int (nar .byte (F2 p1 q2 (1 : Int32)))), (.int (nar .byte (F2 p1 q2 (2 : Int32)))), (.int (nar .byte (F2 p1 q2 (3 : Int32)))), (.int (nar .byte (F2 p1 q2 (4 : Int32)))), (.int (0 : Int32)), (.int (0 : Int32))] (.int (0 : Int32)) := Arv.set Ar170 aq170 aS170 aN170 aH170 aG170 (fits_nar_byte _) W170 4 rfl (Nat.le_of_ble_eq_true rfl)
    have Z170 : n0 ≤ h170.size := Nat.le_trans Z168 (Keep.of_wr W170).1
    have KK170 := KK168.wr W170 (Or.inr sz_b160)
    have N170 := Fr.snoc X170 N169 ge_b160
    refine own_step (U' := T170.setTop (mkF m 91 #[iv p0, iv p1, .val (.long q2), .second, iv (7 : Int32), rv b160, .unset, .unset] [])) st170 ?_
    refine own_step (U' := T170.setTop (mkF m 103 #[iv p0, iv p1, .val (.long q2), .second, iv (7 : Int32), rv b160, .unset, .unset] [(.int (5 : Int32)), (.long q2), (.int p1), (.int (5 : Int32)), (.ref b160)])) (fun t k => XS.iload X170.here hx rfl (hb hby at_91) rfl (XS.iconst X170.here hx rfl (hb hby at_93) (XS.icmpNo X170.here hx rfl (hb hby at_94) rfl (by decide) (XS.aload X170.here hx rfl (hb hby at_97) rfl rfl (XS.iconst X170.here hx rfl (hb hby at_99) (XS.iloadN X170.here hx rfl (hb hby at_100) rfl (XS.lloadN X170.here hx rfl (hb hby at_101) rfl (XS.iconst X170.here hx rfl (hb hby at_102) k)))))))) ?_
    obtain ⟨_, _, ⟨T171, L171, k171, n171⟩, -, X171, ⟨Lc171, hQ171, l171, y171, z171⟩, st171⟩ := Jvm.LawKit.callS X170 hx (y := (⟨"com/example/tallyfield/tallyfield/control/ControlNumbersCodeEndPinLaw", "pick", "(IJI)B"⟩ : MethodName)) hown (mvT hZ (own_w hw 5 rfl)) (mvT hZ (own_w hw 6 rfl)) (mvT hZ (own_w hw 7 rfl)) (mvT hZ (own_w hw 8 rfl)) (by decide) (backOf (W := 2) (rm2 l Z a0 hw [] p1 q2 (5 : Int32) h170 n0 Z170) hZ (own_w hw 8 rfl) (own_w hw 7 rfl) (by decide) (by decide)) (g := (mkF m 103 #[iv p0, iv p1, .val (.long q2), .second, iv (7 : Int32), rv b160, .unset, .unset] [(.int (5 : Int32)), (.long q2), (.int p1), (.int (5 : Int32)), (.ref b160)])) rfl (by rw [hml]; rfl) (argsL := [(.int p1), (.long q2), (.int (5 : Int32))]) (rest := [(.int (5 : Int32)), (.ref b160)]) (lenOf pd__IJI_B rfl) rfl (by show 2 * 0 + _ ≤ _; exact Nat.le_of_eq rfl) (hb hby at_103) (fun _ _ => ⟨rfl, e170, (by decide : 1 + 0 ≤ _), (by decide : 7 + 0 ≤ _)⟩)
    dsimp only [Pt.U, Pt.locs, Pt.cells, Pt.slots] at X171 l171 y171 z171 st171 hQ171
    subst l171 y171 z171
    obtain ⟨rfl, N171q, eq171⟩ := hQ171
    have N171 := Fr.app N170 N171q
    refine own_step (U' := T171.setTop (mkF m 106 #[iv p0, iv p1, .val (.long q2), .second, iv (7 : Int32), rv b160, .unset, .unset] [(.int (F2 p1 q2 (5 : Int32))), (.int (5 : Int32)), (.ref b160)])) st171 ?_
    obtain ⟨cl172, Ar172, aq172, aS172, aN172, aH172, aG172⟩ := id V_b160_170
    have hin172 : ¬ ((5 : Int32) < 0 ∨ cl172.slots.size ≤ ((5 : Int32)).toNatClampNeg) := inb_of aS172 ⟨by decide, by decide⟩
    obtain ⟨T172, h172, X172, e172, W172, st172⟩ := stB X171 hx hZ eq171 Ar172 (j := (5 : Int32)) hin172 (g := (mkF m 106 #[iv p0, iv p1, .val (.long q2), .second, iv (7 : Int32), rv b160, .unset, .unset] [(.int (F2 p1 q2 (5 : Int32))), (.int (5 : Int32)), (.ref b160)])) rfl rfl (hb hby at_106)
    have V_b160_172 : Arv Z h172 b160 k160 .byte (7 : Int32) [(.int (nar .byte (F2 p1 q2 (0 : Int32)))), (.int (nar .byte (F2 p1 q2 (1 : Int32)))), (.int (nar .byte (F2 p1 q2 (2 : Int32)))), (.int (nar .byte (F2 p1 q2 (3 : Int32)))), (.int (nar .byte (F2 p1 q2 (4 : Int32)))), (.int (nar .byte (F2 p1 q2 (5 : Int32)))), (.int (0 : Int32))] (.int (0 : Int32)) := Arv.set Ar172 aq172 aS172 aN172 aH172 aG172 (fits_nar_byte _) W172 5 rfl (Nat.le_of_ble_eq_true rfl)
    have Z172 : n0 ≤ h172.size := Nat.le_trans Z170 (Keep.of_wr W172).1
    have KK172 := KK170.wr W172 (Or.inr sz_b160)
    have N172 := Fr.snoc X172 N171 ge_b160
    refine own_step (U' := T172.setTop (mkF m 107 #[iv p0, iv p1, .val (.long q2), .second, iv (7 : Int32), rv b160, .unset, .unset] [])) st172 ?_
    refine own_step (U' := T172.setTop (mkF m 122 #[iv p0, iv p1, .val (.long q2), .second, iv (7 : Int32), rv b160, .unset, .unset] [(.int (6 : Int32)), (.long q2), (.int p1), (.int (6 : Int32)), (.ref b160)])) (fun t k => XS.iload X172.here hx rfl (hb hby at_107) rfl (XS.bipush X172.here hx rfl (hb hby at_109) (XS.icmpNo X172.here hx rfl (hb hby at_111) rfl (by decide) (XS.aload X172.here hx rfl (hb hby at_114) rfl rfl (XS.bipush X172.here hx rfl (hb hby at_116) (XS.iloadN X172.here hx rfl (hb hby at_118) rfl (XS.lloadN X172.here hx rfl (hb hby at_119) rfl (XS.bipush X172.here hx rfl (hb hby at_120) k)))))))) ?_
    obtain ⟨_, _, ⟨T173, L173, k173, n173⟩, -, X173, ⟨Lc173, hQ173, l173, y173, z173⟩, st173⟩ := Jvm.LawKit.callS X172 hx (y := (⟨"com/example/tallyfield/tallyfield/control/ControlNumbersCodeEndPinLaw", "pick", "(IJI)B"⟩ : MethodName)) hown (mvT hZ (own_w hw 5 rfl)) (mvT hZ (own_w hw 6 rfl)) (mvT hZ (own_w hw 7 rfl)) (mvT hZ (own_w hw 8 rfl)) (by decide) (backOf (W := 2) (rm2 l Z a0 hw [] p1 q2 (6 : Int32) h172 n0 Z172) hZ (own_w hw 8 rfl) (own_w hw 7 rfl) (by decide) (by decide)) (g := (mkF m 122 #[iv p0, iv p1, .val (.long q2), .second, iv (7 : Int32), rv b160, .unset, .unset] [(.int (6 : Int32)), (.long q2), (.int p1), (.int (6 : Int32)), (.ref b160)])) rfl (by rw [hml]; rfl) (argsL := [(.int p1), (.long q2), (.int (6 : Int32))]) (rest := [(.int (6 : Int32)), (.ref b160)]) (lenOf pd__IJI_B rfl) rfl (by show 2 * 0 + _ ≤ _; exact Nat.le_of_eq rfl) (hb hby at_122) (fun _ _ => ⟨rfl, e172, (by decide : 1 + 0 ≤ _), (by decide : 7 + 0 ≤ _)⟩)
    dsimp only [Pt.U, Pt.locs, Pt.cells, Pt.slots] at X173 l173 y173 z173 st173 hQ173
    subst l173 y173 z173
    obtain ⟨rfl, N173q, eq173⟩ := hQ173
    have N173 := Fr.app N172 N173q
    refine own_step (U' := T173.setTop (mkF m 125 #[iv p0, iv p1, .val (.long q2), .second, iv (7 : Int32), rv b160, .unset, .unset] [(.int (F2 p1 q2 (6 : Int32))), (.int (6 : Int32)), (.ref b160)])) st173 ?_
    obtain ⟨cl174, Ar174, aq174, aS174, aN174, aH174, aG174⟩ := id V_b160_172
    have hin174 : ¬ ((6 : Int32) < 0 ∨ cl174.slots.size ≤ ((6 : Int32)).toNatClampNeg) := inb_of aS174 ⟨by decide, by decide⟩
    obtain ⟨T174, h174, X174, e174, W174, st174⟩ := stB X173 hx hZ eq173 Ar174 (j := (6 : Int32)) hin174 (g := (mkF m 125 #[iv p0, iv p1, .val (.long q2), .second, iv (7 : Int32), rv b160, .unset, .unset] [(.int (F2 p1 q2 (6 : Int32))), (.int (6 : Int32)), (.ref b160)])) rfl rfl (hb hby at_125)
    have V_b160_174 : Arv Z h174 b160 k160 .byte (7 : Int32) [(.int (nar .byte (F2 p1 q2 (0 : Int32)))), (.int (nar .byte (F2 p1 q2 (1 : Int32)))), (.int (nar .byte (F2 p1 q2 (2 : Int32)))), (.int (nar .byte (F2 p1 q2 (3 : Int32)))), (.int (nar .byte (F2 p1 q2 (4 : Int32)))), (.int (nar .byte (F2 p1 q2 (5 : Int32)))), (.int (nar .byte (F2 p1 q2 (6 : Int32))))] (.int (0 : Int32)) := Arv.set Ar174 aq174 aS174 aN174 aH174 aG174 (fits_nar_byte _) W174 6 rfl (Nat.le_of_ble_eq_true rfl)
    have Z174 : n0 ≤ h174.size := Nat.le_trans Z172 (Keep.of_wr W174).1
    have KK174 := KK172.wr W174 (Or.inr sz_b160)
    have N174 := Fr.snoc X174 N173 ge_b160
    refine own_step (U' := T174.setTop (mkF m 126 #[iv p0, iv p1, .val (.long q2), .second, iv (7 : Int32), rv b160, .unset, .unset] [])) st174 ?_
    refine own_step (U' := T174.setTop (mkF m 134 #[iv p0, iv p1, .val (.long q2), .second, iv (7 : Int32), rv b160, .unset, .unset] [(.int (0 : Int32)), (.ref b160)])) (fun t k => XS.iload X174.here hx rfl (hb hby at_126) rfl (XS.ifNo X174.here hx rfl (hb hby at_128) rfl (by decide) (XS.aload X174.here hx rfl (hb hby at_131) rfl rfl (XS.iconst X174.here hx rfl (hb hby at_133) k)))) ?_
    obtain ⟨cl175, Ar175, aq175, aS175, aN175, aH175, aG175⟩ := id V_b160_174
    have hin175 : ¬ ((0 : Int32) < 0 ∨ cl175.slots.size ≤ ((0 : Int32)).toNatClampNeg) := inb_of aS175 ⟨by decide, by decide⟩
    have hat175 : cl175.slots[((0 : Int32)).toNatClampNeg]? = some (.int (nar .byte (F2 p1 q2 (0 : Int32)))) := aH175.at hin175 rfl
    refine own_step (U' := T174.setTop (mkF m 137 #[iv p0, iv p1, .val (.long q2), .second, iv (7 : Int32), rv b160, .unset, .unset] [(.int (40 : Int32)), (.int (nar .byte (F2 p1 q2 (0 : Int32))))])) (fun t k => X174.baloadBytes hx (j := (0 : Int32)) (v := (.int (nar .byte (F2 p1 q2 (0 : Int32))))) (by rw [e174]; exact Ar175.1) (State.isArrayOf_alike hZ.alike Ar175.2.1) Ar175.2.2 hin175 hat175 (g := (mkF m 134 #[iv p0, iv p1, .val (.long q2), .second, iv (7 : Int32), rv b160, .unset, .unset] [(.int (0 : Int32)), (.ref b160)])) rfl rfl (hb hby at_134) t (XS.bipush X174.here hx rfl (hb hby at_135) k)) ?_
    by_cases hc137_176 : (nar .byte (F2 p1 q2 (0 : Int32))) = (40 : Int32)
    · refine own_step (U' := T174.setTop (mkF m 158 #[iv p0, iv p1, .val (.long q2), .second, iv (7 : Int32), rv b160, .unset, iv (-1 : Int32)] [(.int (1 : Int32)), (.ref b160)])) (fun t k => XS.icmpYes X174.here hx rfl (pc0 := 137) (pc' := 146) rfl (hb hby at_137) rfl (teq hc137_176).1 (by decide) (by decide) (XS.iconst X174.here hx rfl (hb hby at_146) (XS.istore X174.here hx rfl (hb hby at_147) rfl (l' := #[iv p0, iv p1, .val (.long q2), .second, iv (7 : Int32), rv b160, .unset, iv (-1 : Int32)]) rfl (XS.iload X174.here hx rfl (hb hby at_149) rfl (XS.iconst X174.here hx rfl (hb hby at_151) (XS.icmpNo X174.here hx rfl (hb hby at_152) rfl (by decide) (XS.aload X174.here hx rfl (hb hby at_155) rfl rfl (XS.iconst X174.here hx rfl (hb hby at_157) k)))))))) ?_
      obtain ⟨cl177, Ar177, aq177, aS177, aN177, aH177, aG177⟩ := id V_b160_174
      have hin177 : ¬ ((1 : Int32) < 0 ∨ cl177.slots.size ≤ ((1 : Int32)).toNatClampNeg) := inb_of aS177 ⟨by decide, by decide⟩
      have hat177 : cl177.slots[((1 : Int32)).toNatClampNeg]? = some (.int (nar .byte (F2 p1 q2 (1 : Int32)))) := aH177.at hin177 rfl
      refine own_step (U' := T174.setTop (mkF m 161 #[iv p0, iv p1, .val (.long q2), .second, iv (7 : Int32), rv b160, .unset, iv (-1 : Int32)] [(.int (41 : Int32)), (.int (nar .byte (F2 p1 q2 (1 : Int32))))])) (fun t k => X174.baloadBytes hx (j := (1 : Int32)) (v := (.int (nar .byte (F2 p1 q2 (1 : Int32))))) (by rw [e174]; exact Ar177.1) (State.isArrayOf_alike hZ.alike Ar177.2.1) Ar177.2.2 hin177 hat177 (g := (mkF m 158 #[iv p0, iv p1, .val (.long q2), .second, iv (7 : Int32), rv b160, .unset, iv (-1 : Int32)] [(.int (1 : Int32)), (.ref b160)])) rfl rfl (hb hby at_158) t (XS.bipush X174.here hx rfl (hb hby at_159) k)) ?_
      obtain ⟨v275_189, hv275_189⟩ : ∃ v : Int32, v = (if (nar .byte (F2 p1 q2 (1 : Int32))) = (41 : Int32) then (1 : Int32) else (if (nar .byte (F2 p1 q2 (2 : Int32))) = (41 : Int32) then (2 : Int32) else (if (nar .byte (F2 p1 q2 (3 : Int32))) = (41 : Int32) then (3 : Int32) else (if (nar .byte (F2 p1 q2 (4 : Int32))) = (41 : Int32) then (4 : Int32) else (if (nar .byte (F2 p1 q2 (5 : Int32))) = (41 : Int32) then (5 : Int32) else (if (nar .byte (F2 p1 q2 (6 : Int32))) = (41 : Int32) then (6 : Int32) else (-1 : Int32))))))) := ⟨_, rfl⟩
      have K275_190 : ∀ (T' : State) (locs' : List Loc) (X' : Stand p l e room_1 s m #[(.int p0), (.int p1), (.long q2)] below meth c T' locs' 1 7) (N' : Fr n0 locs') (e' : T'.heap = h174), own_Go p.tables e below s 16 128 (Q0 Z p0 p1 q2 h0 n0) (T'.setTop (mkF m 275 #[iv p0, iv p1, .val (.long q2), .second, iv (7 : Int32), rv b160, .unset, iv v275_189] [])) := by
        intro T190 L190 X190 N190 e190
        refine own_step (U' := T190.setTop (mkF m 278 #[iv p0, iv p1, .val (.long q2), .second, iv (7 : Int32), rv b160, .unset, iv v275_189] [(.int (2 : Int32)), (.int v275_189)])) (fun t k => XS.iload X190.here hx rfl (hb hby at_275) rfl (XS.iconst X190.here hx rfl (hb hby at_277) k)) ?_
        obtain ⟨v287_192, hv287_192⟩ : ∃ v : Int32, v = (if v275_189 < (2 : Int32) then (-1 : Int32) else v275_189) := ⟨_, rfl⟩
        have K287_193 : ∀ (T' : State) (locs' : List Loc) (X' : Stand p l e room_1 s m #[(.int p0), (.int p1), (.long q2)] below meth c T' locs' 1 7) (N' : Fr n0 locs') (e' : T'.heap = h174), own_Go p.tables e below s 16 128 (Q0 Z p0 p1 q2 h0 n0) (T'.setTop (mkF m 287 #[iv p0, iv p1, .val (.long q2), .second, iv (7 : Int32), rv b160, .unset, iv v275_189] [(.int v287_192)])) := by
          intro T193 L193 X193 N193 e193
          refine own_step (U' := T193.setTop (mkF m 291 #[iv p0, iv p1, .val (.long q2), .second, iv (7 : Int32), rv b160, iv v287_192, iv v275_189] [(.ref b160)])) (fun t k => XS.istore X193.here hx rfl (hb hby at_287) rfl (l' := #[iv p0, iv p1, .val (.long q2), .second, iv (7 : Int32), rv b160, iv v287_192, iv v275_189]) rfl (XS.aload X193.here hx rfl (hb hby at_289) rfl rfl k)) ?_
          obtain ⟨_, _, ⟨T194, L194, k194, n194⟩, -, X194, ⟨Lc194, hQ194, l194, y194, z194⟩, st194⟩ := Jvm.LawKit.callS X193 hx (y := (⟨"com/example/tallyfield/tallyfield/control/ControlNumbers", "codeEnd", "([B)I"⟩ : MethodName)) hown (mvT hZ (own_w hw 1 rfl)) (mvT hZ (own_w hw 2 rfl)) (mvT hZ (own_w hw 3 rfl)) (mvT hZ (own_w hw 4 rfl)) (by decide) (backOf (W := 0) (rm1k7 l Z a0 hw [] b160 (nar .byte (F2 p1 q2 (0 : Int32))) (nar .byte (F2 p1 q2 (1 : Int32))) (nar .byte (F2 p1 q2 (2 : Int32))) (nar .byte (F2 p1 q2 (3 : Int32))) (nar .byte (F2 p1 q2 (4 : Int32))) (nar .byte (F2 p1 q2 (5 : Int32))) (nar .byte (F2 p1 q2 (6 : Int32))) k160 h174 n0 Z174 V_b160_174) hZ (own_w hw 4 rfl) (own_w hw 3 rfl) (by decide) (by decide)) (g := (mkF m 291 #[iv p0, iv p1, .val (.long q2), .second, iv (7 : Int32), rv b160, iv v287_192, iv v275_189] [(.ref b160)])) rfl (by rw [hml]; rfl) (argsL := [(.ref b160)]) (rest := []) (lenOf pd___B_I rfl) rfl (by show 2 * 0 + _ ≤ _; exact Nat.le_of_eq rfl) (hb hby at_291) (fun _ _ => ⟨rfl, e193, (by decide : 1 + 0 ≤ _), (by decide : 7 + 0 ≤ _)⟩)
          dsimp only [Pt.U, Pt.locs, Pt.cells, Pt.slots] at X194 l194 y194 z194 st194 hQ194
          subst l194 y194 z194
          obtain ⟨rfl, N194q, eq194⟩ := hQ194
          have N194 := Fr.app N193 N194q
          refine own_step (U' := T194.setTop (mkF m 294 #[iv p0, iv p1, .val (.long q2), .second, iv (7 : Int32), rv b160, iv v287_192, iv v275_189] [(.int (F1k7 (nar .byte (F2 p1 q2 (0 : Int32))) (nar .byte (F2 p1 q2 (1 : Int32))) (nar .byte (F2 p1 q2 (2 : Int32))) (nar .byte (F2 p1 q2 (3 : Int32))) (nar .byte (F2 p1 q2 (4 : Int32))) (nar .byte (F2 p1 q2 (5 : Int32))) (nar .byte (F2 p1 q2 (6 : Int32)))))])) st194 ?_
          refine own_step (U' := T194.setTop (mkF m 304 #[iv p0, iv p1, .val (.long q2), .second, iv (7 : Int32), rv b160, iv v287_192, iv v275_189] [(.int (1 : Int32))])) (fun t k => XS.iload X194.here hx rfl (hb hby at_294) rfl (XS.icmpNo X194.here hx rfl (hb hby at_296) rfl (teq (own_yes7 _ _ _ _ _ _ _ _ _ hc137_176 hv275_189 hv287_192)).2 (XS.iconst X194.here hx rfl (hb hby at_299) (XS.goto X194.here hx rfl (pc0 := 300) (pc' := 304) rfl (hb hby at_300) (by decide) (by decide) k)))) ?_
          exact own_out X194 (v := (some (.int (1 : Int32)))) hlk (own_nv Bd.returns) (by rw [eq194]; exact ⟨rfl, N194⟩) (by decide) (by decide) (fun fs hr => retN X194 hx (t := .boolean) Bd.returns (by simp) (hb hby at_304) hr)
        by_cases hc278_195 : v275_189 < (2 : Int32)
        · refine own_step (U' := T190.setTop (mkF m 287 #[iv p0, iv p1, .val (.long q2), .second, iv (7 : Int32), rv b160, .unset, iv v275_189] [(.int (-1 : Int32))])) (fun t k => XS.icmpYes X190.here hx rfl (pc0 := 278) (pc' := 286) rfl (hb hby at_278) rfl (tlt hc278_195).1 (by decide) (by decide) (XS.iconst X190.here hx rfl (hb hby at_286) k)) ?_
          have q_v287_192 : v287_192 = (-1 : Int32) := by rw [hv287_192, if_pos hc278_195]
          rw [q_v287_192] at K287_193
          exact K287_193 _ _ X190 N190 e190
        · refine own_step (U' := T190.setTop (mkF m 287 #[iv p0, iv p1, .val (.long q2), .second, iv (7 : Int32), rv b160, .unset, iv v275_189] [(.int v275_189)])) (fun t k => XS.icmpNo X190.here hx rfl (hb hby at_278) rfl (flt hc278_195).1 (XS.iload X190.here hx rfl (hb hby at_281) rfl (XS.goto X190.here hx rfl (pc0 := 283) (pc' := 287) rfl (hb hby at_283) (by decide) (by decide) k))) ?_
          have q_v287_192 : v287_192 = v275_189 := by rw [hv287_192, if_neg hc278_195]
          rw [q_v287_192] at K287_193
          exact K287_193 _ _ X190 N190 e190
      by_cases hc161_196 : (nar .byte (F2 p1 q2 (1 : Int32))) = (41 : Int32)
      · refine own_step (U' := T174.setTop (mkF m 275 #[iv p0, iv p1, .val (.long q2), .second, iv (7 : Int32), rv b160, .unset, iv (1 : Int32)] [])) (fun t k => XS.icmpNo X174.here hx rfl (hb hby at_161) rfl (teq hc161_196).2 (XS.iconst X174.here hx rfl (hb hby at_164) (XS.istore X174.here hx rfl (hb hby at_165) rfl (l' := #[iv p0, iv p1, .val (.long q2), .second, iv (7 : Int32), rv b160, .unset, iv (1 : Int32)]) rfl (XS.goto X174.here hx rfl (pc0 := 167) (pc' := 275) rfl (hb hby at_167) (by decide) (by decide) k)))) ?_
        have q_v275_189 : v275_189 = (1 : Int32) := by rw [hv275_189, if_pos hc161_196]
        rw [q_v275_189] at K275_190
        exact K275_190 _ _ X174 N174 e174
      · refine own_step (U' := T174.setTop (mkF m 179 #[iv p0, iv p1, .val (.long q2), .second, iv (7 : Int32), rv b160, .unset, iv (-1 : Int32)] [(.int (2 : Int32)), (.ref b160)])) (fun t k => XS.icmpYes X174.here hx rfl (pc0 := 161) (pc' := 170) rfl (hb hby at_161) rfl (feq hc161_196).2 (by decide) (by decide) (XS.iload X174.here hx rfl (hb hby at_170) rfl (XS.iconst X174.here hx rfl (hb hby at_172) (XS.icmpNo X174.here hx rfl (hb hby at_173) rfl (by decide) (XS.aload X174.here hx rfl (hb hby at_176) rfl rfl (XS.iconst X174.here hx rfl (hb hby at_178) k)))))) ?_
        obtain ⟨cl197, Ar197, aq197, aS197, aN197, aH197, aG197⟩ := id V_b160_174
        have hin197 : ¬ ((2 : Int32) < 0 ∨ cl197.slots.size ≤ ((2 : Int32)).toNatClampNeg) := inb_of aS197 ⟨by decide, by decide⟩
        have hat197 : cl197.slots[((2 : Int32)).toNatClampNeg]? = some (.int (nar .byte (F2 p1 q2 (2 : Int32)))) := aH197.at hin197 rfl
        refine own_step (U' := T174.setTop (mkF m 182 #[iv p0, iv p1, .val (.long q2), .second, iv (7 : Int32), rv b160, .unset, iv (-1 : Int32)] [(.int (41 : Int32)), (.int (nar .byte (F2 p1 q2 (2 : Int32))))])) (fun t k => X174.baloadBytes hx (j := (2 : Int32)) (v := (.int (nar .byte (F2 p1 q2 (2 : Int32))))) (by rw [e174]; exact Ar197.1) (State.isArrayOf_alike hZ.alike Ar197.2.1) Ar197.2.2 hin197 hat197 (g := (mkF m 179 #[iv p0, iv p1, .val (.long q2), .second, iv (7 : Int32), rv b160, .unset, iv (-1 : Int32)] [(.int (2 : Int32)), (.ref b160)])) rfl rfl (hb hby at_179) t (XS.bipush X174.here hx rfl (hb hby at_180) k)) ?_
        by_cases hc182_198 : (nar .byte (F2 p1 q2 (2 : Int32))) = (41 : Int32)
        · refine own_step (U' := T174.setTop (mkF m 275 #[iv p0, iv p1, .val (.long q2), .second, iv (7 : Int32), rv b160, .unset, iv (2 : Int32)] [])) (fun t k => XS.icmpNo X174.here hx rfl (hb hby at_182) rfl (teq hc182_198).2 (XS.iconst X174.here hx rfl (hb hby at_185) (XS.istore X174.here hx rfl (hb hby at_186) rfl (l' := #[iv p0, iv p1, .val (.long q2), .second, iv (7 : Int32), rv b160, .unset, iv (2 : Int32)]) rfl (XS.goto X174.here hx rfl (pc0 := 188) (pc' := 275) rfl (hb hby at_188) (by decide) (by decide) k)))) ?_
          have q_v275_189 : v275_189 = (2 : Int32) := by rw [hv275_189, if_neg hc161_196, if_pos hc182_198]
          rw [q_v275_189] at K275_190
          exact K275_190 _ _ X174 N174 e174
        · refine own_step (U' := T174.setTop (mkF m 200 #[iv p0, iv p1, .val (.long q2), .second, iv (7 : Int32), rv b160, .unset, iv (-1 : Int32)] [(.int (3 : Int32)), (.ref b160)])) (fun t k => XS.icmpYes X174.here hx rfl (pc0 := 182) (pc' := 191) rfl (hb hby at_182) rfl (feq hc182_198).2 (by decide) (by decide) (XS.iload X174.here hx rfl (hb hby at_191) rfl (XS.iconst X174.here hx rfl (hb hby at_193) (XS.icmpNo X174.here hx rfl (hb hby at_194) rfl (by decide) (XS.aload X174.here hx rfl (hb hby at_197) rfl rfl (XS.iconst X174.here hx rfl (hb hby at_199) k)))))) ?_
          obtain ⟨cl199, Ar199, aq199, aS199, aN199, aH199, aG199⟩ := id V_b160_174
          have hin199 : ¬ ((3 : Int32) < 0 ∨ cl199.slots.size ≤ ((3 : Int32)).toNatClampNeg) := inb_of aS199 ⟨by decide, by decide⟩
          have hat199 : cl199.slots[((3 : Int32)).toNatClampNeg]? = some (.int (nar .byte (F2 p1 q2 (3 : Int32)))) := aH199.at hin199 rfl
          refine own_step (U' := T174.setTop (mkF m 203 #[iv p0, iv p1, .val (.long q2), .second, iv (7 : Int32), rv b160, .unset, iv (-1 : Int32)] [(.int (41 : Int32)), (.int (nar .byte (F2 p1 q2 (3 : Int32))))])) (fun t k => X174.baloadBytes hx (j := (3 : Int32)) (v := (.int (nar .byte (F2 p1 q2 (3 : Int32))))) (by rw [e174]; exact Ar199.1) (State.isArrayOf_alike hZ.alike Ar199.2.1) Ar199.2.2 hin199 hat199 (g := (mkF m 200 #[iv p0, iv p1, .val (.long q2), .second, iv (7 : Int32), rv b160, .unset, iv (-1 : Int32)] [(.int (3 : Int32)), (.ref b160)])) rfl rfl (hb hby at_200) t (XS.bipush X174.here hx rfl (hb hby at_201) k)) ?_
          by_cases hc203_200 : (nar .byte (F2 p1 q2 (3 : Int32))) = (41 : Int32)
          · refine own_step (U' := T174.setTop (mkF m 275 #[iv p0, iv p1, .val (.long q2), .second, iv (7 : Int32), rv b160, .unset, iv (3 : Int32)] [])) (fun t k => XS.icmpNo X174.here hx rfl (hb hby at_203) rfl (teq hc203_200).2 (XS.iconst X174.here hx rfl (hb hby at_206) (XS.istore X174.here hx rfl (hb hby at_207) rfl (l' := #[iv p0, iv p1, .val (.long q2), .second, iv (7 : Int32), rv b160, .unset, iv (3 : Int32)]) rfl (XS.goto X174.here hx rfl (pc0 := 209) (pc' := 275) rfl (hb hby at_209) (by decide) (by decide) k)))) ?_
            have q_v275_189 : v275_189 = (3 : Int32) := by rw [hv275_189, if_neg hc161_196, if_neg hc182_198, if_pos hc203_200]
            rw [q_v275_189] at K275_190
            exact K275_190 _ _ X174 N174 e174
          · refine own_step (U' := T174.setTop (mkF m 221 #[iv p0, iv p1, .val (.long q2), .second, iv (7 : Int32), rv b160, .unset, iv (-1 : Int32)] [(.int (4 : Int32)), (.ref b160)])) (fun t k => XS.icmpYes X174.here hx rfl (pc0 := 203) (pc' := 212) rfl (hb hby at_203) rfl (feq hc203_200).2 (by decide) (by decide) (XS.iload X174.here hx rfl (hb hby at_212) rfl (XS.iconst X174.here hx rfl (hb hby at_214) (XS.icmpNo X174.here hx rfl (hb hby at_215) rfl (by decide) (XS.aload X174.here hx rfl (hb hby at_218) rfl rfl (XS.iconst X174.here hx rfl (hb hby at_220) k)))))) ?_
            obtain ⟨cl201, Ar201, aq201, aS201, aN201, aH201, aG201⟩ := id V_b160_174
            have hin201 : ¬ ((4 : Int32) < 0 ∨ cl201.slots.size ≤ ((4 : Int32)).toNatClampNeg) := inb_of aS201 ⟨by decide, by decide⟩
            have hat201 : cl201.slots[((4 : Int32)).toNatClampNeg]? = some (.int (nar .byte (F2 p1 q2 (4 : Int32)))) := aH201.at hin201 rfl
            refine own_step (U' := T174.setTop (mkF m 224 #[iv p0, iv p1, .val (.long q2), .second, iv (7 : Int32), rv b160, .unset, iv (-1 : Int32)] [(.int (41 : Int32)), (.int (nar .byte (F2 p1 q2 (4 : Int32))))])) (fun t k => X174.baloadBytes hx (j := (4 : Int32)) (v := (.int (nar .byte (F2 p1 q2 (4 : Int32))))) (by rw [e174]; exact Ar201.1) (State.isArrayOf_alike hZ.alike Ar201.2.1) Ar201.2.2 hin201 hat201 (g := (mkF m 221 #[iv p0, iv p1, .val (.long q2), .second, iv (7 : Int32), rv b160, .unset, iv (-1 : Int32)] [(.int (4 : Int32)), (.ref b160)])) rfl rfl (hb hby at_221) t (XS.bipush X174.here hx rfl (hb hby at_222) k)) ?_
            by_cases hc224_202 : (nar .byte (F2 p1 q2 (4 : Int32))) = (41 : Int32)
            · refine own_step (U' := T174.setTop (mkF m 275 #[iv p0, iv p1, .val (.long q2), .second, iv (7 : Int32), rv b160, .unset, iv (4 : Int32)] [])) (fun t k => XS.icmpNo X174.here hx rfl (hb hby at_224) rfl (teq hc224_202).2 (XS.iconst X174.here hx rfl (hb hby at_227) (XS.istore X174.here hx rfl (hb hby at_228) rfl (l' := #[iv p0, iv p1, .val (.long q2), .second, iv (7 : Int32), rv b160, .unset, iv (4 : Int32)]) rfl (XS.goto X174.here hx rfl (pc0 := 230) (pc' := 275) rfl (hb hby at_230) (by decide) (by decide) k)))) ?_
              have q_v275_189 : v275_189 = (4 : Int32) := by rw [hv275_189, if_neg hc161_196, if_neg hc182_198, if_neg hc203_200, if_pos hc224_202]
              rw [q_v275_189] at K275_190
              exact K275_190 _ _ X174 N174 e174
            · refine own_step (U' := T174.setTop (mkF m 242 #[iv p0, iv p1, .val (.long q2), .second, iv (7 : Int32), rv b160, .unset, iv (-1 : Int32)] [(.int (5 : Int32)), (.ref b160)])) (fun t k => XS.icmpYes X174.here hx rfl (pc0 := 224) (pc' := 233) rfl (hb hby at_224) rfl (feq hc224_202).2 (by decide) (by decide) (XS.iload X174.here hx rfl (hb hby at_233) rfl (XS.iconst X174.here hx rfl (hb hby at_235) (XS.icmpNo X174.here hx rfl (hb hby at_236) rfl (by decide) (XS.aload X174.here hx rfl (hb hby at_239) rfl rfl (XS.iconst X174.here hx rfl (hb hby at_241) k)))))) ?_
              obtain ⟨cl203, Ar203, aq203, aS203, aN203, aH203, aG203⟩ := id V_b160_174
              have hin203 : ¬ ((5 : Int32) < 0 ∨ cl203.slots.size ≤ ((5 : Int32)).toNatClampNeg) := inb_of aS203 ⟨by decide, by decide⟩
              have hat203 : cl203.slots[((5 : Int32)).toNatClampNeg]? = some (.int (nar .byte (F2 p1 q2 (5 : Int32)))) := aH203.at hin203 rfl
              refine own_step (U' := T174.setTop (mkF m 245 #[iv p0, iv p1, .val (.long q2), .second, iv (7 : Int32), rv b160, .unset, iv (-1 : Int32)] [(.int (41 : Int32)), (.int (nar .byte (F2 p1 q2 (5 : Int32))))])) (fun t k => X174.baloadBytes hx (j := (5 : Int32)) (v := (.int (nar .byte (F2 p1 q2 (5 : Int32))))) (by rw [e174]; exact Ar203.1) (State.isArrayOf_alike hZ.alike Ar203.2.1) Ar203.2.2 hin203 hat203 (g := (mkF m 242 #[iv p0, iv p1, .val (.long q2), .second, iv (7 : Int32), rv b160, .unset, iv (-1 : Int32)] [(.int (5 : Int32)), (.ref b160)])) rfl rfl (hb hby at_242) t (XS.bipush X174.here hx rfl (hb hby at_243) k)) ?_
              by_cases hc245_204 : (nar .byte (F2 p1 q2 (5 : Int32))) = (41 : Int32)
              · refine own_step (U' := T174.setTop (mkF m 275 #[iv p0, iv p1, .val (.long q2), .second, iv (7 : Int32), rv b160, .unset, iv (5 : Int32)] [])) (fun t k => XS.icmpNo X174.here hx rfl (hb hby at_245) rfl (teq hc245_204).2 (XS.iconst X174.here hx rfl (hb hby at_248) (XS.istore X174.here hx rfl (hb hby at_249) rfl (l' := #[iv p0, iv p1, .val (.long q2), .second, iv (7 : Int32), rv b160, .unset, iv (5 : Int32)]) rfl (XS.goto X174.here hx rfl (pc0 := 251) (pc' := 275) rfl (hb hby at_251) (by decide) (by decide) k)))) ?_
                have q_v275_189 : v275_189 = (5 : Int32) := by rw [hv275_189, if_neg hc161_196, if_neg hc182_198, if_neg hc203_200, if_neg hc224_202, if_pos hc245_204]
                rw [q_v275_189] at K275_190
                exact K275_190 _ _ X174 N174 e174
              · refine own_step (U' := T174.setTop (mkF m 265 #[iv p0, iv p1, .val (.long q2), .second, iv (7 : Int32), rv b160, .unset, iv (-1 : Int32)] [(.int (6 : Int32)), (.ref b160)])) (fun t k => XS.icmpYes X174.here hx rfl (pc0 := 245) (pc' := 254) rfl (hb hby at_245) rfl (feq hc245_204).2 (by decide) (by decide) (XS.iload X174.here hx rfl (hb hby at_254) rfl (XS.bipush X174.here hx rfl (hb hby at_256) (XS.icmpNo X174.here hx rfl (hb hby at_258) rfl (by decide) (XS.aload X174.here hx rfl (hb hby at_261) rfl rfl (XS.bipush X174.here hx rfl (hb hby at_263) k)))))) ?_
                obtain ⟨cl205, Ar205, aq205, aS205, aN205, aH205, aG205⟩ := id V_b160_174
                have hin205 : ¬ ((6 : Int32) < 0 ∨ cl205.slots.size ≤ ((6 : Int32)).toNatClampNeg) := inb_of aS205 ⟨by decide, by decide⟩
                have hat205 : cl205.slots[((6 : Int32)).toNatClampNeg]? = some (.int (nar .byte (F2 p1 q2 (6 : Int32)))) := aH205.at hin205 rfl
                refine own_step (U' := T174.setTop (mkF m 268 #[iv p0, iv p1, .val (.long q2), .second, iv (7 : Int32), rv b160, .unset, iv (-1 : Int32)] [(.int (41 : Int32)), (.int (nar .byte (F2 p1 q2 (6 : Int32))))])) (fun t k => X174.baloadBytes hx (j := (6 : Int32)) (v := (.int (nar .byte (F2 p1 q2 (6 : Int32))))) (by rw [e174]; exact Ar205.1) (State.isArrayOf_alike hZ.alike Ar205.2.1) Ar205.2.2 hin205 hat205 (g := (mkF m 265 #[iv p0, iv p1, .val (.long q2), .second, iv (7 : Int32), rv b160, .unset, iv (-1 : Int32)] [(.int (6 : Int32)), (.ref b160)])) rfl rfl (hb hby at_265) t (XS.bipush X174.here hx rfl (hb hby at_266) k)) ?_
                by_cases hc268_206 : (nar .byte (F2 p1 q2 (6 : Int32))) = (41 : Int32)
                · refine own_step (U' := T174.setTop (mkF m 275 #[iv p0, iv p1, .val (.long q2), .second, iv (7 : Int32), rv b160, .unset, iv (6 : Int32)] [])) (fun t k => XS.icmpNo X174.here hx rfl (hb hby at_268) rfl (teq hc268_206).2 (XS.bipush X174.here hx rfl (hb hby at_271) (XS.istore X174.here hx rfl (hb hby at_273) rfl (l' := #[iv p0, iv p1, .val (.long q2), .second, iv (7 : Int32), rv b160, .unset, iv (6 : Int32)]) rfl k))) ?_
                  have q_v275_189 : v275_189 = (6 : Int32) := by rw [hv275_189, if_neg hc161_196, if_neg hc182_198, if_neg hc203_200, if_neg hc224_202, if_neg hc245_204, if_pos hc268_206]
                  rw [q_v275_189] at K275_190
                  exact K275_190 _ _ X174 N174 e174
                · refine own_step (U' := T174.setTop (mkF m 275 #[iv p0, iv p1, .val (.long q2), .second, iv (7 : Int32), rv b160, .unset, iv (-1 : Int32)] [])) (fun t k => XS.icmpYes X174.here hx rfl (pc0 := 268) (pc' := 275) rfl (hb hby at_268) rfl (feq hc268_206).2 (by decide) (by decide) k) ?_
                  have q_v275_189 : v275_189 = (-1 : Int32) := by rw [hv275_189, if_neg hc161_196, if_neg hc182_198, if_neg hc203_200, if_neg hc224_202, if_neg hc245_204, if_neg hc268_206]
                  rw [q_v275_189] at K275_190
                  exact K275_190 _ _ X174 N174 e174
    · refine own_step (U' := T174.setTop (mkF m 291 #[iv p0, iv p1, .val (.long q2), .second, iv (7 : Int32), rv b160, iv (-1 : Int32), .unset] [(.ref b160)])) (fun t k => XS.icmpNo X174.here hx rfl (hb hby at_137) rfl (feq hc137_176).1 (XS.iconst X174.here hx rfl (hb hby at_140) (XS.istore X174.here hx rfl (hb hby at_141) rfl (l' := #[iv p0, iv p1, .val (.long q2), .second, iv (7 : Int32), rv b160, iv (-1 : Int32), .unset]) rfl (XS.goto X174.here hx rfl (pc0 := 143) (pc' := 289) rfl (hb hby at_143) (by decide) (by decide) (XS.aload X174.here hx rfl (hb hby at_289) rfl rfl k))))) ?_
      obtain ⟨_, _, ⟨T207, L207, k207, n207⟩, -, X207, ⟨Lc207, hQ207, l207, y207, z207⟩, st207⟩ := Jvm.LawKit.callS X174 hx (y := (⟨"com/example/tallyfield/tallyfield/control/ControlNumbers", "codeEnd", "([B)I"⟩ : MethodName)) hown (mvT hZ (own_w hw 1 rfl)) (mvT hZ (own_w hw 2 rfl)) (mvT hZ (own_w hw 3 rfl)) (mvT hZ (own_w hw 4 rfl)) (by decide) (backOf (W := 0) (rm1k7 l Z a0 hw [] b160 (nar .byte (F2 p1 q2 (0 : Int32))) (nar .byte (F2 p1 q2 (1 : Int32))) (nar .byte (F2 p1 q2 (2 : Int32))) (nar .byte (F2 p1 q2 (3 : Int32))) (nar .byte (F2 p1 q2 (4 : Int32))) (nar .byte (F2 p1 q2 (5 : Int32))) (nar .byte (F2 p1 q2 (6 : Int32))) k160 h174 n0 Z174 V_b160_174) hZ (own_w hw 4 rfl) (own_w hw 3 rfl) (by decide) (by decide)) (g := (mkF m 291 #[iv p0, iv p1, .val (.long q2), .second, iv (7 : Int32), rv b160, iv (-1 : Int32), .unset] [(.ref b160)])) rfl (by rw [hml]; rfl) (argsL := [(.ref b160)]) (rest := []) (lenOf pd___B_I rfl) rfl (by show 2 * 0 + _ ≤ _; exact Nat.le_of_eq rfl) (hb hby at_291) (fun _ _ => ⟨rfl, e174, (by decide : 1 + 0 ≤ _), (by decide : 7 + 0 ≤ _)⟩)
      dsimp only [Pt.U, Pt.locs, Pt.cells, Pt.slots] at X207 l207 y207 z207 st207 hQ207
      subst l207 y207 z207
      obtain ⟨rfl, N207q, eq207⟩ := hQ207
      have N207 := Fr.app N174 N207q
      refine own_step (U' := T207.setTop (mkF m 294 #[iv p0, iv p1, .val (.long q2), .second, iv (7 : Int32), rv b160, iv (-1 : Int32), .unset] [(.int (F1k7 (nar .byte (F2 p1 q2 (0 : Int32))) (nar .byte (F2 p1 q2 (1 : Int32))) (nar .byte (F2 p1 q2 (2 : Int32))) (nar .byte (F2 p1 q2 (3 : Int32))) (nar .byte (F2 p1 q2 (4 : Int32))) (nar .byte (F2 p1 q2 (5 : Int32))) (nar .byte (F2 p1 q2 (6 : Int32)))))])) st207 ?_
      refine own_step (U' := T207.setTop (mkF m 304 #[iv p0, iv p1, .val (.long q2), .second, iv (7 : Int32), rv b160, iv (-1 : Int32), .unset] [(.int (1 : Int32))])) (fun t k => XS.iload X207.here hx rfl (hb hby at_294) rfl (XS.icmpNo X207.here hx rfl (hb hby at_296) rfl (teq (own_no7 _ _ _ _ _ _ _ hc137_176)).2 (XS.iconst X207.here hx rfl (hb hby at_299) (XS.goto X207.here hx rfl (pc0 := 300) (pc' := 304) rfl (hb hby at_300) (by decide) (by decide) k)))) ?_
      exact own_out X207 (v := (some (.int (1 : Int32)))) hlk (own_nv Bd.returns) (by rw [eq207]; exact ⟨rfl, N207⟩) (by decide) (by decide) (fun fs hr => retN X207 hx (t := .boolean) Bd.returns (by simp) (hb hby at_304) hr)
set_option maxRecDepth 65536 in
set_option maxHeartbeats 40000000 in
theorem comes_1 {Post : Tables → Env → Array Value → State → Outcome → State → Prop} (hpost : ∀ tb e args s v u, (limb_1_1.after args s (.returned v) u = true ∧ limb_1_2.after args s (.returned v) u = true ∧ True) → FrameEnd s (.returned v) u (Jvm.fieldLocs frame_1_writes args s ++ Jvm.arrayLocs frame_1_arrays args s ++ Jvm.staticLocs frame_1_statics s) 16 128 → Post tb e args s (.returned v) u) :
    ArmFor flags0 classFile x code maxLocals ret World_1 tables_1 room_1 Calls_1 rest_1 Pre_1 Post := by
  intro l hfl _ _ p e ha hc hk s m args below hf hA hF happ hP
  obtain ⟨hcalls, hrest, hpre⟩ := hP
  obtain ⟨-, -, -, hnamed, -, -, -, hat⟩ := (Spec.applies_iff hf).mp happ
  obtain ⟨hg, hn⟩ := and_e (Cond.before_iff.mp (show (Jvm.Cond.and given_1 narrow_1).before args s = true from hpre))
  obtain ⟨gc, gr0⟩ := and_e hg
  obtain ⟨ga0, gr1⟩ := and_e gr0
  obtain ⟨ga1, gr2⟩ := and_e gr1
  obtain ⟨w0, w1, w2, rfl⟩ : ∃ w0 w1 w2 : Value, args = #[w0, w1, w2] := by
    have hs : args.size = 3 := by simpa [Cond.value, given_1] using gc
    obtain ⟨L⟩ := args
    match L, hs with
    | [w0, w1, w2], _ => exact ⟨w0, w1, w2, rfl⟩
  have hw := fun d (hd : d ∈ tables_1) => atoms_spec (ws := Jvm.Cond.code x code maxLocals ret :: tables_1) hat d (List.mem_cons_of_mem _ hd)
  have hfit : Fit s := fun {y c} hc i hi => by
    obtain ⟨ha, rfl⟩ := Array.getElem?_eq_some_iff.mp hc
    have q := List.all_eq_true.mp ((Array.all_eq_true_iff_forall_mem.mp hF) _ (Array.getElem_mem ha)) i (List.mem_range.mpr hi)
    simpa [Array.getElem?_eq_getElem hi] using q
  obtain ⟨i0, ei0⟩ := is_v ga0
  obtain rfl : w0 = (.int i0) := Option.some.inj ei0
  obtain ⟨i1, ei1⟩ := is_v ga1
  obtain rfl : w1 = (.int i1) := Option.some.inj ei1
  obtain ⟨i2, ei2⟩ := isL_v gr2
  obtain rfl : w2 = (.long i2) := Option.some.inj ei2
  obtain ⟨n, o, h1, h2, h3, _, L, rfl, ⟨rfl, N⟩, hq⟩ := rm0 l s _ hw tables_1 i0 i1 i2  s.heap s.heap.size (Nat.le_refl _)  p e ha hc hk s m _ below hf ((Spec.applies_iff_loose hf).mp happ).1 ⟨rfl, State.Warmed39.refl s, rfl⟩ trivial
  refine ⟨n, _, h1, h2, h3, hpost _ _ _ _ _ _ ⟨Cond.after_iff.mpr rfl, Cond.after_iff.mpr (eq_i res_at (Term.int_eval (1)) rfl), trivial⟩ ⟨hq.1, hq.2.1, (hq.2.2.sift fun y hy => Or.inr (N y hy)).mono (by decide) (by decide)⟩⟩
theorem main_1_1 : Claimed_1_1 := comes_1 fun _ _ _ _ _ _ h hF => ⟨h.1, hF⟩
theorem main_1_2 : Claimed_1_2 := comes_1 fun _ _ _ _ _ _ h hF => ⟨h.2.1, hF⟩
end Jvm.Pilot.@@N@@
namespace Jvm.Pilot.@@N@@
open Jvm Jvm.ClassFile Sem Op Lib Jvm.Free Jvm.Stand Jvm.Pilot.@@N@@.Jvm.D
/-! MADE BY PROGRAM (witnessworld.py) out of the Statement's table words and the real class files: 9 classes; the members and pool entries that the words name. The judged class is class 1, her method 2. -/
namespace start1
open Jvm.ClassFile
def u (s : String) : CpInfo := .utf8 (stringToUtf16 s)
/-- a pool by its gaps: so many unusable entries, then the entry; so many at the end -/
def gap : Nat → List CpInfo → List CpInfo
  | 0, r => r
  | n + 1, r => .unusable :: gap n r
def poolList (es : List (Nat × CpInfo)) (last : Nat) : List CpInfo := es.foldr (fun e r => gap e.1 (e.2 :: r)) (gap last [])
def pool (es : List (Nat × CpInfo)) (last : Nat) : Array CpInfo := ⟨poolList es last⟩
def fileOf (pool : Array CpInfo) (this : Nat) (attrs : Array Attribute := #[]) (ms : Array MethodInfo := #[]) (fl : Nat := 33) (sup : Nat := 0) (ifs : Array Nat := #[]) (fds : Array FieldInfo := #[]) : ClassFile where
  minorVersion := 0
  majorVersion := 65
  constantPool := pool
  accessFlags := fl
  thisClass := this
  superClass := sup
  interfaces := ifs
  fields := fds
  methods := ms
  attributes := attrs
def plain (name : String) (sup : Option ClassId) : Class where
  name := name
  kind := .ordinary
  loader := none
  accessFlags := 33
  super := sup
  interfaces := #[]
  cf := none
  fields := #[]
  methods := #[]
  instanceTypes := #[]
  staticTypes := #[]
  resolved := #[]
  callSites := []
  init := .initialized
  statics := none
  mirror := none

def pool0 : Array CpInfo := pool [(5, u "<init>"), (0, u "()V"), (1, .class_ 10), (1, u "java/lang/Object")] 113

def k0m0 : Method := { name := "<init>", desc := "()V", sig := { parameters := [], returnType := none }, accessFlags := 1, code := none }
/-- java/lang/Object -/
def k0 : Class := { plain "java/lang/Object" none with
  accessFlags := 33
  interfaces := #[]
  cf := some (fileOf pool0 8 #[] #[{ accessFlags := 1, nameIndex := 5, descriptorIndex := 6, attributes := #[] }] 33 0 #[] #[])
  fields := #[]
  methods := #[k0m0]
  instanceTypes := #[]
  staticTypes := #[]
  resolved := Array.replicate 124 none
  statics := none }

def pool1 : Array CpInfo := pool [(2, .class_ 4), (1, u "java/lang/Object"), (0, u "<init>"), (0, u "()V"), (0, .methodref 8 9), (0, .class_ 10), (0, .nameAndType 11 12), (0, u "com/example/tallyfield/tallyfield/control/ControlNumbersCodeEndPinLaw"), (0, u "pick"), (0, u "(IJI)B"), (0, .methodref 14 15), (0, .class_ 16), (0, .nameAndType 17 18), (0, u "com/example/tallyfield/tallyfield/control/ControlNumbers"), (0, u "codeEnd"), (0, u "([B)I"), (3, u "law"), (0, u "(IIJ)Z")] 4

def k1m0 : Method := { name := "<init>", desc := "()V", sig := { parameters := [], returnType := none }, accessFlags := 2, code := none }
def k1c1 : Code := { maxStack := 4, maxLocals := 6, code := method_2_code, exceptionTable := #[], attributes := #[] }
def k1m1 : Method := { name := "pick", desc := "(IJI)B", sig := { parameters := [.int, .long, .int], returnType := some .byte }, accessFlags := 10, code := some k1c1 }
def k1c2 : Code := { maxStack := 6, maxLocals := 8, code := code, exceptionTable := #[], attributes := #[] }
def k1m2 : Method := { name := "law", desc := "(IIJ)Z", sig := { parameters := [.int, .int, .long], returnType := some .boolean }, accessFlags := 9, code := some k1c2 }
/-- com/example/tallyfield/tallyfield/control/ControlNumbersCodeEndPinLaw -/
def k1 : Class := { plain "com/example/tallyfield/tallyfield/control/ControlNumbersCodeEndPinLaw" (some 0) with
  accessFlags := 49
  interfaces := #[]
  cf := some (fileOf pool1 8 #[] #[{ accessFlags := 2, nameIndex := 5, descriptorIndex := 6, attributes := #[] }, { accessFlags := 10, nameIndex := 11, descriptorIndex := 12, attributes := #[] }, { accessFlags := 9, nameIndex := 22, descriptorIndex := 23, attributes := #[] }] 49 2 #[] #[])
  fields := #[]
  methods := #[k1m0, k1m1, k1m2]
  instanceTypes := #[]
  staticTypes := #[]
  resolved := Array.replicate 28 none
  statics := none }

def pool2 : Array CpInfo := pool [(2, .class_ 4), (1, u "java/lang/Object"), (0, u "<init>"), (0, u "()V"), (13, .class_ 22), (1, u "com/example/tallyfield/tallyfield/control/ControlNumbers"), (1, u "([B)I"), (2, u "codeEnd"), (6, u "LAC_NUMBER"), (0, u "Ljava/util/List;"), (10, .class_ 47), (0, u "com/example/tallyfield/tallyfield/control/ControlNumbers$LacPosition"), (21, u "Ljava/lang/String;"), (115, .class_ 186), (0, u "com/example/tallyfield/tallyfield/control/ControlNumbers$HeldNumber"), (52, u "CONTROL_FIELDS"), (0, u "Ljava/util/Set;"), (14, u "NUMBER_SUBFIELDS"), (0, u "Ljava/util/Map;"), (44, u "LC_CODE"), (1, u "LAC_CODE"), (1, u "LAC_NUMBER_SHORTEST"), (0, u "I")] 56

def k2m0 : Method := { name := "<init>", desc := "()V", sig := { parameters := [], returnType := none }, accessFlags := 2, code := none }
def k2c1 : Code := { maxStack := 2, maxLocals := 2, code := prog_8_method_6_code, exceptionTable := #[], attributes := #[] }
def k2m1 : Method := { name := "codeEnd", desc := "([B)I", sig := { parameters := [(.array .byte)], returnType := some .int }, accessFlags := 8, code := some k2c1 }
/-- com/example/tallyfield/tallyfield/control/ControlNumbers -/
def k2 : Class := { plain "com/example/tallyfield/tallyfield/control/ControlNumbers" (some 0) with
  accessFlags := 49
  interfaces := #[]
  cf := some (fileOf pool2 20 #[.nestMembers #[46, 185]] #[{ accessFlags := 2, nameIndex := 5, descriptorIndex := 6, attributes := #[] }, { accessFlags := 8, nameIndex := 27, descriptorIndex := 24, attributes := #[] }] 49 2 #[] #[{ accessFlags := 26, nameIndex := 239, descriptorIndex := 240, attributes := #[] }, { accessFlags := 26, nameIndex := 255, descriptorIndex := 256, attributes := #[] }, { accessFlags := 24, nameIndex := 301, descriptorIndex := 69, attributes := #[] }, { accessFlags := 24, nameIndex := 303, descriptorIndex := 69, attributes := #[] }, { accessFlags := 26, nameIndex := 34, descriptorIndex := 35, attributes := #[] }, { accessFlags := 26, nameIndex := 305, descriptorIndex := 306, attributes := #[] }])
  fields := #[{ name := "CONTROL_FIELDS", type := (.object "java/util/Set"), accessFlags := 26, slot := 0, constantValue := 0 }, { name := "NUMBER_SUBFIELDS", type := (.object "java/util/Map"), accessFlags := 26, slot := 1, constantValue := 0 }, { name := "LC_CODE", type := (.object "java/lang/String"), accessFlags := 24, slot := 2, constantValue := 0 }, { name := "LAC_CODE", type := (.object "java/lang/String"), accessFlags := 24, slot := 3, constantValue := 0 }, { name := "LAC_NUMBER", type := (.object "java/util/List"), accessFlags := 26, slot := 4, constantValue := 0 }, { name := "LAC_NUMBER_SHORTEST", type := .int, accessFlags := 26, slot := 5, constantValue := 0 }]
  methods := #[k2m0, k2m1]
  instanceTypes := #[]
  staticTypes := #[(.object "java/util/Set"), (.object "java/util/Map"), (.object "java/lang/String"), (.object "java/lang/String"), (.object "java/util/List"), .int]
  resolved := Array.replicate 363 none
  statics := none }

def pool3 : Array CpInfo := pool [(1, u "java/lang/Cloneable"), (0, .class_ 1), (0, u "java/lang/Object"), (0, .class_ 3)] 3

/-- java/lang/Cloneable -/
def k3 : Class := { plain "java/lang/Cloneable" (some 0) with
  accessFlags := 1537
  interfaces := #[]
  cf := some (fileOf pool3 2 #[] #[] 1537 4 #[] #[])
  fields := #[]
  methods := #[]
  instanceTypes := #[]
  staticTypes := #[]
  resolved := Array.replicate 8 none
  statics := none }

def pool4 : Array CpInfo := pool [(1, u "java/io/Serializable"), (0, .class_ 1), (0, u "java/lang/Object"), (0, .class_ 3)] 3

/-- java/io/Serializable -/
def k4 : Class := { plain "java/io/Serializable" (some 0) with
  accessFlags := 1537
  interfaces := #[]
  cf := some (fileOf pool4 2 #[] #[] 1537 4 #[] #[])
  fields := #[]
  methods := #[]
  instanceTypes := #[]
  staticTypes := #[]
  resolved := Array.replicate 8 none
  statics := none }

/-- the primitive byte -/
def k5 : Class := { plain "byte" none with kind := .primitive 'B', accessFlags := 0x411 }
/-- [B -/
def k6 : Class := { plain "[B" (some 0) with kind := .array 5 .byte, interfaces := #[3, 4], accessFlags := 1041 }

/-- the primitive int -/
def k7 : Class := { plain "int" none with kind := .primitive 'I', accessFlags := 0x411 }
/-- [I -/
def k8 : Class := { plain "[I" (some 0) with kind := .array 7 .int, interfaces := #[3, 4], accessFlags := 1041 }

def heap : Heap := #[]
def classes : Array Class := #[k0, k1, k2, k3, k4, k5, k6, k7, k8]
def interned : List (Array UInt16 × Addr) := []
def slotsUsed : Nat := 0
def theMethod : MethodId := ⟨1, 2⟩
def args0 : Array Value := #[.int 5, .int 6, .long 7]
def aboutOver (below : List Frame) : State where
  vm := { classes := classes, interned := interned.toArray }
  heap := heap
  slotsUsed := slotsUsed
  threads := #[{ frames := .invoking theMethod args0 :: below }]
def below0 : List Frame := [.native { method := ⟨0, 0⟩, args := #[] }]
def about1 : State := aboutOver below0
def p0 : Program := .bare "" "" ""
def e0 : Env := launch0.env 0 0 0
theorem w_frames : about1.frames = Frame.invoking theMethod args0 :: below0 := rfl
set_option maxRecDepth 65536 in
theorem w_args : argsFit about1.vm theMethod args0 = true := by decide +kernel
set_option maxRecDepth 65536 in
theorem w_heap : heapFits about1 = true := by decide +kernel
set_option maxRecDepth 65536 in
theorem w_runnable : about1.curStatus? = some .runnable := by decide +kernel
set_option maxRecDepth 65536 in
theorem w_alone : about1.alone = true := by decide +kernel
set_option maxRecDepth 65536 in
theorem w_named : about1.methodNamed? x = some theMethod := by decide +kernel
set_option maxRecDepth 65536 in
theorem w_hears : about1.hears theMethod below0 = true := by decide +kernel
set_option maxRecDepth 65536 in
theorem w_ripe : about1.ripe theMethod args0 below0 = true := by decide +kernel
theorem w_running : about1.status = .running := rfl
set_option maxRecDepth 65536 in
theorem w_room : about1.hasRoom e0.platform room_1 = true :=
  launch0.hasRoom_least _ room_1 (by decide +kernel) (by decide +kernel) (by decide +kernel) (by decide +kernel) (by decide +kernel) (by decide +kernel)
theorem allAtoms_all (ts : List Jvm.Cond) (a : Array Jvm.Value) (st : Jvm.State) : (allAtoms ts).before a st = ts.all (fun c => c.before a st) := by
  induction ts with
  | nil => rfl
  | cons c t ih =>
    show (Jvm.Cond.and c (allAtoms t)).before a st = _
    rw [Jvm.Cond.before_and, ih, List.all_cons]
def words1 : List Jvm.Cond := Jvm.Cond.code x code maxLocals ret :: tables_1
/-- a 'code' word, met by the world's own term for the bytes: nothing is compared byte by byte -/
theorem code_word {y : MethodName} {bytes : ByteArray} {mx : Nat} {rt : Option FieldType} {a : Array Value} {s : State} {m : MethodId} {meth : Method} {c : Code} (h1 : s.methodNamed? y = some m) (h2 : s.vm.method? m = some meth) (h3 : meth.code = some c) (h4 : c.code = bytes)
    (h5 : (c.maxLocals == mx && c.exceptionTable.isEmpty && decide (c.maxStack ≤ mostOperands) && decide (meth.sig.returnType = rt) && !meth.locks && decide (parseMethodDescriptor y.desc = some meth.sig)) = true) : (Jvm.Cond.code y bytes mx rt).before a s = true := by
  simp only [Bool.and_eq_true, beq_iff_eq, Bool.not_eq_true', decide_eq_true_eq] at h5
  obtain ⟨⟨⟨⟨⟨g1, g2⟩, g3⟩, g4⟩, g5⟩, g6⟩ := h5
  simp [Cond.before, Cond.holds, Cond.value, h1, h2, h3, h4, g1, g2, g3, g4, g5, g6]
def isCode : Jvm.Cond → Bool
  | .code _ _ _ _ => true
  | _ => false
theorem all_split {L : List Jvm.Cond} {P : Jvm.Cond → Bool} (h1 : L.all (fun c => isCode c || P c) = true) (h2 : ∀ c ∈ L.filter isCode, P c = true) : L.all P = true := by
  refine List.all_eq_true.mpr fun c hc => ?_
  have h := List.all_eq_true.mp h1 c hc
  rcases Bool.eq_false_or_eq_true (isCode c) with hi | hi
  · exact h2 c (List.mem_filter.mpr ⟨hc, hi⟩)
  · simpa [hi] using h
set_option maxRecDepth 65536 in
theorem w_c0 : (Jvm.Cond.code x code maxLocals ret).before args0 about1 = true := code_word (m := ⟨1, 2⟩) (meth := k1m2) (c := k1c2) (by decide +kernel) rfl rfl rfl (by decide +kernel)
set_option maxRecDepth 65536 in
theorem w_c1 : (Jvm.Cond.code ({ cls := "com/example/tallyfield/tallyfield/control/ControlNumbers", name := "codeEnd", desc := "([B)I" } : Jvm.MethodName) prog_8_method_6_code (2 : Nat) (Option.some Jvm.ClassFile.FieldType.int)).before args0 about1 = true := code_word (m := ⟨2, 1⟩) (meth := k2m1) (c := k2c1) (by decide +kernel) rfl rfl rfl (by decide +kernel)
set_option maxRecDepth 65536 in
theorem w_c2 : (Jvm.Cond.code ({ cls := "com/example/tallyfield/tallyfield/control/ControlNumbersCodeEndPinLaw", name := "pick", desc := "(IJI)B" } : Jvm.MethodName) method_2_code (6 : Nat) (Option.some Jvm.ClassFile.FieldType.byte)).before args0 about1 = true := code_word (m := ⟨1, 1⟩) (meth := k1m1) (c := k1c1) (by decide +kernel) rfl rfl rfl (by decide +kernel)
def codes1 : List Jvm.Cond := [Jvm.Cond.code x code maxLocals ret, Jvm.Cond.code ({ cls := "com/example/tallyfield/tallyfield/control/ControlNumbers", name := "codeEnd", desc := "([B)I" } : Jvm.MethodName) prog_8_method_6_code (2 : Nat) (Option.some Jvm.ClassFile.FieldType.int), Jvm.Cond.code ({ cls := "com/example/tallyfield/tallyfield/control/ControlNumbersCodeEndPinLaw", name := "pick", desc := "(IJI)B" } : Jvm.MethodName) method_2_code (6 : Nat) (Option.some Jvm.ClassFile.FieldType.byte)]
set_option maxRecDepth 65536 in
theorem codes_eq : words1.filter isCode = codes1 := rfl
theorem w_codes : ∀ c ∈ words1.filter isCode, c.before args0 about1 = true := by
  rw [codes_eq]
  intro c hc
  simp only [codes1, List.mem_cons, List.not_mem_nil, or_false] at hc
  rcases hc with rfl | rfl | rfl
  · exact w_c0
  · exact w_c1
  · exact w_c2
set_option maxRecDepth 65536 in
theorem w_t1 : words1.all (fun c => isCode c || c.before args0 about1) = true := by decide +kernel
theorem w_tables : (allAtoms (Jvm.Cond.code x code maxLocals ret :: tables_1)).before args0 about1 = true := by
  rw [allAtoms_all]
  show words1.all (fun c => c.before args0 about1) = true
  refine all_split ?_ w_codes
  rw [w_t1]
set_option maxRecDepth 65536 in
theorem w_case : (Jvm.Cond.and given_1 narrow_1).before args0 about1 = true := by decide +kernel
theorem w_applies : (headSpec (Jvm.Cond.code x code maxLocals ret :: tables_1) room_1).applies x e0.platform about1 = true :=
  (Spec.applies_iff w_frames).mpr ⟨w_running, w_runnable, w_alone, w_named, w_hears, w_ripe, w_room, w_tables⟩
theorem atStart : AtStart classFile x code maxLocals ret World_1 tables_1 room_1 Calls_1 rest_1 Pre_1 launch0 p0 e0 about1 theMethod args0 below0 :=
  ⟨lists_1, trivial, launch0.admits_env _ _ _, launch0.least_env, fairChoices_fair.cas, fairChoices_fair.clock, w_frames, w_args, w_heap, w_applies, trivial, trivial, w_case⟩
end start1
theorem witness_1 : WitnessClaimed_1 := ⟨start1.p0, start1.e0, start1.about1, start1.theMethod, start1.args0, start1.below0, start1.atStart⟩
end Jvm.Pilot.@@N@@
