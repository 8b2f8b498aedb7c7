import JvmDerived
import JvmDerived.Pilot.@@N@@Statement
import JvmDerived.Pilot.@@N@@Code
set_option linter.unusedVariables false
set_option linter.unusedSimpArgs false
namespace Jvm.RoadKit
open Sem ClassFile Op Lib Jvm.Stand Jvm.Free Jvm.LawKit
section New
variable {p : Program} {l : Launch} {e : Env} {R : Room} {s : State} {m : MethodId} {args : Array Value} {below : List Frame} {meth : Method} {c : Code} {T : State} {locs : List Loc} {cells slots : Nat}
theorem retI (X : Stand p l e R s m args below meth c T locs cells slots) (hx : p.tables.exec = Jvm.exec) {pc : Nat} {Ls : Array Slot} {z : Int32} {rest : List Value} (hret : meth.sig.returnType = some .int) (hd : decode c.code pc = .ok (.ireturn, 1)) {fs : List Frame}
    (hl : ∀ (f : JFrame) (acts : List Action), f.method = m → f.locked = none → f.entered = [] → (doReturn e (T.setTop f) acts (some (.int z))).1 = T.setFrames fs) : Steps p.tables e below (T.setTop (mkF m pc Ls (.int z :: rest))) (T.setFrames fs) := by
  have hm' : T.vm.method? m = some meth := X.method'
  have hn : narrow .int (.int z) = .int z := rfl
  show Steps p.tables e below (T.setTop { method := m, pc := pc, locals := Ls, stack := _ :: rest, locked := none }) _
  jvm_step X.here [X.here.top, hx, hd, hm', hret, hn]
  first | (intro acts; rw [hl _ acts rfl rfl rfl]) | rw [hl _ _ rfl rfl rfl]
  exact Steps.refl _
end New
end Jvm.RoadKit
namespace Jvm.Pilot.@@N@@
open Jvm Jvm.ClassFile Sem Op Lib Jvm.Free Jvm.Stand Jvm.LawKit Jvm.RoadKit Bundle Jvm.Pilot.@@N@@.Jvm.D
theorem own_w {a0 : Array Value} {Z : State} (hw : ∀ d ∈ tables_1, d.before a0 Z = true) (i : Nat) {d : Jvm.Cond} (h : tables_1[i]? = some d) : d.before a0 Z = true := hw d (List.mem_of_getElem? h)
/-- from U the run comes to the method's end, and Q holds there -/
def own_Go (tb : Tables) (e : Env) (below : List Frame) (s : State) (C N : Nat) (Q : Option Value → Heap → List Loc → Prop) (U : State) : Prop :=
  ∃ t o, Steps tb e below U t ∧ t.status = .running ∧ Ended t below o ∧ ∃ v L, o = .returned v ∧ Q v t.heap L ∧ FrameEnd s o t L C N
theorem own_step {tb : Tables} {e : Env} {below : List Frame} {s : State} {C N : Nat} {Q : Option Value → Heap → List Loc → Prop} {U U' : State} (h : ∀ t, Steps tb e below U' t → Steps tb e below U t) (k : own_Go tb e below s C N Q U') : own_Go tb e below s C N Q U := by
  obtain ⟨t, o, h1, h2⟩ := k
  exact ⟨t, o, h t h1, h2⟩
theorem own_steps {tb : Tables} {e : Env} {below : List Frame} {s : State} {C N : Nat} {Q : Option Value → Heap → List Loc → Prop} {U U' : State} (h : Steps tb e below U U') (k : own_Go tb e below s C N Q U') : own_Go tb e below s C N Q U := own_step (fun _ q => h.trans q) k
theorem own_out {p : Program} {l : Launch} {e : Env} {R : Room} {s : State} {m : MethodId} {args : Array Value} {below : List Frame} {meth : Method} {c : Code} {T : State} {locs : List Loc} {cells slots : Nat} (X : Stand p l e R s m args below meth c T locs cells slots) {v : Option Value}
    (hlk : meth.locks = false) (hv : meth.sig.returnType = none → v = none) {C N : Nat} {Q : Option Value → Heap → List Loc → Prop} (hQ : Q v T.heap locs) (hC : cells ≤ C) (hN : slots ≤ N) {U : State}
    (k : ∀ fs, (∀ (f : JFrame) (acts : List Action), f.method = m → f.locked = none → f.entered = [] → (doReturn e (T.setTop f) acts v).1 = T.setFrames fs) → Steps p.tables e below U (T.setFrames fs)) : own_Go p.tables e below s C N Q U := by
  obtain ⟨fs, hr, hrun, hended, hW, hsame⟩ := X.leave hv hlk
  exact ⟨_, _, k fs hr, hrun, hended, _, _, rfl, hQ, ⟨_, rfl⟩, hW, hsame.mono hC hN⟩
theorem own_exaP {Z : State} {h : Heap} {a : Addr} {C : String} (E : Exa Z h a C) : ∀ c : Cell, h[a]? = some c → c.vm.isStatics = false := fun c hc => by
  obtain ⟨cell, k, h1, -, -, h4, -⟩ := E
  cases h1.symm.trans hc; exact h4
theorem own_staK {Z : State} {h h' : Heap} {C n d : String} {v : Value} {ws : List Addr} (S : Sta Z h C n d v) (K : Keep h h' ws) (q : ∀ w ∈ ws, ∀ c : Cell, h[w]? = some c → c.vm.isStatics = false) : Sta Z h' C n d v := by
  obtain ⟨cf, i, k, f, st, cell, h1, h2, h3, h4, h5, h6, h7⟩ := S
  exact ⟨cf, i, k, f, st, cell, h1, h2, h3, h4, K.2.1 st cell h5 (fun z => by have := q st z cell h5; rw [h6] at this; cases this), h6, h7⟩
theorem own_anyF {Z : State} {a0 : Array Value} {h : Heap} {a : Addr} {C O n d O' n' d' : String} {v' : Value} {k : Nat} (E : Exa Z h a C) (F : Fld Z h a O' n' d' v') (wi : (Cond.instantiable C k).before a0 Z = true) (L : Laid Z a0 C O n d) : ∃ v, Fld Z h a O n d v :=
  fld_laid E (by obtain ⟨cell, _, _, _, _, h1, _, _, h4, _⟩ := F; exact ⟨cell, h1, h4⟩) wi L
theorem own_nv {meth : Method} {t : FieldType} (h : meth.sig.returnType = some t) {v : Option Value} : meth.sig.returnType = none → v = none := fun q => by rw [h] at q; cases q
theorem pd___V : parseMethodDescriptor "()V" = some ⟨[], none⟩ := by decide +kernel
theorem pd___J : parseMethodDescriptor "()J" = some ⟨[], some .long⟩ := by decide +kernel
theorem pd__J_V : parseMethodDescriptor "(J)V" = some ⟨[.long], none⟩ := by decide +kernel
theorem pd__JJ_J : parseMethodDescriptor "(JJ)J" = some ⟨[.long, .long], some .long⟩ := by decide +kernel
theorem pd__J_J : parseMethodDescriptor "(J)J" = some ⟨[.long], some .long⟩ := by decide +kernel
theorem d1_0 : decode prog_3_method_1_code 0 = .ok (.aload_n 0, 1) := by decide +kernel
theorem d1_1 : decode prog_3_method_1_code 1 = .ok (.invokespecial 1, 3) := by decide +kernel
theorem d1_4 : decode prog_3_method_1_code 4 = .ok (.return_, 1) := by decide +kernel
theorem pn_1 : plainName "com/example/which_bucket/whichbucket/SplitMix64" = true := by first | (simp [plainName, overriddenIn]; done) | decide +kernel
theorem ef_1 (m : MethodId) (r0 : Addr) : entryFrame m #[(.ref r0)] 1 = mkF m 0 #[rv r0] [] := by first | (simp [entryFrame, mkF, argsToLocals, Value.category]; done) | rfl
def Q1 (Z : State) (r0 : Addr) (h0 : Heap) (n0 : Nat) (v : Option Value) (h : Heap) (L : List Loc) : Prop := v = none ∧ Fr n0 L ∧ h = h0
set_option maxRecDepth 65536 in
set_option maxHeartbeats 40000000 in
theorem rm1 (l : Launch) (Z : State) (a0 : Array Value) (hw : ∀ d ∈ tables_1, d.before a0 Z = true) (ws : List Jvm.Cond) (r0 : Addr) (h0 : Heap) (n0 : Nat) (Z0 : n0 ≤ h0.size) :
    MetFree l (⟨"com/example/which_bucket/whichbucket/SplitMix64", "<init>", "()V"⟩ : MethodName) (head1 (Jvm.Cond.code (⟨"com/example/which_bucket/whichbucket/SplitMix64", "<init>", "()V"⟩ : MethodName) prog_3_method_1_code 1 none :: ws) ({ frames := 1, cells := 0, slots := 0, locals := 12 } : Room)) (fun a U => a = #[(.ref r0)] ∧ Z.Warmed39 U.vm ∧ U.heap = h0) (fun _ _ _ _ _ => True) (fun _ U o U' => ∃ v L, o = .returned v ∧ Q1 Z r0 h0 n0 v U'.heap L ∧ FrameEnd U o U' L ({ frames := 1, cells := 0, slots := 0, locals := 12 } : Room).cells ({ frames := 1, cells := 0, slots := 0, locals := 12 } : Room).slots) := by
  refine MetFree.of_bodySF (plainFor_of_name pn_1) hisR ?_
  intro p e s m args below meth c s₁ Bd hml0 hP hK
  obtain ⟨rfl, hZ, hh⟩ := hP
  have hx := Bd.exec
  have hby := Bd.bytes
  have hml : c.maxLocals = 1 := hml0
  have hown : s.vm.findClass "com/example/which_bucket/whichbucket/SplitMix64" = some m.cls := findClass_of_methodNamed Bd.named
  have hnm := (name_of_methodNamed Bd.named Bd.method).1
  have hlk : meth.locks = false := Bd.notSynchronized
  have X0 : Stand p l e ({ frames := 1, cells := 0, slots := 0, locals := 12 } : Room) s m #[(.ref r0)] below meth c s₁ [] 0 0 := Stand.of_body Bd
  have e0 : s₁.heap = h0 := by rw [← hh, Bd.state]; rfl
  have N0 := Fr.nil n0
  have KK0 := Keep.refl h0 []
  show own_Go p.tables e below s 0 0 (Q1 Z r0 h0 n0) (s₁.setTop (entryFrame m #[(.ref r0)] 1))
  rw [ef_1]
  refine own_step (U' := s₁.setTop (mkF m 1 #[rv r0] [(.ref r0)])) (fun t k => XS.aloadN X0.here hx rfl (hb hby d1_0) rfl rfl k) ?_
  obtain ⟨T1, X1, e1, st1⟩ := initO X0 hx hZ hown (own_w hw 6 rfl) (own_w hw 7 rfl) (own_w hw 8 rfl) e0 (g := (mkF m 1 #[rv r0] [(.ref r0)])) rfl (by rw [hml]; rfl) rfl (hb hby d1_1) (by decide) (W := 0) (by show 2 * 0 + _ ≤ _; exact Nat.le_of_eq rfl) (by decide)
  refine own_step (U' := T1.setTop (mkF m 4 #[rv r0] [])) st1 ?_
  exact own_out X1 (v := none) hlk (fun _ => rfl) (by rw [e1]; exact ⟨rfl, N0, rfl⟩) (by decide) (by decide) (fun fs hr => X1.returnOut hx Bd.returns (hb hby d1_4) hr)
theorem d4_0 : decode prog_3_method_5_code 0 = .ok (.lload_n 0, 1) := by decide +kernel
theorem d4_1 : decode prog_3_method_5_code 1 = .ok (.lstore_n 2, 1) := by decide +kernel
theorem d4_2 : decode prog_3_method_5_code 2 = .ok (.lload_n 2, 1) := by decide +kernel
theorem d4_3 : decode prog_3_method_5_code 3 = .ok (.lload_n 2, 1) := by decide +kernel
theorem d4_4 : decode prog_3_method_5_code 4 = .ok (.bipush 30, 2) := by decide +kernel
theorem d4_6 : decode prog_3_method_5_code 6 = .ok (.lushr, 1) := by decide +kernel
theorem d4_7 : decode prog_3_method_5_code 7 = .ok (.lxor, 1) := by decide +kernel
theorem d4_8 : decode prog_3_method_5_code 8 = .ok (.ldc2_w 19, 3) := by decide +kernel
theorem d4_11 : decode prog_3_method_5_code 11 = .ok (.lmul, 1) := by decide +kernel
theorem d4_12 : decode prog_3_method_5_code 12 = .ok (.lstore_n 2, 1) := by decide +kernel
theorem d4_13 : decode prog_3_method_5_code 13 = .ok (.lload_n 2, 1) := by decide +kernel
theorem d4_14 : decode prog_3_method_5_code 14 = .ok (.lload_n 2, 1) := by decide +kernel
theorem d4_15 : decode prog_3_method_5_code 15 = .ok (.bipush 27, 2) := by decide +kernel
theorem d4_17 : decode prog_3_method_5_code 17 = .ok (.lushr, 1) := by decide +kernel
theorem d4_18 : decode prog_3_method_5_code 18 = .ok (.lxor, 1) := by decide +kernel
theorem d4_19 : decode prog_3_method_5_code 19 = .ok (.ldc2_w 21, 3) := by decide +kernel
theorem d4_22 : decode prog_3_method_5_code 22 = .ok (.lmul, 1) := by decide +kernel
theorem d4_23 : decode prog_3_method_5_code 23 = .ok (.lstore_n 2, 1) := by decide +kernel
theorem d4_24 : decode prog_3_method_5_code 24 = .ok (.lload_n 2, 1) := by decide +kernel
theorem d4_25 : decode prog_3_method_5_code 25 = .ok (.lload_n 2, 1) := by decide +kernel
theorem d4_26 : decode prog_3_method_5_code 26 = .ok (.bipush 31, 2) := by decide +kernel
theorem d4_28 : decode prog_3_method_5_code 28 = .ok (.lushr, 1) := by decide +kernel
theorem d4_29 : decode prog_3_method_5_code 29 = .ok (.lxor, 1) := by decide +kernel
theorem d4_30 : decode prog_3_method_5_code 30 = .ok (.lreturn, 1) := by decide +kernel
theorem pn_4 : plainName "com/example/which_bucket/whichbucket/SplitMix64" = true := by first | (simp [plainName, overriddenIn]; done) | decide +kernel
theorem ef_4 (m : MethodId) (q0 : Int64) : entryFrame m #[(.long q0)] 4 = mkF m 0 #[.val (.long q0), .second, .unset, .unset] [] := by first | (simp [entryFrame, mkF, argsToLocals, Value.category]; done) | rfl
def F4 (q0 : Int64) : Int64 :=
  (((((q0 ^^^ ((q0.toUInt64 >>> ((30 : Int32) &&& 0x3f).toInt64.toUInt64).toInt64)) * (-4658895280553007687 : Int64)) ^^^ ((((q0 ^^^ ((q0.toUInt64 >>> ((30 : Int32) &&& 0x3f).toInt64.toUInt64).toInt64)) * (-4658895280553007687 : Int64)).toUInt64 >>> ((27 : Int32) &&& 0x3f).toInt64.toUInt64).toInt64)) * (-7723592293110705685 : Int64)) ^^^ ((((((q0 ^^^ ((q0.toUInt64 >>> ((30 : Int32) &&& 0x3f).toInt64.toUInt64).toInt64)) * (-4658895280553007687 : Int64)) ^^^ ((((q0 ^^^ ((q0.toUInt64 >>> ((30 : Int32) &&& 0x3f).toInt64.toUInt64).toInt64)) * (-4658895280553007687 : Int64)).toUInt64 >>> ((27 : Int32) &&& 0x3f).toInt64.toUInt64).toInt64)) * (-7723592293110705685 : Int64)).toUInt64 >>> ((31 : Int32) &&& 0x3f).toInt64.toUInt64).toInt64))
def Q4 (Z : State) (q0 : Int64) (h0 : Heap) (n0 : Nat) (v : Option Value) (h : Heap) (L : List Loc) : Prop := v = some (.long (F4 q0)) ∧ Fr n0 L ∧ h = h0
set_option maxRecDepth 65536 in
set_option maxHeartbeats 40000000 in
theorem rm4 (l : Launch) (Z : State) (a0 : Array Value) (hw : ∀ d ∈ tables_1, d.before a0 Z = true) (ws : List Jvm.Cond) (q0 : Int64) (h0 : Heap) (n0 : Nat) (Z0 : n0 ≤ h0.size) :
    MetFree l (⟨"com/example/which_bucket/whichbucket/SplitMix64", "mix", "(J)J"⟩ : MethodName) (head1 (Jvm.Cond.code (⟨"com/example/which_bucket/whichbucket/SplitMix64", "mix", "(J)J"⟩ : MethodName) prog_3_method_5_code 4 (some .long) :: ws) ({ frames := 0, cells := 0, slots := 0, locals := 0 } : Room)) (fun a U => a = #[(.long q0)] ∧ Z.Warmed39 U.vm ∧ U.heap = h0) (fun _ _ _ _ _ => True) (fun _ U o U' => ∃ v L, o = .returned v ∧ Q4 Z q0 h0 n0 v U'.heap L ∧ FrameEnd U o U' L ({ frames := 0, cells := 0, slots := 0, locals := 0 } : Room).cells ({ frames := 0, cells := 0, slots := 0, locals := 0 } : Room).slots) := by
  refine MetFree.of_bodySF (plainFor_of_name pn_4) hisR ?_
  intro p e s m args below meth c s₁ Bd hml0 hP hK
  obtain ⟨rfl, hZ, hh⟩ := hP
  have hx := Bd.exec
  have hby := Bd.bytes
  have hml : c.maxLocals = 4 := hml0
  have hown : s.vm.findClass "com/example/which_bucket/whichbucket/SplitMix64" = some m.cls := findClass_of_methodNamed Bd.named
  have hnm := (name_of_methodNamed Bd.named Bd.method).1
  have hlk : meth.locks = false := Bd.notSynchronized
  have X0 : Stand p l e ({ frames := 0, cells := 0, slots := 0, locals := 0 } : Room) s m #[(.long q0)] below meth c s₁ [] 0 0 := Stand.of_body Bd
  have e0 : s₁.heap = h0 := by rw [← hh, Bd.state]; rfl
  have N0 := Fr.nil n0
  have KK0 := Keep.refl h0 []
  show own_Go p.tables e below s 0 0 (Q4 Z q0 h0 n0) (s₁.setTop (entryFrame m #[(.long q0)] 4))
  rw [ef_4]
  refine own_step (U' := s₁.setTop (mkF m 11 #[.val (.long q0), .second, .val (.long q0), .second] [(.long (-4658895280553007687 : Int64)), (.long (q0 ^^^ ((q0.toUInt64 >>> ((30 : Int32) &&& 0x3f).toInt64.toUInt64).toInt64)))])) (fun t k => XS.lloadN X0.here hx rfl (hb hby d4_0) rfl (XS.lstoreN X0.here hx rfl (hb hby d4_1) rfl (l' := #[.val (.long q0), .second, .val (.long q0), .second]) rfl (XS.lloadN X0.here hx rfl (hb hby d4_2) rfl (XS.lloadN X0.here hx rfl (hb hby d4_3) rfl (XS.bipush X0.here hx rfl (hb hby d4_4) (XS.lushr X0.here hx rfl (hb hby d4_6) rfl (XS.lxor X0.here hx rfl (hb hby d4_7) rfl (X0.ldc2Long hx hown (mvT hZ (own_w hw 20 rfl)) (g := (mkF m 8 #[.val (.long q0), .second, .val (.long q0), .second] [(.long (q0 ^^^ ((q0.toUInt64 >>> ((30 : Int32) &&& 0x3f).toInt64.toUInt64).toInt64)))])) rfl (hb hby d4_8) t k)))))))) ?_
  refine own_step (U' := s₁.setTop (mkF m 22 #[.val (.long q0), .second, .val (.long ((q0 ^^^ ((q0.toUInt64 >>> ((30 : Int32) &&& 0x3f).toInt64.toUInt64).toInt64)) * (-4658895280553007687 : Int64))), .second] [(.long (-7723592293110705685 : Int64)), (.long (((q0 ^^^ ((q0.toUInt64 >>> ((30 : Int32) &&& 0x3f).toInt64.toUInt64).toInt64)) * (-4658895280553007687 : Int64)) ^^^ ((((q0 ^^^ ((q0.toUInt64 >>> ((30 : Int32) &&& 0x3f).toInt64.toUInt64).toInt64)) * (-4658895280553007687 : Int64)).toUInt64 >>> ((27 : Int32) &&& 0x3f).toInt64.toUInt64).toInt64)))])) (fun t k => XS.lmul X0.here hx rfl (hb hby d4_11) rfl (XS.lstoreN X0.here hx rfl (hb hby d4_12) rfl (l' := #[.val (.long q0), .second, .val (.long ((q0 ^^^ ((q0.toUInt64 >>> ((30 : Int32) &&& 0x3f).toInt64.toUInt64).toInt64)) * (-4658895280553007687 : Int64))), .second]) rfl (XS.lloadN X0.here hx rfl (hb hby d4_13) rfl (XS.lloadN X0.here hx rfl (hb hby d4_14) rfl (XS.bipush X0.here hx rfl (hb hby d4_15) (XS.lushr X0.here hx rfl (hb hby d4_17) rfl (XS.lxor X0.here hx rfl (hb hby d4_18) rfl (X0.ldc2Long hx hown (mvT hZ (own_w hw 21 rfl)) (g := (mkF m 19 #[.val (.long q0), .second, .val (.long ((q0 ^^^ ((q0.toUInt64 >>> ((30 : Int32) &&& 0x3f).toInt64.toUInt64).toInt64)) * (-4658895280553007687 : Int64))), .second] [(.long (((q0 ^^^ ((q0.toUInt64 >>> ((30 : Int32) &&& 0x3f).toInt64.toUInt64).toInt64)) * (-4658895280553007687 : Int64)) ^^^ ((((q0 ^^^ ((q0.toUInt64 >>> ((30 : Int32) &&& 0x3f).toInt64.toUInt64).toInt64)) * (-4658895280553007687 : Int64)).toUInt64 >>> ((27 : Int32) &&& 0x3f).toInt64.toUInt64).toInt64)))])) rfl (hb hby d4_19) t k)))))))) ?_
  refine own_step (U' := s₁.setTop (mkF m 30 #[.val (.long q0), .second, .val (.long ((((q0 ^^^ ((q0.toUInt64 >>> ((30 : Int32) &&& 0x3f).toInt64.toUInt64).toInt64)) * (-4658895280553007687 : Int64)) ^^^ ((((q0 ^^^ ((q0.toUInt64 >>> ((30 : Int32) &&& 0x3f).toInt64.toUInt64).toInt64)) * (-4658895280553007687 : Int64)).toUInt64 >>> ((27 : Int32) &&& 0x3f).toInt64.toUInt64).toInt64)) * (-7723592293110705685 : Int64))), .second] [(.long (((((q0 ^^^ ((q0.toUInt64 >>> ((30 : Int32) &&& 0x3f).toInt64.toUInt64).toInt64)) * (-4658895280553007687 : Int64)) ^^^ ((((q0 ^^^ ((q0.toUInt64 >>> ((30 : Int32) &&& 0x3f).toInt64.toUInt64).toInt64)) * (-4658895280553007687 : Int64)).toUInt64 >>> ((27 : Int32) &&& 0x3f).toInt64.toUInt64).toInt64)) * (-7723592293110705685 : Int64)) ^^^ ((((((q0 ^^^ ((q0.toUInt64 >>> ((30 : Int32) &&& 0x3f).toInt64.toUInt64).toInt64)) * (-4658895280553007687 : Int64)) ^^^ ((((q0 ^^^ ((q0.toUInt64 >>> ((30 : Int32) &&& 0x3f).toInt64.toUInt64).toInt64)) * (-4658895280553007687 : Int64)).toUInt64 >>> ((27 : Int32) &&& 0x3f).toInt64.toUInt64).toInt64)) * (-7723592293110705685 : Int64)).toUInt64 >>> ((31 : Int32) &&& 0x3f).toInt64.toUInt64).toInt64)))])) (fun t k => XS.lmul X0.here hx rfl (hb hby d4_22) rfl (XS.lstoreN X0.here hx rfl (hb hby d4_23) rfl (l' := #[.val (.long q0), .second, .val (.long ((((q0 ^^^ ((q0.toUInt64 >>> ((30 : Int32) &&& 0x3f).toInt64.toUInt64).toInt64)) * (-4658895280553007687 : Int64)) ^^^ ((((q0 ^^^ ((q0.toUInt64 >>> ((30 : Int32) &&& 0x3f).toInt64.toUInt64).toInt64)) * (-4658895280553007687 : Int64)).toUInt64 >>> ((27 : Int32) &&& 0x3f).toInt64.toUInt64).toInt64)) * (-7723592293110705685 : Int64))), .second]) rfl (XS.lloadN X0.here hx rfl (hb hby d4_24) rfl (XS.lloadN X0.here hx rfl (hb hby d4_25) rfl (XS.bipush X0.here hx rfl (hb hby d4_26) (XS.lushr X0.here hx rfl (hb hby d4_28) rfl (XS.lxor X0.here hx rfl (hb hby d4_29) rfl k))))))) ?_
  exact own_out X0 (v := (some (.long (((((q0 ^^^ ((q0.toUInt64 >>> ((30 : Int32) &&& 0x3f).toInt64.toUInt64).toInt64)) * (-4658895280553007687 : Int64)) ^^^ ((((q0 ^^^ ((q0.toUInt64 >>> ((30 : Int32) &&& 0x3f).toInt64.toUInt64).toInt64)) * (-4658895280553007687 : Int64)).toUInt64 >>> ((27 : Int32) &&& 0x3f).toInt64.toUInt64).toInt64)) * (-7723592293110705685 : Int64)) ^^^ ((((((q0 ^^^ ((q0.toUInt64 >>> ((30 : Int32) &&& 0x3f).toInt64.toUInt64).toInt64)) * (-4658895280553007687 : Int64)) ^^^ ((((q0 ^^^ ((q0.toUInt64 >>> ((30 : Int32) &&& 0x3f).toInt64.toUInt64).toInt64)) * (-4658895280553007687 : Int64)).toUInt64 >>> ((27 : Int32) &&& 0x3f).toInt64.toUInt64).toInt64)) * (-7723592293110705685 : Int64)).toUInt64 >>> ((31 : Int32) &&& 0x3f).toInt64.toUInt64).toInt64))))) hlk (own_nv Bd.returns) (by rw [e0]; exact ⟨by rw [show (F4 q0) = (((((q0 ^^^ ((q0.toUInt64 >>> ((30 : Int32) &&& 0x3f).toInt64.toUInt64).toInt64)) * (-4658895280553007687 : Int64)) ^^^ ((((q0 ^^^ ((q0.toUInt64 >>> ((30 : Int32) &&& 0x3f).toInt64.toUInt64).toInt64)) * (-4658895280553007687 : Int64)).toUInt64 >>> ((27 : Int32) &&& 0x3f).toInt64.toUInt64).toInt64)) * (-7723592293110705685 : Int64)) ^^^ ((((((q0 ^^^ ((q0.toUInt64 >>> ((30 : Int32) &&& 0x3f).toInt64.toUInt64).toInt64)) * (-4658895280553007687 : Int64)) ^^^ ((((q0 ^^^ ((q0.toUInt64 >>> ((30 : Int32) &&& 0x3f).toInt64.toUInt64).toInt64)) * (-4658895280553007687 : Int64)).toUInt64 >>> ((27 : Int32) &&& 0x3f).toInt64.toUInt64).toInt64)) * (-7723592293110705685 : Int64)).toUInt64 >>> ((31 : Int32) &&& 0x3f).toInt64.toUInt64).toInt64)) from (by simp only [F4])], N0, rfl⟩) (by decide) (by decide) (fun fs hr => X0.lreturnOut hx Bd.returns (hb hby d4_30) hr)
theorem d3_0 : decode prog_3_method_3_code 0 = .ok (.aload_n 0, 1) := by decide +kernel
theorem d3_1 : decode prog_3_method_3_code 1 = .ok (.dup, 1) := by decide +kernel
theorem d3_2 : decode prog_3_method_3_code 2 = .ok (.getfield 7, 3) := by decide +kernel
theorem d3_5 : decode prog_3_method_3_code 5 = .ok (.ldc2_w 13, 3) := by decide +kernel
theorem d3_8 : decode prog_3_method_3_code 8 = .ok (.ladd, 1) := by decide +kernel
theorem d3_9 : decode prog_3_method_3_code 9 = .ok (.putfield 7, 3) := by decide +kernel
theorem d3_12 : decode prog_3_method_3_code 12 = .ok (.aload_n 0, 1) := by decide +kernel
theorem d3_13 : decode prog_3_method_3_code 13 = .ok (.getfield 7, 3) := by decide +kernel
theorem d3_16 : decode prog_3_method_3_code 16 = .ok (.invokestatic 15, 3) := by decide +kernel
theorem d3_19 : decode prog_3_method_3_code 19 = .ok (.lreturn, 1) := by decide +kernel
theorem pn_3 : plainName "com/example/which_bucket/whichbucket/SplitMix64" = true := by first | (simp [plainName, overriddenIn]; done) | decide +kernel
theorem ef_3 (m : MethodId) (r0 : Addr) : entryFrame m #[(.ref r0)] 1 = mkF m 0 #[rv r0] [] := by first | (simp [entryFrame, mkF, argsToLocals, Value.category]; done) | rfl
def F3 (w : Int64) : Int64 :=
  (F4 (w + (-7046029254386353131 : Int64)))
def Q3 (Z : State) (r0 : Addr) (w : Int64) (h0 : Heap) (n0 : Nat) (v : Option Value) (h : Heap) (L : List Loc) : Prop := v = some (.long (F3 w)) ∧ Fr n0 L ∧ Keep h0 h [r0] ∧ Exa Z h r0 "com/example/which_bucket/whichbucket/SplitMix64" ∧ Fld Z h r0 "com/example/which_bucket/whichbucket/SplitMix64" "state" "J" (.long (w + (-7046029254386353131 : Int64)))
set_option maxRecDepth 65536 in
set_option maxHeartbeats 40000000 in
theorem rm3 (l : Launch) (Z : State) (a0 : Array Value) (hw : ∀ d ∈ tables_1, d.before a0 Z = true) (ws : List Jvm.Cond) (r0 : Addr) (w : Int64) (h0 : Heap) (n0 : Nat) (Z0 : n0 ≤ h0.size) (E_r0 : Exa Z h0 r0 "com/example/which_bucket/whichbucket/SplitMix64") (F_state_r0 : Fld Z h0 r0 "com/example/which_bucket/whichbucket/SplitMix64" "state" "J" (.long w)) (g_r0 : n0 ≤ r0) :
    MetFree l (⟨"com/example/which_bucket/whichbucket/SplitMix64", "nextLong", "()J"⟩ : MethodName) (head1 (Jvm.Cond.code (⟨"com/example/which_bucket/whichbucket/SplitMix64", "nextLong", "()J"⟩ : MethodName) prog_3_method_3_code 1 (some .long) :: ws) ({ frames := 1, cells := 0, slots := 0, locals := 15 } : Room)) (fun a U => a = #[(.ref r0)] ∧ Z.Warmed39 U.vm ∧ U.heap = h0) (fun _ _ _ _ _ => True) (fun _ U o U' => ∃ v L, o = .returned v ∧ Q3 Z r0 w h0 n0 v U'.heap L ∧ FrameEnd U o U' L ({ frames := 1, cells := 0, slots := 0, locals := 15 } : Room).cells ({ frames := 1, cells := 0, slots := 0, locals := 15 } : Room).slots) := by
  refine MetFree.of_bodySF (plainFor_of_name pn_3) hisR ?_
  intro p e s m args below meth c s₁ Bd hml0 hP hK
  obtain ⟨rfl, hZ, hh⟩ := hP
  have hx := Bd.exec
  have hby := Bd.bytes
  have hml : c.maxLocals = 1 := hml0
  have hown : s.vm.findClass "com/example/which_bucket/whichbucket/SplitMix64" = some m.cls := findClass_of_methodNamed Bd.named
  have hnm := (name_of_methodNamed Bd.named Bd.method).1
  have hlk : meth.locks = false := Bd.notSynchronized
  have X0 : Stand p l e ({ frames := 1, cells := 0, slots := 0, locals := 15 } : Room) s m #[(.ref r0)] below meth c s₁ [] 0 0 := Stand.of_body Bd
  have e0 : s₁.heap = h0 := by rw [← hh, Bd.state]; rfl
  have N0 := Fr.nil n0
  have KK0 := Keep.refl h0 [r0]
  show own_Go p.tables e below s 0 0 (Q3 Z r0 w h0 n0) (s₁.setTop (entryFrame m #[(.ref r0)] 1))
  rw [ef_3]
  refine own_step (U' := s₁.setTop (mkF m 2 #[rv r0] [(.ref r0), (.ref r0)])) (fun t k => XS.aloadN X0.here hx rfl (hb hby d3_0) rfl rfl (XS.dup X0.here hx rfl (hb hby d3_1) rfl rfl k)) ?_
  obtain ⟨T1, X1, e1, st1⟩ := getF X0 hx hZ hown (host := "") (Or.inl (own_w hw 14 rfl)) Via.refl e0 F_state_r0 (g := (mkF m 2 #[rv r0] [(.ref r0), (.ref r0)])) rfl rfl (hb hby d3_2)
  refine own_step (U' := T1.setTop (mkF m 5 #[rv r0] [(.long w), (.ref r0)])) st1 ?_
  refine own_step (U' := T1.setTop (mkF m 9 #[rv r0] [(.long (w + (-7046029254386353131 : Int64))), (.ref r0)])) (fun t k => X1.ldc2Long hx hown (mvT hZ (own_w hw 16 rfl)) (g := (mkF m 5 #[rv r0] [(.long w), (.ref r0)])) rfl (hb hby d3_5) t (XS.ladd X1.here hx rfl (hb hby d3_8) rfl k)) ?_
  obtain ⟨T2, h2, X2, e2, W2, st2⟩ := putF X1 hx hZ hown (host := "") (Or.inl (own_w hw 14 rfl)) Via.refl e1 F_state_r0 E_r0 (Or.inl (own_w hw 15 rfl)) (own_w hw 1 rfl) (ty := .long) (by decide) rfl rfl (g := (mkF m 9 #[rv r0] [(.long (w + (-7046029254386353131 : Int64))), (.ref r0)])) rfl rfl (hb hby d3_9)
  have E_r0_2 := E_r0.wr W2
  have F_state_r0_2 := F_state_r0.same W2
  have Z2 : n0 ≤ h2.size := Nat.le_trans Z0 (Keep.of_wr W2).1
  have KK2 := KK0.wr W2 (Or.inl (List.mem_of_getElem? (i := 0) rfl))
  have N2 := Fr.snoc X2 N0 g_r0
  refine own_step (U' := T2.setTop (mkF m 12 #[rv r0] [])) st2 ?_
  refine own_step (U' := T2.setTop (mkF m 13 #[rv r0] [(.ref r0)])) (fun t k => XS.aloadN X2.here hx rfl (hb hby d3_12) rfl rfl k) ?_
  obtain ⟨T3, X3, e3, st3⟩ := getF X2 hx hZ hown (host := "") (Or.inl (own_w hw 14 rfl)) Via.refl e2 F_state_r0_2 (g := (mkF m 13 #[rv r0] [(.ref r0)])) rfl rfl (hb hby d3_13)
  refine own_step (U' := T3.setTop (mkF m 16 #[rv r0] [(.long (w + (-7046029254386353131 : Int64)))])) st3 ?_
  obtain ⟨_, _, ⟨T4, L4, k4, n4⟩, -, X4, ⟨Lc4, hQ4, l4, y4, z4⟩, st4⟩ := Jvm.LawKit.callS X3 hx (y := (⟨"com/example/which_bucket/whichbucket/SplitMix64", "mix", "(J)J"⟩ : MethodName)) hown (mvT hZ (own_w hw 17 rfl)) (mvT hZ (own_w hw 18 rfl)) (mvT hZ (own_w hw 2 rfl)) (mvT hZ (own_w hw 19 rfl)) (by decide) (backOf (W := 0) (rm4 l Z a0 hw [] (w + (-7046029254386353131 : Int64)) h2 n0 Z2) hZ (own_w hw 19 rfl) (own_w hw 2 rfl) (by decide) (by decide)) (g := (mkF m 16 #[rv r0] [(.long (w + (-7046029254386353131 : Int64)))])) rfl (by rw [hml]; rfl) (argsL := [(.long (w + (-7046029254386353131 : Int64)))]) (rest := []) (lenOf pd__J_J rfl) rfl (by show 2 * 0 + _ ≤ _; exact Nat.le_of_eq rfl) (hb hby d3_16) (fun _ _ => ⟨rfl, e3, (by decide : 0 + 0 ≤ _), (by decide : 0 + 0 ≤ _)⟩)
  dsimp only [Pt.U, Pt.locs, Pt.cells, Pt.slots] at X4 l4 y4 z4 st4 hQ4
  subst l4 y4 z4
  obtain ⟨rfl, N4q, eq4⟩ := hQ4
  have N4 := Fr.app N2 N4q
  refine own_step (U' := T4.setTop (mkF m 19 #[rv r0] [(.long (F4 (w + (-7046029254386353131 : Int64))))])) st4 ?_
  exact own_out X4 (v := (some (.long (F4 (w + (-7046029254386353131 : Int64)))))) hlk (own_nv Bd.returns) (by rw [eq4]; exact ⟨by rw [show (F3 w) = (F4 (w + (-7046029254386353131 : Int64))) from (by simp only [F3])], N4, KK2, E_r0_2, F_state_r0_2⟩) (by decide) (by decide) (fun fs hr => X4.lreturnOut hx Bd.returns (hb hby d3_19) hr)
theorem d5_0 : decode prog_3_method_2_code 0 = .ok (.aload_n 0, 1) := by decide +kernel
theorem d5_1 : decode prog_3_method_2_code 1 = .ok (.lload_n 1, 1) := by decide +kernel
theorem d5_2 : decode prog_3_method_2_code 2 = .ok (.putfield 7, 3) := by decide +kernel
theorem d5_5 : decode prog_3_method_2_code 5 = .ok (.return_, 1) := by decide +kernel
theorem pn_5 : plainName "com/example/which_bucket/whichbucket/SplitMix64" = true := by first | (simp [plainName, overriddenIn]; done) | decide +kernel
theorem ef_5 (m : MethodId) (r0 : Addr) (q1 : Int64) : entryFrame m #[(.ref r0), (.long q1)] 3 = mkF m 0 #[rv r0, .val (.long q1), .second] [] := by first | (simp [entryFrame, mkF, argsToLocals, Value.category]; done) | rfl
def Q5 (Z : State) (r0 : Addr) (q1 : Int64) (w : Int64) (h0 : Heap) (n0 : Nat) (v : Option Value) (h : Heap) (L : List Loc) : Prop := v = none ∧ Fr n0 L ∧ Keep h0 h [r0] ∧ Exa Z h r0 "com/example/which_bucket/whichbucket/SplitMix64" ∧ Fld Z h r0 "com/example/which_bucket/whichbucket/SplitMix64" "state" "J" (.long q1)
set_option maxRecDepth 65536 in
set_option maxHeartbeats 40000000 in
theorem rm5 (l : Launch) (Z : State) (a0 : Array Value) (hw : ∀ d ∈ tables_1, d.before a0 Z = true) (ws : List Jvm.Cond) (r0 : Addr) (q1 : Int64) (w : Int64) (h0 : Heap) (n0 : Nat) (Z0 : n0 ≤ h0.size) (E_r0 : Exa Z h0 r0 "com/example/which_bucket/whichbucket/SplitMix64") (F_state_r0 : Fld Z h0 r0 "com/example/which_bucket/whichbucket/SplitMix64" "state" "J" (.long w)) (g_r0 : n0 ≤ r0) :
    MetFree l (⟨"com/example/which_bucket/whichbucket/SplitMix64", "reset", "(J)V"⟩ : MethodName) (head1 (Jvm.Cond.code (⟨"com/example/which_bucket/whichbucket/SplitMix64", "reset", "(J)V"⟩ : MethodName) prog_3_method_2_code 3 none :: ws) ({ frames := 0, cells := 0, slots := 0, locals := 0 } : Room)) (fun a U => a = #[(.ref r0), (.long q1)] ∧ Z.Warmed39 U.vm ∧ U.heap = h0) (fun _ _ _ _ _ => True) (fun _ U o U' => ∃ v L, o = .returned v ∧ Q5 Z r0 q1 w h0 n0 v U'.heap L ∧ FrameEnd U o U' L ({ frames := 0, cells := 0, slots := 0, locals := 0 } : Room).cells ({ frames := 0, cells := 0, slots := 0, locals := 0 } : Room).slots) := by
  refine MetFree.of_bodySF (plainFor_of_name pn_5) hisR ?_
  intro p e s m args below meth c s₁ Bd hml0 hP hK
  obtain ⟨rfl, hZ, hh⟩ := hP
  have hx := Bd.exec
  have hby := Bd.bytes
  have hml : c.maxLocals = 3 := hml0
  have hown : s.vm.findClass "com/example/which_bucket/whichbucket/SplitMix64" = some m.cls := findClass_of_methodNamed Bd.named
  have hnm := (name_of_methodNamed Bd.named Bd.method).1
  have hlk : meth.locks = false := Bd.notSynchronized
  have X0 : Stand p l e ({ frames := 0, cells := 0, slots := 0, locals := 0 } : Room) s m #[(.ref r0), (.long q1)] below meth c s₁ [] 0 0 := Stand.of_body Bd
  have e0 : s₁.heap = h0 := by rw [← hh, Bd.state]; rfl
  have N0 := Fr.nil n0
  have KK0 := Keep.refl h0 [r0]
  show own_Go p.tables e below s 0 0 (Q5 Z r0 q1 w h0 n0) (s₁.setTop (entryFrame m #[(.ref r0), (.long q1)] 3))
  rw [ef_5]
  refine own_step (U' := s₁.setTop (mkF m 2 #[rv r0, .val (.long q1), .second] [(.long q1), (.ref r0)])) (fun t k => XS.aloadN X0.here hx rfl (hb hby d5_0) rfl rfl (XS.lloadN X0.here hx rfl (hb hby d5_1) rfl k)) ?_
  obtain ⟨T1, h1, X1, e1, W1, st1⟩ := putF X0 hx hZ hown (host := "") (Or.inl (own_w hw 14 rfl)) Via.refl e0 F_state_r0 E_r0 (Or.inl (own_w hw 15 rfl)) (own_w hw 1 rfl) (ty := .long) (by decide) rfl rfl (g := (mkF m 2 #[rv r0, .val (.long q1), .second] [(.long q1), (.ref r0)])) rfl rfl (hb hby d5_2)
  have E_r0_1 := E_r0.wr W1
  have F_state_r0_1 := F_state_r0.same W1
  have Z1 : n0 ≤ h1.size := Nat.le_trans Z0 (Keep.of_wr W1).1
  have KK1 := KK0.wr W1 (Or.inl (List.mem_of_getElem? (i := 0) rfl))
  have N1 := Fr.snoc X1 N0 g_r0
  refine own_step (U' := T1.setTop (mkF m 5 #[rv r0, .val (.long q1), .second] [])) st1 ?_
  exact own_out X1 (v := none) hlk (fun _ => rfl) (by rw [e1]; exact ⟨rfl, N1, KK1, E_r0_1, F_state_r0_1⟩) (by decide) (by decide) (fun fs hr => X1.returnOut hx Bd.returns (hb hby d5_5) hr)
theorem d6_0 : decode prog_3_method_4_code 0 = .ok (.lload_n 0, 1) := by decide +kernel
theorem d6_1 : decode prog_3_method_4_code 1 = .ok (.lload_n 2, 1) := by decide +kernel
theorem d6_2 : decode prog_3_method_4_code 2 = .ok (.ldc2_w 13, 3) := by decide +kernel
theorem d6_5 : decode prog_3_method_4_code 5 = .ok (.lmul, 1) := by decide +kernel
theorem d6_6 : decode prog_3_method_4_code 6 = .ok (.ladd, 1) := by decide +kernel
theorem d6_7 : decode prog_3_method_4_code 7 = .ok (.invokestatic 15, 3) := by decide +kernel
theorem d6_10 : decode prog_3_method_4_code 10 = .ok (.lreturn, 1) := by decide +kernel
theorem pn_6 : plainName "com/example/which_bucket/whichbucket/SplitMix64" = true := by first | (simp [plainName, overriddenIn]; done) | decide +kernel
theorem ef_6 (m : MethodId) (q0 : Int64) (q1 : Int64) : entryFrame m #[(.long q0), (.long q1)] 4 = mkF m 0 #[.val (.long q0), .second, .val (.long q1), .second] [] := by first | (simp [entryFrame, mkF, argsToLocals, Value.category]; done) | rfl
def F6 (q0 : Int64) (q1 : Int64) : Int64 :=
  (F4 (q0 + (q1 * (-7046029254386353131 : Int64))))
def Q6 (Z : State) (q0 : Int64) (q1 : Int64) (h0 : Heap) (n0 : Nat) (v : Option Value) (h : Heap) (L : List Loc) : Prop := v = some (.long (F6 q0 q1)) ∧ Fr n0 L ∧ h = h0
set_option maxRecDepth 65536 in
set_option maxHeartbeats 40000000 in
theorem rm6 (l : Launch) (Z : State) (a0 : Array Value) (hw : ∀ d ∈ tables_1, d.before a0 Z = true) (ws : List Jvm.Cond) (q0 : Int64) (q1 : Int64) (h0 : Heap) (n0 : Nat) (Z0 : n0 ≤ h0.size) :
    MetFree l (⟨"com/example/which_bucket/whichbucket/SplitMix64", "draw", "(JJ)J"⟩ : MethodName) (head1 (Jvm.Cond.code (⟨"com/example/which_bucket/whichbucket/SplitMix64", "draw", "(JJ)J"⟩ : MethodName) prog_3_method_4_code 4 (some .long) :: ws) ({ frames := 1, cells := 0, slots := 0, locals := 15 } : Room)) (fun a U => a = #[(.long q0), (.long q1)] ∧ Z.Warmed39 U.vm ∧ U.heap = h0) (fun _ _ _ _ _ => True) (fun _ U o U' => ∃ v L, o = .returned v ∧ Q6 Z q0 q1 h0 n0 v U'.heap L ∧ FrameEnd U o U' L ({ frames := 1, cells := 0, slots := 0, locals := 15 } : Room).cells ({ frames := 1, cells := 0, slots := 0, locals := 15 } : Room).slots) := by
  refine MetFree.of_bodySF (plainFor_of_name pn_6) hisR ?_
  intro p e s m args below meth c s₁ Bd hml0 hP hK
  obtain ⟨rfl, hZ, hh⟩ := hP
  have hx := Bd.exec
  have hby := Bd.bytes
  have hml : c.maxLocals = 4 := hml0
  have hown : s.vm.findClass "com/example/which_bucket/whichbucket/SplitMix64" = some m.cls := findClass_of_methodNamed Bd.named
  have hnm := (name_of_methodNamed Bd.named Bd.method).1
  have hlk : meth.locks = false := Bd.notSynchronized
  have X0 : Stand p l e ({ frames := 1, cells := 0, slots := 0, locals := 15 } : Room) s m #[(.long q0), (.long q1)] below meth c s₁ [] 0 0 := Stand.of_body Bd
  have e0 : s₁.heap = h0 := by rw [← hh, Bd.state]; rfl
  have N0 := Fr.nil n0
  have KK0 := Keep.refl h0 []
  show own_Go p.tables e below s 0 0 (Q6 Z q0 q1 h0 n0) (s₁.setTop (entryFrame m #[(.long q0), (.long q1)] 4))
  rw [ef_6]
  refine own_step (U' := s₁.setTop (mkF m 7 #[.val (.long q0), .second, .val (.long q1), .second] [(.long (q0 + (q1 * (-7046029254386353131 : Int64))))])) (fun t k => XS.lloadN X0.here hx rfl (hb hby d6_0) rfl (XS.lloadN X0.here hx rfl (hb hby d6_1) rfl (X0.ldc2Long hx hown (mvT hZ (own_w hw 16 rfl)) (g := (mkF m 2 #[.val (.long q0), .second, .val (.long q1), .second] [(.long q1), (.long q0)])) rfl (hb hby d6_2) t (XS.lmul X0.here hx rfl (hb hby d6_5) rfl (XS.ladd X0.here hx rfl (hb hby d6_6) rfl k))))) ?_
  obtain ⟨_, _, ⟨T1, L1, k1, n1⟩, -, X1, ⟨Lc1, hQ1, l1, y1, z1⟩, st1⟩ := Jvm.LawKit.callS X0 hx (y := (⟨"com/example/which_bucket/whichbucket/SplitMix64", "mix", "(J)J"⟩ : MethodName)) hown (mvT hZ (own_w hw 17 rfl)) (mvT hZ (own_w hw 18 rfl)) (mvT hZ (own_w hw 2 rfl)) (mvT hZ (own_w hw 19 rfl)) (by decide) (backOf (W := 0) (rm4 l Z a0 hw [] (q0 + (q1 * (-7046029254386353131 : Int64))) h0 n0 Z0) hZ (own_w hw 19 rfl) (own_w hw 2 rfl) (by decide) (by decide)) (g := (mkF m 7 #[.val (.long q0), .second, .val (.long q1), .second] [(.long (q0 + (q1 * (-7046029254386353131 : Int64))))])) rfl (by rw [hml]; rfl) (argsL := [(.long (q0 + (q1 * (-7046029254386353131 : Int64))))]) (rest := []) (lenOf pd__J_J rfl) rfl (by show 2 * 0 + _ ≤ _; exact Nat.le_of_eq rfl) (hb hby d6_7) (fun _ _ => ⟨rfl, e0, (by decide : 0 + 0 ≤ _), (by decide : 0 + 0 ≤ _)⟩)
  dsimp only [Pt.U, Pt.locs, Pt.cells, Pt.slots] at X1 l1 y1 z1 st1 hQ1
  subst l1 y1 z1
  obtain ⟨rfl, N1q, eq1⟩ := hQ1
  have N1 := Fr.app N0 N1q
  refine own_step (U' := T1.setTop (mkF m 10 #[.val (.long q0), .second, .val (.long q1), .second] [(.long (F4 (q0 + (q1 * (-7046029254386353131 : Int64)))))])) st1 ?_
  exact own_out X1 (v := (some (.long (F4 (q0 + (q1 * (-7046029254386353131 : Int64))))))) hlk (own_nv Bd.returns) (by rw [eq1]; exact ⟨by rw [show (F6 q0 q1) = (F4 (q0 + (q1 * (-7046029254386353131 : Int64)))) from (by simp only [F6])], N1, rfl⟩) (by decide) (by decide) (fun fs hr => X1.lreturnOut hx Bd.returns (hb hby d6_10) hr)

theorem own_k1 : F3 (0 : Int64) = (-2152535657050944081 : Int64) := by decide +kernel
theorem own_k2 : F3 ((0 : Int64) + (-7046029254386353131 : Int64)) = (7960286522194355700 : Int64) := by decide +kernel
theorem own_x1 (s : Int64) : F3 s = F6 s (1 : Int64) := by
  simp only [F3, F6, Int64.one_mul]
theorem own_x2 (s : Int64) : F3 (s + (-7046029254386353131 : Int64)) = F6 s (2 : Int64) := by
  simp only [F3, F6]
  have e : (2 : Int64) * (-7046029254386353131 : Int64) = (-7046029254386353131 : Int64) + (-7046029254386353131 : Int64) := by decide +kernel
  rw [e, Int64.add_assoc]

theorem pn_0 : plainName "com/example/which_bucket/whichbucket/SplitMix64NextLongPinLaw" = true := by first | (simp [plainName, overriddenIn]; done) | decide +kernel
theorem ef_0 (m : MethodId) (q0 : Int64) : entryFrame m #[(.long q0)] maxLocals = mkF m 0 #[.val (.long q0), .second, .unset, .unset, .unset, .unset, .unset, .unset, .unset, .unset, .unset, .unset, .unset] [] := by first | (simp [entryFrame, mkF, argsToLocals, Value.category, maxLocals]; done) | rfl
def Q0 (Z : State) (q0 : Int64) (h0 : Heap) (n0 : Nat) (v : Option Value) (h : Heap) (L : List Loc) : Prop := v = some (.int 1) ∧ Fr n0 L
set_option maxRecDepth 65536 in
set_option maxHeartbeats 40000000 in
theorem rm0 (l : Launch) (Z : State) (a0 : Array Value) (hw : ∀ d ∈ tables_1, d.before a0 Z = true) (ws : List Jvm.Cond) (q0 : Int64) (h0 : Heap) (n0 : Nat) (Z0 : n0 ≤ h0.size) :
    MetFree l x (head1 (Jvm.Cond.code x code maxLocals ret :: ws) room_1) (fun a U => a = #[(.long q0)] ∧ Z.Warmed39 U.vm ∧ U.heap = h0) (fun _ _ _ _ _ => True) (fun _ U o U' => ∃ v L, o = .returned v ∧ Q0 Z q0 h0 n0 v U'.heap L ∧ FrameEnd U o U' L 16 128) := by
  refine MetFree.of_bodySF (plainFor_of_name pn_0) hisR ?_
  intro p e s m args below meth c s₁ Bd hml0 hP hK
  obtain ⟨rfl, hZ, hh⟩ := hP
  have hx := Bd.exec
  have hby := Bd.bytes
  have hml : c.maxLocals = 13 := hml0
  have hown : s.vm.findClass "com/example/which_bucket/whichbucket/SplitMix64NextLongPinLaw" = some m.cls := findClass_of_methodNamed Bd.named
  have hnm := (name_of_methodNamed Bd.named Bd.method).1
  have hlk : meth.locks = false := Bd.notSynchronized
  have X0 : Stand p l e room_1 s m #[(.long q0)] below meth c s₁ [] 0 0 := Stand.of_body Bd
  have e0 : s₁.heap = h0 := by rw [← hh, Bd.state]; rfl
  have N0 := Fr.nil n0
  have KK0 := Keep.refl h0 []
  show own_Go p.tables e below s 16 128 (Q0 Z q0 h0 n0) (s₁.setTop (entryFrame m #[(.long q0)] maxLocals))
  rw [ef_0]
  obtain ⟨T1, h1, X1, e1, E1, A1, D1, -, st1⟩ := newO X0 hx hZ hown (own_w hw 0 rfl) (own_w hw 1 rfl) (own_w hw 2 rfl) e0 (g := (mkF m 0 #[.val (.long q0), .second, .unset, .unset, .unset, .unset, .unset, .unset, .unset, .unset, .unset, .unset, .unset] [])) rfl (hb hby at_0) (by decide) (by decide)
  obtain ⟨b1, g1⟩ : ∃ z, z = h0.size := ⟨_, rfl⟩
  have ge_b1 : n0 ≤ b1 := Nat.le_trans Z0 (Nat.le_of_eq g1.symm)
  have sz_b1 : h0.size ≤ b1 := Nat.le_trans KK0.1 (Nat.le_of_eq g1.symm)
  rw [← g1] at A1 D1 st1
  have F_state_b1 : Fld Z h1 b1 "com/example/which_bucket/whichbucket/SplitMix64" "state" "J" (.long (0 : Int64)) := D1 (Or.inl (own_w hw 15 rfl)) (ty := .long) (by decide)
  have Z1 : n0 ≤ h1.size := Nat.le_trans Z0 E1.1
  have KK1 := KK0.ext E1
  refine own_step (U' := T1.setTop (mkF m 3 #[.val (.long q0), .second, .unset, .unset, .unset, .unset, .unset, .unset, .unset, .unset, .unset, .unset, .unset] [(.ref b1)])) st1 ?_
  refine own_step (U' := T1.setTop (mkF m 4 #[.val (.long q0), .second, .unset, .unset, .unset, .unset, .unset, .unset, .unset, .unset, .unset, .unset, .unset] [(.ref b1), (.ref b1)])) (fun t k => XS.dup X1.here hx rfl (hb hby at_3) rfl rfl k) ?_
  obtain ⟨_, _, ⟨T2, L2, k2, n2⟩, -, X2, ⟨Lc2, hQ2, l2, y2, z2⟩, st2⟩ := X1.specialBack hx (y := (⟨"com/example/which_bucket/whichbucket/SplitMix64", "<init>", "()V"⟩ : MethodName)) rfl hown (mvT hZ (own_w hw 3 rfl)) (mvT hZ (own_w hw 4 rfl)) (mvT hZ (own_w hw 5 rfl)) (by decide) (backOf (W := 1) (rm1 l Z a0 hw [] b1 h1 n0 Z1) hZ (own_w hw 5 rfl) (own_w hw 2 rfl) (by decide) (by decide)) (g := (mkF m 4 #[.val (.long q0), .second, .unset, .unset, .unset, .unset, .unset, .unset, .unset, .unset, .unset, .unset, .unset] [(.ref b1), (.ref b1)])) rfl (by rw [hml]; rfl) (Steps.refl _) (a := b1) (argsL := []) (rest := [(.ref b1)]) (lenOf pd___V rfl) rfl (by show 2 * 0 + _ ≤ _; exact Nat.le_of_eq rfl) (hb hby at_4) (fun _ _ => ⟨rfl, e1, (by decide : 1 + 0 ≤ _), (by decide : 1 + 0 ≤ _)⟩)
  dsimp only [Pt.U, Pt.locs, Pt.cells, Pt.slots] at X2 l2 y2 z2 st2 hQ2
  subst l2 y2 z2
  obtain ⟨rfl, N2q, eq2⟩ := hQ2
  have N2 := Fr.app N0 N2q
  refine own_steps (U' := T2.setTop (mkF m 7 #[.val (.long q0), .second, .unset, .unset, .unset, .unset, .unset, .unset, .unset, .unset, .unset, .unset, .unset] [(.ref b1)])) st2 ?_
  refine own_step (U' := T2.setTop (mkF m 9 #[.val (.long q0), .second, rv b1, .unset, .unset, .unset, .unset, .unset, .unset, .unset, .unset, .unset, .unset] [(.ref b1)])) (fun t k => XS.astoreN X2.here hx rfl (hb hby at_7) rfl rfl (l' := #[.val (.long q0), .second, rv b1, .unset, .unset, .unset, .unset, .unset, .unset, .unset, .unset, .unset, .unset]) rfl (XS.aloadN X2.here hx rfl (hb hby at_8) rfl rfl k)) ?_
  obtain ⟨cq3, kq3, qa3, qb3, qc3⟩ := isOf hZ eq2 A1
  obtain ⟨_, _, ⟨T3, L3, k3, n3⟩, -, X3, ⟨Lc3, hQ3, l3, y3, z3⟩, st3⟩ := X2.virtualBack hx (y := (⟨"com/example/which_bucket/whichbucket/SplitMix64", "nextLong", "()J"⟩ : MethodName)) (z := (⟨"com/example/which_bucket/whichbucket/SplitMix64", "nextLong", "()J"⟩ : MethodName)) hown (mvT hZ (own_w hw 9 rfl)) (mvT hZ (own_w hw 10 rfl)) (notFace_of_selects (args := #[]) (mvT hZ (own_w hw 12 rfl))) (mvT hZ (own_w hw 12 rfl)) (mvT hZ (own_w hw 11 rfl)) (by decide) (backOf (W := 0) (rm3 l Z a0 hw [] b1 (0 : Int64) h1 n0 Z1 A1 F_state_b1 ge_b1) hZ (own_w hw 13 rfl) (own_w hw 2 rfl) (by decide) (by decide)) qa3 qc3 (g := (mkF m 9 #[.val (.long q0), .second, rv b1, .unset, .unset, .unset, .unset, .unset, .unset, .unset, .unset, .unset, .unset] [(.ref b1)])) rfl (by rw [hml]; rfl) (Steps.refl _) (argsL := []) (rest := []) (lenOf pd___J rfl) rfl (by show 2 * 0 + _ ≤ _; exact Nat.le_of_eq rfl) (hb hby at_9) (fun _ _ => ⟨rfl, eq2, (by decide : 1 + 0 ≤ _), (by decide : 1 + 0 ≤ _)⟩)
  dsimp only [Pt.U, Pt.locs, Pt.cells, Pt.slots] at X3 l3 y3 z3 st3 hQ3
  subst l3 y3 z3
  obtain ⟨rfl, N3q, K3q, Ea3_b1, Fa3_state_b1⟩ := hQ3
  have N3 := Fr.app N2 N3q
  have A1_3 := A1.keep K3q
  have Z3 : n0 ≤ T3.heap.size := Nat.le_trans Z1 K3q.1
  have KK3 := KK1.trans K3q (allS (Or.inr sz_b1) all0)
  refine own_steps (U' := T3.setTop (mkF m 12 #[.val (.long q0), .second, rv b1, .unset, .unset, .unset, .unset, .unset, .unset, .unset, .unset, .unset, .unset] [(.long (F3 (0 : Int64)))])) st3 ?_
  refine own_step (U' := T3.setTop (mkF m 14 #[.val (.long q0), .second, rv b1, .val (.long (F3 (0 : Int64))), .second, .unset, .unset, .unset, .unset, .unset, .unset, .unset, .unset] [(.ref b1)])) (fun t k => XS.lstoreN X3.here hx rfl (hb hby at_12) rfl (l' := #[.val (.long q0), .second, rv b1, .val (.long (F3 (0 : Int64))), .second, .unset, .unset, .unset, .unset, .unset, .unset, .unset, .unset]) rfl (XS.aloadN X3.here hx rfl (hb hby at_13) rfl rfl k)) ?_
  obtain ⟨cq4, kq4, qa4, qb4, qc4⟩ := isOf hZ rfl Ea3_b1
  obtain ⟨_, _, ⟨T4, L4, k4, n4⟩, -, X4, ⟨Lc4, hQ4, l4, y4, z4⟩, st4⟩ := X3.virtualBack hx (y := (⟨"com/example/which_bucket/whichbucket/SplitMix64", "nextLong", "()J"⟩ : MethodName)) (z := (⟨"com/example/which_bucket/whichbucket/SplitMix64", "nextLong", "()J"⟩ : MethodName)) hown (mvT hZ (own_w hw 9 rfl)) (mvT hZ (own_w hw 10 rfl)) (notFace_of_selects (args := #[]) (mvT hZ (own_w hw 12 rfl))) (mvT hZ (own_w hw 12 rfl)) (mvT hZ (own_w hw 11 rfl)) (by decide) (backOf (W := 0) (rm3 l Z a0 hw [] b1 ((0 : Int64) + (-7046029254386353131 : Int64)) T3.heap n0 Z3 Ea3_b1 Fa3_state_b1 ge_b1) hZ (own_w hw 13 rfl) (own_w hw 2 rfl) (by decide) (by decide)) qa4 qc4 (g := (mkF m 14 #[.val (.long q0), .second, rv b1, .val (.long (F3 (0 : Int64))), .second, .unset, .unset, .unset, .unset, .unset, .unset, .unset, .unset] [(.ref b1)])) rfl (by rw [hml]; rfl) (Steps.refl _) (argsL := []) (rest := []) (lenOf pd___J rfl) rfl (by show 2 * 0 + _ ≤ _; exact Nat.le_of_eq rfl) (hb hby at_14) (fun _ _ => ⟨rfl, rfl, (by decide : 1 + 0 ≤ _), (by decide : 1 + 0 ≤ _)⟩)
  dsimp only [Pt.U, Pt.locs, Pt.cells, Pt.slots] at X4 l4 y4 z4 st4 hQ4
  subst l4 y4 z4
  obtain ⟨rfl, N4q, K4q, Ea4_b1, Fa4_state_b1⟩ := hQ4
  have N4 := Fr.app N3 N4q
  have Ea3_b1_4 := Ea3_b1.keep K4q
  have Z4 : n0 ≤ T4.heap.size := Nat.le_trans Z3 K4q.1
  have KK4 := KK3.trans K4q (allS (Or.inr sz_b1) all0)
  refine own_steps (U' := T4.setTop (mkF m 17 #[.val (.long q0), .second, rv b1, .val (.long (F3 (0 : Int64))), .second, .unset, .unset, .unset, .unset, .unset, .unset, .unset, .unset] [(.long (F3 ((0 : Int64) + (-7046029254386353131 : Int64))))])) st4 ?_
  refine own_step (U' := T4.setTop (mkF m 33 #[.val (.long q0), .second, rv b1, .val (.long (F3 (0 : Int64))), .second, .val (.long (F3 ((0 : Int64) + (-7046029254386353131 : Int64)))), .second, .unset, .unset, .unset, .unset, .unset, .unset] [(.int (lcmpW (F3 ((0 : Int64) + (-7046029254386353131 : Int64))) (7960286522194355700 : Int64)))])) (fun t k => XS.lstore X4.here hx rfl (hb hby at_17) rfl (l' := #[.val (.long q0), .second, rv b1, .val (.long (F3 (0 : Int64))), .second, .val (.long (F3 ((0 : Int64) + (-7046029254386353131 : Int64)))), .second, .unset, .unset, .unset, .unset, .unset, .unset]) rfl (XS.lloadN X4.here hx rfl (hb hby at_19) rfl (X4.ldc2Long hx hown (mvT hZ (own_w hw 22 rfl)) (g := (mkF m 20 #[.val (.long q0), .second, rv b1, .val (.long (F3 (0 : Int64))), .second, .val (.long (F3 ((0 : Int64) + (-7046029254386353131 : Int64)))), .second, .unset, .unset, .unset, .unset, .unset, .unset] [(.long (F3 (0 : Int64)))])) rfl (hb hby at_20) t (XS.lcmp X4.here hx rfl (hb hby at_23) rfl (XS.ifNo X4.here hx rfl (hb hby at_24) rfl ((if0 _ _).trans (teq ((lw_eq (F3 (0 : Int64)) (-2152535657050944081 : Int64)).mpr own_k1)).2) (XS.lload X4.here hx rfl (hb hby at_27) rfl (X4.ldc2Long hx hown (mvT hZ (own_w hw 23 rfl)) (g := (mkF m 29 #[.val (.long q0), .second, rv b1, .val (.long (F3 (0 : Int64))), .second, .val (.long (F3 ((0 : Int64) + (-7046029254386353131 : Int64)))), .second, .unset, .unset, .unset, .unset, .unset, .unset] [(.long (F3 ((0 : Int64) + (-7046029254386353131 : Int64))))])) rfl (hb hby at_29) t (XS.lcmp X4.here hx rfl (hb hby at_32) rfl k)))))))) ?_
  refine own_step (U' := T4.setTop (mkF m 45 #[.val (.long q0), .second, rv b1, .val (.long (F3 (0 : Int64))), .second, .val (.long (F3 ((0 : Int64) + (-7046029254386353131 : Int64)))), .second, iv (1 : Int32), .unset, .unset, .unset, .unset, .unset] [(.long q0), (.ref b1)])) (fun t k => XS.ifNo X4.here hx rfl (hb hby at_33) rfl ((if0 _ _).trans (teq ((lw_eq (F3 ((0 : Int64) + (-7046029254386353131 : Int64))) (7960286522194355700 : Int64)).mpr own_k2)).2) (XS.iconst X4.here hx rfl (hb hby at_36) (XS.goto X4.here hx rfl (pc0 := 37) (pc' := 41) rfl (hb hby at_37) (by decide) (by decide) (XS.istore X4.here hx rfl (hb hby at_41) rfl (l' := #[.val (.long q0), .second, rv b1, .val (.long (F3 (0 : Int64))), .second, .val (.long (F3 ((0 : Int64) + (-7046029254386353131 : Int64)))), .second, iv (1 : Int32), .unset, .unset, .unset, .unset, .unset]) rfl (XS.aloadN X4.here hx rfl (hb hby at_43) rfl rfl (XS.lloadN X4.here hx rfl (hb hby at_44) rfl k)))))) ?_
  obtain ⟨cq5, kq5, qa5, qb5, qc5⟩ := isOf hZ rfl Ea4_b1
  obtain ⟨_, _, ⟨T5, L5, k5, n5⟩, -, X5, ⟨Lc5, hQ5, l5, y5, z5⟩, st5⟩ := X4.virtualBack hx (y := (⟨"com/example/which_bucket/whichbucket/SplitMix64", "reset", "(J)V"⟩ : MethodName)) (z := (⟨"com/example/which_bucket/whichbucket/SplitMix64", "reset", "(J)V"⟩ : MethodName)) hown (mvT hZ (own_w hw 24 rfl)) (mvT hZ (own_w hw 25 rfl)) (notFace_of_selects (args := #[]) (mvT hZ (own_w hw 27 rfl))) (mvT hZ (own_w hw 27 rfl)) (mvT hZ (own_w hw 26 rfl)) (by decide) (backOf (W := 0) (rm5 l Z a0 hw [] b1 q0 (((0 : Int64) + (-7046029254386353131 : Int64)) + (-7046029254386353131 : Int64)) T4.heap n0 Z4 Ea4_b1 Fa4_state_b1 ge_b1) hZ (own_w hw 28 rfl) (own_w hw 2 rfl) (by decide) (by decide)) qa5 qc5 (g := (mkF m 45 #[.val (.long q0), .second, rv b1, .val (.long (F3 (0 : Int64))), .second, .val (.long (F3 ((0 : Int64) + (-7046029254386353131 : Int64)))), .second, iv (1 : Int32), .unset, .unset, .unset, .unset, .unset] [(.long q0), (.ref b1)])) rfl (by rw [hml]; rfl) (Steps.refl _) (argsL := [(.long q0)]) (rest := []) (lenOf pd__J_V rfl) rfl (by show 2 * 0 + _ ≤ _; exact Nat.le_of_eq rfl) (hb hby at_45) (fun _ _ => ⟨rfl, rfl, (by decide : 1 + 0 ≤ _), (by decide : 1 + 0 ≤ _)⟩)
  dsimp only [Pt.U, Pt.locs, Pt.cells, Pt.slots] at X5 l5 y5 z5 st5 hQ5
  subst l5 y5 z5
  obtain ⟨rfl, N5q, K5q, Ea5_b1, Fa5_state_b1⟩ := hQ5
  have N5 := Fr.app N4 N5q
  have Ea4_b1_5 := Ea4_b1.keep K5q
  have Z5 : n0 ≤ T5.heap.size := Nat.le_trans Z4 K5q.1
  have KK5 := KK4.trans K5q (allS (Or.inr sz_b1) all0)
  refine own_steps (U' := T5.setTop (mkF m 48 #[.val (.long q0), .second, rv b1, .val (.long (F3 (0 : Int64))), .second, .val (.long (F3 ((0 : Int64) + (-7046029254386353131 : Int64)))), .second, iv (1 : Int32), .unset, .unset, .unset, .unset, .unset] [])) st5 ?_
  refine own_step (U' := T5.setTop (mkF m 49 #[.val (.long q0), .second, rv b1, .val (.long (F3 (0 : Int64))), .second, .val (.long (F3 ((0 : Int64) + (-7046029254386353131 : Int64)))), .second, iv (1 : Int32), .unset, .unset, .unset, .unset, .unset] [(.ref b1)])) (fun t k => XS.aloadN X5.here hx rfl (hb hby at_48) rfl rfl k) ?_
  obtain ⟨cq6, kq6, qa6, qb6, qc6⟩ := isOf hZ rfl Ea5_b1
  obtain ⟨_, _, ⟨T6, L6, k6, n6⟩, -, X6, ⟨Lc6, hQ6, l6, y6, z6⟩, st6⟩ := X5.virtualBack hx (y := (⟨"com/example/which_bucket/whichbucket/SplitMix64", "nextLong", "()J"⟩ : MethodName)) (z := (⟨"com/example/which_bucket/whichbucket/SplitMix64", "nextLong", "()J"⟩ : MethodName)) hown (mvT hZ (own_w hw 9 rfl)) (mvT hZ (own_w hw 10 rfl)) (notFace_of_selects (args := #[]) (mvT hZ (own_w hw 12 rfl))) (mvT hZ (own_w hw 12 rfl)) (mvT hZ (own_w hw 11 rfl)) (by decide) (backOf (W := 0) (rm3 l Z a0 hw [] b1 q0 T5.heap n0 Z5 Ea5_b1 Fa5_state_b1 ge_b1) hZ (own_w hw 13 rfl) (own_w hw 2 rfl) (by decide) (by decide)) qa6 qc6 (g := (mkF m 49 #[.val (.long q0), .second, rv b1, .val (.long (F3 (0 : Int64))), .second, .val (.long (F3 ((0 : Int64) + (-7046029254386353131 : Int64)))), .second, iv (1 : Int32), .unset, .unset, .unset, .unset, .unset] [(.ref b1)])) rfl (by rw [hml]; rfl) (Steps.refl _) (argsL := []) (rest := []) (lenOf pd___J rfl) rfl (by show 2 * 0 + _ ≤ _; exact Nat.le_of_eq rfl) (hb hby at_49) (fun _ _ => ⟨rfl, rfl, (by decide : 1 + 0 ≤ _), (by decide : 1 + 0 ≤ _)⟩)
  dsimp only [Pt.U, Pt.locs, Pt.cells, Pt.slots] at X6 l6 y6 z6 st6 hQ6
  subst l6 y6 z6
  obtain ⟨rfl, N6q, K6q, Ea6_b1, Fa6_state_b1⟩ := hQ6
  have N6 := Fr.app N5 N6q
  have Ea5_b1_6 := Ea5_b1.keep K6q
  have Z6 : n0 ≤ T6.heap.size := Nat.le_trans Z5 K6q.1
  have KK6 := KK5.trans K6q (allS (Or.inr sz_b1) all0)
  refine own_steps (U' := T6.setTop (mkF m 52 #[.val (.long q0), .second, rv b1, .val (.long (F3 (0 : Int64))), .second, .val (.long (F3 ((0 : Int64) + (-7046029254386353131 : Int64)))), .second, iv (1 : Int32), .unset, .unset, .unset, .unset, .unset] [(.long (F3 q0))])) st6 ?_
  refine own_step (U' := T6.setTop (mkF m 55 #[.val (.long q0), .second, rv b1, .val (.long (F3 (0 : Int64))), .second, .val (.long (F3 ((0 : Int64) + (-7046029254386353131 : Int64)))), .second, iv (1 : Int32), .val (.long (F3 q0)), .second, .unset, .unset, .unset] [(.ref b1)])) (fun t k => XS.lstore X6.here hx rfl (hb hby at_52) rfl (l' := #[.val (.long q0), .second, rv b1, .val (.long (F3 (0 : Int64))), .second, .val (.long (F3 ((0 : Int64) + (-7046029254386353131 : Int64)))), .second, iv (1 : Int32), .val (.long (F3 q0)), .second, .unset, .unset, .unset]) rfl (XS.aloadN X6.here hx rfl (hb hby at_54) rfl rfl k)) ?_
  obtain ⟨cq7, kq7, qa7, qb7, qc7⟩ := isOf hZ rfl Ea6_b1
  obtain ⟨_, _, ⟨T7, L7, k7, n7⟩, -, X7, ⟨Lc7, hQ7, l7, y7, z7⟩, st7⟩ := X6.virtualBack hx (y := (⟨"com/example/which_bucket/whichbucket/SplitMix64", "nextLong", "()J"⟩ : MethodName)) (z := (⟨"com/example/which_bucket/whichbucket/SplitMix64", "nextLong", "()J"⟩ : MethodName)) hown (mvT hZ (own_w hw 9 rfl)) (mvT hZ (own_w hw 10 rfl)) (notFace_of_selects (args := #[]) (mvT hZ (own_w hw 12 rfl))) (mvT hZ (own_w hw 12 rfl)) (mvT hZ (own_w hw 11 rfl)) (by decide) (backOf (W := 0) (rm3 l Z a0 hw [] b1 (q0 + (-7046029254386353131 : Int64)) T6.heap n0 Z6 Ea6_b1 Fa6_state_b1 ge_b1) hZ (own_w hw 13 rfl) (own_w hw 2 rfl) (by decide) (by decide)) qa7 qc7 (g := (mkF m 55 #[.val (.long q0), .second, rv b1, .val (.long (F3 (0 : Int64))), .second, .val (.long (F3 ((0 : Int64) + (-7046029254386353131 : Int64)))), .second, iv (1 : Int32), .val (.long (F3 q0)), .second, .unset, .unset, .unset] [(.ref b1)])) rfl (by rw [hml]; rfl) (Steps.refl _) (argsL := []) (rest := []) (lenOf pd___J rfl) rfl (by show 2 * 0 + _ ≤ _; exact Nat.le_of_eq rfl) (hb hby at_55) (fun _ _ => ⟨rfl, rfl, (by decide : 1 + 0 ≤ _), (by decide : 1 + 0 ≤ _)⟩)
  dsimp only [Pt.U, Pt.locs, Pt.cells, Pt.slots] at X7 l7 y7 z7 st7 hQ7
  subst l7 y7 z7
  obtain ⟨rfl, N7q, K7q, Ea7_b1, Fa7_state_b1⟩ := hQ7
  have N7 := Fr.app N6 N7q
  have Ea6_b1_7 := Ea6_b1.keep K7q
  have Z7 : n0 ≤ T7.heap.size := Nat.le_trans Z6 K7q.1
  have KK7 := KK6.trans K7q (allS (Or.inr sz_b1) all0)
  refine own_steps (U' := T7.setTop (mkF m 58 #[.val (.long q0), .second, rv b1, .val (.long (F3 (0 : Int64))), .second, .val (.long (F3 ((0 : Int64) + (-7046029254386353131 : Int64)))), .second, iv (1 : Int32), .val (.long (F3 q0)), .second, .unset, .unset, .unset] [(.long (F3 (q0 + (-7046029254386353131 : Int64))))])) st7 ?_
  refine own_step (U' := T7.setTop (mkF m 64 #[.val (.long q0), .second, rv b1, .val (.long (F3 (0 : Int64))), .second, .val (.long (F3 ((0 : Int64) + (-7046029254386353131 : Int64)))), .second, iv (1 : Int32), .val (.long (F3 q0)), .second, .val (.long (F3 (q0 + (-7046029254386353131 : Int64)))), .second, .unset] [(.long (1 : Int64)), (.long q0), (.long (F3 q0))])) (fun t k => XS.lstore X7.here hx rfl (hb hby at_58) rfl (l' := #[.val (.long q0), .second, rv b1, .val (.long (F3 (0 : Int64))), .second, .val (.long (F3 ((0 : Int64) + (-7046029254386353131 : Int64)))), .second, iv (1 : Int32), .val (.long (F3 q0)), .second, .val (.long (F3 (q0 + (-7046029254386353131 : Int64)))), .second, .unset]) rfl (XS.lload X7.here hx rfl (hb hby at_60) rfl (XS.lloadN X7.here hx rfl (hb hby at_62) rfl (XS.lconst X7.here hx rfl (hb hby at_63) k)))) ?_
  obtain ⟨_, _, ⟨T8, L8, k8, n8⟩, -, X8, ⟨Lc8, hQ8, l8, y8, z8⟩, st8⟩ := Jvm.LawKit.callS X7 hx (y := (⟨"com/example/which_bucket/whichbucket/SplitMix64", "draw", "(JJ)J"⟩ : MethodName)) hown (mvT hZ (own_w hw 29 rfl)) (mvT hZ (own_w hw 30 rfl)) (mvT hZ (own_w hw 2 rfl)) (mvT hZ (own_w hw 31 rfl)) (by decide) (backOf (W := 2) (rm6 l Z a0 hw [] q0 (1 : Int64) T7.heap n0 Z7) hZ (own_w hw 31 rfl) (own_w hw 2 rfl) (by decide) (by decide)) (g := (mkF m 64 #[.val (.long q0), .second, rv b1, .val (.long (F3 (0 : Int64))), .second, .val (.long (F3 ((0 : Int64) + (-7046029254386353131 : Int64)))), .second, iv (1 : Int32), .val (.long (F3 q0)), .second, .val (.long (F3 (q0 + (-7046029254386353131 : Int64)))), .second, .unset] [(.long (1 : Int64)), (.long q0), (.long (F3 q0))])) rfl (by rw [hml]; rfl) (argsL := [(.long q0), (.long (1 : Int64))]) (rest := [(.long (F3 q0))]) (lenOf pd__JJ_J rfl) rfl (by show 2 * 0 + _ ≤ _; exact Nat.le_of_eq rfl) (hb hby at_64) (fun _ _ => ⟨rfl, rfl, (by decide : 1 + 0 ≤ _), (by decide : 1 + 0 ≤ _)⟩)
  dsimp only [Pt.U, Pt.locs, Pt.cells, Pt.slots] at X8 l8 y8 z8 st8 hQ8
  subst l8 y8 z8
  obtain ⟨rfl, N8q, eq8⟩ := hQ8
  have N8 := Fr.app N7 N8q
  refine own_step (U' := T8.setTop (mkF m 67 #[.val (.long q0), .second, rv b1, .val (.long (F3 (0 : Int64))), .second, .val (.long (F3 ((0 : Int64) + (-7046029254386353131 : Int64)))), .second, iv (1 : Int32), .val (.long (F3 q0)), .second, .val (.long (F3 (q0 + (-7046029254386353131 : Int64)))), .second, .unset] [(.long (F6 q0 (1 : Int64))), (.long (F3 q0))])) st8 ?_
  refine own_step (U' := T8.setTop (mkF m 77 #[.val (.long q0), .second, rv b1, .val (.long (F3 (0 : Int64))), .second, .val (.long (F3 ((0 : Int64) + (-7046029254386353131 : Int64)))), .second, iv (1 : Int32), .val (.long (F3 q0)), .second, .val (.long (F3 (q0 + (-7046029254386353131 : Int64)))), .second, .unset] [(.long (2 : Int64)), (.long q0), (.long (F3 (q0 + (-7046029254386353131 : Int64))))])) (fun t k => XS.lcmp X8.here hx rfl (hb hby at_67) rfl (XS.ifNo X8.here hx rfl (hb hby at_68) rfl ((if0 _ _).trans (teq ((lw_eq (F3 q0) (F6 q0 (1 : Int64))).mpr (own_x1 q0))).2) (XS.lload X8.here hx rfl (hb hby at_71) rfl (XS.lloadN X8.here hx rfl (hb hby at_73) rfl (X8.ldc2Long hx hown (mvT hZ (own_w hw 32 rfl)) (g := (mkF m 74 #[.val (.long q0), .second, rv b1, .val (.long (F3 (0 : Int64))), .second, .val (.long (F3 ((0 : Int64) + (-7046029254386353131 : Int64)))), .second, iv (1 : Int32), .val (.long (F3 q0)), .second, .val (.long (F3 (q0 + (-7046029254386353131 : Int64)))), .second, .unset] [(.long q0), (.long (F3 (q0 + (-7046029254386353131 : Int64))))])) rfl (hb hby at_74) t k))))) ?_
  obtain ⟨_, _, ⟨T9, L9, k9, n9⟩, -, X9, ⟨Lc9, hQ9, l9, y9, z9⟩, st9⟩ := Jvm.LawKit.callS X8 hx (y := (⟨"com/example/which_bucket/whichbucket/SplitMix64", "draw", "(JJ)J"⟩ : MethodName)) hown (mvT hZ (own_w hw 29 rfl)) (mvT hZ (own_w hw 30 rfl)) (mvT hZ (own_w hw 2 rfl)) (mvT hZ (own_w hw 31 rfl)) (by decide) (backOf (W := 2) (rm6 l Z a0 hw [] q0 (2 : Int64) T7.heap n0 Z7) hZ (own_w hw 31 rfl) (own_w hw 2 rfl) (by decide) (by decide)) (g := (mkF m 77 #[.val (.long q0), .second, rv b1, .val (.long (F3 (0 : Int64))), .second, .val (.long (F3 ((0 : Int64) + (-7046029254386353131 : Int64)))), .second, iv (1 : Int32), .val (.long (F3 q0)), .second, .val (.long (F3 (q0 + (-7046029254386353131 : Int64)))), .second, .unset] [(.long (2 : Int64)), (.long q0), (.long (F3 (q0 + (-7046029254386353131 : Int64))))])) rfl (by rw [hml]; rfl) (argsL := [(.long q0), (.long (2 : Int64))]) (rest := [(.long (F3 (q0 + (-7046029254386353131 : Int64))))]) (lenOf pd__JJ_J rfl) rfl (by show 2 * 0 + _ ≤ _; exact Nat.le_of_eq rfl) (hb hby at_77) (fun _ _ => ⟨rfl, eq8, (by decide : 1 + 0 ≤ _), (by decide : 1 + 0 ≤ _)⟩)
  dsimp only [Pt.U, Pt.locs, Pt.cells, Pt.slots] at X9 l9 y9 z9 st9 hQ9
  subst l9 y9 z9
  obtain ⟨rfl, N9q, eq9⟩ := hQ9
  have N9 := Fr.app N8 N9q
  refine own_step (U' := T9.setTop (mkF m 80 #[.val (.long q0), .second, rv b1, .val (.long (F3 (0 : Int64))), .second, .val (.long (F3 ((0 : Int64) + (-7046029254386353131 : Int64)))), .second, iv (1 : Int32), .val (.long (F3 q0)), .second, .val (.long (F3 (q0 + (-7046029254386353131 : Int64)))), .second, .unset] [(.long (F6 q0 (2 : Int64))), (.long (F3 (q0 + (-7046029254386353131 : Int64))))])) st9 ?_
  refine own_step (U' := T9.setTop (mkF m 98 #[.val (.long q0), .second, rv b1, .val (.long (F3 (0 : Int64))), .second, .val (.long (F3 ((0 : Int64) + (-7046029254386353131 : Int64)))), .second, iv (1 : Int32), .val (.long (F3 q0)), .second, .val (.long (F3 (q0 + (-7046029254386353131 : Int64)))), .second, iv (1 : Int32)] [(.int (1 : Int32))])) (fun t k => XS.lcmp X9.here hx rfl (hb hby at_80) rfl (XS.ifNo X9.here hx rfl (hb hby at_81) rfl ((if0 _ _).trans (teq ((lw_eq (F3 (q0 + (-7046029254386353131 : Int64))) (F6 q0 (2 : Int64))).mpr (own_x2 q0))).2) (XS.iconst X9.here hx rfl (hb hby at_84) (XS.goto X9.here hx rfl (pc0 := 85) (pc' := 89) rfl (hb hby at_85) (by decide) (by decide) (XS.istore X9.here hx rfl (hb hby at_89) rfl (l' := #[.val (.long q0), .second, rv b1, .val (.long (F3 (0 : Int64))), .second, .val (.long (F3 ((0 : Int64) + (-7046029254386353131 : Int64)))), .second, iv (1 : Int32), .val (.long (F3 q0)), .second, .val (.long (F3 (q0 + (-7046029254386353131 : Int64)))), .second, iv (1 : Int32)]) rfl (XS.iload X9.here hx rfl (hb hby at_91) rfl (XS.ifNo X9.here hx rfl (hb hby at_93) rfl (by decide) (XS.iload X9.here hx rfl (hb hby at_96) rfl k)))))))) ?_
  refine own_step (U' := T9.setTop (mkF m 106 #[.val (.long q0), .second, rv b1, .val (.long (F3 (0 : Int64))), .second, .val (.long (F3 ((0 : Int64) + (-7046029254386353131 : Int64)))), .second, iv (1 : Int32), .val (.long (F3 q0)), .second, .val (.long (F3 (q0 + (-7046029254386353131 : Int64)))), .second, iv (1 : Int32)] [(.int (1 : Int32))])) (fun t k => XS.ifNo X9.here hx rfl (hb hby at_98) rfl (by decide) (XS.iconst X9.here hx rfl (hb hby at_101) (XS.goto X9.here hx rfl (pc0 := 102) (pc' := 106) rfl (hb hby at_102) (by decide) (by decide) k))) ?_
  exact own_out X9 (v := (some (.int (1 : Int32)))) hlk (own_nv Bd.returns) (by rw [eq9]; exact ⟨rfl, N9⟩) (by decide) (by decide) (fun fs hr => retN X9 hx (t := .boolean) Bd.returns (by simp) (hb hby at_106) hr)
set_option maxRecDepth 65536 in
set_option maxHeartbeats 40000000 in
theorem comes_1 {Post : Tables → Env → Array Value → State → Outcome → State → Prop} (hpost : ∀ tb e args s v u, (limb_1_1.after args s (.returned v) u = true ∧ limb_1_2.after args s (.returned v) u = true ∧ True) → FrameEnd s (.returned v) u (Jvm.fieldLocs frame_1_writes args s ++ Jvm.arrayLocs frame_1_arrays args s ++ Jvm.staticLocs frame_1_statics s) 16 128 → Post tb e args s (.returned v) u) :
    ArmFor flags0 classFile x code maxLocals ret World_1 tables_1 room_1 Calls_1 rest_1 Pre_1 Post := by
  intro l hfl _ _ p e ha hc hk s m args below hf hA hF happ hP
  obtain ⟨hcalls, hrest, hpre⟩ := hP
  obtain ⟨-, -, -, hnamed, -, -, -, hat⟩ := (Spec.applies_iff hf).mp happ
  obtain ⟨hg, hn⟩ := and_e (Cond.before_iff.mp (show (Jvm.Cond.and given_1 narrow_1).before args s = true from hpre))
  obtain ⟨gc, gr0⟩ := and_e hg
  obtain ⟨w0, rfl⟩ : ∃ w0 : Value, args = #[w0] := by
    have hs : args.size = 1 := by simpa [Cond.value, given_1] using gc
    obtain ⟨L⟩ := args
    match L, hs with
    | [w0], _ => exact ⟨w0, rfl⟩
  have hw := fun d (hd : d ∈ tables_1) => atoms_spec (ws := Jvm.Cond.code x code maxLocals ret :: tables_1) hat d (List.mem_cons_of_mem _ hd)
  have hfit : Fit s := fun {y c} hc i hi => by
    obtain ⟨ha, rfl⟩ := Array.getElem?_eq_some_iff.mp hc
    have q := List.all_eq_true.mp ((Array.all_eq_true_iff_forall_mem.mp hF) _ (Array.getElem_mem ha)) i (List.mem_range.mpr hi)
    simpa [Array.getElem?_eq_getElem hi] using q
  obtain ⟨i0, ei0⟩ := isL_v gr0
  obtain rfl : w0 = (.long i0) := Option.some.inj ei0
  obtain ⟨n, o, h1, h2, h3, _, L, rfl, ⟨rfl, N⟩, hq⟩ := rm0 l s _ hw tables_1 i0  s.heap s.heap.size (Nat.le_refl _)  p e ha hc hk s m _ below hf ((Spec.applies_iff_loose hf).mp happ).1 ⟨rfl, State.Warmed39.refl s, rfl⟩ trivial
  refine ⟨n, _, h1, h2, h3, hpost _ _ _ _ _ _ ⟨Cond.after_iff.mpr rfl, Cond.after_iff.mpr (eq_i res_at (Term.int_eval (1)) rfl), trivial⟩ ⟨hq.1, hq.2.1, (hq.2.2.sift fun y hy => Or.inr (N y hy)).mono (by decide) (by decide)⟩⟩
theorem main_1_1 : Claimed_1_1 := comes_1 fun _ _ _ _ _ _ h hF => ⟨h.1, hF⟩
theorem main_1_2 : Claimed_1_2 := comes_1 fun _ _ _ _ _ _ h hF => ⟨h.2.1, hF⟩
end Jvm.Pilot.@@N@@
namespace Jvm.Pilot.@@N@@
open Jvm Jvm.ClassFile Sem Op Lib Jvm.Free Jvm.Stand Jvm.Pilot.@@N@@.Jvm.D
/-! MADE BY PROGRAM (witnessworld.py) out of the Statement's table words and the real class files: 10 classes; the members and pool entries that the words name. The judged class is class 1, her method 1. -/
namespace start1
open Jvm.ClassFile
def u (s : String) : CpInfo := .utf8 (stringToUtf16 s)
/-- a pool by its gaps: so many unusable entries, then the entry; so many at the end -/
def gap : Nat → List CpInfo → List CpInfo
  | 0, r => r
  | n + 1, r => .unusable :: gap n r
def poolList (es : List (Nat × CpInfo)) (last : Nat) : List CpInfo := es.foldr (fun e r => gap e.1 (e.2 :: r)) (gap last [])
def pool (es : List (Nat × CpInfo)) (last : Nat) : Array CpInfo := ⟨poolList es last⟩
def fileOf (pool : Array CpInfo) (this : Nat) (attrs : Array Attribute := #[]) (ms : Array MethodInfo := #[]) (fl : Nat := 33) (sup : Nat := 0) (ifs : Array Nat := #[]) (fds : Array FieldInfo := #[]) : ClassFile where
  minorVersion := 0
  majorVersion := 65
  constantPool := pool
  accessFlags := fl
  thisClass := this
  superClass := sup
  interfaces := ifs
  fields := fds
  methods := ms
  attributes := attrs
def plain (name : String) (sup : Option ClassId) : Class where
  name := name
  kind := .ordinary
  loader := none
  accessFlags := 33
  super := sup
  interfaces := #[]
  cf := none
  fields := #[]
  methods := #[]
  instanceTypes := #[]
  staticTypes := #[]
  resolved := #[]
  callSites := []
  init := .initialized
  statics := none
  mirror := none

def pool0 : Array CpInfo := pool [(5, u "<init>"), (0, u "()V"), (1, .class_ 10), (1, u "java/lang/Object")] 113

def k0c0 : Code := { maxStack := 0, maxLocals := 1, code := object_method_1_code, exceptionTable := #[], attributes := #[] }
def k0m0 : Method := { name := "<init>", desc := "()V", sig := { parameters := [], returnType := none }, accessFlags := 1, code := some k0c0 }
/-- java/lang/Object -/
def k0 : Class := { plain "java/lang/Object" none with
  accessFlags := 33
  interfaces := #[]
  cf := some (fileOf pool0 8 #[] #[{ accessFlags := 1, nameIndex := 5, descriptorIndex := 6, attributes := #[] }] 33 0 #[] #[])
  fields := #[]
  methods := #[k0m0]
  instanceTypes := #[]
  staticTypes := #[]
  resolved := Array.replicate 124 none
  statics := none }

def pool1 : Array CpInfo := pool [(2, .class_ 4), (0, .nameAndType 5 6), (0, u "java/lang/Object"), (0, u "<init>"), (0, u "()V"), (0, .class_ 8), (0, u "com/example/which_bucket/whichbucket/SplitMix64"), (0, .methodref 7 3), (0, .methodref 7 11), (0, .nameAndType 12 13), (0, u "nextLong"), (0, u "()J"), (0, .long 16294208416658607535), (1, .long 7960286522194355700), (1, .methodref 7 19), (0, .nameAndType 20 21), (0, u "reset"), (0, u "(J)V"), (0, .methodref 7 23), (0, .nameAndType 24 25), (0, u "draw"), (0, u "(JJ)J"), (0, .long 2), (1, .class_ 29), (0, u "com/example/which_bucket/whichbucket/SplitMix64NextLongPinLaw"), (2, u "law"), (0, u "(J)Z")] 3

def k1m0 : Method := { name := "<init>", desc := "()V", sig := { parameters := [], returnType := none }, accessFlags := 1, code := none }
def k1c1 : Code := { maxStack := 6, maxLocals := 13, code := code, exceptionTable := #[], attributes := #[] }
def k1m1 : Method := { name := "law", desc := "(J)Z", sig := { parameters := [.long], returnType := some .boolean }, accessFlags := 9, code := some k1c1 }
/-- com/example/which_bucket/whichbucket/SplitMix64NextLongPinLaw -/
def k1 : Class := { plain "com/example/which_bucket/whichbucket/SplitMix64NextLongPinLaw" (some 0) with
  accessFlags := 49
  interfaces := #[]
  cf := some (fileOf pool1 28 #[] #[{ accessFlags := 1, nameIndex := 5, descriptorIndex := 6, attributes := #[] }, { accessFlags := 9, nameIndex := 32, descriptorIndex := 33, attributes := #[] }] 49 2 #[] #[])
  fields := #[]
  methods := #[k1m0, k1m1]
  instanceTypes := #[]
  staticTypes := #[]
  resolved := Array.replicate 37 none
  statics := none }

def pool2 : Array CpInfo := pool [(7, .class_ 8), (0, u "com/example/which_bucket/whichbucket/RandomSource"), (0, .class_ 10), (0, u "java/lang/Object")] 10

/-- com/example/which_bucket/whichbucket/RandomSource -/
def k2 : Class := { plain "com/example/which_bucket/whichbucket/RandomSource" (some 0) with
  accessFlags := 1537
  interfaces := #[]
  cf := some (fileOf pool2 7 #[] #[] 1537 9 #[] #[])
  fields := #[]
  methods := #[]
  instanceTypes := #[]
  staticTypes := #[]
  resolved := Array.replicate 21 none
  statics := none }

def pool3 : Array CpInfo := pool [(1, .methodref 2 3), (0, .class_ 4), (0, .nameAndType 5 6), (0, u "java/lang/Object"), (0, u "<init>"), (0, u "()V"), (0, .fieldref 8 9), (0, .class_ 10), (0, .nameAndType 11 12), (0, u "com/example/which_bucket/whichbucket/SplitMix64"), (0, u "state"), (0, u "J"), (0, .long 11400714819323198485), (1, .methodref 8 16), (0, .nameAndType 17 18), (0, u "mix"), (0, u "(J)J"), (0, .long 13787848793156543929), (1, .long 10723151780598845931), (1, .class_ 24), (0, u "com/example/which_bucket/whichbucket/RandomSource"), (0, u "GAMMA"), (3, u "reset"), (0, u "(J)V"), (0, u "nextLong"), (0, u "()J"), (0, u "draw"), (0, u "(JJ)J")] 2

def k3c0 : Code := { maxStack := 1, maxLocals := 1, code := prog_3_method_1_code, exceptionTable := #[], attributes := #[] }
def k3m0 : Method := { name := "<init>", desc := "()V", sig := { parameters := [], returnType := none }, accessFlags := 0, code := some k3c0 }
def k3c1 : Code := { maxStack := 3, maxLocals := 3, code := prog_3_method_2_code, exceptionTable := #[], attributes := #[] }
def k3m1 : Method := { name := "reset", desc := "(J)V", sig := { parameters := [.long], returnType := none }, accessFlags := 1, code := some k3c1 }
def k3c2 : Code := { maxStack := 5, maxLocals := 1, code := prog_3_method_3_code, exceptionTable := #[], attributes := #[] }
def k3m2 : Method := { name := "nextLong", desc := "()J", sig := { parameters := [], returnType := some .long }, accessFlags := 1, code := some k3c2 }
def k3c3 : Code := { maxStack := 6, maxLocals := 4, code := prog_3_method_4_code, exceptionTable := #[], attributes := #[] }
def k3m3 : Method := { name := "draw", desc := "(JJ)J", sig := { parameters := [.long, .long], returnType := some .long }, accessFlags := 8, code := some k3c3 }
def k3c4 : Code := { maxStack := 5, maxLocals := 4, code := prog_3_method_5_code, exceptionTable := #[], attributes := #[] }
def k3m4 : Method := { name := "mix", desc := "(J)J", sig := { parameters := [.long], returnType := some .long }, accessFlags := 10, code := some k3c4 }
/-- com/example/which_bucket/whichbucket/SplitMix64 -/
def k3 : Class := { plain "com/example/which_bucket/whichbucket/SplitMix64" (some 0) with
  accessFlags := 32
  interfaces := #[2]
  cf := some (fileOf pool3 8 #[] #[{ accessFlags := 0, nameIndex := 5, descriptorIndex := 6, attributes := #[] }, { accessFlags := 1, nameIndex := 29, descriptorIndex := 30, attributes := #[] }, { accessFlags := 1, nameIndex := 31, descriptorIndex := 32, attributes := #[] }, { accessFlags := 8, nameIndex := 33, descriptorIndex := 34, attributes := #[] }, { accessFlags := 10, nameIndex := 17, descriptorIndex := 18, attributes := #[] }] 32 2 #[23] #[{ accessFlags := 26, nameIndex := 25, descriptorIndex := 12, attributes := #[] }, { accessFlags := 2, nameIndex := 11, descriptorIndex := 12, attributes := #[] }])
  fields := #[{ name := "GAMMA", type := .long, accessFlags := 26, slot := 0, constantValue := 0 }, { name := "state", type := .long, accessFlags := 2, slot := 0, constantValue := 0 }]
  methods := #[k3m0, k3m1, k3m2, k3m3, k3m4]
  instanceTypes := #[.long]
  staticTypes := #[.long]
  resolved := Array.replicate 37 none
  statics := none }

def pool4 : Array CpInfo := pool [(1, u "java/lang/Cloneable"), (0, .class_ 1), (0, u "java/lang/Object"), (0, .class_ 3)] 3

/-- java/lang/Cloneable -/
def k4 : Class := { plain "java/lang/Cloneable" (some 0) with
  accessFlags := 1537
  interfaces := #[]
  cf := some (fileOf pool4 2 #[] #[] 1537 4 #[] #[])
  fields := #[]
  methods := #[]
  instanceTypes := #[]
  staticTypes := #[]
  resolved := Array.replicate 8 none
  statics := none }

def pool5 : Array CpInfo := pool [(1, u "java/io/Serializable"), (0, .class_ 1), (0, u "java/lang/Object"), (0, .class_ 3)] 3

/-- java/io/Serializable -/
def k5 : Class := { plain "java/io/Serializable" (some 0) with
  accessFlags := 1537
  interfaces := #[]
  cf := some (fileOf pool5 2 #[] #[] 1537 4 #[] #[])
  fields := #[]
  methods := #[]
  instanceTypes := #[]
  staticTypes := #[]
  resolved := Array.replicate 8 none
  statics := none }

/-- the primitive byte -/
def k6 : Class := { plain "byte" none with kind := .primitive 'B', accessFlags := 0x411 }
/-- [B -/
def k7 : Class := { plain "[B" (some 0) with kind := .array 6 .byte, interfaces := #[4, 5], accessFlags := 1041 }

/-- the primitive int -/
def k8 : Class := { plain "int" none with kind := .primitive 'I', accessFlags := 0x411 }
/-- [I -/
def k9 : Class := { plain "[I" (some 0) with kind := .array 8 .int, interfaces := #[4, 5], accessFlags := 1041 }

def heap : Heap := #[]
def classes : Array Class := #[k0, k1, k2, k3, k4, k5, k6, k7, k8, k9]
def interned : List (Array UInt16 × Addr) := []
def slotsUsed : Nat := 0
def theMethod : MethodId := ⟨1, 1⟩
def args0 : Array Value := #[.long 6]
def aboutOver (below : List Frame) : State where
  vm := { classes := classes, interned := interned.toArray }
  heap := heap
  slotsUsed := slotsUsed
  threads := #[{ frames := .invoking theMethod args0 :: below }]
def below0 : List Frame := [.native { method := ⟨0, 0⟩, args := #[] }]
def about1 : State := aboutOver below0
def p0 : Program := .bare "" "" ""
def e0 : Env := launch0.env 0 0 0
theorem w_frames : about1.frames = Frame.invoking theMethod args0 :: below0 := rfl
set_option maxRecDepth 65536 in
theorem w_args : argsFit about1.vm theMethod args0 = true := by decide +kernel
set_option maxRecDepth 65536 in
theorem w_heap : heapFits about1 = true := by decide +kernel
set_option maxRecDepth 65536 in
theorem w_runnable : about1.curStatus? = some .runnable := by decide +kernel
set_option maxRecDepth 65536 in
theorem w_alone : about1.alone = true := by decide +kernel
set_option maxRecDepth 65536 in
theorem w_named : about1.methodNamed? x = some theMethod := by decide +kernel
set_option maxRecDepth 65536 in
theorem w_hears : about1.hears theMethod below0 = true := by decide +kernel
set_option maxRecDepth 65536 in
theorem w_ripe : about1.ripe theMethod args0 below0 = true := by decide +kernel
theorem w_running : about1.status = .running := rfl
set_option maxRecDepth 65536 in
theorem w_room : about1.hasRoom e0.platform room_1 = true :=
  launch0.hasRoom_least _ room_1 (by decide +kernel) (by decide +kernel) (by decide +kernel) (by decide +kernel) (by decide +kernel) (by decide +kernel)
theorem allAtoms_all (ts : List Jvm.Cond) (a : Array Jvm.Value) (st : Jvm.State) : (allAtoms ts).before a st = ts.all (fun c => c.before a st) := by
  induction ts with
  | nil => rfl
  | cons c t ih =>
    show (Jvm.Cond.and c (allAtoms t)).before a st = _
    rw [Jvm.Cond.before_and, ih, List.all_cons]
def words1 : List Jvm.Cond := Jvm.Cond.code x code maxLocals ret :: tables_1
/-- a 'code' word, met by the world's own term for the bytes: nothing is compared byte by byte -/
theorem code_word {y : MethodName} {bytes : ByteArray} {mx : Nat} {rt : Option FieldType} {a : Array Value} {s : State} {m : MethodId} {meth : Method} {c : Code} (h1 : s.methodNamed? y = some m) (h2 : s.vm.method? m = some meth) (h3 : meth.code = some c) (h4 : c.code = bytes)
    (h5 : (c.maxLocals == mx && c.exceptionTable.isEmpty && decide (c.maxStack ≤ mostOperands) && decide (meth.sig.returnType = rt) && !meth.locks && decide (parseMethodDescriptor y.desc = some meth.sig)) = true) : (Jvm.Cond.code y bytes mx rt).before a s = true := by
  simp only [Bool.and_eq_true, beq_iff_eq, Bool.not_eq_true', decide_eq_true_eq] at h5
  obtain ⟨⟨⟨⟨⟨g1, g2⟩, g3⟩, g4⟩, g5⟩, g6⟩ := h5
  simp [Cond.before, Cond.holds, Cond.value, h1, h2, h3, h4, g1, g2, g3, g4, g5, g6]
def isCode : Jvm.Cond → Bool
  | .code _ _ _ _ => true
  | _ => false
theorem all_split {L : List Jvm.Cond} {P : Jvm.Cond → Bool} (h1 : L.all (fun c => isCode c || P c) = true) (h2 : ∀ c ∈ L.filter isCode, P c = true) : L.all P = true := by
  refine List.all_eq_true.mpr fun c hc => ?_
  have h := List.all_eq_true.mp h1 c hc
  rcases Bool.eq_false_or_eq_true (isCode c) with hi | hi
  · exact h2 c (List.mem_filter.mpr ⟨hc, hi⟩)
  · simpa [hi] using h
set_option maxRecDepth 65536 in
theorem w_c0 : (Jvm.Cond.code x code maxLocals ret).before args0 about1 = true := code_word (m := ⟨1, 1⟩) (meth := k1m1) (c := k1c1) (by decide +kernel) rfl rfl rfl (by decide +kernel)
set_option maxRecDepth 65536 in
theorem w_c1 : (Jvm.Cond.code ({ cls := "com/example/which_bucket/whichbucket/SplitMix64", name := "<init>", desc := "()V" } : Jvm.MethodName) prog_3_method_1_code (1 : Nat) (Option.none : Option Jvm.ClassFile.FieldType)).before args0 about1 = true := code_word (m := ⟨3, 0⟩) (meth := k3m0) (c := k3c0) (by decide +kernel) rfl rfl rfl (by decide +kernel)
set_option maxRecDepth 65536 in
theorem w_c2 : (Jvm.Cond.code ({ cls := "java/lang/Object", name := "<init>", desc := "()V" } : Jvm.MethodName) object_method_1_code (1 : Nat) (Option.none : Option Jvm.ClassFile.FieldType)).before args0 about1 = true := code_word (m := ⟨0, 0⟩) (meth := k0m0) (c := k0c0) (by decide +kernel) rfl rfl rfl (by decide +kernel)
set_option maxRecDepth 65536 in
theorem w_c3 : (Jvm.Cond.code ({ cls := "com/example/which_bucket/whichbucket/SplitMix64", name := "nextLong", desc := "()J" } : Jvm.MethodName) prog_3_method_3_code (1 : Nat) (Option.some Jvm.ClassFile.FieldType.long)).before args0 about1 = true := code_word (m := ⟨3, 2⟩) (meth := k3m2) (c := k3c2) (by decide +kernel) rfl rfl rfl (by decide +kernel)
set_option maxRecDepth 65536 in
theorem w_c4 : (Jvm.Cond.code ({ cls := "com/example/which_bucket/whichbucket/SplitMix64", name := "mix", desc := "(J)J" } : Jvm.MethodName) prog_3_method_5_code (4 : Nat) (Option.some Jvm.ClassFile.FieldType.long)).before args0 about1 = true := code_word (m := ⟨3, 4⟩) (meth := k3m4) (c := k3c4) (by decide +kernel) rfl rfl rfl (by decide +kernel)
set_option maxRecDepth 65536 in
theorem w_c5 : (Jvm.Cond.code ({ cls := "com/example/which_bucket/whichbucket/SplitMix64", name := "reset", desc := "(J)V" } : Jvm.MethodName) prog_3_method_2_code (3 : Nat) (Option.none : Option Jvm.ClassFile.FieldType)).before args0 about1 = true := code_word (m := ⟨3, 1⟩) (meth := k3m1) (c := k3c1) (by decide +kernel) rfl rfl rfl (by decide +kernel)
set_option maxRecDepth 65536 in
theorem w_c6 : (Jvm.Cond.code ({ cls := "com/example/which_bucket/whichbucket/SplitMix64", name := "draw", desc := "(JJ)J" } : Jvm.MethodName) prog_3_method_4_code (4 : Nat) (Option.some Jvm.ClassFile.FieldType.long)).before args0 about1 = true := code_word (m := ⟨3, 3⟩) (meth := k3m3) (c := k3c3) (by decide +kernel) rfl rfl rfl (by decide +kernel)
def codes1 : List Jvm.Cond := [Jvm.Cond.code x code maxLocals ret, Jvm.Cond.code ({ cls := "com/example/which_bucket/whichbucket/SplitMix64", name := "<init>", desc := "()V" } : Jvm.MethodName) prog_3_method_1_code (1 : Nat) (Option.none : Option Jvm.ClassFile.FieldType), Jvm.Cond.code ({ cls := "java/lang/Object", name := "<init>", desc := "()V" } : Jvm.MethodName) object_method_1_code (1 : Nat) (Option.none : Option Jvm.ClassFile.FieldType), Jvm.Cond.code ({ cls := "com/example/which_bucket/whichbucket/SplitMix64", name := "nextLong", desc := "()J" } : Jvm.MethodName) prog_3_method_3_code (1 : Nat) (Option.some Jvm.ClassFile.FieldType.long), Jvm.Cond.code ({ cls := "com/example/which_bucket/whichbucket/SplitMix64", name := "mix", desc := "(J)J" } : Jvm.MethodName) prog_3_method_5_code (4 : Nat) (Option.some Jvm.ClassFile.FieldType.long), Jvm.Cond.code ({ cls := "com/example/which_bucket/whichbucket/SplitMix64", name := "reset", desc := "(J)V" } : Jvm.MethodName) prog_3_method_2_code (3 : Nat) (Option.none : Option Jvm.ClassFile.FieldType), Jvm.Cond.code ({ cls := "com/example/which_bucket/whichbucket/SplitMix64", name := "draw", desc := "(JJ)J" } : Jvm.MethodName) prog_3_method_4_code (4 : Nat) (Option.some Jvm.ClassFile.FieldType.long)]
set_option maxRecDepth 65536 in
theorem codes_eq : words1.filter isCode = codes1 := rfl
theorem w_codes : ∀ c ∈ words1.filter isCode, c.before args0 about1 = true := by
  rw [codes_eq]
  intro c hc
  simp only [codes1, List.mem_cons, List.not_mem_nil, or_false] at hc
  rcases hc with rfl | rfl | rfl | rfl | rfl | rfl | rfl
  · exact w_c0
  · exact w_c1
  · exact w_c2
  · exact w_c3
  · exact w_c4
  · exact w_c5
  · exact w_c6
set_option maxRecDepth 65536 in
theorem w_t1 : (words1.take 24).all (fun c => isCode c || c.before args0 about1) = true := by decide +kernel
set_option maxRecDepth 65536 in
theorem w_t2 : (words1.drop 24).all (fun c => isCode c || c.before args0 about1) = true := by decide +kernel
theorem w_tables : (allAtoms (Jvm.Cond.code x code maxLocals ret :: tables_1)).before args0 about1 = true := by
  rw [allAtoms_all]
  show words1.all (fun c => c.before args0 about1) = true
  refine all_split ?_ w_codes
  rw [← List.take_append_drop 24 words1, List.all_append, w_t1, w_t2]
  rfl
set_option maxRecDepth 65536 in
theorem w_case : (Jvm.Cond.and given_1 narrow_1).before args0 about1 = true := by decide +kernel
theorem w_applies : (headSpec (Jvm.Cond.code x code maxLocals ret :: tables_1) room_1).applies x e0.platform about1 = true :=
  (Spec.applies_iff w_frames).mpr ⟨w_running, w_runnable, w_alone, w_named, w_hears, w_ripe, w_room, w_tables⟩
theorem atStart : AtStart classFile x code maxLocals ret World_1 tables_1 room_1 Calls_1 rest_1 Pre_1 launch0 p0 e0 about1 theMethod args0 below0 :=
  ⟨lists_1, trivial, launch0.admits_env _ _ _, launch0.least_env, fairChoices_fair.cas, fairChoices_fair.clock, w_frames, w_args, w_heap, w_applies, trivial, trivial, w_case⟩
end start1
theorem witness_1 : WitnessClaimed_1 := ⟨start1.p0, start1.e0, start1.about1, start1.theMethod, start1.args0, start1.below0, start1.atStart⟩
end Jvm.Pilot.@@N@@
