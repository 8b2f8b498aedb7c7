import JvmDerived
import JvmDerived.Pilot.@@N@@Statement
import JvmDerived.Pilot.@@N@@Code
set_option linter.unusedVariables false
set_option linter.unusedSimpArgs false
namespace Jvm.RoadKit
open Sem ClassFile Op Lib Jvm.Stand Jvm.Free Jvm.LawKit
section New
variable {p : Program} {l : Launch} {e : Env} {R : Room} {s : State} {m : MethodId} {args : Array Value} {below : List Frame} {meth : Method} {c : Code} {T : State} {locs : List Loc} {cells slots : Nat}
theorem retI (X : Stand p l e R s m args below meth c T locs cells slots) (hx : p.tables.exec = Jvm.exec) {pc : Nat} {Ls : Array Slot} {z : Int32} {rest : List Value} (hret : meth.sig.returnType = some .int) (hd : decode c.code pc = .ok (.ireturn, 1)) {fs : List Frame}
    (hl : ∀ (f : JFrame) (acts : List Action), f.method = m → f.locked = none → f.entered = [] → (doReturn e (T.setTop f) acts (some (.int z))).1 = T.setFrames fs) : Steps p.tables e below (T.setTop (mkF m pc Ls (.int z :: rest))) (T.setFrames fs) := by
  have hm' : T.vm.method? m = some meth := X.method'
  have hn : narrow .int (.int z) = .int z := rfl
  show Steps p.tables e below (T.setTop { method := m, pc := pc, locals := Ls, stack := _ :: rest, locked := none }) _
  jvm_step X.here [X.here.top, hx, hd, hm', hret, hn]
  first | (intro acts; rw [hl _ acts rfl rfl rfl]) | rw [hl _ _ rfl rfl rfl]
  exact Steps.refl _
end New
end Jvm.RoadKit
namespace Jvm.Pilot.@@N@@
open Jvm Jvm.ClassFile Sem Op Lib Jvm.Free Jvm.Stand Jvm.LawKit Jvm.RoadKit Bundle Jvm.Pilot.@@N@@.Jvm.D
theorem own_w {a0 : Array Value} {Z : State} (hw : ∀ d ∈ tables_1, d.before a0 Z = true) (i : Nat) {d : Jvm.Cond} (h : tables_1[i]? = some d) : d.before a0 Z = true := hw d (List.mem_of_getElem? h)
/-- from U the run comes to the method's end, and Q holds there -/
def own_Go (tb : Tables) (e : Env) (below : List Frame) (s : State) (C N : Nat) (Q : Option Value → Heap → List Loc → Prop) (U : State) : Prop :=
  ∃ t o, Steps tb e below U t ∧ t.status = .running ∧ Ended t below o ∧ ∃ v L, o = .returned v ∧ Q v t.heap L ∧ FrameEnd s o t L C N
theorem own_step {tb : Tables} {e : Env} {below : List Frame} {s : State} {C N : Nat} {Q : Option Value → Heap → List Loc → Prop} {U U' : State} (h : ∀ t, Steps tb e below U' t → Steps tb e below U t) (k : own_Go tb e below s C N Q U') : own_Go tb e below s C N Q U := by
  obtain ⟨t, o, h1, h2⟩ := k
  exact ⟨t, o, h t h1, h2⟩
theorem own_steps {tb : Tables} {e : Env} {below : List Frame} {s : State} {C N : Nat} {Q : Option Value → Heap → List Loc → Prop} {U U' : State} (h : Steps tb e below U U') (k : own_Go tb e below s C N Q U') : own_Go tb e below s C N Q U := own_step (fun _ q => h.trans q) k
theorem own_out {p : Program} {l : Launch} {e : Env} {R : Room} {s : State} {m : MethodId} {args : Array Value} {below : List Frame} {meth : Method} {c : Code} {T : State} {locs : List Loc} {cells slots : Nat} (X : Stand p l e R s m args below meth c T locs cells slots) {v : Option Value}
    (hlk : meth.locks = false) (hv : meth.sig.returnType = none → v = none) {C N : Nat} {Q : Option Value → Heap → List Loc → Prop} (hQ : Q v T.heap locs) (hC : cells ≤ C) (hN : slots ≤ N) {U : State}
    (k : ∀ fs, (∀ (f : JFrame) (acts : List Action), f.method = m → f.locked = none → f.entered = [] → (doReturn e (T.setTop f) acts v).1 = T.setFrames fs) → Steps p.tables e below U (T.setFrames fs)) : own_Go p.tables e below s C N Q U := by
  obtain ⟨fs, hr, hrun, hended, hW, hsame⟩ := X.leave hv hlk
  exact ⟨_, _, k fs hr, hrun, hended, _, _, rfl, hQ, ⟨_, rfl⟩, hW, hsame.mono hC hN⟩
theorem own_exaP {Z : State} {h : Heap} {a : Addr} {C : String} (E : Exa Z h a C) : ∀ c : Cell, h[a]? = some c → c.vm.isStatics = false := fun c hc => by
  obtain ⟨cell, k, h1, -, -, h4, -⟩ := E
  cases h1.symm.trans hc; exact h4
theorem own_staK {Z : State} {h h' : Heap} {C n d : String} {v : Value} {ws : List Addr} (S : Sta Z h C n d v) (K : Keep h h' ws) (q : ∀ w ∈ ws, ∀ c : Cell, h[w]? = some c → c.vm.isStatics = false) : Sta Z h' C n d v := by
  obtain ⟨cf, i, k, f, st, cell, h1, h2, h3, h4, h5, h6, h7⟩ := S
  exact ⟨cf, i, k, f, st, cell, h1, h2, h3, h4, K.2.1 st cell h5 (fun z => by have := q st z cell h5; rw [h6] at this; cases this), h6, h7⟩
theorem own_anyF {Z : State} {a0 : Array Value} {h : Heap} {a : Addr} {C O n d O' n' d' : String} {v' : Value} {k : Nat} (E : Exa Z h a C) (F : Fld Z h a O' n' d' v') (wi : (Cond.instantiable C k).before a0 Z = true) (L : Laid Z a0 C O n d) : ∃ v, Fld Z h a O n d v :=
  fld_laid E (by obtain ⟨cell, _, _, _, _, h1, _, _, h4, _⟩ := F; exact ⟨cell, h1, h4⟩) wi L
theorem own_nv {meth : Method} {t : FieldType} (h : meth.sig.returnType = some t) {v : Option Value} : meth.sig.returnType = none → v = none := fun q => by rw [h] at q; cases q
theorem pd__JI_I : parseMethodDescriptor "(JI)I" = some ⟨[.long, .int], some .int⟩ := by decide +kernel
theorem pd__JJ_J : parseMethodDescriptor "(JJ)J" = some ⟨[.long, .long], some .long⟩ := by decide +kernel
theorem pd__J_J : parseMethodDescriptor "(J)J" = some ⟨[.long], some .long⟩ := by decide +kernel
theorem pd__I_I : parseMethodDescriptor "(I)I" = some ⟨[.int], some .int⟩ := by decide +kernel
theorem pd__JJLcom_example_which_bucket_whichbucket_RandomSource__J : parseMethodDescriptor "(JJLcom/example/which_bucket/whichbucket/RandomSource;)J" = some ⟨[.long, .long, (.object "com/example/which_bucket/whichbucket/RandomSource")], some .long⟩ := by decide +kernel
theorem pd__I_V : parseMethodDescriptor "(I)V" = some ⟨[.int], none⟩ := by decide +kernel
theorem pd__JILcom_example_which_bucket_whichbucket_RandomSource__I : parseMethodDescriptor "(JILcom/example/which_bucket/whichbucket/RandomSource;)I" = some ⟨[.long, .int, (.object "com/example/which_bucket/whichbucket/RandomSource")], some .int⟩ := by decide +kernel
theorem d6_0 : decode prog_3_method_5_code 0 = .ok (.lload_n 0, 1) := by decide +kernel
theorem d6_1 : decode prog_3_method_5_code 1 = .ok (.lstore_n 2, 1) := by decide +kernel
theorem d6_2 : decode prog_3_method_5_code 2 = .ok (.lload_n 2, 1) := by decide +kernel
theorem d6_3 : decode prog_3_method_5_code 3 = .ok (.lload_n 2, 1) := by decide +kernel
theorem d6_4 : decode prog_3_method_5_code 4 = .ok (.bipush 30, 2) := by decide +kernel
theorem d6_6 : decode prog_3_method_5_code 6 = .ok (.lushr, 1) := by decide +kernel
theorem d6_7 : decode prog_3_method_5_code 7 = .ok (.lxor, 1) := by decide +kernel
theorem d6_8 : decode prog_3_method_5_code 8 = .ok (.ldc2_w 19, 3) := by decide +kernel
theorem d6_11 : decode prog_3_method_5_code 11 = .ok (.lmul, 1) := by decide +kernel
theorem d6_12 : decode prog_3_method_5_code 12 = .ok (.lstore_n 2, 1) := by decide +kernel
theorem d6_13 : decode prog_3_method_5_code 13 = .ok (.lload_n 2, 1) := by decide +kernel
theorem d6_14 : decode prog_3_method_5_code 14 = .ok (.lload_n 2, 1) := by decide +kernel
theorem d6_15 : decode prog_3_method_5_code 15 = .ok (.bipush 27, 2) := by decide +kernel
theorem d6_17 : decode prog_3_method_5_code 17 = .ok (.lushr, 1) := by decide +kernel
theorem d6_18 : decode prog_3_method_5_code 18 = .ok (.lxor, 1) := by decide +kernel
theorem d6_19 : decode prog_3_method_5_code 19 = .ok (.ldc2_w 21, 3) := by decide +kernel
theorem d6_22 : decode prog_3_method_5_code 22 = .ok (.lmul, 1) := by decide +kernel
theorem d6_23 : decode prog_3_method_5_code 23 = .ok (.lstore_n 2, 1) := by decide +kernel
theorem d6_24 : decode prog_3_method_5_code 24 = .ok (.lload_n 2, 1) := by decide +kernel
theorem d6_25 : decode prog_3_method_5_code 25 = .ok (.lload_n 2, 1) := by decide +kernel
theorem d6_26 : decode prog_3_method_5_code 26 = .ok (.bipush 31, 2) := by decide +kernel
theorem d6_28 : decode prog_3_method_5_code 28 = .ok (.lushr, 1) := by decide +kernel
theorem d6_29 : decode prog_3_method_5_code 29 = .ok (.lxor, 1) := by decide +kernel
theorem d6_30 : decode prog_3_method_5_code 30 = .ok (.lreturn, 1) := by decide +kernel
theorem pn_6 : plainName "com/example/which_bucket/whichbucket/SplitMix64" = true := by first | (simp [plainName, overriddenIn]; done) | decide +kernel
theorem ef_6 (m : MethodId) (q0 : Int64) : entryFrame m #[(.long q0)] 4 = mkF m 0 #[.val (.long q0), .second, .unset, .unset] [] := by first | (simp [entryFrame, mkF, argsToLocals, Value.category]; done) | rfl
def F6 (q0 : Int64) : Int64 :=
  let m1 : Int64 := ((q0 ^^^ ((q0.toUInt64 >>> ((30 : Int32) &&& 0x3f).toInt64.toUInt64).toInt64)) * (-4658895280553007687 : Int64))
  let m2 : Int64 := ((m1 ^^^ ((m1.toUInt64 >>> ((27 : Int32) &&& 0x3f).toInt64.toUInt64).toInt64)) * (-7723592293110705685 : Int64))
  (m2 ^^^ ((m2.toUInt64 >>> ((31 : Int32) &&& 0x3f).toInt64.toUInt64).toInt64))
def Q6 (Z : State) (q0 : Int64) (h0 : Heap) (n0 : Nat) (v : Option Value) (h : Heap) (L : List Loc) : Prop := v = some (.long (F6 q0)) ∧ Fr n0 L ∧ h = h0
set_option maxRecDepth 65536 in
set_option maxHeartbeats 40000000 in
theorem rm6 (l : Launch) (Z : State) (a0 : Array Value) (hw : ∀ d ∈ tables_1, d.before a0 Z = true) (ws : List Jvm.Cond) (q0 : Int64) (h0 : Heap) (n0 : Nat) (Z0 : n0 ≤ h0.size) :
    MetFree l (⟨"com/example/which_bucket/whichbucket/SplitMix64", "mix", "(J)J"⟩ : MethodName) (head1 (Jvm.Cond.code (⟨"com/example/which_bucket/whichbucket/SplitMix64", "mix", "(J)J"⟩ : MethodName) prog_3_method_5_code 4 (some .long) :: ws) ({ frames := 0, cells := 0, slots := 0, locals := 0 } : Room)) (fun a U => a = #[(.long q0)] ∧ Z.Warmed39 U.vm ∧ U.heap = h0) (fun _ _ _ _ _ => True) (fun _ U o U' => ∃ v L, o = .returned v ∧ Q6 Z q0 h0 n0 v U'.heap L ∧ FrameEnd U o U' L ({ frames := 0, cells := 0, slots := 0, locals := 0 } : Room).cells ({ frames := 0, cells := 0, slots := 0, locals := 0 } : Room).slots) := by
  refine MetFree.of_bodySF (plainFor_of_name pn_6) hisR ?_
  intro p e s m args below meth c s₁ Bd hml0 hP hK
  obtain ⟨rfl, hZ, hh⟩ := hP
  have hx := Bd.exec
  have hby := Bd.bytes
  have hml : c.maxLocals = 4 := hml0
  have hown : s.vm.findClass "com/example/which_bucket/whichbucket/SplitMix64" = some m.cls := findClass_of_methodNamed Bd.named
  have hnm := (name_of_methodNamed Bd.named Bd.method).1
  have hlk : meth.locks = false := Bd.notSynchronized
  have X0 : Stand p l e ({ frames := 0, cells := 0, slots := 0, locals := 0 } : Room) s m #[(.long q0)] below meth c s₁ [] 0 0 := Stand.of_body Bd
  have e0 : s₁.heap = h0 := by rw [← hh, Bd.state]; rfl
  have N0 := Fr.nil n0
  have KK0 := Keep.refl h0 []
  show own_Go p.tables e below s 0 0 (Q6 Z q0 h0 n0) (s₁.setTop (entryFrame m #[(.long q0)] 4))
  rw [ef_6]
  refine own_step (U' := s₁.setTop (mkF m 11 #[.val (.long q0), .second, .val (.long q0), .second] [(.long (-4658895280553007687 : Int64)), (.long (q0 ^^^ ((q0.toUInt64 >>> ((30 : Int32) &&& 0x3f).toInt64.toUInt64).toInt64)))])) (fun t k => XS.lloadN X0.here hx rfl (hb hby d6_0) rfl (XS.lstoreN X0.here hx rfl (hb hby d6_1) rfl (l' := #[.val (.long q0), .second, .val (.long q0), .second]) rfl (XS.lloadN X0.here hx rfl (hb hby d6_2) rfl (XS.lloadN X0.here hx rfl (hb hby d6_3) rfl (XS.bipush X0.here hx rfl (hb hby d6_4) (XS.lushr X0.here hx rfl (hb hby d6_6) rfl (XS.lxor X0.here hx rfl (hb hby d6_7) rfl (X0.ldc2Long hx hown (mvT hZ (own_w hw 22 rfl)) (g := (mkF m 8 #[.val (.long q0), .second, .val (.long q0), .second] [(.long (q0 ^^^ ((q0.toUInt64 >>> ((30 : Int32) &&& 0x3f).toInt64.toUInt64).toInt64)))])) rfl (hb hby d6_8) t k)))))))) ?_
  refine own_step (U' := s₁.setTop (mkF m 12 #[.val (.long q0), .second, .val (.long q0), .second] [(.long ((q0 ^^^ ((q0.toUInt64 >>> ((30 : Int32) &&& 0x3f).toInt64.toUInt64).toInt64)) * (-4658895280553007687 : Int64)))])) (fun t k => XS.lmul X0.here hx rfl (hb hby d6_11) rfl k) ?_
  obtain ⟨m1, hm1⟩ : ∃ v : Int64, v = ((q0 ^^^ ((q0.toUInt64 >>> ((30 : Int32) &&& 0x3f).toInt64.toUInt64).toInt64)) * (-4658895280553007687 : Int64)) := ⟨_, rfl⟩
  rw [← hm1]
  refine own_step (U' := s₁.setTop (mkF m 23 #[.val (.long q0), .second, .val (.long m1), .second] [(.long ((m1 ^^^ ((m1.toUInt64 >>> ((27 : Int32) &&& 0x3f).toInt64.toUInt64).toInt64)) * (-7723592293110705685 : Int64)))])) (fun t k => XS.lstoreN X0.here hx rfl (hb hby d6_12) rfl (l' := #[.val (.long q0), .second, .val (.long m1), .second]) rfl (XS.lloadN X0.here hx rfl (hb hby d6_13) rfl (XS.lloadN X0.here hx rfl (hb hby d6_14) rfl (XS.bipush X0.here hx rfl (hb hby d6_15) (XS.lushr X0.here hx rfl (hb hby d6_17) rfl (XS.lxor X0.here hx rfl (hb hby d6_18) rfl (X0.ldc2Long hx hown (mvT hZ (own_w hw 23 rfl)) (g := (mkF m 19 #[.val (.long q0), .second, .val (.long m1), .second] [(.long (m1 ^^^ ((m1.toUInt64 >>> ((27 : Int32) &&& 0x3f).toInt64.toUInt64).toInt64)))])) rfl (hb hby d6_19) t (XS.lmul X0.here hx rfl (hb hby d6_22) rfl k)))))))) ?_
  obtain ⟨m2, hm2⟩ : ∃ v : Int64, v = ((m1 ^^^ ((m1.toUInt64 >>> ((27 : Int32) &&& 0x3f).toInt64.toUInt64).toInt64)) * (-7723592293110705685 : Int64)) := ⟨_, rfl⟩
  rw [← hm2]
  refine own_step (U' := s₁.setTop (mkF m 30 #[.val (.long q0), .second, .val (.long m2), .second] [(.long (m2 ^^^ ((m2.toUInt64 >>> ((31 : Int32) &&& 0x3f).toInt64.toUInt64).toInt64)))])) (fun t k => XS.lstoreN X0.here hx rfl (hb hby d6_23) rfl (l' := #[.val (.long q0), .second, .val (.long m2), .second]) rfl (XS.lloadN X0.here hx rfl (hb hby d6_24) rfl (XS.lloadN X0.here hx rfl (hb hby d6_25) rfl (XS.bipush X0.here hx rfl (hb hby d6_26) (XS.lushr X0.here hx rfl (hb hby d6_28) rfl (XS.lxor X0.here hx rfl (hb hby d6_29) rfl k)))))) ?_
  exact own_out X0 (v := (some (.long (m2 ^^^ ((m2.toUInt64 >>> ((31 : Int32) &&& 0x3f).toInt64.toUInt64).toInt64))))) hlk (own_nv Bd.returns) (by rw [e0]; exact (by subst hm1 hm2; exact ⟨rfl, N0, rfl⟩)) (by decide) (by decide) (fun fs hr => X0.lreturnOut hx Bd.returns (hb hby d6_30) hr)
theorem d5_0 : decode prog_3_method_4_code 0 = .ok (.lload_n 0, 1) := by decide +kernel
theorem d5_1 : decode prog_3_method_4_code 1 = .ok (.lload_n 2, 1) := by decide +kernel
theorem d5_2 : decode prog_3_method_4_code 2 = .ok (.ldc2_w 13, 3) := by decide +kernel
theorem d5_5 : decode prog_3_method_4_code 5 = .ok (.lmul, 1) := by decide +kernel
theorem d5_6 : decode prog_3_method_4_code 6 = .ok (.ladd, 1) := by decide +kernel
theorem d5_7 : decode prog_3_method_4_code 7 = .ok (.invokestatic 15, 3) := by decide +kernel
theorem d5_10 : decode prog_3_method_4_code 10 = .ok (.lreturn, 1) := by decide +kernel
theorem pn_5 : plainName "com/example/which_bucket/whichbucket/SplitMix64" = true := by first | (simp [plainName, overriddenIn]; done) | decide +kernel
theorem ef_5 (m : MethodId) (q0 : Int64) (q1 : Int64) : entryFrame m #[(.long q0), (.long q1)] 4 = mkF m 0 #[.val (.long q0), .second, .val (.long q1), .second] [] := by first | (simp [entryFrame, mkF, argsToLocals, Value.category]; done) | rfl
def F5 (q0 : Int64) (q1 : Int64) : Int64 :=
  (F6 (q0 + (q1 * (-7046029254386353131 : Int64))))
def Q5 (Z : State) (q0 : Int64) (q1 : Int64) (h0 : Heap) (n0 : Nat) (v : Option Value) (h : Heap) (L : List Loc) : Prop := v = some (.long (F5 q0 q1)) ∧ Fr n0 L ∧ h = h0
set_option maxRecDepth 65536 in
set_option maxHeartbeats 40000000 in
theorem rm5 (l : Launch) (Z : State) (a0 : Array Value) (hw : ∀ d ∈ tables_1, d.before a0 Z = true) (ws : List Jvm.Cond) (q0 : Int64) (q1 : Int64) (h0 : Heap) (n0 : Nat) (Z0 : n0 ≤ h0.size) :
    MetFree l (⟨"com/example/which_bucket/whichbucket/SplitMix64", "draw", "(JJ)J"⟩ : MethodName) (head1 (Jvm.Cond.code (⟨"com/example/which_bucket/whichbucket/SplitMix64", "draw", "(JJ)J"⟩ : MethodName) prog_3_method_4_code 4 (some .long) :: ws) ({ frames := 1, cells := 0, slots := 0, locals := 15 } : Room)) (fun a U => a = #[(.long q0), (.long q1)] ∧ Z.Warmed39 U.vm ∧ U.heap = h0) (fun _ _ _ _ _ => True) (fun _ U o U' => ∃ v L, o = .returned v ∧ Q5 Z q0 q1 h0 n0 v U'.heap L ∧ FrameEnd U o U' L ({ frames := 1, cells := 0, slots := 0, locals := 15 } : Room).cells ({ frames := 1, cells := 0, slots := 0, locals := 15 } : Room).slots) := by
  refine MetFree.of_bodySF (plainFor_of_name pn_5) hisR ?_
  intro p e s m args below meth c s₁ Bd hml0 hP hK
  obtain ⟨rfl, hZ, hh⟩ := hP
  have hx := Bd.exec
  have hby := Bd.bytes
  have hml : c.maxLocals = 4 := hml0
  have hown : s.vm.findClass "com/example/which_bucket/whichbucket/SplitMix64" = some m.cls := findClass_of_methodNamed Bd.named
  have hnm := (name_of_methodNamed Bd.named Bd.method).1
  have hlk : meth.locks = false := Bd.notSynchronized
  have X0 : Stand p l e ({ frames := 1, cells := 0, slots := 0, locals := 15 } : Room) s m #[(.long q0), (.long q1)] below meth c s₁ [] 0 0 := Stand.of_body Bd
  have e0 : s₁.heap = h0 := by rw [← hh, Bd.state]; rfl
  have N0 := Fr.nil n0
  have KK0 := Keep.refl h0 []
  show own_Go p.tables e below s 0 0 (Q5 Z q0 q1 h0 n0) (s₁.setTop (entryFrame m #[(.long q0), (.long q1)] 4))
  rw [ef_5]
  refine own_step (U' := s₁.setTop (mkF m 7 #[.val (.long q0), .second, .val (.long q1), .second] [(.long (q0 + (q1 * (-7046029254386353131 : Int64))))])) (fun t k => XS.lloadN X0.here hx rfl (hb hby d5_0) rfl (XS.lloadN X0.here hx rfl (hb hby d5_1) rfl (X0.ldc2Long hx hown (mvT hZ (own_w hw 18 rfl)) (g := (mkF m 2 #[.val (.long q0), .second, .val (.long q1), .second] [(.long q1), (.long q0)])) rfl (hb hby d5_2) t (XS.lmul X0.here hx rfl (hb hby d5_5) rfl (XS.ladd X0.here hx rfl (hb hby d5_6) rfl k))))) ?_
  obtain ⟨_, _, ⟨T1, L1, k1, n1⟩, -, X1, ⟨Lc1, hQ1, l1, y1, z1⟩, st1⟩ := Jvm.LawKit.callS X0 hx (y := (⟨"com/example/which_bucket/whichbucket/SplitMix64", "mix", "(J)J"⟩ : MethodName)) hown (mvT hZ (own_w hw 19 rfl)) (mvT hZ (own_w hw 20 rfl)) (mvT hZ (own_w hw 16 rfl)) (mvT hZ (own_w hw 21 rfl)) (by decide) (backOf (W := 0) (rm6 l Z a0 hw [] (q0 + (q1 * (-7046029254386353131 : Int64))) h0 n0 Z0) hZ (own_w hw 21 rfl) (own_w hw 16 rfl) (by decide) (by decide)) (g := (mkF m 7 #[.val (.long q0), .second, .val (.long q1), .second] [(.long (q0 + (q1 * (-7046029254386353131 : Int64))))])) rfl (by rw [hml]; rfl) (argsL := [(.long (q0 + (q1 * (-7046029254386353131 : Int64))))]) (rest := []) (lenOf pd__J_J rfl) rfl (by show 2 * 0 + _ ≤ _; exact Nat.le_of_eq rfl) (hb hby d5_7) (fun _ _ => ⟨rfl, e0, (by decide : 0 + 0 ≤ _), (by decide : 0 + 0 ≤ _)⟩)
  dsimp only [Pt.U, Pt.locs, Pt.cells, Pt.slots] at X1 l1 y1 z1 st1 hQ1
  subst l1 y1 z1
  obtain ⟨rfl, N1q, eq1⟩ := hQ1
  have N1 := Fr.app N0 N1q
  refine own_step (U' := T1.setTop (mkF m 10 #[.val (.long q0), .second, .val (.long q1), .second] [(.long (F6 (q0 + (q1 * (-7046029254386353131 : Int64)))))])) st1 ?_
  exact own_out X1 (v := (some (.long (F6 (q0 + (q1 * (-7046029254386353131 : Int64))))))) hlk (own_nv Bd.returns) (by rw [eq1]; exact ⟨by rw [show (F5 q0 q1) = (F6 (q0 + (q1 * (-7046029254386353131 : Int64)))) from (by simp only [F5])], N1, rfl⟩) (by decide) (by decide) (fun fs hr => X1.lreturnOut hx Bd.returns (hb hby d5_10) hr)
theorem d4_0 : decode prog_4_method_6_code 0 = .ok (.aload 4, 2) := by decide +kernel
theorem d4_2 : decode prog_4_method_6_code 2 = .ok (.ifnonnull 11, 3) := by decide +kernel
theorem d4_5 : decode prog_4_method_6_code 5 = .ok (.lload_n 0, 1) := by decide +kernel
theorem d4_6 : decode prog_4_method_6_code 6 = .ok (.lload_n 2, 1) := by decide +kernel
theorem d4_7 : decode prog_4_method_6_code 7 = .ok (.invokestatic 62, 3) := by decide +kernel
theorem d4_10 : decode prog_4_method_6_code 10 = .ok (.goto 10, 3) := by decide +kernel
theorem d4_20 : decode prog_4_method_6_code 20 = .ok (.lreturn, 1) := by decide +kernel
theorem pn_4 : plainName "com/example/which_bucket/whichbucket/WhichBucket" = true := by first | (simp [plainName, overriddenIn]; done) | decide +kernel
theorem ef_4 (m : MethodId) (q0 : Int64) (q1 : Int64) : entryFrame m #[(.long q0), (.long q1), .null] 5 = mkF m 0 #[.val (.long q0), .second, .val (.long q1), .second, .val .null] [] := by first | (simp [entryFrame, mkF, argsToLocals, Value.category]; done) | rfl
def F4 (q0 : Int64) (q1 : Int64) : Int64 :=
  (F5 q0 q1)
def Q4 (Z : State) (q0 : Int64) (q1 : Int64) (h0 : Heap) (n0 : Nat) (v : Option Value) (h : Heap) (L : List Loc) : Prop := v = some (.long (F4 q0 q1)) ∧ Fr n0 L ∧ h = h0
set_option maxRecDepth 65536 in
set_option maxHeartbeats 40000000 in
theorem rm4 (l : Launch) (Z : State) (a0 : Array Value) (hw : ∀ d ∈ tables_1, d.before a0 Z = true) (ws : List Jvm.Cond) (q0 : Int64) (q1 : Int64) (h0 : Heap) (n0 : Nat) (Z0 : n0 ≤ h0.size) :
    MetFree l (⟨"com/example/which_bucket/whichbucket/WhichBucket", "draw", "(JJLcom/example/which_bucket/whichbucket/RandomSource;)J"⟩ : MethodName) (head1 (Jvm.Cond.code (⟨"com/example/which_bucket/whichbucket/WhichBucket", "draw", "(JJLcom/example/which_bucket/whichbucket/RandomSource;)J"⟩ : MethodName) prog_4_method_6_code 5 (some .long) :: ws) ({ frames := 2, cells := 0, slots := 0, locals := 30 } : Room)) (fun a U => a = #[(.long q0), (.long q1), .null] ∧ Z.Warmed39 U.vm ∧ U.heap = h0) (fun _ _ _ _ _ => True) (fun _ U o U' => ∃ v L, o = .returned v ∧ Q4 Z q0 q1 h0 n0 v U'.heap L ∧ FrameEnd U o U' L ({ frames := 2, cells := 0, slots := 0, locals := 30 } : Room).cells ({ frames := 2, cells := 0, slots := 0, locals := 30 } : Room).slots) := by
  refine MetFree.of_bodySF (plainFor_of_name pn_4) hisR ?_
  intro p e s m args below meth c s₁ Bd hml0 hP hK
  obtain ⟨rfl, hZ, hh⟩ := hP
  have hx := Bd.exec
  have hby := Bd.bytes
  have hml : c.maxLocals = 5 := hml0
  have hown : s.vm.findClass "com/example/which_bucket/whichbucket/WhichBucket" = some m.cls := findClass_of_methodNamed Bd.named
  have hnm := (name_of_methodNamed Bd.named Bd.method).1
  have hlk : meth.locks = false := Bd.notSynchronized
  have X0 : Stand p l e ({ frames := 2, cells := 0, slots := 0, locals := 30 } : Room) s m #[(.long q0), (.long q1), .null] below meth c s₁ [] 0 0 := Stand.of_body Bd
  have e0 : s₁.heap = h0 := by rw [← hh, Bd.state]; rfl
  have N0 := Fr.nil n0
  have KK0 := Keep.refl h0 []
  show own_Go p.tables e below s 0 0 (Q4 Z q0 q1 h0 n0) (s₁.setTop (entryFrame m #[(.long q0), (.long q1), .null] 5))
  rw [ef_4]
  refine own_step (U' := s₁.setTop (mkF m 7 #[.val (.long q0), .second, .val (.long q1), .second, .val .null] [(.long q1), (.long q0)])) (fun t k => XS.aload X0.here hx rfl (hb hby d4_0) rfl rfl (XS.ifnonnullNo X0.here hx rfl (hb hby d4_2) rfl (XS.lloadN X0.here hx rfl (hb hby d4_5) rfl (XS.lloadN X0.here hx rfl (hb hby d4_6) rfl k)))) ?_
  obtain ⟨_, _, ⟨T1, L1, k1, n1⟩, -, X1, ⟨Lc1, hQ1, l1, y1, z1⟩, st1⟩ := Jvm.LawKit.callS X0 hx (y := (⟨"com/example/which_bucket/whichbucket/SplitMix64", "draw", "(JJ)J"⟩ : MethodName)) hown (mvT hZ (own_w hw 14 rfl)) (mvT hZ (own_w hw 15 rfl)) (mvT hZ (own_w hw 16 rfl)) (mvT hZ (own_w hw 17 rfl)) (by decide) (backOf (W := 0) (rm5 l Z a0 hw [] q0 q1 h0 n0 Z0) hZ (own_w hw 17 rfl) (own_w hw 16 rfl) (by decide) (by decide)) (g := (mkF m 7 #[.val (.long q0), .second, .val (.long q1), .second, .val .null] [(.long q1), (.long q0)])) rfl (by rw [hml]; rfl) (argsL := [(.long q0), (.long q1)]) (rest := []) (lenOf pd__JJ_J rfl) rfl (by show 2 * 0 + _ ≤ _; exact Nat.le_of_eq rfl) (hb hby d4_7) (fun _ _ => ⟨rfl, e0, (by decide : 0 + 0 ≤ _), (by decide : 0 + 0 ≤ _)⟩)
  dsimp only [Pt.U, Pt.locs, Pt.cells, Pt.slots] at X1 l1 y1 z1 st1 hQ1
  subst l1 y1 z1
  obtain ⟨rfl, N1q, eq1⟩ := hQ1
  have N1 := Fr.app N0 N1q
  refine own_step (U' := T1.setTop (mkF m 10 #[.val (.long q0), .second, .val (.long q1), .second, .val .null] [(.long (F5 q0 q1))])) st1 ?_
  refine own_step (U' := T1.setTop (mkF m 20 #[.val (.long q0), .second, .val (.long q1), .second, .val .null] [(.long (F5 q0 q1))])) (fun t k => XS.goto X1.here hx rfl (pc0 := 10) (pc' := 20) rfl (hb hby d4_10) (by decide) (by decide) k) ?_
  exact own_out X1 (v := (some (.long (F5 q0 q1)))) hlk (own_nv Bd.returns) (by rw [eq1]; exact ⟨by rw [show (F4 q0 q1) = (F5 q0 q1) from (by simp only [F4])], N1, rfl⟩) (by decide) (by decide) (fun fs hr => X1.lreturnOut hx Bd.returns (hb hby d4_20) hr)
theorem d7_0 : decode jdk_33_method_47_code 0 = .ok (.iload_n 0, 1) := by decide +kernel
theorem d7_1 : decode jdk_33_method_47_code 1 = .ok (.ifCond .gt 14, 3) := by decide +kernel
theorem d7_4 : decode jdk_33_method_47_code 4 = .ok (.iload_n 0, 1) := by decide +kernel
theorem d7_5 : decode jdk_33_method_47_code 5 = .ok (.ifCond .ne 8, 3) := by decide +kernel
theorem d7_8 : decode jdk_33_method_47_code 8 = .ok (.bipush 32, 2) := by decide +kernel
theorem d7_10 : decode jdk_33_method_47_code 10 = .ok (.goto 4, 3) := by decide +kernel
theorem d7_13 : decode jdk_33_method_47_code 13 = .ok (.iconst 0, 1) := by decide +kernel
theorem d7_14 : decode jdk_33_method_47_code 14 = .ok (.ireturn, 1) := by decide +kernel
theorem d7_15 : decode jdk_33_method_47_code 15 = .ok (.bipush 31, 2) := by decide +kernel
theorem d7_17 : decode jdk_33_method_47_code 17 = .ok (.istore_n 1, 1) := by decide +kernel
theorem d7_18 : decode jdk_33_method_47_code 18 = .ok (.iload_n 0, 1) := by decide +kernel
theorem d7_19 : decode jdk_33_method_47_code 19 = .ok (.ldc_w 264, 3) := by decide +kernel
theorem d7_22 : decode jdk_33_method_47_code 22 = .ok (.if_icmp .lt 11, 3) := by decide +kernel
theorem d7_25 : decode jdk_33_method_47_code 25 = .ok (.iinc 1 (-16), 3) := by decide +kernel
theorem d7_28 : decode jdk_33_method_47_code 28 = .ok (.iload_n 0, 1) := by decide +kernel
theorem d7_29 : decode jdk_33_method_47_code 29 = .ok (.bipush 16, 2) := by decide +kernel
theorem d7_31 : decode jdk_33_method_47_code 31 = .ok (.iushr, 1) := by decide +kernel
theorem d7_32 : decode jdk_33_method_47_code 32 = .ok (.istore_n 0, 1) := by decide +kernel
theorem d7_33 : decode jdk_33_method_47_code 33 = .ok (.iload_n 0, 1) := by decide +kernel
theorem d7_34 : decode jdk_33_method_47_code 34 = .ok (.sipush 256, 3) := by decide +kernel
theorem d7_37 : decode jdk_33_method_47_code 37 = .ok (.if_icmp .lt 11, 3) := by decide +kernel
theorem d7_40 : decode jdk_33_method_47_code 40 = .ok (.iinc 1 (-8), 3) := by decide +kernel
theorem d7_43 : decode jdk_33_method_47_code 43 = .ok (.iload_n 0, 1) := by decide +kernel
theorem d7_44 : decode jdk_33_method_47_code 44 = .ok (.bipush 8, 2) := by decide +kernel
theorem d7_46 : decode jdk_33_method_47_code 46 = .ok (.iushr, 1) := by decide +kernel
theorem d7_47 : decode jdk_33_method_47_code 47 = .ok (.istore_n 0, 1) := by decide +kernel
theorem d7_48 : decode jdk_33_method_47_code 48 = .ok (.iload_n 0, 1) := by decide +kernel
theorem d7_49 : decode jdk_33_method_47_code 49 = .ok (.bipush 16, 2) := by decide +kernel
theorem d7_51 : decode jdk_33_method_47_code 51 = .ok (.if_icmp .lt 10, 3) := by decide +kernel
theorem d7_54 : decode jdk_33_method_47_code 54 = .ok (.iinc 1 (-4), 3) := by decide +kernel
theorem d7_57 : decode jdk_33_method_47_code 57 = .ok (.iload_n 0, 1) := by decide +kernel
theorem d7_58 : decode jdk_33_method_47_code 58 = .ok (.iconst 4, 1) := by decide +kernel
theorem d7_59 : decode jdk_33_method_47_code 59 = .ok (.iushr, 1) := by decide +kernel
theorem d7_60 : decode jdk_33_method_47_code 60 = .ok (.istore_n 0, 1) := by decide +kernel
theorem d7_61 : decode jdk_33_method_47_code 61 = .ok (.iload_n 0, 1) := by decide +kernel
theorem d7_62 : decode jdk_33_method_47_code 62 = .ok (.iconst 4, 1) := by decide +kernel
theorem d7_63 : decode jdk_33_method_47_code 63 = .ok (.if_icmp .lt 10, 3) := by decide +kernel
theorem d7_66 : decode jdk_33_method_47_code 66 = .ok (.iinc 1 (-2), 3) := by decide +kernel
theorem d7_69 : decode jdk_33_method_47_code 69 = .ok (.iload_n 0, 1) := by decide +kernel
theorem d7_70 : decode jdk_33_method_47_code 70 = .ok (.iconst 2, 1) := by decide +kernel
theorem d7_71 : decode jdk_33_method_47_code 71 = .ok (.iushr, 1) := by decide +kernel
theorem d7_72 : decode jdk_33_method_47_code 72 = .ok (.istore_n 0, 1) := by decide +kernel
theorem d7_73 : decode jdk_33_method_47_code 73 = .ok (.iload_n 1, 1) := by decide +kernel
theorem d7_74 : decode jdk_33_method_47_code 74 = .ok (.iload_n 0, 1) := by decide +kernel
theorem d7_75 : decode jdk_33_method_47_code 75 = .ok (.iconst 1, 1) := by decide +kernel
theorem d7_76 : decode jdk_33_method_47_code 76 = .ok (.iushr, 1) := by decide +kernel
theorem d7_77 : decode jdk_33_method_47_code 77 = .ok (.isub, 1) := by decide +kernel
theorem d7_78 : decode jdk_33_method_47_code 78 = .ok (.ireturn, 1) := by decide +kernel
theorem pn_7 : plainName "java/lang/Integer" = true := by first | (simp [plainName, overriddenIn]; done) | decide +kernel
theorem ef_7 (m : MethodId) (p0 : Int32) : entryFrame m #[(.int p0)] 2 = mkF m 0 #[iv p0, .unset] [] := by first | (simp [entryFrame, mkF, argsToLocals, Value.category]; done) | rfl
def F7 (p0 : Int32) : Int32 :=
  if (0 : Int32) < p0 then
    let v33_3 : Int32 := (if p0 < (65536 : Int32) then p0 else ((p0.toUInt32 >>> ((16 : Int32) &&& 31).toUInt32).toInt32))
    let v33_4 : Int32 := (if p0 < (65536 : Int32) then (31 : Int32) else (15 : Int32))
    let v48_7 : Int32 := (if v33_3 < (256 : Int32) then v33_3 else ((v33_3.toUInt32 >>> ((8 : Int32) &&& 31).toUInt32).toInt32))
    let v48_8 : Int32 := (if v33_3 < (256 : Int32) then v33_4 else (v33_4 + (-8 : Int32)))
    let v61_11 : Int32 := (if v48_7 < (16 : Int32) then v48_7 else ((v48_7.toUInt32 >>> ((4 : Int32) &&& 31).toUInt32).toInt32))
    let v61_12 : Int32 := (if v48_7 < (16 : Int32) then v48_8 else (v48_8 + (-4 : Int32)))
    let v73_15 : Int32 := (if v61_11 < (4 : Int32) then v61_11 else ((v61_11.toUInt32 >>> ((2 : Int32) &&& 31).toUInt32).toInt32))
    let v73_16 : Int32 := (if v61_11 < (4 : Int32) then v61_12 else (v61_12 + (-2 : Int32)))
    (v73_16 - ((v73_15.toUInt32 >>> ((1 : Int32) &&& 31).toUInt32).toInt32))
  else
    if p0 = (0 : Int32) then
      (32 : Int32)
    else
      (0 : Int32)
def Q7 (Z : State) (p0 : Int32) (h0 : Heap) (n0 : Nat) (v : Option Value) (h : Heap) (L : List Loc) : Prop := v = some (.int (F7 p0)) ∧ Fr n0 L ∧ h = h0
set_option maxRecDepth 65536 in
set_option maxHeartbeats 40000000 in
theorem rm7 (l : Launch) (Z : State) (a0 : Array Value) (hw : ∀ d ∈ tables_1, d.before a0 Z = true) (ws : List Jvm.Cond) (p0 : Int32) (h0 : Heap) (n0 : Nat) (Z0 : n0 ≤ h0.size) :
    MetFree l (⟨"java/lang/Integer", "numberOfLeadingZeros", "(I)I"⟩ : MethodName) (head1 (Jvm.Cond.code (⟨"java/lang/Integer", "numberOfLeadingZeros", "(I)I"⟩ : MethodName) jdk_33_method_47_code 2 (some .int) :: ws) ({ frames := 0, cells := 0, slots := 0, locals := 0 } : Room)) (fun a U => a = #[(.int p0)] ∧ Z.Warmed39 U.vm ∧ U.heap = h0) (fun _ _ _ _ _ => True) (fun _ U o U' => ∃ v L, o = .returned v ∧ Q7 Z p0 h0 n0 v U'.heap L ∧ FrameEnd U o U' L ({ frames := 0, cells := 0, slots := 0, locals := 0 } : Room).cells ({ frames := 0, cells := 0, slots := 0, locals := 0 } : Room).slots) := by
  refine MetFree.of_bodySF (plainFor_of_name pn_7) hisR ?_
  intro p e s m args below meth c s₁ Bd hml0 hP hK
  obtain ⟨rfl, hZ, hh⟩ := hP
  have hx := Bd.exec
  have hby := Bd.bytes
  have hml : c.maxLocals = 2 := hml0
  have hown : s.vm.findClass "java/lang/Integer" = some m.cls := findClass_of_methodNamed Bd.named
  have hnm := (name_of_methodNamed Bd.named Bd.method).1
  have hlk : meth.locks = false := Bd.notSynchronized
  have X0 : Stand p l e ({ frames := 0, cells := 0, slots := 0, locals := 0 } : Room) s m #[(.int p0)] below meth c s₁ [] 0 0 := Stand.of_body Bd
  have e0 : s₁.heap = h0 := by rw [← hh, Bd.state]; rfl
  have N0 := Fr.nil n0
  have KK0 := Keep.refl h0 []
  show own_Go p.tables e below s 0 0 (Q7 Z p0 h0 n0) (s₁.setTop (entryFrame m #[(.int p0)] 2))
  rw [ef_7]
  refine own_step (U' := s₁.setTop (mkF m 1 #[iv p0, .unset] [(.int p0)])) (fun t k => XS.iloadN X0.here hx rfl (hb hby d7_0) rfl k) ?_
  by_cases hc1_1 : (0 : Int32) < p0
  · refine own_step (U' := s₁.setTop (mkF m 22 #[iv p0, iv (31 : Int32)] [(.int (65536 : Int32)), (.int p0)])) (fun t k => XS.ifYes X0.here hx rfl (pc0 := 1) (pc' := 15) rfl (hb hby d7_1) rfl ((if0 _ _).trans (tlt hc1_1).2.2.1) (by decide) (by decide) (XS.bipush X0.here hx rfl (hb hby d7_15) (XS.istoreN X0.here hx rfl (hb hby d7_17) rfl (l' := #[iv p0, iv (31 : Int32)]) rfl (XS.iloadN X0.here hx rfl (hb hby d7_18) rfl (X0.ldcwInt hx hown (mvT hZ (own_w hw 28 rfl)) (g := (mkF m 19 #[iv p0, iv (31 : Int32)] [(.int p0)])) rfl (hb hby d7_19) t k))))) ?_
    obtain ⟨v33_3, hv33_3⟩ : ∃ v : Int32, v = (if p0 < (65536 : Int32) then p0 else ((p0.toUInt32 >>> ((16 : Int32) &&& 31).toUInt32).toInt32)) := ⟨_, rfl⟩
    obtain ⟨v33_4, hv33_4⟩ : ∃ v : Int32, v = (if p0 < (65536 : Int32) then (31 : Int32) else (15 : Int32)) := ⟨_, rfl⟩
    have K33_5 : ∀ (T' : State) (locs' : List Loc) (X' : Stand p l e ({ frames := 0, cells := 0, slots := 0, locals := 0 } : Room) s m #[(.int p0)] below meth c T' locs' 0 0) (N' : Fr n0 locs') (e' : T'.heap = h0), own_Go p.tables e below s 0 0 (Q7 Z p0 h0 n0) (T'.setTop (mkF m 33 #[iv v33_3, iv v33_4] [])) := by
      intro T5 L5 X5 N5 e5
      refine own_step (U' := T5.setTop (mkF m 37 #[iv v33_3, iv v33_4] [(.int (256 : Int32)), (.int v33_3)])) (fun t k => XS.iloadN X5.here hx rfl (hb hby d7_33) rfl (XS.sipush X5.here hx rfl (hb hby d7_34) k)) ?_
      obtain ⟨v48_7, hv48_7⟩ : ∃ v : Int32, v = (if v33_3 < (256 : Int32) then v33_3 else ((v33_3.toUInt32 >>> ((8 : Int32) &&& 31).toUInt32).toInt32)) := ⟨_, rfl⟩
      obtain ⟨v48_8, hv48_8⟩ : ∃ v : Int32, v = (if v33_3 < (256 : Int32) then v33_4 else (v33_4 + (-8 : Int32))) := ⟨_, rfl⟩
      have K48_9 : ∀ (T' : State) (locs' : List Loc) (X' : Stand p l e ({ frames := 0, cells := 0, slots := 0, locals := 0 } : Room) s m #[(.int p0)] below meth c T' locs' 0 0) (N' : Fr n0 locs') (e' : T'.heap = h0), own_Go p.tables e below s 0 0 (Q7 Z p0 h0 n0) (T'.setTop (mkF m 48 #[iv v48_7, iv v48_8] [])) := by
        intro T9 L9 X9 N9 e9
        refine own_step (U' := T9.setTop (mkF m 51 #[iv v48_7, iv v48_8] [(.int (16 : Int32)), (.int v48_7)])) (fun t k => XS.iloadN X9.here hx rfl (hb hby d7_48) rfl (XS.bipush X9.here hx rfl (hb hby d7_49) k)) ?_
        obtain ⟨v61_11, hv61_11⟩ : ∃ v : Int32, v = (if v48_7 < (16 : Int32) then v48_7 else ((v48_7.toUInt32 >>> ((4 : Int32) &&& 31).toUInt32).toInt32)) := ⟨_, rfl⟩
        obtain ⟨v61_12, hv61_12⟩ : ∃ v : Int32, v = (if v48_7 < (16 : Int32) then v48_8 else (v48_8 + (-4 : Int32))) := ⟨_, rfl⟩
        have K61_13 : ∀ (T' : State) (locs' : List Loc) (X' : Stand p l e ({ frames := 0, cells := 0, slots := 0, locals := 0 } : Room) s m #[(.int p0)] below meth c T' locs' 0 0) (N' : Fr n0 locs') (e' : T'.heap = h0), own_Go p.tables e below s 0 0 (Q7 Z p0 h0 n0) (T'.setTop (mkF m 61 #[iv v61_11, iv v61_12] [])) := by
          intro T13 L13 X13 N13 e13
          refine own_step (U' := T13.setTop (mkF m 63 #[iv v61_11, iv v61_12] [(.int (4 : Int32)), (.int v61_11)])) (fun t k => XS.iloadN X13.here hx rfl (hb hby d7_61) rfl (XS.iconst X13.here hx rfl (hb hby d7_62) k)) ?_
          obtain ⟨v73_15, hv73_15⟩ : ∃ v : Int32, v = (if v61_11 < (4 : Int32) then v61_11 else ((v61_11.toUInt32 >>> ((2 : Int32) &&& 31).toUInt32).toInt32)) := ⟨_, rfl⟩
          obtain ⟨v73_16, hv73_16⟩ : ∃ v : Int32, v = (if v61_11 < (4 : Int32) then v61_12 else (v61_12 + (-2 : Int32))) := ⟨_, rfl⟩
          have K73_17 : ∀ (T' : State) (locs' : List Loc) (X' : Stand p l e ({ frames := 0, cells := 0, slots := 0, locals := 0 } : Room) s m #[(.int p0)] below meth c T' locs' 0 0) (N' : Fr n0 locs') (e' : T'.heap = h0), own_Go p.tables e below s 0 0 (Q7 Z p0 h0 n0) (T'.setTop (mkF m 73 #[iv v73_15, iv v73_16] [])) := by
            intro T17 L17 X17 N17 e17
            refine own_step (U' := T17.setTop (mkF m 78 #[iv v73_15, iv v73_16] [(.int (v73_16 - ((v73_15.toUInt32 >>> ((1 : Int32) &&& 31).toUInt32).toInt32)))])) (fun t k => XS.iloadN X17.here hx rfl (hb hby d7_73) rfl (XS.iloadN X17.here hx rfl (hb hby d7_74) rfl (XS.iconst X17.here hx rfl (hb hby d7_75) (XS.iushr X17.here hx rfl (hb hby d7_76) rfl (XS.isub X17.here hx rfl (hb hby d7_77) rfl k))))) ?_
            exact own_out X17 (v := (some (.int (v73_16 - ((v73_15.toUInt32 >>> ((1 : Int32) &&& 31).toUInt32).toInt32))))) hlk (own_nv Bd.returns) (by rw [e17]; exact (by subst hv33_3 hv33_4 hv48_7 hv48_8 hv61_11 hv61_12 hv73_15 hv73_16; exact ⟨by rw [show (F7 p0) = ((if (if (if (if p0 < (65536 : Int32) then p0 else ((p0.toUInt32 >>> ((16 : Int32) &&& 31).toUInt32).toInt32)) < (256 : Int32) then (if p0 < (65536 : Int32) then p0 else ((p0.toUInt32 >>> ((16 : Int32) &&& 31).toUInt32).toInt32)) else (((if p0 < (65536 : Int32) then p0 else ((p0.toUInt32 >>> ((16 : Int32) &&& 31).toUInt32).toInt32)).toUInt32 >>> ((8 : Int32) &&& 31).toUInt32).toInt32)) < (16 : Int32) then (if (if p0 < (65536 : Int32) then p0 else ((p0.toUInt32 >>> ((16 : Int32) &&& 31).toUInt32).toInt32)) < (256 : Int32) then (if p0 < (65536 : Int32) then p0 else ((p0.toUInt32 >>> ((16 : Int32) &&& 31).toUInt32).toInt32)) else (((if p0 < (65536 : Int32) then p0 else ((p0.toUInt32 >>> ((16 : Int32) &&& 31).toUInt32).toInt32)).toUInt32 >>> ((8 : Int32) &&& 31).toUInt32).toInt32)) else (((if (if p0 < (65536 : Int32) then p0 else ((p0.toUInt32 >>> ((16 : Int32) &&& 31).toUInt32).toInt32)) < (256 : Int32) then (if p0 < (65536 : Int32) then p0 else ((p0.toUInt32 >>> ((16 : Int32) &&& 31).toUInt32).toInt32)) else (((if p0 < (65536 : Int32) then p0 else ((p0.toUInt32 >>> ((16 : Int32) &&& 31).toUInt32).toInt32)).toUInt32 >>> ((8 : Int32) &&& 31).toUInt32).toInt32)).toUInt32 >>> ((4 : Int32) &&& 31).toUInt32).toInt32)) < (4 : Int32) then (if (if (if p0 < (65536 : Int32) then p0 else ((p0.toUInt32 >>> ((16 : Int32) &&& 31).toUInt32).toInt32)) < (256 : Int32) then (if p0 < (65536 : Int32) then p0 else ((p0.toUInt32 >>> ((16 : Int32) &&& 31).toUInt32).toInt32)) else (((if p0 < (65536 : Int32) then p0 else ((p0.toUInt32 >>> ((16 : Int32) &&& 31).toUInt32).toInt32)).toUInt32 >>> ((8 : Int32) &&& 31).toUInt32).toInt32)) < (16 : Int32) then (if (if p0 < (65536 : Int32) then p0 else ((p0.toUInt32 >>> ((16 : Int32) &&& 31).toUInt32).toInt32)) < (256 : Int32) then (if p0 < (65536 : Int32) then (31 : Int32) else (15 : Int32)) else ((if p0 < (65536 : Int32) then (31 : Int32) else (15 : Int32)) + (-8 : Int32))) else ((if (if p0 < (65536 : Int32) then p0 else ((p0.toUInt32 >>> ((16 : Int32) &&& 31).toUInt32).toInt32)) < (256 : Int32) then (if p0 < (65536 : Int32) then (31 : Int32) else (15 : Int32)) else ((if p0 < (65536 : Int32) then (31 : Int32) else (15 : Int32)) + (-8 : Int32))) + (-4 : Int32))) else ((if (if (if p0 < (65536 : Int32) then p0 else ((p0.toUInt32 >>> ((16 : Int32) &&& 31).toUInt32).toInt32)) < (256 : Int32) then (if p0 < (65536 : Int32) then p0 else ((p0.toUInt32 >>> ((16 : Int32) &&& 31).toUInt32).toInt32)) else (((if p0 < (65536 : Int32) then p0 else ((p0.toUInt32 >>> ((16 : Int32) &&& 31).toUInt32).toInt32)).toUInt32 >>> ((8 : Int32) &&& 31).toUInt32).toInt32)) < (16 : Int32) then (if (if p0 < (65536 : Int32) then p0 else ((p0.toUInt32 >>> ((16 : Int32) &&& 31).toUInt32).toInt32)) < (256 : Int32) then (if p0 < (65536 : Int32) then (31 : Int32) else (15 : Int32)) else ((if p0 < (65536 : Int32) then (31 : Int32) else (15 : Int32)) + (-8 : Int32))) else ((if (if p0 < (65536 : Int32) then p0 else ((p0.toUInt32 >>> ((16 : Int32) &&& 31).toUInt32).toInt32)) < (256 : Int32) then (if p0 < (65536 : Int32) then (31 : Int32) else (15 : Int32)) else ((if p0 < (65536 : Int32) then (31 : Int32) else (15 : Int32)) + (-8 : Int32))) + (-4 : Int32))) + (-2 : Int32))) - (((if (if (if (if p0 < (65536 : Int32) then p0 else ((p0.toUInt32 >>> ((16 : Int32) &&& 31).toUInt32).toInt32)) < (256 : Int32) then (if p0 < (65536 : Int32) then p0 else ((p0.toUInt32 >>> ((16 : Int32) &&& 31).toUInt32).toInt32)) else (((if p0 < (65536 : Int32) then p0 else ((p0.toUInt32 >>> ((16 : Int32) &&& 31).toUInt32).toInt32)).toUInt32 >>> ((8 : Int32) &&& 31).toUInt32).toInt32)) < (16 : Int32) then (if (if p0 < (65536 : Int32) then p0 else ((p0.toUInt32 >>> ((16 : Int32) &&& 31).toUInt32).toInt32)) < (256 : Int32) then (if p0 < (65536 : Int32) then p0 else ((p0.toUInt32 >>> ((16 : Int32) &&& 31).toUInt32).toInt32)) else (((if p0 < (65536 : Int32) then p0 else ((p0.toUInt32 >>> ((16 : Int32) &&& 31).toUInt32).toInt32)).toUInt32 >>> ((8 : Int32) &&& 31).toUInt32).toInt32)) else (((if (if p0 < (65536 : Int32) then p0 else ((p0.toUInt32 >>> ((16 : Int32) &&& 31).toUInt32).toInt32)) < (256 : Int32) then (if p0 < (65536 : Int32) then p0 else ((p0.toUInt32 >>> ((16 : Int32) &&& 31).toUInt32).toInt32)) else (((if p0 < (65536 : Int32) then p0 else ((p0.toUInt32 >>> ((16 : Int32) &&& 31).toUInt32).toInt32)).toUInt32 >>> ((8 : Int32) &&& 31).toUInt32).toInt32)).toUInt32 >>> ((4 : Int32) &&& 31).toUInt32).toInt32)) < (4 : Int32) then (if (if (if p0 < (65536 : Int32) then p0 else ((p0.toUInt32 >>> ((16 : Int32) &&& 31).toUInt32).toInt32)) < (256 : Int32) then (if p0 < (65536 : Int32) then p0 else ((p0.toUInt32 >>> ((16 : Int32) &&& 31).toUInt32).toInt32)) else (((if p0 < (65536 : Int32) then p0 else ((p0.toUInt32 >>> ((16 : Int32) &&& 31).toUInt32).toInt32)).toUInt32 >>> ((8 : Int32) &&& 31).toUInt32).toInt32)) < (16 : Int32) then (if (if p0 < (65536 : Int32) then p0 else ((p0.toUInt32 >>> ((16 : Int32) &&& 31).toUInt32).toInt32)) < (256 : Int32) then (if p0 < (65536 : Int32) then p0 else ((p0.toUInt32 >>> ((16 : Int32) &&& 31).toUInt32).toInt32)) else (((if p0 < (65536 : Int32) then p0 else ((p0.toUInt32 >>> ((16 : Int32) &&& 31).toUInt32).toInt32)).toUInt32 >>> ((8 : Int32) &&& 31).toUInt32).toInt32)) else (((if (if p0 < (65536 : Int32) then p0 else ((p0.toUInt32 >>> ((16 : Int32) &&& 31).toUInt32).toInt32)) < (256 : Int32) then (if p0 < (65536 : Int32) then p0 else ((p0.toUInt32 >>> ((16 : Int32) &&& 31).toUInt32).toInt32)) else (((if p0 < (65536 : Int32) then p0 else ((p0.toUInt32 >>> ((16 : Int32) &&& 31).toUInt32).toInt32)).toUInt32 >>> ((8 : Int32) &&& 31).toUInt32).toInt32)).toUInt32 >>> ((4 : Int32) &&& 31).toUInt32).toInt32)) else (((if (if (if p0 < (65536 : Int32) then p0 else ((p0.toUInt32 >>> ((16 : Int32) &&& 31).toUInt32).toInt32)) < (256 : Int32) then (if p0 < (65536 : Int32) then p0 else ((p0.toUInt32 >>> ((16 : Int32) &&& 31).toUInt32).toInt32)) else (((if p0 < (65536 : Int32) then p0 else ((p0.toUInt32 >>> ((16 : Int32) &&& 31).toUInt32).toInt32)).toUInt32 >>> ((8 : Int32) &&& 31).toUInt32).toInt32)) < (16 : Int32) then (if (if p0 < (65536 : Int32) then p0 else ((p0.toUInt32 >>> ((16 : Int32) &&& 31).toUInt32).toInt32)) < (256 : Int32) then (if p0 < (65536 : Int32) then p0 else ((p0.toUInt32 >>> ((16 : Int32) &&& 31).toUInt32).toInt32)) else (((if p0 < (65536 : Int32) then p0 else ((p0.toUInt32 >>> ((16 : Int32) &&& 31).toUInt32).toInt32)).toUInt32 >>> ((8 : Int32) &&& 31).toUInt32).toInt32)) else (((if (if p0 < (65536 : Int32) then p0 else ((p0.toUInt32 >>> ((16 : Int32) &&& 31).toUInt32).toInt32)) < (256 : Int32) then (if p0 < (65536 : Int32) then p0 else ((p0.toUInt32 >>> ((16 : Int32) &&& 31).toUInt32).toInt32)) else (((if p0 < (65536 : Int32) then p0 else ((p0.toUInt32 >>> ((16 : Int32) &&& 31).toUInt32).toInt32)).toUInt32 >>> ((8 : Int32) &&& 31).toUInt32).toInt32)).toUInt32 >>> ((4 : Int32) &&& 31).toUInt32).toInt32)).toUInt32 >>> ((2 : Int32) &&& 31).toUInt32).toInt32)).toUInt32 >>> ((1 : Int32) &&& 31).toUInt32).toInt32)) from (by simp only [F7, if_pos hc1_1])], N17, rfl⟩)) (by decide) (by decide) (fun fs hr => retI X17 hx Bd.returns (hb hby d7_78) hr)
          by_cases hc63_18 : v61_11 < (4 : Int32)
          · refine own_step (U' := T13.setTop (mkF m 73 #[iv v61_11, iv v61_12] [])) (fun t k => XS.icmpYes X13.here hx rfl (pc0 := 63) (pc' := 73) rfl (hb hby d7_63) rfl (tlt hc63_18).1 (by decide) (by decide) k) ?_
            have q_v73_15 : v73_15 = v61_11 := by rw [hv73_15, if_pos hc63_18]
            have q_v73_16 : v73_16 = v61_12 := by rw [hv73_16, if_pos hc63_18]
            rw [q_v73_15, q_v73_16] at K73_17
            exact K73_17 _ _ X13 N13 e13
          · refine own_step (U' := T13.setTop (mkF m 73 #[iv ((v61_11.toUInt32 >>> ((2 : Int32) &&& 31).toUInt32).toInt32), iv (v61_12 + (-2 : Int32))] [])) (fun t k => XS.icmpNo X13.here hx rfl (hb hby d7_63) rfl (flt hc63_18).1 (XS.iinc X13.here hx rfl (hb hby d7_66) rfl (l' := #[iv v61_11, iv (v61_12 + (-2 : Int32))]) rfl (XS.iloadN X13.here hx rfl (hb hby d7_69) rfl (XS.iconst X13.here hx rfl (hb hby d7_70) (XS.iushr X13.here hx rfl (hb hby d7_71) rfl (XS.istoreN X13.here hx rfl (hb hby d7_72) rfl (l' := #[iv ((v61_11.toUInt32 >>> ((2 : Int32) &&& 31).toUInt32).toInt32), iv (v61_12 + (-2 : Int32))]) rfl k)))))) ?_
            have q_v73_15 : v73_15 = ((v61_11.toUInt32 >>> ((2 : Int32) &&& 31).toUInt32).toInt32) := by rw [hv73_15, if_neg hc63_18]
            have q_v73_16 : v73_16 = (v61_12 + (-2 : Int32)) := by rw [hv73_16, if_neg hc63_18]
            rw [q_v73_15, q_v73_16] at K73_17
            exact K73_17 _ _ X13 N13 e13
        by_cases hc51_19 : v48_7 < (16 : Int32)
        · refine own_step (U' := T9.setTop (mkF m 61 #[iv v48_7, iv v48_8] [])) (fun t k => XS.icmpYes X9.here hx rfl (pc0 := 51) (pc' := 61) rfl (hb hby d7_51) rfl (tlt hc51_19).1 (by decide) (by decide) k) ?_
          have q_v61_11 : v61_11 = v48_7 := by rw [hv61_11, if_pos hc51_19]
          have q_v61_12 : v61_12 = v48_8 := by rw [hv61_12, if_pos hc51_19]
          rw [q_v61_11, q_v61_12] at K61_13
          exact K61_13 _ _ X9 N9 e9
        · refine own_step (U' := T9.setTop (mkF m 61 #[iv ((v48_7.toUInt32 >>> ((4 : Int32) &&& 31).toUInt32).toInt32), iv (v48_8 + (-4 : Int32))] [])) (fun t k => XS.icmpNo X9.here hx rfl (hb hby d7_51) rfl (flt hc51_19).1 (XS.iinc X9.here hx rfl (hb hby d7_54) rfl (l' := #[iv v48_7, iv (v48_8 + (-4 : Int32))]) rfl (XS.iloadN X9.here hx rfl (hb hby d7_57) rfl (XS.iconst X9.here hx rfl (hb hby d7_58) (XS.iushr X9.here hx rfl (hb hby d7_59) rfl (XS.istoreN X9.here hx rfl (hb hby d7_60) rfl (l' := #[iv ((v48_7.toUInt32 >>> ((4 : Int32) &&& 31).toUInt32).toInt32), iv (v48_8 + (-4 : Int32))]) rfl k)))))) ?_
          have q_v61_11 : v61_11 = ((v48_7.toUInt32 >>> ((4 : Int32) &&& 31).toUInt32).toInt32) := by rw [hv61_11, if_neg hc51_19]
          have q_v61_12 : v61_12 = (v48_8 + (-4 : Int32)) := by rw [hv61_12, if_neg hc51_19]
          rw [q_v61_11, q_v61_12] at K61_13
          exact K61_13 _ _ X9 N9 e9
      by_cases hc37_20 : v33_3 < (256 : Int32)
      · refine own_step (U' := T5.setTop (mkF m 48 #[iv v33_3, iv v33_4] [])) (fun t k => XS.icmpYes X5.here hx rfl (pc0 := 37) (pc' := 48) rfl (hb hby d7_37) rfl (tlt hc37_20).1 (by decide) (by decide) k) ?_
        have q_v48_7 : v48_7 = v33_3 := by rw [hv48_7, if_pos hc37_20]
        have q_v48_8 : v48_8 = v33_4 := by rw [hv48_8, if_pos hc37_20]
        rw [q_v48_7, q_v48_8] at K48_9
        exact K48_9 _ _ X5 N5 e5
      · refine own_step (U' := T5.setTop (mkF m 48 #[iv ((v33_3.toUInt32 >>> ((8 : Int32) &&& 31).toUInt32).toInt32), iv (v33_4 + (-8 : Int32))] [])) (fun t k => XS.icmpNo X5.here hx rfl (hb hby d7_37) rfl (flt hc37_20).1 (XS.iinc X5.here hx rfl (hb hby d7_40) rfl (l' := #[iv v33_3, iv (v33_4 + (-8 : Int32))]) rfl (XS.iloadN X5.here hx rfl (hb hby d7_43) rfl (XS.bipush X5.here hx rfl (hb hby d7_44) (XS.iushr X5.here hx rfl (hb hby d7_46) rfl (XS.istoreN X5.here hx rfl (hb hby d7_47) rfl (l' := #[iv ((v33_3.toUInt32 >>> ((8 : Int32) &&& 31).toUInt32).toInt32), iv (v33_4 + (-8 : Int32))]) rfl k)))))) ?_
        have q_v48_7 : v48_7 = ((v33_3.toUInt32 >>> ((8 : Int32) &&& 31).toUInt32).toInt32) := by rw [hv48_7, if_neg hc37_20]
        have q_v48_8 : v48_8 = (v33_4 + (-8 : Int32)) := by rw [hv48_8, if_neg hc37_20]
        rw [q_v48_7, q_v48_8] at K48_9
        exact K48_9 _ _ X5 N5 e5
    by_cases hc22_21 : p0 < (65536 : Int32)
    · refine own_step (U' := s₁.setTop (mkF m 33 #[iv p0, iv (31 : Int32)] [])) (fun t k => XS.icmpYes X0.here hx rfl (pc0 := 22) (pc' := 33) rfl (hb hby d7_22) rfl (tlt hc22_21).1 (by decide) (by decide) k) ?_
      have q_v33_3 : v33_3 = p0 := by rw [hv33_3, if_pos hc22_21]
      have q_v33_4 : v33_4 = (31 : Int32) := by rw [hv33_4, if_pos hc22_21]
      rw [q_v33_3, q_v33_4] at K33_5
      exact K33_5 _ _ X0 N0 e0
    · refine own_step (U' := s₁.setTop (mkF m 33 #[iv ((p0.toUInt32 >>> ((16 : Int32) &&& 31).toUInt32).toInt32), iv (15 : Int32)] [])) (fun t k => XS.icmpNo X0.here hx rfl (hb hby d7_22) rfl (flt hc22_21).1 (XS.iinc X0.here hx rfl (hb hby d7_25) rfl (l' := #[iv p0, iv (15 : Int32)]) rfl (XS.iloadN X0.here hx rfl (hb hby d7_28) rfl (XS.bipush X0.here hx rfl (hb hby d7_29) (XS.iushr X0.here hx rfl (hb hby d7_31) rfl (XS.istoreN X0.here hx rfl (hb hby d7_32) rfl (l' := #[iv ((p0.toUInt32 >>> ((16 : Int32) &&& 31).toUInt32).toInt32), iv (15 : Int32)]) rfl k)))))) ?_
      have q_v33_3 : v33_3 = ((p0.toUInt32 >>> ((16 : Int32) &&& 31).toUInt32).toInt32) := by rw [hv33_3, if_neg hc22_21]
      have q_v33_4 : v33_4 = (15 : Int32) := by rw [hv33_4, if_neg hc22_21]
      rw [q_v33_3, q_v33_4] at K33_5
      exact K33_5 _ _ X0 N0 e0
  · refine own_step (U' := s₁.setTop (mkF m 5 #[iv p0, .unset] [(.int p0)])) (fun t k => XS.ifNo X0.here hx rfl (hb hby d7_1) rfl ((if0 _ _).trans (flt hc1_1).2.2.1) (XS.iloadN X0.here hx rfl (hb hby d7_4) rfl k)) ?_
    by_cases hc5_22 : p0 = (0 : Int32)
    · refine own_step (U' := s₁.setTop (mkF m 14 #[iv p0, .unset] [(.int (32 : Int32))])) (fun t k => XS.ifNo X0.here hx rfl (hb hby d7_5) rfl ((if0 _ _).trans (teq hc5_22).2) (XS.bipush X0.here hx rfl (hb hby d7_8) (XS.goto X0.here hx rfl (pc0 := 10) (pc' := 14) rfl (hb hby d7_10) (by decide) (by decide) k))) ?_
      exact own_out X0 (v := (some (.int (32 : Int32)))) hlk (own_nv Bd.returns) (by rw [e0]; exact ⟨by rw [show (F7 p0) = (32 : Int32) from (by simp only [F7, if_neg hc1_1, if_pos hc5_22])], N0, rfl⟩) (by decide) (by decide) (fun fs hr => retI X0 hx Bd.returns (hb hby d7_14) hr)
    · refine own_step (U' := s₁.setTop (mkF m 14 #[iv p0, .unset] [(.int (0 : Int32))])) (fun t k => XS.ifYes X0.here hx rfl (pc0 := 5) (pc' := 13) rfl (hb hby d7_5) rfl ((if0 _ _).trans (feq hc5_22).2) (by decide) (by decide) (XS.iconst X0.here hx rfl (hb hby d7_13) k)) ?_
      exact own_out X0 (v := (some (.int (0 : Int32)))) hlk (own_nv Bd.returns) (by rw [e0]; exact ⟨by rw [show (F7 p0) = (0 : Int32) from (by simp only [F7, if_neg hc1_1, if_neg hc5_22])], N0, rfl⟩) (by decide) (by decide) (fun fs hr => retI X0 hx Bd.returns (hb hby d7_14) hr)
theorem d8_0 : decode jdk_33_method_45_code 0 = .ok (.iload_n 0, 1) := by decide +kernel
theorem d8_1 : decode jdk_33_method_45_code 1 = .ok (.ldc 127, 2) := by decide +kernel
theorem d8_3 : decode jdk_33_method_45_code 3 = .ok (.iload_n 0, 1) := by decide +kernel
theorem d8_4 : decode jdk_33_method_45_code 4 = .ok (.invokestatic 51, 3) := by decide +kernel
theorem d8_7 : decode jdk_33_method_45_code 7 = .ok (.iushr, 1) := by decide +kernel
theorem d8_8 : decode jdk_33_method_45_code 8 = .ok (.iand, 1) := by decide +kernel
theorem d8_9 : decode jdk_33_method_45_code 9 = .ok (.ireturn, 1) := by decide +kernel
theorem pn_8 : plainName "java/lang/Integer" = true := by first | (simp [plainName, overriddenIn]; done) | decide +kernel
theorem ef_8 (m : MethodId) (p0 : Int32) : entryFrame m #[(.int p0)] 1 = mkF m 0 #[iv p0] [] := by first | (simp [entryFrame, mkF, argsToLocals, Value.category]; done) | rfl
def F8 (p0 : Int32) : Int32 :=
  (p0 &&& (((-2147483648 : Int32).toUInt32 >>> ((F7 p0) &&& 31).toUInt32).toInt32))
def Q8 (Z : State) (p0 : Int32) (h0 : Heap) (n0 : Nat) (v : Option Value) (h : Heap) (L : List Loc) : Prop := v = some (.int (F8 p0)) ∧ Fr n0 L ∧ h = h0
set_option maxRecDepth 65536 in
set_option maxHeartbeats 40000000 in
theorem rm8 (l : Launch) (Z : State) (a0 : Array Value) (hw : ∀ d ∈ tables_1, d.before a0 Z = true) (ws : List Jvm.Cond) (p0 : Int32) (h0 : Heap) (n0 : Nat) (Z0 : n0 ≤ h0.size) :
    MetFree l (⟨"java/lang/Integer", "highestOneBit", "(I)I"⟩ : MethodName) (head1 (Jvm.Cond.code (⟨"java/lang/Integer", "highestOneBit", "(I)I"⟩ : MethodName) jdk_33_method_45_code 1 (some .int) :: ws) ({ frames := 1, cells := 0, slots := 0, locals := 15 } : Room)) (fun a U => a = #[(.int p0)] ∧ Z.Warmed39 U.vm ∧ U.heap = h0) (fun _ _ _ _ _ => True) (fun _ U o U' => ∃ v L, o = .returned v ∧ Q8 Z p0 h0 n0 v U'.heap L ∧ FrameEnd U o U' L ({ frames := 1, cells := 0, slots := 0, locals := 15 } : Room).cells ({ frames := 1, cells := 0, slots := 0, locals := 15 } : Room).slots) := by
  refine MetFree.of_bodySF (plainFor_of_name pn_8) hisR ?_
  intro p e s m args below meth c s₁ Bd hml0 hP hK
  obtain ⟨rfl, hZ, hh⟩ := hP
  have hx := Bd.exec
  have hby := Bd.bytes
  have hml : c.maxLocals = 1 := hml0
  have hown : s.vm.findClass "java/lang/Integer" = some m.cls := findClass_of_methodNamed Bd.named
  have hnm := (name_of_methodNamed Bd.named Bd.method).1
  have hlk : meth.locks = false := Bd.notSynchronized
  have X0 : Stand p l e ({ frames := 1, cells := 0, slots := 0, locals := 15 } : Room) s m #[(.int p0)] below meth c s₁ [] 0 0 := Stand.of_body Bd
  have e0 : s₁.heap = h0 := by rw [← hh, Bd.state]; rfl
  have N0 := Fr.nil n0
  have KK0 := Keep.refl h0 []
  show own_Go p.tables e below s 0 0 (Q8 Z p0 h0 n0) (s₁.setTop (entryFrame m #[(.int p0)] 1))
  rw [ef_8]
  refine own_step (U' := s₁.setTop (mkF m 4 #[iv p0] [(.int p0), (.int (-2147483648 : Int32)), (.int p0)])) (fun t k => XS.iloadN X0.here hx rfl (hb hby d8_0) rfl (X0.ldcInt hx hown (mvT hZ (own_w hw 32 rfl)) (g := (mkF m 1 #[iv p0] [(.int p0)])) rfl (hb hby d8_1) t (XS.iloadN X0.here hx rfl (hb hby d8_3) rfl k))) ?_
  obtain ⟨_, _, ⟨T1, L1, k1, n1⟩, -, X1, ⟨Lc1, hQ1, l1, y1, z1⟩, st1⟩ := Jvm.LawKit.callS X0 hx (y := (⟨"java/lang/Integer", "numberOfLeadingZeros", "(I)I"⟩ : MethodName)) hown (mvT hZ (own_w hw 33 rfl)) (mvT hZ (own_w hw 25 rfl)) (mvT hZ (own_w hw 26 rfl)) (mvT hZ (own_w hw 27 rfl)) (by decide) (backOf (W := 2) (rm7 l Z a0 hw [] p0 h0 n0 Z0) hZ (own_w hw 27 rfl) (own_w hw 26 rfl) (by decide) (by decide)) (g := (mkF m 4 #[iv p0] [(.int p0), (.int (-2147483648 : Int32)), (.int p0)])) rfl (by rw [hml]; rfl) (argsL := [(.int p0)]) (rest := [(.int (-2147483648 : Int32)), (.int p0)]) (lenOf pd__I_I rfl) rfl (by show 2 * 0 + _ ≤ _; exact Nat.le_of_eq rfl) (hb hby d8_4) (fun _ _ => ⟨rfl, e0, (by decide : 0 + 0 ≤ _), (by decide : 0 + 0 ≤ _)⟩)
  dsimp only [Pt.U, Pt.locs, Pt.cells, Pt.slots] at X1 l1 y1 z1 st1 hQ1
  subst l1 y1 z1
  obtain ⟨rfl, N1q, eq1⟩ := hQ1
  have N1 := Fr.app N0 N1q
  refine own_step (U' := T1.setTop (mkF m 7 #[iv p0] [(.int (F7 p0)), (.int (-2147483648 : Int32)), (.int p0)])) st1 ?_
  refine own_step (U' := T1.setTop (mkF m 9 #[iv p0] [(.int (p0 &&& (((-2147483648 : Int32).toUInt32 >>> ((F7 p0) &&& 31).toUInt32).toInt32)))])) (fun t k => XS.iushr X1.here hx rfl (hb hby d8_7) rfl (XS.iand X1.here hx rfl (hb hby d8_8) rfl k)) ?_
  exact own_out X1 (v := (some (.int (p0 &&& (((-2147483648 : Int32).toUInt32 >>> ((F7 p0) &&& 31).toUInt32).toInt32))))) hlk (own_nv Bd.returns) (by rw [eq1]; exact ⟨by rw [show (F8 p0) = (p0 &&& (((-2147483648 : Int32).toUInt32 >>> ((F7 p0) &&& 31).toUInt32).toInt32)) from (by simp only [F8])], N1, rfl⟩) (by decide) (by decide) (fun fs hr => retI X1 hx Bd.returns (hb hby d8_9) hr)
theorem d9_0 : decode jdk_33_method_49_code 0 = .ok (.iload_n 0, 1) := by decide +kernel
theorem d9_1 : decode jdk_33_method_49_code 1 = .ok (.iload_n 0, 1) := by decide +kernel
theorem d9_2 : decode jdk_33_method_49_code 2 = .ok (.iconst 1, 1) := by decide +kernel
theorem d9_3 : decode jdk_33_method_49_code 3 = .ok (.iushr, 1) := by decide +kernel
theorem d9_4 : decode jdk_33_method_49_code 4 = .ok (.ldc_w 265, 3) := by decide +kernel
theorem d9_7 : decode jdk_33_method_49_code 7 = .ok (.iand, 1) := by decide +kernel
theorem d9_8 : decode jdk_33_method_49_code 8 = .ok (.isub, 1) := by decide +kernel
theorem d9_9 : decode jdk_33_method_49_code 9 = .ok (.istore_n 0, 1) := by decide +kernel
theorem d9_10 : decode jdk_33_method_49_code 10 = .ok (.iload_n 0, 1) := by decide +kernel
theorem d9_11 : decode jdk_33_method_49_code 11 = .ok (.ldc_w 266, 3) := by decide +kernel
theorem d9_14 : decode jdk_33_method_49_code 14 = .ok (.iand, 1) := by decide +kernel
theorem d9_15 : decode jdk_33_method_49_code 15 = .ok (.iload_n 0, 1) := by decide +kernel
theorem d9_16 : decode jdk_33_method_49_code 16 = .ok (.iconst 2, 1) := by decide +kernel
theorem d9_17 : decode jdk_33_method_49_code 17 = .ok (.iushr, 1) := by decide +kernel
theorem d9_18 : decode jdk_33_method_49_code 18 = .ok (.ldc_w 266, 3) := by decide +kernel
theorem d9_21 : decode jdk_33_method_49_code 21 = .ok (.iand, 1) := by decide +kernel
theorem d9_22 : decode jdk_33_method_49_code 22 = .ok (.iadd, 1) := by decide +kernel
theorem d9_23 : decode jdk_33_method_49_code 23 = .ok (.istore_n 0, 1) := by decide +kernel
theorem d9_24 : decode jdk_33_method_49_code 24 = .ok (.iload_n 0, 1) := by decide +kernel
theorem d9_25 : decode jdk_33_method_49_code 25 = .ok (.iload_n 0, 1) := by decide +kernel
theorem d9_26 : decode jdk_33_method_49_code 26 = .ok (.iconst 4, 1) := by decide +kernel
theorem d9_27 : decode jdk_33_method_49_code 27 = .ok (.iushr, 1) := by decide +kernel
theorem d9_28 : decode jdk_33_method_49_code 28 = .ok (.iadd, 1) := by decide +kernel
theorem d9_29 : decode jdk_33_method_49_code 29 = .ok (.ldc_w 267, 3) := by decide +kernel
theorem d9_32 : decode jdk_33_method_49_code 32 = .ok (.iand, 1) := by decide +kernel
theorem d9_33 : decode jdk_33_method_49_code 33 = .ok (.istore_n 0, 1) := by decide +kernel
theorem d9_34 : decode jdk_33_method_49_code 34 = .ok (.iload_n 0, 1) := by decide +kernel
theorem d9_35 : decode jdk_33_method_49_code 35 = .ok (.iload_n 0, 1) := by decide +kernel
theorem d9_36 : decode jdk_33_method_49_code 36 = .ok (.bipush 8, 2) := by decide +kernel
theorem d9_38 : decode jdk_33_method_49_code 38 = .ok (.iushr, 1) := by decide +kernel
theorem d9_39 : decode jdk_33_method_49_code 39 = .ok (.iadd, 1) := by decide +kernel
theorem d9_40 : decode jdk_33_method_49_code 40 = .ok (.istore_n 0, 1) := by decide +kernel
theorem d9_41 : decode jdk_33_method_49_code 41 = .ok (.iload_n 0, 1) := by decide +kernel
theorem d9_42 : decode jdk_33_method_49_code 42 = .ok (.iload_n 0, 1) := by decide +kernel
theorem d9_43 : decode jdk_33_method_49_code 43 = .ok (.bipush 16, 2) := by decide +kernel
theorem d9_45 : decode jdk_33_method_49_code 45 = .ok (.iushr, 1) := by decide +kernel
theorem d9_46 : decode jdk_33_method_49_code 46 = .ok (.iadd, 1) := by decide +kernel
theorem d9_47 : decode jdk_33_method_49_code 47 = .ok (.istore_n 0, 1) := by decide +kernel
theorem d9_48 : decode jdk_33_method_49_code 48 = .ok (.iload_n 0, 1) := by decide +kernel
theorem d9_49 : decode jdk_33_method_49_code 49 = .ok (.bipush 63, 2) := by decide +kernel
theorem d9_51 : decode jdk_33_method_49_code 51 = .ok (.iand, 1) := by decide +kernel
theorem d9_52 : decode jdk_33_method_49_code 52 = .ok (.ireturn, 1) := by decide +kernel
theorem pn_9 : plainName "java/lang/Integer" = true := by first | (simp [plainName, overriddenIn]; done) | decide +kernel
theorem ef_9 (m : MethodId) (p0 : Int32) : entryFrame m #[(.int p0)] 1 = mkF m 0 #[iv p0] [] := by first | (simp [entryFrame, mkF, argsToLocals, Value.category]; done) | rfl
def F9 (p0 : Int32) : Int32 :=
  let c1 : Int32 := (p0 - (((p0.toUInt32 >>> ((1 : Int32) &&& 31).toUInt32).toInt32) &&& (1431655765 : Int32)))
  let c2 : Int32 := ((c1 &&& (858993459 : Int32)) + (((c1.toUInt32 >>> ((2 : Int32) &&& 31).toUInt32).toInt32) &&& (858993459 : Int32)))
  let c3 : Int32 := ((c2 + ((c2.toUInt32 >>> ((4 : Int32) &&& 31).toUInt32).toInt32)) &&& (252645135 : Int32))
  let c4 : Int32 := (c3 + ((c3.toUInt32 >>> ((8 : Int32) &&& 31).toUInt32).toInt32))
  let c5 : Int32 := (c4 + ((c4.toUInt32 >>> ((16 : Int32) &&& 31).toUInt32).toInt32))
  (c5 &&& (63 : Int32))
def Q9 (Z : State) (p0 : Int32) (h0 : Heap) (n0 : Nat) (v : Option Value) (h : Heap) (L : List Loc) : Prop := v = some (.int (F9 p0)) ∧ Fr n0 L ∧ h = h0
set_option maxRecDepth 65536 in
set_option maxHeartbeats 40000000 in
theorem rm9 (l : Launch) (Z : State) (a0 : Array Value) (hw : ∀ d ∈ tables_1, d.before a0 Z = true) (ws : List Jvm.Cond) (p0 : Int32) (h0 : Heap) (n0 : Nat) (Z0 : n0 ≤ h0.size) :
    MetFree l (⟨"java/lang/Integer", "bitCount", "(I)I"⟩ : MethodName) (head1 (Jvm.Cond.code (⟨"java/lang/Integer", "bitCount", "(I)I"⟩ : MethodName) jdk_33_method_49_code 1 (some .int) :: ws) ({ frames := 0, cells := 0, slots := 0, locals := 0 } : Room)) (fun a U => a = #[(.int p0)] ∧ Z.Warmed39 U.vm ∧ U.heap = h0) (fun _ _ _ _ _ => True) (fun _ U o U' => ∃ v L, o = .returned v ∧ Q9 Z p0 h0 n0 v U'.heap L ∧ FrameEnd U o U' L ({ frames := 0, cells := 0, slots := 0, locals := 0 } : Room).cells ({ frames := 0, cells := 0, slots := 0, locals := 0 } : Room).slots) := by
  refine MetFree.of_bodySF (plainFor_of_name pn_9) hisR ?_
  intro p e s m args below meth c s₁ Bd hml0 hP hK
  obtain ⟨rfl, hZ, hh⟩ := hP
  have hx := Bd.exec
  have hby := Bd.bytes
  have hml : c.maxLocals = 1 := hml0
  have hown : s.vm.findClass "java/lang/Integer" = some m.cls := findClass_of_methodNamed Bd.named
  have hnm := (name_of_methodNamed Bd.named Bd.method).1
  have hlk : meth.locks = false := Bd.notSynchronized
  have X0 : Stand p l e ({ frames := 0, cells := 0, slots := 0, locals := 0 } : Room) s m #[(.int p0)] below meth c s₁ [] 0 0 := Stand.of_body Bd
  have e0 : s₁.heap = h0 := by rw [← hh, Bd.state]; rfl
  have N0 := Fr.nil n0
  have KK0 := Keep.refl h0 []
  show own_Go p.tables e below s 0 0 (Q9 Z p0 h0 n0) (s₁.setTop (entryFrame m #[(.int p0)] 1))
  rw [ef_9]
  refine own_step (U' := s₁.setTop (mkF m 9 #[iv p0] [(.int (p0 - (((p0.toUInt32 >>> ((1 : Int32) &&& 31).toUInt32).toInt32) &&& (1431655765 : Int32))))])) (fun t k => XS.iloadN X0.here hx rfl (hb hby d9_0) rfl (XS.iloadN X0.here hx rfl (hb hby d9_1) rfl (XS.iconst X0.here hx rfl (hb hby d9_2) (XS.iushr X0.here hx rfl (hb hby d9_3) rfl (X0.ldcwInt hx hown (mvT hZ (own_w hw 37 rfl)) (g := (mkF m 4 #[iv p0] [(.int ((p0.toUInt32 >>> ((1 : Int32) &&& 31).toUInt32).toInt32)), (.int p0)])) rfl (hb hby d9_4) t (XS.iand X0.here hx rfl (hb hby d9_7) rfl (XS.isub X0.here hx rfl (hb hby d9_8) rfl k))))))) ?_
  obtain ⟨c1, hc1⟩ : ∃ v : Int32, v = (p0 - (((p0.toUInt32 >>> ((1 : Int32) &&& 31).toUInt32).toInt32) &&& (1431655765 : Int32))) := ⟨_, rfl⟩
  rw [← hc1]
  refine own_step (U' := s₁.setTop (mkF m 21 #[iv c1] [(.int (858993459 : Int32)), (.int ((c1.toUInt32 >>> ((2 : Int32) &&& 31).toUInt32).toInt32)), (.int (c1 &&& (858993459 : Int32)))])) (fun t k => XS.istoreN X0.here hx rfl (hb hby d9_9) rfl (l' := #[iv c1]) rfl (XS.iloadN X0.here hx rfl (hb hby d9_10) rfl (X0.ldcwInt hx hown (mvT hZ (own_w hw 38 rfl)) (g := (mkF m 11 #[iv c1] [(.int c1)])) rfl (hb hby d9_11) t (XS.iand X0.here hx rfl (hb hby d9_14) rfl (XS.iloadN X0.here hx rfl (hb hby d9_15) rfl (XS.iconst X0.here hx rfl (hb hby d9_16) (XS.iushr X0.here hx rfl (hb hby d9_17) rfl (X0.ldcwInt hx hown (mvT hZ (own_w hw 38 rfl)) (g := (mkF m 18 #[iv c1] [(.int ((c1.toUInt32 >>> ((2 : Int32) &&& 31).toUInt32).toInt32)), (.int (c1 &&& (858993459 : Int32)))])) rfl (hb hby d9_18) t k)))))))) ?_
  refine own_step (U' := s₁.setTop (mkF m 23 #[iv c1] [(.int ((c1 &&& (858993459 : Int32)) + (((c1.toUInt32 >>> ((2 : Int32) &&& 31).toUInt32).toInt32) &&& (858993459 : Int32))))])) (fun t k => XS.iand X0.here hx rfl (hb hby d9_21) rfl (XS.iadd X0.here hx rfl (hb hby d9_22) rfl k)) ?_
  obtain ⟨c2, hc2⟩ : ∃ v : Int32, v = ((c1 &&& (858993459 : Int32)) + (((c1.toUInt32 >>> ((2 : Int32) &&& 31).toUInt32).toInt32) &&& (858993459 : Int32))) := ⟨_, rfl⟩
  rw [← hc2]
  refine own_step (U' := s₁.setTop (mkF m 33 #[iv c2] [(.int ((c2 + ((c2.toUInt32 >>> ((4 : Int32) &&& 31).toUInt32).toInt32)) &&& (252645135 : Int32)))])) (fun t k => XS.istoreN X0.here hx rfl (hb hby d9_23) rfl (l' := #[iv c2]) rfl (XS.iloadN X0.here hx rfl (hb hby d9_24) rfl (XS.iloadN X0.here hx rfl (hb hby d9_25) rfl (XS.iconst X0.here hx rfl (hb hby d9_26) (XS.iushr X0.here hx rfl (hb hby d9_27) rfl (XS.iadd X0.here hx rfl (hb hby d9_28) rfl (X0.ldcwInt hx hown (mvT hZ (own_w hw 39 rfl)) (g := (mkF m 29 #[iv c2] [(.int (c2 + ((c2.toUInt32 >>> ((4 : Int32) &&& 31).toUInt32).toInt32)))])) rfl (hb hby d9_29) t (XS.iand X0.here hx rfl (hb hby d9_32) rfl k)))))))) ?_
  obtain ⟨c3, hc3⟩ : ∃ v : Int32, v = ((c2 + ((c2.toUInt32 >>> ((4 : Int32) &&& 31).toUInt32).toInt32)) &&& (252645135 : Int32)) := ⟨_, rfl⟩
  rw [← hc3]
  refine own_step (U' := s₁.setTop (mkF m 40 #[iv c3] [(.int (c3 + ((c3.toUInt32 >>> ((8 : Int32) &&& 31).toUInt32).toInt32)))])) (fun t k => XS.istoreN X0.here hx rfl (hb hby d9_33) rfl (l' := #[iv c3]) rfl (XS.iloadN X0.here hx rfl (hb hby d9_34) rfl (XS.iloadN X0.here hx rfl (hb hby d9_35) rfl (XS.bipush X0.here hx rfl (hb hby d9_36) (XS.iushr X0.here hx rfl (hb hby d9_38) rfl (XS.iadd X0.here hx rfl (hb hby d9_39) rfl k)))))) ?_
  obtain ⟨c4, hc4⟩ : ∃ v : Int32, v = (c3 + ((c3.toUInt32 >>> ((8 : Int32) &&& 31).toUInt32).toInt32)) := ⟨_, rfl⟩
  rw [← hc4]
  refine own_step (U' := s₁.setTop (mkF m 47 #[iv c4] [(.int (c4 + ((c4.toUInt32 >>> ((16 : Int32) &&& 31).toUInt32).toInt32)))])) (fun t k => XS.istoreN X0.here hx rfl (hb hby d9_40) rfl (l' := #[iv c4]) rfl (XS.iloadN X0.here hx rfl (hb hby d9_41) rfl (XS.iloadN X0.here hx rfl (hb hby d9_42) rfl (XS.bipush X0.here hx rfl (hb hby d9_43) (XS.iushr X0.here hx rfl (hb hby d9_45) rfl (XS.iadd X0.here hx rfl (hb hby d9_46) rfl k)))))) ?_
  obtain ⟨c5, hc5⟩ : ∃ v : Int32, v = (c4 + ((c4.toUInt32 >>> ((16 : Int32) &&& 31).toUInt32).toInt32)) := ⟨_, rfl⟩
  rw [← hc5]
  refine own_step (U' := s₁.setTop (mkF m 52 #[iv c5] [(.int (c5 &&& (63 : Int32)))])) (fun t k => XS.istoreN X0.here hx rfl (hb hby d9_47) rfl (l' := #[iv c5]) rfl (XS.iloadN X0.here hx rfl (hb hby d9_48) rfl (XS.bipush X0.here hx rfl (hb hby d9_49) (XS.iand X0.here hx rfl (hb hby d9_51) rfl k)))) ?_
  exact own_out X0 (v := (some (.int (c5 &&& (63 : Int32))))) hlk (own_nv Bd.returns) (by rw [e0]; exact (by subst hc1 hc2 hc3 hc4 hc5; exact ⟨rfl, N0, rfl⟩)) (by decide) (by decide) (fun fs hr => retI X0 hx Bd.returns (hb hby d9_52) hr)
theorem d2_0 : decode prog_4_method_8_code 0 = .ok (.iload_n 0, 1) := by decide +kernel
theorem d2_1 : decode prog_4_method_8_code 1 = .ok (.iconst 1, 1) := by decide +kernel
theorem d2_2 : decode prog_4_method_8_code 2 = .ok (.if_icmp .ge 17, 3) := by decide +kernel
theorem d2_19 : decode prog_4_method_8_code 19 = .ok (.return_, 1) := by decide +kernel
theorem pn_2 : plainName "com/example/which_bucket/whichbucket/WhichBucket" = true := by first | (simp [plainName, overriddenIn]; done) | decide +kernel
theorem ef_2 (m : MethodId) (p0 : Int32) : entryFrame m #[(.int p0)] 1 = mkF m 0 #[iv p0] [] := by first | (simp [entryFrame, mkF, argsToLocals, Value.category]; done) | rfl
def Q2 (Z : State) (p0 : Int32) (h0 : Heap) (n0 : Nat) (v : Option Value) (h : Heap) (L : List Loc) : Prop := v = none ∧ Fr n0 L ∧ h = h0
set_option maxRecDepth 65536 in
set_option maxHeartbeats 40000000 in
theorem rm2 (l : Launch) (Z : State) (a0 : Array Value) (hw : ∀ d ∈ tables_1, d.before a0 Z = true) (ws : List Jvm.Cond) (p0 : Int32) (h0 : Heap) (n0 : Nat) (Z0 : n0 ≤ h0.size) (hge : ¬ p0 < (1 : Int32)) :
    MetFree l (⟨"com/example/which_bucket/whichbucket/WhichBucket", "requireBucketCount", "(I)V"⟩ : MethodName) (head1 (Jvm.Cond.code (⟨"com/example/which_bucket/whichbucket/WhichBucket", "requireBucketCount", "(I)V"⟩ : MethodName) prog_4_method_8_code 1 none :: ws) ({ frames := 0, cells := 0, slots := 0, locals := 0 } : Room)) (fun a U => a = #[(.int p0)] ∧ Z.Warmed39 U.vm ∧ U.heap = h0) (fun _ _ _ _ _ => True) (fun _ U o U' => ∃ v L, o = .returned v ∧ Q2 Z p0 h0 n0 v U'.heap L ∧ FrameEnd U o U' L ({ frames := 0, cells := 0, slots := 0, locals := 0 } : Room).cells ({ frames := 0, cells := 0, slots := 0, locals := 0 } : Room).slots) := by
  refine MetFree.of_bodySF (plainFor_of_name pn_2) hisR ?_
  intro p e s m args below meth c s₁ Bd hml0 hP hK
  obtain ⟨rfl, hZ, hh⟩ := hP
  have hx := Bd.exec
  have hby := Bd.bytes
  have hml : c.maxLocals = 1 := hml0
  have hown : s.vm.findClass "com/example/which_bucket/whichbucket/WhichBucket" = some m.cls := findClass_of_methodNamed Bd.named
  have hnm := (name_of_methodNamed Bd.named Bd.method).1
  have hlk : meth.locks = false := Bd.notSynchronized
  have X0 : Stand p l e ({ frames := 0, cells := 0, slots := 0, locals := 0 } : Room) s m #[(.int p0)] below meth c s₁ [] 0 0 := Stand.of_body Bd
  have e0 : s₁.heap = h0 := by rw [← hh, Bd.state]; rfl
  have N0 := Fr.nil n0
  have KK0 := Keep.refl h0 []
  show own_Go p.tables e below s 0 0 (Q2 Z p0 h0 n0) (s₁.setTop (entryFrame m #[(.int p0)] 1))
  rw [ef_2]
  refine own_step (U' := s₁.setTop (mkF m 19 #[iv p0] [])) (fun t k => XS.iloadN X0.here hx rfl (hb hby d2_0) rfl (XS.iconst X0.here hx rfl (hb hby d2_1) (XS.icmpYes X0.here hx rfl (pc0 := 2) (pc' := 19) rfl (hb hby d2_2) rfl (flt hge).2.1 (by decide) (by decide) k))) ?_
  exact own_out X0 (v := none) hlk (fun _ => rfl) (by rw [e0]; exact ⟨rfl, N0, rfl⟩) (by decide) (by decide) (fun fs hr => X0.returnOut hx Bd.returns (hb hby d2_19) hr)
/-- without a redraw: the bucket that the bits B lead to -/
def own_L (half : Nat → Nat) (B : Nat) : Nat := if B = 0 then 0 else 2 ^ B.log2 + half B % 2 ^ B.log2
/-- the targets tried in the range of the bit k: the first out of the first draw, the others out of the later ones -/
def own_X (half d : Nat → Nat) (B k : Nat) : Nat → Nat
  | 0 => 2 ^ k + half B % 2 ^ k
  | i + 1 => d i % 2 ^ (k + 1)
def own_J (half d : Nat → Nat) (h n r : Nat) : Prop :=
  ∃ k, 2 ^ k ≤ n - 1 ∧ n - 1 < 2 ^ (k + 1) ∧
    ((h % 2 ^ (k + 1) < 2 ^ k ∧ r = own_L half (h % 2 ^ (k + 1))) ∨
     (2 ^ k ≤ h % 2 ^ (k + 1) ∧ ∃ j, own_X half d (h % 2 ^ (k + 1)) k j < n ∧ (∀ i, i < j → n ≤ own_X half d (h % 2 ^ (k + 1)) k i) ∧
       r = if 2 ^ k ≤ own_X half d (h % 2 ^ (k + 1)) k j then own_X half d (h % 2 ^ (k + 1)) k j else own_L half (h % 2 ^ (k + 1) - 2 ^ k)))
theorem own_log {B : Nat} (h : B ≠ 0) : 2 ^ B.log2 ≤ B ∧ B < 2 ^ (B.log2 + 1) := ⟨Nat.log2_self_le h, Nat.lt_log2_self⟩
theorem own_logu {B k : Nat} (h1 : 2 ^ k ≤ B) (h2 : B < 2 ^ (k + 1)) : B.log2 = k := by
  have hB : B ≠ 0 := by have := Nat.pow_pos (a := 2) (n := k) (by decide); omega
  rw [Nat.log2_eq_iff hB]; exact ⟨h1, h2⟩
theorem own_Lge {half : Nat → Nat} {B : Nat} (h : B ≠ 0) : 2 ^ B.log2 ≤ own_L half B := by rw [own_L, if_neg h]; omega
theorem own_Llt {half : Nat → Nat} {B k : Nat} (h : B < 2 ^ k) : own_L half B < 2 ^ k := by
  rw [own_L]
  split
  · exact Nat.pow_pos (by decide)
  · rename_i hB
    obtain ⟨h1, -⟩ := own_log hB
    have h3 : half B % 2 ^ B.log2 < 2 ^ B.log2 := Nat.mod_lt _ (Nat.pow_pos (by decide))
    have h4 : B.log2 < k := (Nat.pow_lt_pow_iff_right (a := 2) (by decide)).mp (Nat.lt_of_le_of_lt h1 h)
    have h5 : 2 ^ (B.log2 + 1) ≤ 2 ^ k := Nat.pow_le_pow_right (by decide) h4
    rw [Nat.pow_succ] at h5
    omega
theorem own_J_lt {half d : Nat → Nat} {h n r : Nat} (J : own_J half d h n r) : r < n := by
  obtain ⟨k, k1, k2, c | c⟩ := J
  · obtain ⟨c1, rfl⟩ := c
    have := own_Llt (half := half) c1
    omega
  · obtain ⟨c1, j, j1, j2, rfl⟩ := c
    split
    · exact j1
    · have hb : h % 2 ^ (k + 1) < 2 ^ (k + 1) := Nat.mod_lt _ (Nat.pow_pos (by decide))
      rw [Nat.pow_succ] at hb
      have := own_Llt (half := half) (B := h % 2 ^ (k + 1) - 2 ^ k) (k := k) (by rw [Nat.pow_succ]; omega)
      omega
theorem own_modmod (h k q : Nat) (hk : k ≤ q) : h % 2 ^ q % 2 ^ k = h % 2 ^ k := Nat.mod_mod_of_dvd h (Nat.pow_dvd_pow 2 hk)
theorem own_sub {h k : Nat} (c1 : 2 ^ k ≤ h % 2 ^ (k + 1)) : h % 2 ^ (k + 1) - 2 ^ k = h % 2 ^ k := by
  rw [← own_modmod h k (k + 1) (by omega)]
  have hb : h % 2 ^ (k + 1) < 2 ^ (k + 1) := Nat.mod_lt _ (Nat.pow_pos (by decide))
  generalize h % 2 ^ (k + 1) = B at *
  rw [Nat.pow_succ] at hb
  rw [Nat.mod_eq_sub_mod c1, Nat.mod_eq_of_lt (by omega)]
/-- the bits below 2^q, where no bit is set from n on -/
theorem own_low {h n k q : Nat} (k1 : 2 ^ k ≤ n - 1) (k2 : n - 1 < 2 ^ (k + 1)) (hkq : k + 1 ≤ q) (hB : h % 2 ^ q = 0 ∨ 2 ^ (h % 2 ^ q).log2 < n) : h % 2 ^ q = h % 2 ^ (k + 1) := by
  rw [← own_modmod h (k + 1) q hkq]
  symm
  apply Nat.mod_eq_of_lt
  rcases hB with z | z
  · rw [z]; exact Nat.pow_pos (by decide)
  · by_cases hz : h % 2 ^ q = 0
    · rw [hz]; exact Nat.pow_pos (by decide)
    · obtain ⟨-, h2⟩ := own_log hz
      have : (h % 2 ^ q).log2 < k + 1 := (Nat.pow_lt_pow_iff_right (a := 2) (by decide)).mp (by omega)
      exact Nat.lt_of_lt_of_le h2 (Nat.pow_le_pow_right (by decide) this)
/-- what L leads to, against the answer for n -/
theorem own_L_vs {half d : Nat → Nat} {h n r q : Nat} (J : own_J half d h n r) (hq : n ≤ 2 ^ q) : n ≤ own_L half (h % 2 ^ q) ∨ own_L half (h % 2 ^ q) = r := by
  obtain ⟨k, k1, k2, c⟩ := J
  by_cases hB : h % 2 ^ q = 0 ∨ 2 ^ (h % 2 ^ q).log2 < n
  · have hkq : k + 1 ≤ q := by
      have : 2 ^ k < 2 ^ q := by clear c hB; have := Nat.pow_pos (a := 2) (n := k) (by decide); omega
      exact (Nat.pow_lt_pow_iff_right (a := 2) (by decide)).mp this
    have e := own_low k1 k2 hkq hB
    rw [e]
    rcases c with ⟨c1, c2⟩ | ⟨c1, j, j1, j2, c2⟩
    · right; exact c2.symm
    · have hb : h % 2 ^ (k + 1) < 2 ^ (k + 1) := Nat.mod_lt _ (Nat.pow_pos (by decide))
      have el := own_logu c1 hb
      have hne : h % 2 ^ (k + 1) ≠ 0 := by have := Nat.pow_pos (a := 2) (n := k) (by decide); omega
      have eL : own_L half (h % 2 ^ (k + 1)) = own_X half d (h % 2 ^ (k + 1)) k 0 := by rw [own_L, if_neg hne, el]; rfl
      rw [eL]
      by_cases hx : n ≤ own_X half d (h % 2 ^ (k + 1)) k 0
      · left; exact hx
      · right
        have hj : j = 0 := by
          rcases Nat.eq_zero_or_pos j with z | z
          · exact z
          · exact absurd (j2 0 z) hx
        subst hj
        rw [c2, if_pos]
        show 2 ^ k ≤ 2 ^ k + _
        omega
  · left
    have h1 : h % 2 ^ q ≠ 0 := fun z => hB (Or.inl z)
    have h2 : n ≤ 2 ^ (h % 2 ^ q).log2 := by have := fun z => hB (Or.inr z); omega
    exact Nat.le_trans h2 (own_Lge h1)
theorem own_J_vs {half d : Nat → Nat} {h n m r r' : Nat} (hn : 2 ≤ n) (J : own_J half d h n r) (J' : own_J half d h m r') (hnm : n ≤ m) : n ≤ r' ∨ r' = r := by
  obtain ⟨k', k1', k2', c'⟩ := J'
  by_cases hs : n ≤ 2 ^ k'
  · -- a higher range
    rcases c' with ⟨c1, rfl⟩ | ⟨c1, j, j1, j2, rfl⟩
    · rw [show h % 2 ^ (k' + 1) = h % 2 ^ k' by rw [← own_modmod h k' (k' + 1) (by omega)]; exact (Nat.mod_eq_of_lt c1).symm]
      exact own_L_vs J hs
    · split
      · left; omega
      · rw [own_sub c1]
        exact own_L_vs J hs
  · -- the same range
    obtain ⟨k, k1, k2, c⟩ := J
    have e : k = k' := by
      clear c c'
      have a1 : k < k' + 1 := (Nat.pow_lt_pow_iff_right (a := 2) (by decide)).mp (by omega)
      have a2 : k' < k + 1 := (Nat.pow_lt_pow_iff_right (a := 2) (by decide)).mp (by omega)
      omega
    subst e
    rcases c with ⟨c1, c2⟩ | ⟨c1, j, j1, j2, c2⟩
    · rcases c' with ⟨d1, d2⟩ | ⟨d1, -⟩
      · right; rw [c2, d2]
      · omega
    · rcases c' with ⟨d1, -⟩ | ⟨d1, j', l1, l2, d2⟩
      · omega
      · by_cases hx : own_X half d (h % 2 ^ (k + 1)) k j' < n
        · right
          have ej : j' = j := by
            rcases Nat.lt_trichotomy j j' with q | q | q
            · have := l2 j q; omega
            · exact q.symm
            · have := j2 j' q; omega
          rw [d2, c2, ej]
        · left
          rw [d2, if_pos (by omega)]
          omega
theorem own_J_pow {half d : Nat → Nat} {h e r : Nat} (he : 1 ≤ e) (J : own_J half d h (2 ^ e) r) : r = own_L half (h % 2 ^ e) := by
  obtain ⟨k, k1, k2, c⟩ := J
  have hp : 1 ≤ 2 ^ e := Nat.pow_pos (by decide)
  have ek : e = k + 1 := by
    have a1 : k < e := (Nat.pow_lt_pow_iff_right (a := 2) (by decide)).mp (by have := Nat.pow_pos (a := 2) (n := k) (by decide); omega)
    have a2 : e ≤ k + 1 := (Nat.pow_le_pow_iff_right (a := 2) (by decide)).mp (by omega)
    omega
  subst ek
  rcases c with ⟨c1, c2⟩ | ⟨c1, j, j1, j2, c2⟩
  · exact c2
  · have hb : h % 2 ^ (k + 1) < 2 ^ (k + 1) := Nat.mod_lt _ (Nat.pow_pos (by decide))
    have el := own_logu c1 hb
    have hne : h % 2 ^ (k + 1) ≠ 0 := by have := Nat.pow_pos (a := 2) (n := k) (by decide); omega
    have eL : own_L half (h % 2 ^ (k + 1)) = own_X half d (h % 2 ^ (k + 1)) k 0 := by rw [own_L, if_neg hne, el]; rfl
    have hx : own_X half d (h % 2 ^ (k + 1)) k 0 < 2 ^ (k + 1) := by rw [← eL]; exact own_Llt hb
    have hj : j = 0 := by
      rcases Nat.eq_zero_or_pos j with z | z
      · exact z
      · have := j2 0 z; omega
    subst hj
    rw [c2, eL, if_pos]
    show 2 ^ k ≤ 2 ^ k + _
    omega
/-- the answer and the bits have the same highest bit -/
theorem own_top {t x y : Nat} (h1 : 2 ^ t ≤ x) (h2 : x < 2 ^ (t + 1)) (g1 : 2 ^ t ≤ y) (g2 : y < 2 ^ (t + 1)) : (x ^^^ y) < (x &&& y) := by
  obtain ⟨a, rfl⟩ : ∃ a, x = 2 ^ t + a := ⟨x - 2 ^ t, by omega⟩
  obtain ⟨b, rfl⟩ : ∃ b, y = 2 ^ t + b := ⟨y - 2 ^ t, by omega⟩
  rw [Nat.pow_succ] at h2 g2
  have ha : a < 2 ^ t := by omega
  have hb : b < 2 ^ t := by omega
  have e1 : (2 ^ t + a) ^^^ (2 ^ t + b) = a ^^^ b := by
    have p1 := Nat.two_pow_add_eq_or_of_lt (i := t) (b := a) ha 1
    have p2 := Nat.two_pow_add_eq_or_of_lt (i := t) (b := b) hb 1
    rw [Nat.mul_one] at p1 p2
    rw [p1, p2]
    apply Nat.eq_of_testBit_eq
    intro i
    simp only [Nat.testBit_xor, Nat.testBit_or, Nat.testBit_two_pow]
    by_cases hi : t = i
    · subst hi; rw [Nat.testBit_lt_two_pow ha, Nat.testBit_lt_two_pow hb]; simp
    · simp [hi]
  have e2 : 2 ^ t ≤ (2 ^ t + a) &&& (2 ^ t + b) := by
    have : ((2 ^ t + a) &&& (2 ^ t + b)).testBit t = true := by
      rw [Nat.testBit_and, Nat.testBit_two_pow_add_eq, Nat.testBit_two_pow_add_eq, Nat.testBit_lt_two_pow ha, Nat.testBit_lt_two_pow hb]; rfl
    exact Nat.ge_two_pow_of_testBit this
  have e3 : a ^^^ b < 2 ^ t := Nat.xor_lt_two_pow ha hb
  omega

/-- an int's bits as a natural number -/
def own_u (x : Int32) : Nat := x.toBitVec.toNat
theorem own_u_lt (x : Int32) : own_u x < 4294967296 := x.toBitVec.isLt
theorem own_u_inj {x y : Int32} (h : own_u x = own_u y) : x = y := Int32.toBitVec_inj.mp (BitVec.eq_of_toNat_eq h)
theorem own_u_toInt (x : Int32) (h : own_u x < 2147483648) : x.toInt = own_u x := by
  show x.toBitVec.toInt = _
  rw [BitVec.toInt_eq_toNat_cond, if_pos (by show 2 * own_u x < _; omega)]; rfl
theorem own_toInt_u (x : Int32) (h : 0 ≤ x.toInt) : (own_u x : Int) = x.toInt ∧ own_u x < 2147483648 := by
  have e : x.toInt = x.toBitVec.toInt := rfl
  have hlt := x.toBitVec.isLt
  rw [e, BitVec.toInt_eq_toNat_cond] at h ⊢
  show (x.toBitVec.toNat : Int) = _ ∧ x.toBitVec.toNat < _
  split at h <;> split <;> omega
theorem own_u_ofNat {n : Nat} (h : n < 4294967296) : own_u (Int32.ofNat n) = n := by
  show (Int32.ofNat n).toBitVec.toNat = n
  rw [Int32.toBitVec_ofNat']
  simp [BitVec.toNat_ofNat]; omega
theorem own_u_and (x y : Int32) : own_u (x &&& y) = own_u x &&& own_u y := by
  show (x &&& y).toBitVec.toNat = _
  rw [Int32.toBitVec_and, BitVec.toNat_and]; rfl
theorem own_u_or (x y : Int32) : own_u (x ||| y) = own_u x ||| own_u y := by
  show (x ||| y).toBitVec.toNat = _
  rw [Int32.toBitVec_or, BitVec.toNat_or]; rfl
theorem own_u_xor (x y : Int32) : own_u (x ^^^ y) = own_u x ^^^ own_u y := by
  show (x ^^^ y).toBitVec.toNat = _
  rw [Int32.toBitVec_xor, BitVec.toNat_xor]; rfl
theorem own_u_sub1 (x : Int32) (h : 1 ≤ own_u x) : own_u (x - 1) = own_u x - 1 := by
  show (x - 1).toBitVec.toNat = _
  rw [Int32.toBitVec_sub, BitVec.toNat_sub]
  show (2 ^ 32 - 1 + own_u x) % 2 ^ 32 = _
  have := own_u_lt x
  omega
/-- a mask of k ones -/
theorem own_u_mask {x m : Int32} {k : Nat} (hm : own_u m = 2 ^ k - 1) : own_u (x &&& m) = own_u x % 2 ^ k := by
  rw [own_u_and, hm, Nat.and_two_pow_sub_one_eq_mod]
theorem own_pow_lt {t : Nat} (ht : t ≤ 30) : 2 ^ t < 2147483648 ∧ 1 ≤ 2 ^ t ∧ 2 ^ (t + 1) ≤ 2147483648 := by
  have h1 : 2 ^ t ≤ 2 ^ 30 := Nat.pow_le_pow_right (by decide) ht
  have h2 : 2 ^ (t + 1) ≤ 2 ^ 31 := Nat.pow_le_pow_right (by decide) (by omega)
  have h3 : 1 ≤ 2 ^ t := Nat.pow_pos (by decide)
  have e1 : 2 ^ 30 = 1073741824 := by decide
  have e2 : 2 ^ 31 = 2147483648 := by decide
  omega
/-- q | (half & (q - 1)) -/
theorem own_u_b {q x : Int32} {t : Nat} (hq : own_u q = 2 ^ t) : own_u (q ||| (x &&& (q - 1))) = 2 ^ t + own_u x % 2 ^ t := by
  have h1 : 1 ≤ 2 ^ t := Nat.pow_pos (by decide)
  have hm : own_u (q - 1) = 2 ^ t - 1 := by rw [own_u_sub1 q (by omega), hq]
  rw [own_u_or, own_u_mask hm, hq]
  have h2 : own_u x % 2 ^ t < 2 ^ t := Nat.mod_lt _ h1
  have h3 := Nat.two_pow_add_eq_or_of_lt h2 1
  rw [Nat.mul_one] at h3
  exact h3.symm
/-- (q << 1) - 1 -/
theorem own_u_range {q : Int32} {t : Nat} (ht : t ≤ 30) (hq : own_u q = 2 ^ t) : own_u ((q <<< ((1 : Int32) &&& 31)) - 1) = 2 ^ (t + 1) - 1 := by
  obtain ⟨p1, p2, p3⟩ := own_pow_lt ht
  have e : own_u (q <<< ((1 : Int32) &&& 31)) = 2 ^ (t + 1) := by
    show (q.toBitVec <<< (((1 : Int32) &&& 31).toBitVec.smod 32)).toNat = _
    have e1 : (((1 : Int32) &&& 31).toBitVec.smod 32) = 1#32 := by decide
    rw [e1]
    show (q.toBitVec <<< (1#32).toNat).toNat = _
    rw [BitVec.toNat_shiftLeft]
    show (own_u q <<< 1) % 2 ^ 32 = _
    rw [hq, Nat.shiftLeft_eq]
    have e2 : 2 ^ 32 = 4294967296 := by decide
    have e3 : 2 ^ 1 = 2 := by decide
    have e4 : 2 ^ (t + 1) = 2 ^ t * 2 := Nat.pow_succ ..
    rw [e4] at p3 ⊢
    rw [e2, e3]; omega
  rw [own_u_sub1 _ (by rw [e]; omega), e]
/-- the highest bit taken off -/
theorem own_u_off {x q : Int32} {t : Nat} (hq : own_u q = 2 ^ t) (h1 : 2 ^ t ≤ own_u x) (h2 : own_u x < 2 ^ (t + 1)) : own_u (x ^^^ q) = own_u x - 2 ^ t := by
  rw [own_u_xor, hq]
  obtain ⟨a, ha⟩ : ∃ a, own_u x = 2 ^ t + a := ⟨own_u x - 2 ^ t, by omega⟩
  rw [Nat.pow_succ] at h2
  have hlt : a < 2 ^ t := by omega
  rw [ha]
  have p1 := Nat.two_pow_add_eq_or_of_lt hlt 1
  rw [Nat.mul_one] at p1
  have : (2 ^ t + a) ^^^ 2 ^ t = a := by
    rw [p1]
    apply Nat.eq_of_testBit_eq
    intro i
    rw [Nat.testBit_xor, Nat.testBit_or, Nat.testBit_two_pow]
    by_cases hi : t = i
    · subst hi; rw [Nat.testBit_lt_two_pow hlt]; simp
    · simp [hi]
  rw [this]; omega
theorem own_u_top {x : Int32} {t : Nat} (h1 : 2 ^ t ≤ own_u x) (h2 : own_u x < 2 ^ (t + 1)) {q : Int32} (hq : own_u q = 2 ^ t) : own_u (x &&& q) = 2 ^ t := by
  rw [own_u_and, hq]
  have this : (own_u x).testBit t = true := by
    obtain ⟨a, ha⟩ : ∃ a, own_u x = 2 ^ t + a := ⟨own_u x - 2 ^ t, by omega⟩
    rw [Nat.pow_succ] at h2
    rw [ha, Nat.testBit_two_pow_add_eq, Nat.testBit_lt_two_pow (by omega)]; rfl
  apply Nat.eq_of_testBit_eq
  intro i
  rw [Nat.testBit_and, Nat.testBit_two_pow]
  by_cases hi : t = i
  · subst hi; rw [this]; simp
  · simp [hi]
theorem own_u_ltI {x y : Int32} (hx : own_u x < 2147483648) (hy : own_u y < 2147483648) : x < y ↔ own_u x < own_u y := by
  rw [Int32.lt_iff_toInt_lt, own_u_toInt x hx, own_u_toInt y hy]; omega

theorem own_sh {x : Int32} {q : Int32} (s : Nat) (hs : q.toBitVec.toNat % 32 = s) (h0 : 0 < s) (hx : 0 ≤ x.toInt) : ((x.toUInt32 >>> (q &&& 31).toUInt32).toInt32).toInt = x.toInt / (2 ^ s : Nat) := by
  have r := rng32 x
  rw [c_iushr x q s hs h0, Int.emod_eq_of_lt hx (by omega)]
theorem own_nlz_0 {p : Int32} (h1 : 1 ≤ p.toInt) (h2 : p.toInt < 2) : F7 p = (31 : Int32) := by
  have e0 : (0 : Int32).toInt = 0 := by decide
  have c0 : (0 : Int32) < p := by rw [Int32.lt_iff_toInt_lt, e0]; omega
  have d16 : (65536 : Int32).toInt = 65536 := by decide
  have c16 : p < (65536 : Int32) := by rw [Int32.lt_iff_toInt_lt]; omega
  have d8 : (256 : Int32).toInt = 256 := by decide
  have c8 : p < (256 : Int32) := by rw [Int32.lt_iff_toInt_lt]; omega
  have d4 : (16 : Int32).toInt = 16 := by decide
  have c4 : p < (16 : Int32) := by rw [Int32.lt_iff_toInt_lt]; omega
  have d2 : (4 : Int32).toInt = 4 := by decide
  have c2 : p < (4 : Int32) := by rw [Int32.lt_iff_toInt_lt]; omega
  have s1 := own_sh (x := p) (q := (1 : Int32)) 1 (by decide) (by decide) (by omega)
  have d1 : (0 : Int32).toInt = 0 := by decide
  have f1 : ((p.toUInt32 >>> ((1 : Int32) &&& 31).toUInt32).toInt32) = (0 : Int32) := by apply Int32.toInt_inj.mp; omega
  simp only [F7, if_pos c0, if_pos c16, if_pos c8, if_pos c4, if_pos c2, f1]; try decide
theorem own_nlz_1 {p : Int32} (h1 : 2 ≤ p.toInt) (h2 : p.toInt < 4) : F7 p = (30 : Int32) := by
  have e0 : (0 : Int32).toInt = 0 := by decide
  have c0 : (0 : Int32) < p := by rw [Int32.lt_iff_toInt_lt, e0]; omega
  have d16 : (65536 : Int32).toInt = 65536 := by decide
  have c16 : p < (65536 : Int32) := by rw [Int32.lt_iff_toInt_lt]; omega
  have d8 : (256 : Int32).toInt = 256 := by decide
  have c8 : p < (256 : Int32) := by rw [Int32.lt_iff_toInt_lt]; omega
  have d4 : (16 : Int32).toInt = 16 := by decide
  have c4 : p < (16 : Int32) := by rw [Int32.lt_iff_toInt_lt]; omega
  have d2 : (4 : Int32).toInt = 4 := by decide
  have c2 : p < (4 : Int32) := by rw [Int32.lt_iff_toInt_lt]; omega
  have s1 := own_sh (x := p) (q := (1 : Int32)) 1 (by decide) (by decide) (by omega)
  have d1 : (1 : Int32).toInt = 1 := by decide
  have f1 : ((p.toUInt32 >>> ((1 : Int32) &&& 31).toUInt32).toInt32) = (1 : Int32) := by apply Int32.toInt_inj.mp; omega
  simp only [F7, if_pos c0, if_pos c16, if_pos c8, if_pos c4, if_pos c2, f1]; try decide
theorem own_nlz_2 {p : Int32} (h1 : 4 ≤ p.toInt) (h2 : p.toInt < 8) : F7 p = (29 : Int32) := by
  have e0 : (0 : Int32).toInt = 0 := by decide
  have c0 : (0 : Int32) < p := by rw [Int32.lt_iff_toInt_lt, e0]; omega
  have d16 : (65536 : Int32).toInt = 65536 := by decide
  have c16 : p < (65536 : Int32) := by rw [Int32.lt_iff_toInt_lt]; omega
  have d8 : (256 : Int32).toInt = 256 := by decide
  have c8 : p < (256 : Int32) := by rw [Int32.lt_iff_toInt_lt]; omega
  have d4 : (16 : Int32).toInt = 16 := by decide
  have c4 : p < (16 : Int32) := by rw [Int32.lt_iff_toInt_lt]; omega
  have d2 : (4 : Int32).toInt = 4 := by decide
  have c2 : ¬ p < (4 : Int32) := by rw [Int32.lt_iff_toInt_lt]; omega
  have s2 := own_sh (x := p) (q := (2 : Int32)) 2 (by decide) (by decide) (by omega)
  have s1 := own_sh (x := ((p.toUInt32 >>> ((2 : Int32) &&& 31).toUInt32).toInt32)) (q := (1 : Int32)) 1 (by decide) (by decide) (by omega)
  have d1 : (0 : Int32).toInt = 0 := by decide
  have f1 : ((((p.toUInt32 >>> ((2 : Int32) &&& 31).toUInt32).toInt32).toUInt32 >>> ((1 : Int32) &&& 31).toUInt32).toInt32) = (0 : Int32) := by apply Int32.toInt_inj.mp; omega
  simp only [F7, if_pos c0, if_pos c16, if_pos c8, if_pos c4, if_neg c2, f1]; try decide
theorem own_nlz_3 {p : Int32} (h1 : 8 ≤ p.toInt) (h2 : p.toInt < 16) : F7 p = (28 : Int32) := by
  have e0 : (0 : Int32).toInt = 0 := by decide
  have c0 : (0 : Int32) < p := by rw [Int32.lt_iff_toInt_lt, e0]; omega
  have d16 : (65536 : Int32).toInt = 65536 := by decide
  have c16 : p < (65536 : Int32) := by rw [Int32.lt_iff_toInt_lt]; omega
  have d8 : (256 : Int32).toInt = 256 := by decide
  have c8 : p < (256 : Int32) := by rw [Int32.lt_iff_toInt_lt]; omega
  have d4 : (16 : Int32).toInt = 16 := by decide
  have c4 : p < (16 : Int32) := by rw [Int32.lt_iff_toInt_lt]; omega
  have d2 : (4 : Int32).toInt = 4 := by decide
  have c2 : ¬ p < (4 : Int32) := by rw [Int32.lt_iff_toInt_lt]; omega
  have s2 := own_sh (x := p) (q := (2 : Int32)) 2 (by decide) (by decide) (by omega)
  have s1 := own_sh (x := ((p.toUInt32 >>> ((2 : Int32) &&& 31).toUInt32).toInt32)) (q := (1 : Int32)) 1 (by decide) (by decide) (by omega)
  have d1 : (1 : Int32).toInt = 1 := by decide
  have f1 : ((((p.toUInt32 >>> ((2 : Int32) &&& 31).toUInt32).toInt32).toUInt32 >>> ((1 : Int32) &&& 31).toUInt32).toInt32) = (1 : Int32) := by apply Int32.toInt_inj.mp; omega
  simp only [F7, if_pos c0, if_pos c16, if_pos c8, if_pos c4, if_neg c2, f1]; try decide
theorem own_nlz_4 {p : Int32} (h1 : 16 ≤ p.toInt) (h2 : p.toInt < 32) : F7 p = (27 : Int32) := by
  have e0 : (0 : Int32).toInt = 0 := by decide
  have c0 : (0 : Int32) < p := by rw [Int32.lt_iff_toInt_lt, e0]; omega
  have d16 : (65536 : Int32).toInt = 65536 := by decide
  have c16 : p < (65536 : Int32) := by rw [Int32.lt_iff_toInt_lt]; omega
  have d8 : (256 : Int32).toInt = 256 := by decide
  have c8 : p < (256 : Int32) := by rw [Int32.lt_iff_toInt_lt]; omega
  have d4 : (16 : Int32).toInt = 16 := by decide
  have c4 : ¬ p < (16 : Int32) := by rw [Int32.lt_iff_toInt_lt]; omega
  have s4 := own_sh (x := p) (q := (4 : Int32)) 4 (by decide) (by decide) (by omega)
  have d2 : (4 : Int32).toInt = 4 := by decide
  have c2 : ((p.toUInt32 >>> ((4 : Int32) &&& 31).toUInt32).toInt32) < (4 : Int32) := by rw [Int32.lt_iff_toInt_lt]; omega
  have s1 := own_sh (x := ((p.toUInt32 >>> ((4 : Int32) &&& 31).toUInt32).toInt32)) (q := (1 : Int32)) 1 (by decide) (by decide) (by omega)
  have d1 : (0 : Int32).toInt = 0 := by decide
  have f1 : ((((p.toUInt32 >>> ((4 : Int32) &&& 31).toUInt32).toInt32).toUInt32 >>> ((1 : Int32) &&& 31).toUInt32).toInt32) = (0 : Int32) := by apply Int32.toInt_inj.mp; omega
  simp only [F7, if_pos c0, if_pos c16, if_pos c8, if_neg c4, if_pos c2, f1]; try decide
theorem own_nlz_5 {p : Int32} (h1 : 32 ≤ p.toInt) (h2 : p.toInt < 64) : F7 p = (26 : Int32) := by
  have e0 : (0 : Int32).toInt = 0 := by decide
  have c0 : (0 : Int32) < p := by rw [Int32.lt_iff_toInt_lt, e0]; omega
  have d16 : (65536 : Int32).toInt = 65536 := by decide
  have c16 : p < (65536 : Int32) := by rw [Int32.lt_iff_toInt_lt]; omega
  have d8 : (256 : Int32).toInt = 256 := by decide
  have c8 : p < (256 : Int32) := by rw [Int32.lt_iff_toInt_lt]; omega
  have d4 : (16 : Int32).toInt = 16 := by decide
  have c4 : ¬ p < (16 : Int32) := by rw [Int32.lt_iff_toInt_lt]; omega
  have s4 := own_sh (x := p) (q := (4 : Int32)) 4 (by decide) (by decide) (by omega)
  have d2 : (4 : Int32).toInt = 4 := by decide
  have c2 : ((p.toUInt32 >>> ((4 : Int32) &&& 31).toUInt32).toInt32) < (4 : Int32) := by rw [Int32.lt_iff_toInt_lt]; omega
  have s1 := own_sh (x := ((p.toUInt32 >>> ((4 : Int32) &&& 31).toUInt32).toInt32)) (q := (1 : Int32)) 1 (by decide) (by decide) (by omega)
  have d1 : (1 : Int32).toInt = 1 := by decide
  have f1 : ((((p.toUInt32 >>> ((4 : Int32) &&& 31).toUInt32).toInt32).toUInt32 >>> ((1 : Int32) &&& 31).toUInt32).toInt32) = (1 : Int32) := by apply Int32.toInt_inj.mp; omega
  simp only [F7, if_pos c0, if_pos c16, if_pos c8, if_neg c4, if_pos c2, f1]; try decide
theorem own_nlz_6 {p : Int32} (h1 : 64 ≤ p.toInt) (h2 : p.toInt < 128) : F7 p = (25 : Int32) := by
  have e0 : (0 : Int32).toInt = 0 := by decide
  have c0 : (0 : Int32) < p := by rw [Int32.lt_iff_toInt_lt, e0]; omega
  have d16 : (65536 : Int32).toInt = 65536 := by decide
  have c16 : p < (65536 : Int32) := by rw [Int32.lt_iff_toInt_lt]; omega
  have d8 : (256 : Int32).toInt = 256 := by decide
  have c8 : p < (256 : Int32) := by rw [Int32.lt_iff_toInt_lt]; omega
  have d4 : (16 : Int32).toInt = 16 := by decide
  have c4 : ¬ p < (16 : Int32) := by rw [Int32.lt_iff_toInt_lt]; omega
  have s4 := own_sh (x := p) (q := (4 : Int32)) 4 (by decide) (by decide) (by omega)
  have d2 : (4 : Int32).toInt = 4 := by decide
  have c2 : ¬ ((p.toUInt32 >>> ((4 : Int32) &&& 31).toUInt32).toInt32) < (4 : Int32) := by rw [Int32.lt_iff_toInt_lt]; omega
  have s2 := own_sh (x := ((p.toUInt32 >>> ((4 : Int32) &&& 31).toUInt32).toInt32)) (q := (2 : Int32)) 2 (by decide) (by decide) (by omega)
  have s1 := own_sh (x := ((((p.toUInt32 >>> ((4 : Int32) &&& 31).toUInt32).toInt32).toUInt32 >>> ((2 : Int32) &&& 31).toUInt32).toInt32)) (q := (1 : Int32)) 1 (by decide) (by decide) (by omega)
  have d1 : (0 : Int32).toInt = 0 := by decide
  have f1 : ((((((p.toUInt32 >>> ((4 : Int32) &&& 31).toUInt32).toInt32).toUInt32 >>> ((2 : Int32) &&& 31).toUInt32).toInt32).toUInt32 >>> ((1 : Int32) &&& 31).toUInt32).toInt32) = (0 : Int32) := by apply Int32.toInt_inj.mp; omega
  simp only [F7, if_pos c0, if_pos c16, if_pos c8, if_neg c4, if_neg c2, f1]; try decide
theorem own_nlz_7 {p : Int32} (h1 : 128 ≤ p.toInt) (h2 : p.toInt < 256) : F7 p = (24 : Int32) := by
  have e0 : (0 : Int32).toInt = 0 := by decide
  have c0 : (0 : Int32) < p := by rw [Int32.lt_iff_toInt_lt, e0]; omega
  have d16 : (65536 : Int32).toInt = 65536 := by decide
  have c16 : p < (65536 : Int32) := by rw [Int32.lt_iff_toInt_lt]; omega
  have d8 : (256 : Int32).toInt = 256 := by decide
  have c8 : p < (256 : Int32) := by rw [Int32.lt_iff_toInt_lt]; omega
  have d4 : (16 : Int32).toInt = 16 := by decide
  have c4 : ¬ p < (16 : Int32) := by rw [Int32.lt_iff_toInt_lt]; omega
  have s4 := own_sh (x := p) (q := (4 : Int32)) 4 (by decide) (by decide) (by omega)
  have d2 : (4 : Int32).toInt = 4 := by decide
  have c2 : ¬ ((p.toUInt32 >>> ((4 : Int32) &&& 31).toUInt32).toInt32) < (4 : Int32) := by rw [Int32.lt_iff_toInt_lt]; omega
  have s2 := own_sh (x := ((p.toUInt32 >>> ((4 : Int32) &&& 31).toUInt32).toInt32)) (q := (2 : Int32)) 2 (by decide) (by decide) (by omega)
  have s1 := own_sh (x := ((((p.toUInt32 >>> ((4 : Int32) &&& 31).toUInt32).toInt32).toUInt32 >>> ((2 : Int32) &&& 31).toUInt32).toInt32)) (q := (1 : Int32)) 1 (by decide) (by decide) (by omega)
  have d1 : (1 : Int32).toInt = 1 := by decide
  have f1 : ((((((p.toUInt32 >>> ((4 : Int32) &&& 31).toUInt32).toInt32).toUInt32 >>> ((2 : Int32) &&& 31).toUInt32).toInt32).toUInt32 >>> ((1 : Int32) &&& 31).toUInt32).toInt32) = (1 : Int32) := by apply Int32.toInt_inj.mp; omega
  simp only [F7, if_pos c0, if_pos c16, if_pos c8, if_neg c4, if_neg c2, f1]; try decide
theorem own_nlz_8 {p : Int32} (h1 : 256 ≤ p.toInt) (h2 : p.toInt < 512) : F7 p = (23 : Int32) := by
  have e0 : (0 : Int32).toInt = 0 := by decide
  have c0 : (0 : Int32) < p := by rw [Int32.lt_iff_toInt_lt, e0]; omega
  have d16 : (65536 : Int32).toInt = 65536 := by decide
  have c16 : p < (65536 : Int32) := by rw [Int32.lt_iff_toInt_lt]; omega
  have d8 : (256 : Int32).toInt = 256 := by decide
  have c8 : ¬ p < (256 : Int32) := by rw [Int32.lt_iff_toInt_lt]; omega
  have s8 := own_sh (x := p) (q := (8 : Int32)) 8 (by decide) (by decide) (by omega)
  have d4 : (16 : Int32).toInt = 16 := by decide
  have c4 : ((p.toUInt32 >>> ((8 : Int32) &&& 31).toUInt32).toInt32) < (16 : Int32) := by rw [Int32.lt_iff_toInt_lt]; omega
  have d2 : (4 : Int32).toInt = 4 := by decide
  have c2 : ((p.toUInt32 >>> ((8 : Int32) &&& 31).toUInt32).toInt32) < (4 : Int32) := by rw [Int32.lt_iff_toInt_lt]; omega
  have s1 := own_sh (x := ((p.toUInt32 >>> ((8 : Int32) &&& 31).toUInt32).toInt32)) (q := (1 : Int32)) 1 (by decide) (by decide) (by omega)
  have d1 : (0 : Int32).toInt = 0 := by decide
  have f1 : ((((p.toUInt32 >>> ((8 : Int32) &&& 31).toUInt32).toInt32).toUInt32 >>> ((1 : Int32) &&& 31).toUInt32).toInt32) = (0 : Int32) := by apply Int32.toInt_inj.mp; omega
  simp only [F7, if_pos c0, if_pos c16, if_neg c8, if_pos c4, if_pos c2, f1]; try decide
theorem own_nlz_9 {p : Int32} (h1 : 512 ≤ p.toInt) (h2 : p.toInt < 1024) : F7 p = (22 : Int32) := by
  have e0 : (0 : Int32).toInt = 0 := by decide
  have c0 : (0 : Int32) < p := by rw [Int32.lt_iff_toInt_lt, e0]; omega
  have d16 : (65536 : Int32).toInt = 65536 := by decide
  have c16 : p < (65536 : Int32) := by rw [Int32.lt_iff_toInt_lt]; omega
  have d8 : (256 : Int32).toInt = 256 := by decide
  have c8 : ¬ p < (256 : Int32) := by rw [Int32.lt_iff_toInt_lt]; omega
  have s8 := own_sh (x := p) (q := (8 : Int32)) 8 (by decide) (by decide) (by omega)
  have d4 : (16 : Int32).toInt = 16 := by decide
  have c4 : ((p.toUInt32 >>> ((8 : Int32) &&& 31).toUInt32).toInt32) < (16 : Int32) := by rw [Int32.lt_iff_toInt_lt]; omega
  have d2 : (4 : Int32).toInt = 4 := by decide
  have c2 : ((p.toUInt32 >>> ((8 : Int32) &&& 31).toUInt32).toInt32) < (4 : Int32) := by rw [Int32.lt_iff_toInt_lt]; omega
  have s1 := own_sh (x := ((p.toUInt32 >>> ((8 : Int32) &&& 31).toUInt32).toInt32)) (q := (1 : Int32)) 1 (by decide) (by decide) (by omega)
  have d1 : (1 : Int32).toInt = 1 := by decide
  have f1 : ((((p.toUInt32 >>> ((8 : Int32) &&& 31).toUInt32).toInt32).toUInt32 >>> ((1 : Int32) &&& 31).toUInt32).toInt32) = (1 : Int32) := by apply Int32.toInt_inj.mp; omega
  simp only [F7, if_pos c0, if_pos c16, if_neg c8, if_pos c4, if_pos c2, f1]; try decide
theorem own_nlz_10 {p : Int32} (h1 : 1024 ≤ p.toInt) (h2 : p.toInt < 2048) : F7 p = (21 : Int32) := by
  have e0 : (0 : Int32).toInt = 0 := by decide
  have c0 : (0 : Int32) < p := by rw [Int32.lt_iff_toInt_lt, e0]; omega
  have d16 : (65536 : Int32).toInt = 65536 := by decide
  have c16 : p < (65536 : Int32) := by rw [Int32.lt_iff_toInt_lt]; omega
  have d8 : (256 : Int32).toInt = 256 := by decide
  have c8 : ¬ p < (256 : Int32) := by rw [Int32.lt_iff_toInt_lt]; omega
  have s8 := own_sh (x := p) (q := (8 : Int32)) 8 (by decide) (by decide) (by omega)
  have d4 : (16 : Int32).toInt = 16 := by decide
  have c4 : ((p.toUInt32 >>> ((8 : Int32) &&& 31).toUInt32).toInt32) < (16 : Int32) := by rw [Int32.lt_iff_toInt_lt]; omega
  have d2 : (4 : Int32).toInt = 4 := by decide
  have c2 : ¬ ((p.toUInt32 >>> ((8 : Int32) &&& 31).toUInt32).toInt32) < (4 : Int32) := by rw [Int32.lt_iff_toInt_lt]; omega
  have s2 := own_sh (x := ((p.toUInt32 >>> ((8 : Int32) &&& 31).toUInt32).toInt32)) (q := (2 : Int32)) 2 (by decide) (by decide) (by omega)
  have s1 := own_sh (x := ((((p.toUInt32 >>> ((8 : Int32) &&& 31).toUInt32).toInt32).toUInt32 >>> ((2 : Int32) &&& 31).toUInt32).toInt32)) (q := (1 : Int32)) 1 (by decide) (by decide) (by omega)
  have d1 : (0 : Int32).toInt = 0 := by decide
  have f1 : ((((((p.toUInt32 >>> ((8 : Int32) &&& 31).toUInt32).toInt32).toUInt32 >>> ((2 : Int32) &&& 31).toUInt32).toInt32).toUInt32 >>> ((1 : Int32) &&& 31).toUInt32).toInt32) = (0 : Int32) := by apply Int32.toInt_inj.mp; omega
  simp only [F7, if_pos c0, if_pos c16, if_neg c8, if_pos c4, if_neg c2, f1]; try decide
theorem own_nlz_11 {p : Int32} (h1 : 2048 ≤ p.toInt) (h2 : p.toInt < 4096) : F7 p = (20 : Int32) := by
  have e0 : (0 : Int32).toInt = 0 := by decide
  have c0 : (0 : Int32) < p := by rw [Int32.lt_iff_toInt_lt, e0]; omega
  have d16 : (65536 : Int32).toInt = 65536 := by decide
  have c16 : p < (65536 : Int32) := by rw [Int32.lt_iff_toInt_lt]; omega
  have d8 : (256 : Int32).toInt = 256 := by decide
  have c8 : ¬ p < (256 : Int32) := by rw [Int32.lt_iff_toInt_lt]; omega
  have s8 := own_sh (x := p) (q := (8 : Int32)) 8 (by decide) (by decide) (by omega)
  have d4 : (16 : Int32).toInt = 16 := by decide
  have c4 : ((p.toUInt32 >>> ((8 : Int32) &&& 31).toUInt32).toInt32) < (16 : Int32) := by rw [Int32.lt_iff_toInt_lt]; omega
  have d2 : (4 : Int32).toInt = 4 := by decide
  have c2 : ¬ ((p.toUInt32 >>> ((8 : Int32) &&& 31).toUInt32).toInt32) < (4 : Int32) := by rw [Int32.lt_iff_toInt_lt]; omega
  have s2 := own_sh (x := ((p.toUInt32 >>> ((8 : Int32) &&& 31).toUInt32).toInt32)) (q := (2 : Int32)) 2 (by decide) (by decide) (by omega)
  have s1 := own_sh (x := ((((p.toUInt32 >>> ((8 : Int32) &&& 31).toUInt32).toInt32).toUInt32 >>> ((2 : Int32) &&& 31).toUInt32).toInt32)) (q := (1 : Int32)) 1 (by decide) (by decide) (by omega)
  have d1 : (1 : Int32).toInt = 1 := by decide
  have f1 : ((((((p.toUInt32 >>> ((8 : Int32) &&& 31).toUInt32).toInt32).toUInt32 >>> ((2 : Int32) &&& 31).toUInt32).toInt32).toUInt32 >>> ((1 : Int32) &&& 31).toUInt32).toInt32) = (1 : Int32) := by apply Int32.toInt_inj.mp; omega
  simp only [F7, if_pos c0, if_pos c16, if_neg c8, if_pos c4, if_neg c2, f1]; try decide
theorem own_nlz_12 {p : Int32} (h1 : 4096 ≤ p.toInt) (h2 : p.toInt < 8192) : F7 p = (19 : Int32) := by
  have e0 : (0 : Int32).toInt = 0 := by decide
  have c0 : (0 : Int32) < p := by rw [Int32.lt_iff_toInt_lt, e0]; omega
  have d16 : (65536 : Int32).toInt = 65536 := by decide
  have c16 : p < (65536 : Int32) := by rw [Int32.lt_iff_toInt_lt]; omega
  have d8 : (256 : Int32).toInt = 256 := by decide
  have c8 : ¬ p < (256 : Int32) := by rw [Int32.lt_iff_toInt_lt]; omega
  have s8 := own_sh (x := p) (q := (8 : Int32)) 8 (by decide) (by decide) (by omega)
  have d4 : (16 : Int32).toInt = 16 := by decide
  have c4 : ¬ ((p.toUInt32 >>> ((8 : Int32) &&& 31).toUInt32).toInt32) < (16 : Int32) := by rw [Int32.lt_iff_toInt_lt]; omega
  have s4 := own_sh (x := ((p.toUInt32 >>> ((8 : Int32) &&& 31).toUInt32).toInt32)) (q := (4 : Int32)) 4 (by decide) (by decide) (by omega)
  have d2 : (4 : Int32).toInt = 4 := by decide
  have c2 : ((((p.toUInt32 >>> ((8 : Int32) &&& 31).toUInt32).toInt32).toUInt32 >>> ((4 : Int32) &&& 31).toUInt32).toInt32) < (4 : Int32) := by rw [Int32.lt_iff_toInt_lt]; omega
  have s1 := own_sh (x := ((((p.toUInt32 >>> ((8 : Int32) &&& 31).toUInt32).toInt32).toUInt32 >>> ((4 : Int32) &&& 31).toUInt32).toInt32)) (q := (1 : Int32)) 1 (by decide) (by decide) (by omega)
  have d1 : (0 : Int32).toInt = 0 := by decide
  have f1 : ((((((p.toUInt32 >>> ((8 : Int32) &&& 31).toUInt32).toInt32).toUInt32 >>> ((4 : Int32) &&& 31).toUInt32).toInt32).toUInt32 >>> ((1 : Int32) &&& 31).toUInt32).toInt32) = (0 : Int32) := by apply Int32.toInt_inj.mp; omega
  simp only [F7, if_pos c0, if_pos c16, if_neg c8, if_neg c4, if_pos c2, f1]; try decide
theorem own_nlz_13 {p : Int32} (h1 : 8192 ≤ p.toInt) (h2 : p.toInt < 16384) : F7 p = (18 : Int32) := by
  have e0 : (0 : Int32).toInt = 0 := by decide
  have c0 : (0 : Int32) < p := by rw [Int32.lt_iff_toInt_lt, e0]; omega
  have d16 : (65536 : Int32).toInt = 65536 := by decide
  have c16 : p < (65536 : Int32) := by rw [Int32.lt_iff_toInt_lt]; omega
  have d8 : (256 : Int32).toInt = 256 := by decide
  have c8 : ¬ p < (256 : Int32) := by rw [Int32.lt_iff_toInt_lt]; omega
  have s8 := own_sh (x := p) (q := (8 : Int32)) 8 (by decide) (by decide) (by omega)
  have d4 : (16 : Int32).toInt = 16 := by decide
  have c4 : ¬ ((p.toUInt32 >>> ((8 : Int32) &&& 31).toUInt32).toInt32) < (16 : Int32) := by rw [Int32.lt_iff_toInt_lt]; omega
  have s4 := own_sh (x := ((p.toUInt32 >>> ((8 : Int32) &&& 31).toUInt32).toInt32)) (q := (4 : Int32)) 4 (by decide) (by decide) (by omega)
  have d2 : (4 : Int32).toInt = 4 := by decide
  have c2 : ((((p.toUInt32 >>> ((8 : Int32) &&& 31).toUInt32).toInt32).toUInt32 >>> ((4 : Int32) &&& 31).toUInt32).toInt32) < (4 : Int32) := by rw [Int32.lt_iff_toInt_lt]; omega
  have s1 := own_sh (x := ((((p.toUInt32 >>> ((8 : Int32) &&& 31).toUInt32).toInt32).toUInt32 >>> ((4 : Int32) &&& 31).toUInt32).toInt32)) (q := (1 : Int32)) 1 (by decide) (by decide) (by omega)
  have d1 : (1 : Int32).toInt = 1 := by decide
  have f1 : ((((((p.toUInt32 >>> ((8 : Int32) &&& 31).toUInt32).toInt32).toUInt32 >>> ((4 : Int32) &&& 31).toUInt32).toInt32).toUInt32 >>> ((1 : Int32) &&& 31).toUInt32).toInt32) = (1 : Int32) := by apply Int32.toInt_inj.mp; omega
  simp only [F7, if_pos c0, if_pos c16, if_neg c8, if_neg c4, if_pos c2, f1]; try decide
theorem own_nlz_14 {p : Int32} (h1 : 16384 ≤ p.toInt) (h2 : p.toInt < 32768) : F7 p = (17 : Int32) := by
  have e0 : (0 : Int32).toInt = 0 := by decide
  have c0 : (0 : Int32) < p := by rw [Int32.lt_iff_toInt_lt, e0]; omega
  have d16 : (65536 : Int32).toInt = 65536 := by decide
  have c16 : p < (65536 : Int32) := by rw [Int32.lt_iff_toInt_lt]; omega
  have d8 : (256 : Int32).toInt = 256 := by decide
  have c8 : ¬ p < (256 : Int32) := by rw [Int32.lt_iff_toInt_lt]; omega
  have s8 := own_sh (x := p) (q := (8 : Int32)) 8 (by decide) (by decide) (by omega)
  have d4 : (16 : Int32).toInt = 16 := by decide
  have c4 : ¬ ((p.toUInt32 >>> ((8 : Int32) &&& 31).toUInt32).toInt32) < (16 : Int32) := by rw [Int32.lt_iff_toInt_lt]; omega
  have s4 := own_sh (x := ((p.toUInt32 >>> ((8 : Int32) &&& 31).toUInt32).toInt32)) (q := (4 : Int32)) 4 (by decide) (by decide) (by omega)
  have d2 : (4 : Int32).toInt = 4 := by decide
  have c2 : ¬ ((((p.toUInt32 >>> ((8 : Int32) &&& 31).toUInt32).toInt32).toUInt32 >>> ((4 : Int32) &&& 31).toUInt32).toInt32) < (4 : Int32) := by rw [Int32.lt_iff_toInt_lt]; omega
  have s2 := own_sh (x := ((((p.toUInt32 >>> ((8 : Int32) &&& 31).toUInt32).toInt32).toUInt32 >>> ((4 : Int32) &&& 31).toUInt32).toInt32)) (q := (2 : Int32)) 2 (by decide) (by decide) (by omega)
  have s1 := own_sh (x := ((((((p.toUInt32 >>> ((8 : Int32) &&& 31).toUInt32).toInt32).toUInt32 >>> ((4 : Int32) &&& 31).toUInt32).toInt32).toUInt32 >>> ((2 : Int32) &&& 31).toUInt32).toInt32)) (q := (1 : Int32)) 1 (by decide) (by decide) (by omega)
  have d1 : (0 : Int32).toInt = 0 := by decide
  have f1 : ((((((((p.toUInt32 >>> ((8 : Int32) &&& 31).toUInt32).toInt32).toUInt32 >>> ((4 : Int32) &&& 31).toUInt32).toInt32).toUInt32 >>> ((2 : Int32) &&& 31).toUInt32).toInt32).toUInt32 >>> ((1 : Int32) &&& 31).toUInt32).toInt32) = (0 : Int32) := by apply Int32.toInt_inj.mp; omega
  simp only [F7, if_pos c0, if_pos c16, if_neg c8, if_neg c4, if_neg c2, f1]; try decide
theorem own_nlz_15 {p : Int32} (h1 : 32768 ≤ p.toInt) (h2 : p.toInt < 65536) : F7 p = (16 : Int32) := by
  have e0 : (0 : Int32).toInt = 0 := by decide
  have c0 : (0 : Int32) < p := by rw [Int32.lt_iff_toInt_lt, e0]; omega
  have d16 : (65536 : Int32).toInt = 65536 := by decide
  have c16 : p < (65536 : Int32) := by rw [Int32.lt_iff_toInt_lt]; omega
  have d8 : (256 : Int32).toInt = 256 := by decide
  have c8 : ¬ p < (256 : Int32) := by rw [Int32.lt_iff_toInt_lt]; omega
  have s8 := own_sh (x := p) (q := (8 : Int32)) 8 (by decide) (by decide) (by omega)
  have d4 : (16 : Int32).toInt = 16 := by decide
  have c4 : ¬ ((p.toUInt32 >>> ((8 : Int32) &&& 31).toUInt32).toInt32) < (16 : Int32) := by rw [Int32.lt_iff_toInt_lt]; omega
  have s4 := own_sh (x := ((p.toUInt32 >>> ((8 : Int32) &&& 31).toUInt32).toInt32)) (q := (4 : Int32)) 4 (by decide) (by decide) (by omega)
  have d2 : (4 : Int32).toInt = 4 := by decide
  have c2 : ¬ ((((p.toUInt32 >>> ((8 : Int32) &&& 31).toUInt32).toInt32).toUInt32 >>> ((4 : Int32) &&& 31).toUInt32).toInt32) < (4 : Int32) := by rw [Int32.lt_iff_toInt_lt]; omega
  have s2 := own_sh (x := ((((p.toUInt32 >>> ((8 : Int32) &&& 31).toUInt32).toInt32).toUInt32 >>> ((4 : Int32) &&& 31).toUInt32).toInt32)) (q := (2 : Int32)) 2 (by decide) (by decide) (by omega)
  have s1 := own_sh (x := ((((((p.toUInt32 >>> ((8 : Int32) &&& 31).toUInt32).toInt32).toUInt32 >>> ((4 : Int32) &&& 31).toUInt32).toInt32).toUInt32 >>> ((2 : Int32) &&& 31).toUInt32).toInt32)) (q := (1 : Int32)) 1 (by decide) (by decide) (by omega)
  have d1 : (1 : Int32).toInt = 1 := by decide
  have f1 : ((((((((p.toUInt32 >>> ((8 : Int32) &&& 31).toUInt32).toInt32).toUInt32 >>> ((4 : Int32) &&& 31).toUInt32).toInt32).toUInt32 >>> ((2 : Int32) &&& 31).toUInt32).toInt32).toUInt32 >>> ((1 : Int32) &&& 31).toUInt32).toInt32) = (1 : Int32) := by apply Int32.toInt_inj.mp; omega
  simp only [F7, if_pos c0, if_pos c16, if_neg c8, if_neg c4, if_neg c2, f1]; try decide
theorem own_nlz_16 {p : Int32} (h1 : 65536 ≤ p.toInt) (h2 : p.toInt < 131072) : F7 p = (15 : Int32) := by
  have e0 : (0 : Int32).toInt = 0 := by decide
  have c0 : (0 : Int32) < p := by rw [Int32.lt_iff_toInt_lt, e0]; omega
  have d16 : (65536 : Int32).toInt = 65536 := by decide
  have c16 : ¬ p < (65536 : Int32) := by rw [Int32.lt_iff_toInt_lt]; omega
  have s16 := own_sh (x := p) (q := (16 : Int32)) 16 (by decide) (by decide) (by omega)
  have d8 : (256 : Int32).toInt = 256 := by decide
  have c8 : ((p.toUInt32 >>> ((16 : Int32) &&& 31).toUInt32).toInt32) < (256 : Int32) := by rw [Int32.lt_iff_toInt_lt]; omega
  have d4 : (16 : Int32).toInt = 16 := by decide
  have c4 : ((p.toUInt32 >>> ((16 : Int32) &&& 31).toUInt32).toInt32) < (16 : Int32) := by rw [Int32.lt_iff_toInt_lt]; omega
  have d2 : (4 : Int32).toInt = 4 := by decide
  have c2 : ((p.toUInt32 >>> ((16 : Int32) &&& 31).toUInt32).toInt32) < (4 : Int32) := by rw [Int32.lt_iff_toInt_lt]; omega
  have s1 := own_sh (x := ((p.toUInt32 >>> ((16 : Int32) &&& 31).toUInt32).toInt32)) (q := (1 : Int32)) 1 (by decide) (by decide) (by omega)
  have d1 : (0 : Int32).toInt = 0 := by decide
  have f1 : ((((p.toUInt32 >>> ((16 : Int32) &&& 31).toUInt32).toInt32).toUInt32 >>> ((1 : Int32) &&& 31).toUInt32).toInt32) = (0 : Int32) := by apply Int32.toInt_inj.mp; omega
  simp only [F7, if_pos c0, if_neg c16, if_pos c8, if_pos c4, if_pos c2, f1]; try decide
theorem own_nlz_17 {p : Int32} (h1 : 131072 ≤ p.toInt) (h2 : p.toInt < 262144) : F7 p = (14 : Int32) := by
  have e0 : (0 : Int32).toInt = 0 := by decide
  have c0 : (0 : Int32) < p := by rw [Int32.lt_iff_toInt_lt, e0]; omega
  have d16 : (65536 : Int32).toInt = 65536 := by decide
  have c16 : ¬ p < (65536 : Int32) := by rw [Int32.lt_iff_toInt_lt]; omega
  have s16 := own_sh (x := p) (q := (16 : Int32)) 16 (by decide) (by decide) (by omega)
  have d8 : (256 : Int32).toInt = 256 := by decide
  have c8 : ((p.toUInt32 >>> ((16 : Int32) &&& 31).toUInt32).toInt32) < (256 : Int32) := by rw [Int32.lt_iff_toInt_lt]; omega
  have d4 : (16 : Int32).toInt = 16 := by decide
  have c4 : ((p.toUInt32 >>> ((16 : Int32) &&& 31).toUInt32).toInt32) < (16 : Int32) := by rw [Int32.lt_iff_toInt_lt]; omega
  have d2 : (4 : Int32).toInt = 4 := by decide
  have c2 : ((p.toUInt32 >>> ((16 : Int32) &&& 31).toUInt32).toInt32) < (4 : Int32) := by rw [Int32.lt_iff_toInt_lt]; omega
  have s1 := own_sh (x := ((p.toUInt32 >>> ((16 : Int32) &&& 31).toUInt32).toInt32)) (q := (1 : Int32)) 1 (by decide) (by decide) (by omega)
  have d1 : (1 : Int32).toInt = 1 := by decide
  have f1 : ((((p.toUInt32 >>> ((16 : Int32) &&& 31).toUInt32).toInt32).toUInt32 >>> ((1 : Int32) &&& 31).toUInt32).toInt32) = (1 : Int32) := by apply Int32.toInt_inj.mp; omega
  simp only [F7, if_pos c0, if_neg c16, if_pos c8, if_pos c4, if_pos c2, f1]; try decide
theorem own_nlz_18 {p : Int32} (h1 : 262144 ≤ p.toInt) (h2 : p.toInt < 524288) : F7 p = (13 : Int32) := by
  have e0 : (0 : Int32).toInt = 0 := by decide
  have c0 : (0 : Int32) < p := by rw [Int32.lt_iff_toInt_lt, e0]; omega
  have d16 : (65536 : Int32).toInt = 65536 := by decide
  have c16 : ¬ p < (65536 : Int32) := by rw [Int32.lt_iff_toInt_lt]; omega
  have s16 := own_sh (x := p) (q := (16 : Int32)) 16 (by decide) (by decide) (by omega)
  have d8 : (256 : Int32).toInt = 256 := by decide
  have c8 : ((p.toUInt32 >>> ((16 : Int32) &&& 31).toUInt32).toInt32) < (256 : Int32) := by rw [Int32.lt_iff_toInt_lt]; omega
  have d4 : (16 : Int32).toInt = 16 := by decide
  have c4 : ((p.toUInt32 >>> ((16 : Int32) &&& 31).toUInt32).toInt32) < (16 : Int32) := by rw [Int32.lt_iff_toInt_lt]; omega
  have d2 : (4 : Int32).toInt = 4 := by decide
  have c2 : ¬ ((p.toUInt32 >>> ((16 : Int32) &&& 31).toUInt32).toInt32) < (4 : Int32) := by rw [Int32.lt_iff_toInt_lt]; omega
  have s2 := own_sh (x := ((p.toUInt32 >>> ((16 : Int32) &&& 31).toUInt32).toInt32)) (q := (2 : Int32)) 2 (by decide) (by decide) (by omega)
  have s1 := own_sh (x := ((((p.toUInt32 >>> ((16 : Int32) &&& 31).toUInt32).toInt32).toUInt32 >>> ((2 : Int32) &&& 31).toUInt32).toInt32)) (q := (1 : Int32)) 1 (by decide) (by decide) (by omega)
  have d1 : (0 : Int32).toInt = 0 := by decide
  have f1 : ((((((p.toUInt32 >>> ((16 : Int32) &&& 31).toUInt32).toInt32).toUInt32 >>> ((2 : Int32) &&& 31).toUInt32).toInt32).toUInt32 >>> ((1 : Int32) &&& 31).toUInt32).toInt32) = (0 : Int32) := by apply Int32.toInt_inj.mp; omega
  simp only [F7, if_pos c0, if_neg c16, if_pos c8, if_pos c4, if_neg c2, f1]; try decide
theorem own_nlz_19 {p : Int32} (h1 : 524288 ≤ p.toInt) (h2 : p.toInt < 1048576) : F7 p = (12 : Int32) := by
  have e0 : (0 : Int32).toInt = 0 := by decide
  have c0 : (0 : Int32) < p := by rw [Int32.lt_iff_toInt_lt, e0]; omega
  have d16 : (65536 : Int32).toInt = 65536 := by decide
  have c16 : ¬ p < (65536 : Int32) := by rw [Int32.lt_iff_toInt_lt]; omega
  have s16 := own_sh (x := p) (q := (16 : Int32)) 16 (by decide) (by decide) (by omega)
  have d8 : (256 : Int32).toInt = 256 := by decide
  have c8 : ((p.toUInt32 >>> ((16 : Int32) &&& 31).toUInt32).toInt32) < (256 : Int32) := by rw [Int32.lt_iff_toInt_lt]; omega
  have d4 : (16 : Int32).toInt = 16 := by decide
  have c4 : ((p.toUInt32 >>> ((16 : Int32) &&& 31).toUInt32).toInt32) < (16 : Int32) := by rw [Int32.lt_iff_toInt_lt]; omega
  have d2 : (4 : Int32).toInt = 4 := by decide
  have c2 : ¬ ((p.toUInt32 >>> ((16 : Int32) &&& 31).toUInt32).toInt32) < (4 : Int32) := by rw [Int32.lt_iff_toInt_lt]; omega
  have s2 := own_sh (x := ((p.toUInt32 >>> ((16 : Int32) &&& 31).toUInt32).toInt32)) (q := (2 : Int32)) 2 (by decide) (by decide) (by omega)
  have s1 := own_sh (x := ((((p.toUInt32 >>> ((16 : Int32) &&& 31).toUInt32).toInt32).toUInt32 >>> ((2 : Int32) &&& 31).toUInt32).toInt32)) (q := (1 : Int32)) 1 (by decide) (by decide) (by omega)
  have d1 : (1 : Int32).toInt = 1 := by decide
  have f1 : ((((((p.toUInt32 >>> ((16 : Int32) &&& 31).toUInt32).toInt32).toUInt32 >>> ((2 : Int32) &&& 31).toUInt32).toInt32).toUInt32 >>> ((1 : Int32) &&& 31).toUInt32).toInt32) = (1 : Int32) := by apply Int32.toInt_inj.mp; omega
  simp only [F7, if_pos c0, if_neg c16, if_pos c8, if_pos c4, if_neg c2, f1]; try decide
theorem own_nlz_20 {p : Int32} (h1 : 1048576 ≤ p.toInt) (h2 : p.toInt < 2097152) : F7 p = (11 : Int32) := by
  have e0 : (0 : Int32).toInt = 0 := by decide
  have c0 : (0 : Int32) < p := by rw [Int32.lt_iff_toInt_lt, e0]; omega
  have d16 : (65536 : Int32).toInt = 65536 := by decide
  have c16 : ¬ p < (65536 : Int32) := by rw [Int32.lt_iff_toInt_lt]; omega
  have s16 := own_sh (x := p) (q := (16 : Int32)) 16 (by decide) (by decide) (by omega)
  have d8 : (256 : Int32).toInt = 256 := by decide
  have c8 : ((p.toUInt32 >>> ((16 : Int32) &&& 31).toUInt32).toInt32) < (256 : Int32) := by rw [Int32.lt_iff_toInt_lt]; omega
  have d4 : (16 : Int32).toInt = 16 := by decide
  have c4 : ¬ ((p.toUInt32 >>> ((16 : Int32) &&& 31).toUInt32).toInt32) < (16 : Int32) := by rw [Int32.lt_iff_toInt_lt]; omega
  have s4 := own_sh (x := ((p.toUInt32 >>> ((16 : Int32) &&& 31).toUInt32).toInt32)) (q := (4 : Int32)) 4 (by decide) (by decide) (by omega)
  have d2 : (4 : Int32).toInt = 4 := by decide
  have c2 : ((((p.toUInt32 >>> ((16 : Int32) &&& 31).toUInt32).toInt32).toUInt32 >>> ((4 : Int32) &&& 31).toUInt32).toInt32) < (4 : Int32) := by rw [Int32.lt_iff_toInt_lt]; omega
  have s1 := own_sh (x := ((((p.toUInt32 >>> ((16 : Int32) &&& 31).toUInt32).toInt32).toUInt32 >>> ((4 : Int32) &&& 31).toUInt32).toInt32)) (q := (1 : Int32)) 1 (by decide) (by decide) (by omega)
  have d1 : (0 : Int32).toInt = 0 := by decide
  have f1 : ((((((p.toUInt32 >>> ((16 : Int32) &&& 31).toUInt32).toInt32).toUInt32 >>> ((4 : Int32) &&& 31).toUInt32).toInt32).toUInt32 >>> ((1 : Int32) &&& 31).toUInt32).toInt32) = (0 : Int32) := by apply Int32.toInt_inj.mp; omega
  simp only [F7, if_pos c0, if_neg c16, if_pos c8, if_neg c4, if_pos c2, f1]; try decide
theorem own_nlz_21 {p : Int32} (h1 : 2097152 ≤ p.toInt) (h2 : p.toInt < 4194304) : F7 p = (10 : Int32) := by
  have e0 : (0 : Int32).toInt = 0 := by decide
  have c0 : (0 : Int32) < p := by rw [Int32.lt_iff_toInt_lt, e0]; omega
  have d16 : (65536 : Int32).toInt = 65536 := by decide
  have c16 : ¬ p < (65536 : Int32) := by rw [Int32.lt_iff_toInt_lt]; omega
  have s16 := own_sh (x := p) (q := (16 : Int32)) 16 (by decide) (by decide) (by omega)
  have d8 : (256 : Int32).toInt = 256 := by decide
  have c8 : ((p.toUInt32 >>> ((16 : Int32) &&& 31).toUInt32).toInt32) < (256 : Int32) := by rw [Int32.lt_iff_toInt_lt]; omega
  have d4 : (16 : Int32).toInt = 16 := by decide
  have c4 : ¬ ((p.toUInt32 >>> ((16 : Int32) &&& 31).toUInt32).toInt32) < (16 : Int32) := by rw [Int32.lt_iff_toInt_lt]; omega
  have s4 := own_sh (x := ((p.toUInt32 >>> ((16 : Int32) &&& 31).toUInt32).toInt32)) (q := (4 : Int32)) 4 (by decide) (by decide) (by omega)
  have d2 : (4 : Int32).toInt = 4 := by decide
  have c2 : ((((p.toUInt32 >>> ((16 : Int32) &&& 31).toUInt32).toInt32).toUInt32 >>> ((4 : Int32) &&& 31).toUInt32).toInt32) < (4 : Int32) := by rw [Int32.lt_iff_toInt_lt]; omega
  have s1 := own_sh (x := ((((p.toUInt32 >>> ((16 : Int32) &&& 31).toUInt32).toInt32).toUInt32 >>> ((4 : Int32) &&& 31).toUInt32).toInt32)) (q := (1 : Int32)) 1 (by decide) (by decide) (by omega)
  have d1 : (1 : Int32).toInt = 1 := by decide
  have f1 : ((((((p.toUInt32 >>> ((16 : Int32) &&& 31).toUInt32).toInt32).toUInt32 >>> ((4 : Int32) &&& 31).toUInt32).toInt32).toUInt32 >>> ((1 : Int32) &&& 31).toUInt32).toInt32) = (1 : Int32) := by apply Int32.toInt_inj.mp; omega
  simp only [F7, if_pos c0, if_neg c16, if_pos c8, if_neg c4, if_pos c2, f1]; try decide
theorem own_nlz_22 {p : Int32} (h1 : 4194304 ≤ p.toInt) (h2 : p.toInt < 8388608) : F7 p = (9 : Int32) := by
  have e0 : (0 : Int32).toInt = 0 := by decide
  have c0 : (0 : Int32) < p := by rw [Int32.lt_iff_toInt_lt, e0]; omega
  have d16 : (65536 : Int32).toInt = 65536 := by decide
  have c16 : ¬ p < (65536 : Int32) := by rw [Int32.lt_iff_toInt_lt]; omega
  have s16 := own_sh (x := p) (q := (16 : Int32)) 16 (by decide) (by decide) (by omega)
  have d8 : (256 : Int32).toInt = 256 := by decide
  have c8 : ((p.toUInt32 >>> ((16 : Int32) &&& 31).toUInt32).toInt32) < (256 : Int32) := by rw [Int32.lt_iff_toInt_lt]; omega
  have d4 : (16 : Int32).toInt = 16 := by decide
  have c4 : ¬ ((p.toUInt32 >>> ((16 : Int32) &&& 31).toUInt32).toInt32) < (16 : Int32) := by rw [Int32.lt_iff_toInt_lt]; omega
  have s4 := own_sh (x := ((p.toUInt32 >>> ((16 : Int32) &&& 31).toUInt32).toInt32)) (q := (4 : Int32)) 4 (by decide) (by decide) (by omega)
  have d2 : (4 : Int32).toInt = 4 := by decide
  have c2 : ¬ ((((p.toUInt32 >>> ((16 : Int32) &&& 31).toUInt32).toInt32).toUInt32 >>> ((4 : Int32) &&& 31).toUInt32).toInt32) < (4 : Int32) := by rw [Int32.lt_iff_toInt_lt]; omega
  have s2 := own_sh (x := ((((p.toUInt32 >>> ((16 : Int32) &&& 31).toUInt32).toInt32).toUInt32 >>> ((4 : Int32) &&& 31).toUInt32).toInt32)) (q := (2 : Int32)) 2 (by decide) (by decide) (by omega)
  have s1 := own_sh (x := ((((((p.toUInt32 >>> ((16 : Int32) &&& 31).toUInt32).toInt32).toUInt32 >>> ((4 : Int32) &&& 31).toUInt32).toInt32).toUInt32 >>> ((2 : Int32) &&& 31).toUInt32).toInt32)) (q := (1 : Int32)) 1 (by decide) (by decide) (by omega)
  have d1 : (0 : Int32).toInt = 0 := by decide
  have f1 : ((((((((p.toUInt32 >>> ((16 : Int32) &&& 31).toUInt32).toInt32).toUInt32 >>> ((4 : Int32) &&& 31).toUInt32).toInt32).toUInt32 >>> ((2 : Int32) &&& 31).toUInt32).toInt32).toUInt32 >>> ((1 : Int32) &&& 31).toUInt32).toInt32) = (0 : Int32) := by apply Int32.toInt_inj.mp; omega
  simp only [F7, if_pos c0, if_neg c16, if_pos c8, if_neg c4, if_neg c2, f1]; try decide
theorem own_nlz_23 {p : Int32} (h1 : 8388608 ≤ p.toInt) (h2 : p.toInt < 16777216) : F7 p = (8 : Int32) := by
  have e0 : (0 : Int32).toInt = 0 := by decide
  have c0 : (0 : Int32) < p := by rw [Int32.lt_iff_toInt_lt, e0]; omega
  have d16 : (65536 : Int32).toInt = 65536 := by decide
  have c16 : ¬ p < (65536 : Int32) := by rw [Int32.lt_iff_toInt_lt]; omega
  have s16 := own_sh (x := p) (q := (16 : Int32)) 16 (by decide) (by decide) (by omega)
  have d8 : (256 : Int32).toInt = 256 := by decide
  have c8 : ((p.toUInt32 >>> ((16 : Int32) &&& 31).toUInt32).toInt32) < (256 : Int32) := by rw [Int32.lt_iff_toInt_lt]; omega
  have d4 : (16 : Int32).toInt = 16 := by decide
  have c4 : ¬ ((p.toUInt32 >>> ((16 : Int32) &&& 31).toUInt32).toInt32) < (16 : Int32) := by rw [Int32.lt_iff_toInt_lt]; omega
  have s4 := own_sh (x := ((p.toUInt32 >>> ((16 : Int32) &&& 31).toUInt32).toInt32)) (q := (4 : Int32)) 4 (by decide) (by decide) (by omega)
  have d2 : (4 : Int32).toInt = 4 := by decide
  have c2 : ¬ ((((p.toUInt32 >>> ((16 : Int32) &&& 31).toUInt32).toInt32).toUInt32 >>> ((4 : Int32) &&& 31).toUInt32).toInt32) < (4 : Int32) := by rw [Int32.lt_iff_toInt_lt]; omega
  have s2 := own_sh (x := ((((p.toUInt32 >>> ((16 : Int32) &&& 31).toUInt32).toInt32).toUInt32 >>> ((4 : Int32) &&& 31).toUInt32).toInt32)) (q := (2 : Int32)) 2 (by decide) (by decide) (by omega)
  have s1 := own_sh (x := ((((((p.toUInt32 >>> ((16 : Int32) &&& 31).toUInt32).toInt32).toUInt32 >>> ((4 : Int32) &&& 31).toUInt32).toInt32).toUInt32 >>> ((2 : Int32) &&& 31).toUInt32).toInt32)) (q := (1 : Int32)) 1 (by decide) (by decide) (by omega)
  have d1 : (1 : Int32).toInt = 1 := by decide
  have f1 : ((((((((p.toUInt32 >>> ((16 : Int32) &&& 31).toUInt32).toInt32).toUInt32 >>> ((4 : Int32) &&& 31).toUInt32).toInt32).toUInt32 >>> ((2 : Int32) &&& 31).toUInt32).toInt32).toUInt32 >>> ((1 : Int32) &&& 31).toUInt32).toInt32) = (1 : Int32) := by apply Int32.toInt_inj.mp; omega
  simp only [F7, if_pos c0, if_neg c16, if_pos c8, if_neg c4, if_neg c2, f1]; try decide
theorem own_nlz_24 {p : Int32} (h1 : 16777216 ≤ p.toInt) (h2 : p.toInt < 33554432) : F7 p = (7 : Int32) := by
  have e0 : (0 : Int32).toInt = 0 := by decide
  have c0 : (0 : Int32) < p := by rw [Int32.lt_iff_toInt_lt, e0]; omega
  have d16 : (65536 : Int32).toInt = 65536 := by decide
  have c16 : ¬ p < (65536 : Int32) := by rw [Int32.lt_iff_toInt_lt]; omega
  have s16 := own_sh (x := p) (q := (16 : Int32)) 16 (by decide) (by decide) (by omega)
  have d8 : (256 : Int32).toInt = 256 := by decide
  have c8 : ¬ ((p.toUInt32 >>> ((16 : Int32) &&& 31).toUInt32).toInt32) < (256 : Int32) := by rw [Int32.lt_iff_toInt_lt]; omega
  have s8 := own_sh (x := ((p.toUInt32 >>> ((16 : Int32) &&& 31).toUInt32).toInt32)) (q := (8 : Int32)) 8 (by decide) (by decide) (by omega)
  have d4 : (16 : Int32).toInt = 16 := by decide
  have c4 : ((((p.toUInt32 >>> ((16 : Int32) &&& 31).toUInt32).toInt32).toUInt32 >>> ((8 : Int32) &&& 31).toUInt32).toInt32) < (16 : Int32) := by rw [Int32.lt_iff_toInt_lt]; omega
  have d2 : (4 : Int32).toInt = 4 := by decide
  have c2 : ((((p.toUInt32 >>> ((16 : Int32) &&& 31).toUInt32).toInt32).toUInt32 >>> ((8 : Int32) &&& 31).toUInt32).toInt32) < (4 : Int32) := by rw [Int32.lt_iff_toInt_lt]; omega
  have s1 := own_sh (x := ((((p.toUInt32 >>> ((16 : Int32) &&& 31).toUInt32).toInt32).toUInt32 >>> ((8 : Int32) &&& 31).toUInt32).toInt32)) (q := (1 : Int32)) 1 (by decide) (by decide) (by omega)
  have d1 : (0 : Int32).toInt = 0 := by decide
  have f1 : ((((((p.toUInt32 >>> ((16 : Int32) &&& 31).toUInt32).toInt32).toUInt32 >>> ((8 : Int32) &&& 31).toUInt32).toInt32).toUInt32 >>> ((1 : Int32) &&& 31).toUInt32).toInt32) = (0 : Int32) := by apply Int32.toInt_inj.mp; omega
  simp only [F7, if_pos c0, if_neg c16, if_neg c8, if_pos c4, if_pos c2, f1]; try decide
theorem own_nlz_25 {p : Int32} (h1 : 33554432 ≤ p.toInt) (h2 : p.toInt < 67108864) : F7 p = (6 : Int32) := by
  have e0 : (0 : Int32).toInt = 0 := by decide
  have c0 : (0 : Int32) < p := by rw [Int32.lt_iff_toInt_lt, e0]; omega
  have d16 : (65536 : Int32).toInt = 65536 := by decide
  have c16 : ¬ p < (65536 : Int32) := by rw [Int32.lt_iff_toInt_lt]; omega
  have s16 := own_sh (x := p) (q := (16 : Int32)) 16 (by decide) (by decide) (by omega)
  have d8 : (256 : Int32).toInt = 256 := by decide
  have c8 : ¬ ((p.toUInt32 >>> ((16 : Int32) &&& 31).toUInt32).toInt32) < (256 : Int32) := by rw [Int32.lt_iff_toInt_lt]; omega
  have s8 := own_sh (x := ((p.toUInt32 >>> ((16 : Int32) &&& 31).toUInt32).toInt32)) (q := (8 : Int32)) 8 (by decide) (by decide) (by omega)
  have d4 : (16 : Int32).toInt = 16 := by decide
  have c4 : ((((p.toUInt32 >>> ((16 : Int32) &&& 31).toUInt32).toInt32).toUInt32 >>> ((8 : Int32) &&& 31).toUInt32).toInt32) < (16 : Int32) := by rw [Int32.lt_iff_toInt_lt]; omega
  have d2 : (4 : Int32).toInt = 4 := by decide
  have c2 : ((((p.toUInt32 >>> ((16 : Int32) &&& 31).toUInt32).toInt32).toUInt32 >>> ((8 : Int32) &&& 31).toUInt32).toInt32) < (4 : Int32) := by rw [Int32.lt_iff_toInt_lt]; omega
  have s1 := own_sh (x := ((((p.toUInt32 >>> ((16 : Int32) &&& 31).toUInt32).toInt32).toUInt32 >>> ((8 : Int32) &&& 31).toUInt32).toInt32)) (q := (1 : Int32)) 1 (by decide) (by decide) (by omega)
  have d1 : (1 : Int32).toInt = 1 := by decide
  have f1 : ((((((p.toUInt32 >>> ((16 : Int32) &&& 31).toUInt32).toInt32).toUInt32 >>> ((8 : Int32) &&& 31).toUInt32).toInt32).toUInt32 >>> ((1 : Int32) &&& 31).toUInt32).toInt32) = (1 : Int32) := by apply Int32.toInt_inj.mp; omega
  simp only [F7, if_pos c0, if_neg c16, if_neg c8, if_pos c4, if_pos c2, f1]; try decide
theorem own_nlz_26 {p : Int32} (h1 : 67108864 ≤ p.toInt) (h2 : p.toInt < 134217728) : F7 p = (5 : Int32) := by
  have e0 : (0 : Int32).toInt = 0 := by decide
  have c0 : (0 : Int32) < p := by rw [Int32.lt_iff_toInt_lt, e0]; omega
  have d16 : (65536 : Int32).toInt = 65536 := by decide
  have c16 : ¬ p < (65536 : Int32) := by rw [Int32.lt_iff_toInt_lt]; omega
  have s16 := own_sh (x := p) (q := (16 : Int32)) 16 (by decide) (by decide) (by omega)
  have d8 : (256 : Int32).toInt = 256 := by decide
  have c8 : ¬ ((p.toUInt32 >>> ((16 : Int32) &&& 31).toUInt32).toInt32) < (256 : Int32) := by rw [Int32.lt_iff_toInt_lt]; omega
  have s8 := own_sh (x := ((p.toUInt32 >>> ((16 : Int32) &&& 31).toUInt32).toInt32)) (q := (8 : Int32)) 8 (by decide) (by decide) (by omega)
  have d4 : (16 : Int32).toInt = 16 := by decide
  have c4 : ((((p.toUInt32 >>> ((16 : Int32) &&& 31).toUInt32).toInt32).toUInt32 >>> ((8 : Int32) &&& 31).toUInt32).toInt32) < (16 : Int32) := by rw [Int32.lt_iff_toInt_lt]; omega
  have d2 : (4 : Int32).toInt = 4 := by decide
  have c2 : ¬ ((((p.toUInt32 >>> ((16 : Int32) &&& 31).toUInt32).toInt32).toUInt32 >>> ((8 : Int32) &&& 31).toUInt32).toInt32) < (4 : Int32) := by rw [Int32.lt_iff_toInt_lt]; omega
  have s2 := own_sh (x := ((((p.toUInt32 >>> ((16 : Int32) &&& 31).toUInt32).toInt32).toUInt32 >>> ((8 : Int32) &&& 31).toUInt32).toInt32)) (q := (2 : Int32)) 2 (by decide) (by decide) (by omega)
  have s1 := own_sh (x := ((((((p.toUInt32 >>> ((16 : Int32) &&& 31).toUInt32).toInt32).toUInt32 >>> ((8 : Int32) &&& 31).toUInt32).toInt32).toUInt32 >>> ((2 : Int32) &&& 31).toUInt32).toInt32)) (q := (1 : Int32)) 1 (by decide) (by decide) (by omega)
  have d1 : (0 : Int32).toInt = 0 := by decide
  have f1 : ((((((((p.toUInt32 >>> ((16 : Int32) &&& 31).toUInt32).toInt32).toUInt32 >>> ((8 : Int32) &&& 31).toUInt32).toInt32).toUInt32 >>> ((2 : Int32) &&& 31).toUInt32).toInt32).toUInt32 >>> ((1 : Int32) &&& 31).toUInt32).toInt32) = (0 : Int32) := by apply Int32.toInt_inj.mp; omega
  simp only [F7, if_pos c0, if_neg c16, if_neg c8, if_pos c4, if_neg c2, f1]; try decide
theorem own_nlz_27 {p : Int32} (h1 : 134217728 ≤ p.toInt) (h2 : p.toInt < 268435456) : F7 p = (4 : Int32) := by
  have e0 : (0 : Int32).toInt = 0 := by decide
  have c0 : (0 : Int32) < p := by rw [Int32.lt_iff_toInt_lt, e0]; omega
  have d16 : (65536 : Int32).toInt = 65536 := by decide
  have c16 : ¬ p < (65536 : Int32) := by rw [Int32.lt_iff_toInt_lt]; omega
  have s16 := own_sh (x := p) (q := (16 : Int32)) 16 (by decide) (by decide) (by omega)
  have d8 : (256 : Int32).toInt = 256 := by decide
  have c8 : ¬ ((p.toUInt32 >>> ((16 : Int32) &&& 31).toUInt32).toInt32) < (256 : Int32) := by rw [Int32.lt_iff_toInt_lt]; omega
  have s8 := own_sh (x := ((p.toUInt32 >>> ((16 : Int32) &&& 31).toUInt32).toInt32)) (q := (8 : Int32)) 8 (by decide) (by decide) (by omega)
  have d4 : (16 : Int32).toInt = 16 := by decide
  have c4 : ((((p.toUInt32 >>> ((16 : Int32) &&& 31).toUInt32).toInt32).toUInt32 >>> ((8 : Int32) &&& 31).toUInt32).toInt32) < (16 : Int32) := by rw [Int32.lt_iff_toInt_lt]; omega
  have d2 : (4 : Int32).toInt = 4 := by decide
  have c2 : ¬ ((((p.toUInt32 >>> ((16 : Int32) &&& 31).toUInt32).toInt32).toUInt32 >>> ((8 : Int32) &&& 31).toUInt32).toInt32) < (4 : Int32) := by rw [Int32.lt_iff_toInt_lt]; omega
  have s2 := own_sh (x := ((((p.toUInt32 >>> ((16 : Int32) &&& 31).toUInt32).toInt32).toUInt32 >>> ((8 : Int32) &&& 31).toUInt32).toInt32)) (q := (2 : Int32)) 2 (by decide) (by decide) (by omega)
  have s1 := own_sh (x := ((((((p.toUInt32 >>> ((16 : Int32) &&& 31).toUInt32).toInt32).toUInt32 >>> ((8 : Int32) &&& 31).toUInt32).toInt32).toUInt32 >>> ((2 : Int32) &&& 31).toUInt32).toInt32)) (q := (1 : Int32)) 1 (by decide) (by decide) (by omega)
  have d1 : (1 : Int32).toInt = 1 := by decide
  have f1 : ((((((((p.toUInt32 >>> ((16 : Int32) &&& 31).toUInt32).toInt32).toUInt32 >>> ((8 : Int32) &&& 31).toUInt32).toInt32).toUInt32 >>> ((2 : Int32) &&& 31).toUInt32).toInt32).toUInt32 >>> ((1 : Int32) &&& 31).toUInt32).toInt32) = (1 : Int32) := by apply Int32.toInt_inj.mp; omega
  simp only [F7, if_pos c0, if_neg c16, if_neg c8, if_pos c4, if_neg c2, f1]; try decide
theorem own_nlz_28 {p : Int32} (h1 : 268435456 ≤ p.toInt) (h2 : p.toInt < 536870912) : F7 p = (3 : Int32) := by
  have e0 : (0 : Int32).toInt = 0 := by decide
  have c0 : (0 : Int32) < p := by rw [Int32.lt_iff_toInt_lt, e0]; omega
  have d16 : (65536 : Int32).toInt = 65536 := by decide
  have c16 : ¬ p < (65536 : Int32) := by rw [Int32.lt_iff_toInt_lt]; omega
  have s16 := own_sh (x := p) (q := (16 : Int32)) 16 (by decide) (by decide) (by omega)
  have d8 : (256 : Int32).toInt = 256 := by decide
  have c8 : ¬ ((p.toUInt32 >>> ((16 : Int32) &&& 31).toUInt32).toInt32) < (256 : Int32) := by rw [Int32.lt_iff_toInt_lt]; omega
  have s8 := own_sh (x := ((p.toUInt32 >>> ((16 : Int32) &&& 31).toUInt32).toInt32)) (q := (8 : Int32)) 8 (by decide) (by decide) (by omega)
  have d4 : (16 : Int32).toInt = 16 := by decide
  have c4 : ¬ ((((p.toUInt32 >>> ((16 : Int32) &&& 31).toUInt32).toInt32).toUInt32 >>> ((8 : Int32) &&& 31).toUInt32).toInt32) < (16 : Int32) := by rw [Int32.lt_iff_toInt_lt]; omega
  have s4 := own_sh (x := ((((p.toUInt32 >>> ((16 : Int32) &&& 31).toUInt32).toInt32).toUInt32 >>> ((8 : Int32) &&& 31).toUInt32).toInt32)) (q := (4 : Int32)) 4 (by decide) (by decide) (by omega)
  have d2 : (4 : Int32).toInt = 4 := by decide
  have c2 : ((((((p.toUInt32 >>> ((16 : Int32) &&& 31).toUInt32).toInt32).toUInt32 >>> ((8 : Int32) &&& 31).toUInt32).toInt32).toUInt32 >>> ((4 : Int32) &&& 31).toUInt32).toInt32) < (4 : Int32) := by rw [Int32.lt_iff_toInt_lt]; omega
  have s1 := own_sh (x := ((((((p.toUInt32 >>> ((16 : Int32) &&& 31).toUInt32).toInt32).toUInt32 >>> ((8 : Int32) &&& 31).toUInt32).toInt32).toUInt32 >>> ((4 : Int32) &&& 31).toUInt32).toInt32)) (q := (1 : Int32)) 1 (by decide) (by decide) (by omega)
  have d1 : (0 : Int32).toInt = 0 := by decide
  have f1 : ((((((((p.toUInt32 >>> ((16 : Int32) &&& 31).toUInt32).toInt32).toUInt32 >>> ((8 : Int32) &&& 31).toUInt32).toInt32).toUInt32 >>> ((4 : Int32) &&& 31).toUInt32).toInt32).toUInt32 >>> ((1 : Int32) &&& 31).toUInt32).toInt32) = (0 : Int32) := by apply Int32.toInt_inj.mp; omega
  simp only [F7, if_pos c0, if_neg c16, if_neg c8, if_neg c4, if_pos c2, f1]; try decide
theorem own_nlz_29 {p : Int32} (h1 : 536870912 ≤ p.toInt) (h2 : p.toInt < 1073741824) : F7 p = (2 : Int32) := by
  have e0 : (0 : Int32).toInt = 0 := by decide
  have c0 : (0 : Int32) < p := by rw [Int32.lt_iff_toInt_lt, e0]; omega
  have d16 : (65536 : Int32).toInt = 65536 := by decide
  have c16 : ¬ p < (65536 : Int32) := by rw [Int32.lt_iff_toInt_lt]; omega
  have s16 := own_sh (x := p) (q := (16 : Int32)) 16 (by decide) (by decide) (by omega)
  have d8 : (256 : Int32).toInt = 256 := by decide
  have c8 : ¬ ((p.toUInt32 >>> ((16 : Int32) &&& 31).toUInt32).toInt32) < (256 : Int32) := by rw [Int32.lt_iff_toInt_lt]; omega
  have s8 := own_sh (x := ((p.toUInt32 >>> ((16 : Int32) &&& 31).toUInt32).toInt32)) (q := (8 : Int32)) 8 (by decide) (by decide) (by omega)
  have d4 : (16 : Int32).toInt = 16 := by decide
  have c4 : ¬ ((((p.toUInt32 >>> ((16 : Int32) &&& 31).toUInt32).toInt32).toUInt32 >>> ((8 : Int32) &&& 31).toUInt32).toInt32) < (16 : Int32) := by rw [Int32.lt_iff_toInt_lt]; omega
  have s4 := own_sh (x := ((((p.toUInt32 >>> ((16 : Int32) &&& 31).toUInt32).toInt32).toUInt32 >>> ((8 : Int32) &&& 31).toUInt32).toInt32)) (q := (4 : Int32)) 4 (by decide) (by decide) (by omega)
  have d2 : (4 : Int32).toInt = 4 := by decide
  have c2 : ((((((p.toUInt32 >>> ((16 : Int32) &&& 31).toUInt32).toInt32).toUInt32 >>> ((8 : Int32) &&& 31).toUInt32).toInt32).toUInt32 >>> ((4 : Int32) &&& 31).toUInt32).toInt32) < (4 : Int32) := by rw [Int32.lt_iff_toInt_lt]; omega
  have s1 := own_sh (x := ((((((p.toUInt32 >>> ((16 : Int32) &&& 31).toUInt32).toInt32).toUInt32 >>> ((8 : Int32) &&& 31).toUInt32).toInt32).toUInt32 >>> ((4 : Int32) &&& 31).toUInt32).toInt32)) (q := (1 : Int32)) 1 (by decide) (by decide) (by omega)
  have d1 : (1 : Int32).toInt = 1 := by decide
  have f1 : ((((((((p.toUInt32 >>> ((16 : Int32) &&& 31).toUInt32).toInt32).toUInt32 >>> ((8 : Int32) &&& 31).toUInt32).toInt32).toUInt32 >>> ((4 : Int32) &&& 31).toUInt32).toInt32).toUInt32 >>> ((1 : Int32) &&& 31).toUInt32).toInt32) = (1 : Int32) := by apply Int32.toInt_inj.mp; omega
  simp only [F7, if_pos c0, if_neg c16, if_neg c8, if_neg c4, if_pos c2, f1]; try decide
theorem own_nlz_30 {p : Int32} (h1 : 1073741824 ≤ p.toInt) (h2 : p.toInt < 2147483648) : F7 p = (1 : Int32) := by
  have e0 : (0 : Int32).toInt = 0 := by decide
  have c0 : (0 : Int32) < p := by rw [Int32.lt_iff_toInt_lt, e0]; omega
  have d16 : (65536 : Int32).toInt = 65536 := by decide
  have c16 : ¬ p < (65536 : Int32) := by rw [Int32.lt_iff_toInt_lt]; omega
  have s16 := own_sh (x := p) (q := (16 : Int32)) 16 (by decide) (by decide) (by omega)
  have d8 : (256 : Int32).toInt = 256 := by decide
  have c8 : ¬ ((p.toUInt32 >>> ((16 : Int32) &&& 31).toUInt32).toInt32) < (256 : Int32) := by rw [Int32.lt_iff_toInt_lt]; omega
  have s8 := own_sh (x := ((p.toUInt32 >>> ((16 : Int32) &&& 31).toUInt32).toInt32)) (q := (8 : Int32)) 8 (by decide) (by decide) (by omega)
  have d4 : (16 : Int32).toInt = 16 := by decide
  have c4 : ¬ ((((p.toUInt32 >>> ((16 : Int32) &&& 31).toUInt32).toInt32).toUInt32 >>> ((8 : Int32) &&& 31).toUInt32).toInt32) < (16 : Int32) := by rw [Int32.lt_iff_toInt_lt]; omega
  have s4 := own_sh (x := ((((p.toUInt32 >>> ((16 : Int32) &&& 31).toUInt32).toInt32).toUInt32 >>> ((8 : Int32) &&& 31).toUInt32).toInt32)) (q := (4 : Int32)) 4 (by decide) (by decide) (by omega)
  have d2 : (4 : Int32).toInt = 4 := by decide
  have c2 : ¬ ((((((p.toUInt32 >>> ((16 : Int32) &&& 31).toUInt32).toInt32).toUInt32 >>> ((8 : Int32) &&& 31).toUInt32).toInt32).toUInt32 >>> ((4 : Int32) &&& 31).toUInt32).toInt32) < (4 : Int32) := by rw [Int32.lt_iff_toInt_lt]; omega
  have s2 := own_sh (x := ((((((p.toUInt32 >>> ((16 : Int32) &&& 31).toUInt32).toInt32).toUInt32 >>> ((8 : Int32) &&& 31).toUInt32).toInt32).toUInt32 >>> ((4 : Int32) &&& 31).toUInt32).toInt32)) (q := (2 : Int32)) 2 (by decide) (by decide) (by omega)
  have s1 := own_sh (x := ((((((((p.toUInt32 >>> ((16 : Int32) &&& 31).toUInt32).toInt32).toUInt32 >>> ((8 : Int32) &&& 31).toUInt32).toInt32).toUInt32 >>> ((4 : Int32) &&& 31).toUInt32).toInt32).toUInt32 >>> ((2 : Int32) &&& 31).toUInt32).toInt32)) (q := (1 : Int32)) 1 (by decide) (by decide) (by omega)
  have d1 : (0 : Int32).toInt = 0 := by decide
  have f1 : ((((((((((p.toUInt32 >>> ((16 : Int32) &&& 31).toUInt32).toInt32).toUInt32 >>> ((8 : Int32) &&& 31).toUInt32).toInt32).toUInt32 >>> ((4 : Int32) &&& 31).toUInt32).toInt32).toUInt32 >>> ((2 : Int32) &&& 31).toUInt32).toInt32).toUInt32 >>> ((1 : Int32) &&& 31).toUInt32).toInt32) = (0 : Int32) := by apply Int32.toInt_inj.mp; omega
  simp only [F7, if_pos c0, if_neg c16, if_neg c8, if_neg c4, if_neg c2, f1]; try decide
theorem own_hob_0 {p : Int32} (h1 : 2 ^ 0 ≤ own_u p) (h2 : own_u p < 2 ^ (0 + 1)) : own_u (F8 p) = 2 ^ 0 ∧ own_u (((-1 : Int32).toUInt32 >>> ((F7 p) &&& 31).toUInt32).toInt32) = 2 ^ (0 + 1) - 1 := by
  have a1 : (2 : Nat) ^ 0 = 1 := by decide
  have a2 : (2 : Nat) ^ (0 + 1) = 2 := by decide
  have hp := own_u_toInt p (by omega)
  have e := own_nlz_0 (p := p) (by omega) (by omega)
  simp only [F8]
  rw [e]
  exact ⟨own_u_top h1 h2 (by decide), by decide⟩
theorem own_hob_1 {p : Int32} (h1 : 2 ^ 1 ≤ own_u p) (h2 : own_u p < 2 ^ (1 + 1)) : own_u (F8 p) = 2 ^ 1 ∧ own_u (((-1 : Int32).toUInt32 >>> ((F7 p) &&& 31).toUInt32).toInt32) = 2 ^ (1 + 1) - 1 := by
  have a1 : (2 : Nat) ^ 1 = 2 := by decide
  have a2 : (2 : Nat) ^ (1 + 1) = 4 := by decide
  have hp := own_u_toInt p (by omega)
  have e := own_nlz_1 (p := p) (by omega) (by omega)
  simp only [F8]
  rw [e]
  exact ⟨own_u_top h1 h2 (by decide), by decide⟩
theorem own_hob_2 {p : Int32} (h1 : 2 ^ 2 ≤ own_u p) (h2 : own_u p < 2 ^ (2 + 1)) : own_u (F8 p) = 2 ^ 2 ∧ own_u (((-1 : Int32).toUInt32 >>> ((F7 p) &&& 31).toUInt32).toInt32) = 2 ^ (2 + 1) - 1 := by
  have a1 : (2 : Nat) ^ 2 = 4 := by decide
  have a2 : (2 : Nat) ^ (2 + 1) = 8 := by decide
  have hp := own_u_toInt p (by omega)
  have e := own_nlz_2 (p := p) (by omega) (by omega)
  simp only [F8]
  rw [e]
  exact ⟨own_u_top h1 h2 (by decide), by decide⟩
theorem own_hob_3 {p : Int32} (h1 : 2 ^ 3 ≤ own_u p) (h2 : own_u p < 2 ^ (3 + 1)) : own_u (F8 p) = 2 ^ 3 ∧ own_u (((-1 : Int32).toUInt32 >>> ((F7 p) &&& 31).toUInt32).toInt32) = 2 ^ (3 + 1) - 1 := by
  have a1 : (2 : Nat) ^ 3 = 8 := by decide
  have a2 : (2 : Nat) ^ (3 + 1) = 16 := by decide
  have hp := own_u_toInt p (by omega)
  have e := own_nlz_3 (p := p) (by omega) (by omega)
  simp only [F8]
  rw [e]
  exact ⟨own_u_top h1 h2 (by decide), by decide⟩
theorem own_hob_4 {p : Int32} (h1 : 2 ^ 4 ≤ own_u p) (h2 : own_u p < 2 ^ (4 + 1)) : own_u (F8 p) = 2 ^ 4 ∧ own_u (((-1 : Int32).toUInt32 >>> ((F7 p) &&& 31).toUInt32).toInt32) = 2 ^ (4 + 1) - 1 := by
  have a1 : (2 : Nat) ^ 4 = 16 := by decide
  have a2 : (2 : Nat) ^ (4 + 1) = 32 := by decide
  have hp := own_u_toInt p (by omega)
  have e := own_nlz_4 (p := p) (by omega) (by omega)
  simp only [F8]
  rw [e]
  exact ⟨own_u_top h1 h2 (by decide), by decide⟩
theorem own_hob_5 {p : Int32} (h1 : 2 ^ 5 ≤ own_u p) (h2 : own_u p < 2 ^ (5 + 1)) : own_u (F8 p) = 2 ^ 5 ∧ own_u (((-1 : Int32).toUInt32 >>> ((F7 p) &&& 31).toUInt32).toInt32) = 2 ^ (5 + 1) - 1 := by
  have a1 : (2 : Nat) ^ 5 = 32 := by decide
  have a2 : (2 : Nat) ^ (5 + 1) = 64 := by decide
  have hp := own_u_toInt p (by omega)
  have e := own_nlz_5 (p := p) (by omega) (by omega)
  simp only [F8]
  rw [e]
  exact ⟨own_u_top h1 h2 (by decide), by decide⟩
theorem own_hob_6 {p : Int32} (h1 : 2 ^ 6 ≤ own_u p) (h2 : own_u p < 2 ^ (6 + 1)) : own_u (F8 p) = 2 ^ 6 ∧ own_u (((-1 : Int32).toUInt32 >>> ((F7 p) &&& 31).toUInt32).toInt32) = 2 ^ (6 + 1) - 1 := by
  have a1 : (2 : Nat) ^ 6 = 64 := by decide
  have a2 : (2 : Nat) ^ (6 + 1) = 128 := by decide
  have hp := own_u_toInt p (by omega)
  have e := own_nlz_6 (p := p) (by omega) (by omega)
  simp only [F8]
  rw [e]
  exact ⟨own_u_top h1 h2 (by decide), by decide⟩
theorem own_hob_7 {p : Int32} (h1 : 2 ^ 7 ≤ own_u p) (h2 : own_u p < 2 ^ (7 + 1)) : own_u (F8 p) = 2 ^ 7 ∧ own_u (((-1 : Int32).toUInt32 >>> ((F7 p) &&& 31).toUInt32).toInt32) = 2 ^ (7 + 1) - 1 := by
  have a1 : (2 : Nat) ^ 7 = 128 := by decide
  have a2 : (2 : Nat) ^ (7 + 1) = 256 := by decide
  have hp := own_u_toInt p (by omega)
  have e := own_nlz_7 (p := p) (by omega) (by omega)
  simp only [F8]
  rw [e]
  exact ⟨own_u_top h1 h2 (by decide), by decide⟩
theorem own_hob_8 {p : Int32} (h1 : 2 ^ 8 ≤ own_u p) (h2 : own_u p < 2 ^ (8 + 1)) : own_u (F8 p) = 2 ^ 8 ∧ own_u (((-1 : Int32).toUInt32 >>> ((F7 p) &&& 31).toUInt32).toInt32) = 2 ^ (8 + 1) - 1 := by
  have a1 : (2 : Nat) ^ 8 = 256 := by decide
  have a2 : (2 : Nat) ^ (8 + 1) = 512 := by decide
  have hp := own_u_toInt p (by omega)
  have e := own_nlz_8 (p := p) (by omega) (by omega)
  simp only [F8]
  rw [e]
  exact ⟨own_u_top h1 h2 (by decide), by decide⟩
theorem own_hob_9 {p : Int32} (h1 : 2 ^ 9 ≤ own_u p) (h2 : own_u p < 2 ^ (9 + 1)) : own_u (F8 p) = 2 ^ 9 ∧ own_u (((-1 : Int32).toUInt32 >>> ((F7 p) &&& 31).toUInt32).toInt32) = 2 ^ (9 + 1) - 1 := by
  have a1 : (2 : Nat) ^ 9 = 512 := by decide
  have a2 : (2 : Nat) ^ (9 + 1) = 1024 := by decide
  have hp := own_u_toInt p (by omega)
  have e := own_nlz_9 (p := p) (by omega) (by omega)
  simp only [F8]
  rw [e]
  exact ⟨own_u_top h1 h2 (by decide), by decide⟩
theorem own_hob_10 {p : Int32} (h1 : 2 ^ 10 ≤ own_u p) (h2 : own_u p < 2 ^ (10 + 1)) : own_u (F8 p) = 2 ^ 10 ∧ own_u (((-1 : Int32).toUInt32 >>> ((F7 p) &&& 31).toUInt32).toInt32) = 2 ^ (10 + 1) - 1 := by
  have a1 : (2 : Nat) ^ 10 = 1024 := by decide
  have a2 : (2 : Nat) ^ (10 + 1) = 2048 := by decide
  have hp := own_u_toInt p (by omega)
  have e := own_nlz_10 (p := p) (by omega) (by omega)
  simp only [F8]
  rw [e]
  exact ⟨own_u_top h1 h2 (by decide), by decide⟩
theorem own_hob_11 {p : Int32} (h1 : 2 ^ 11 ≤ own_u p) (h2 : own_u p < 2 ^ (11 + 1)) : own_u (F8 p) = 2 ^ 11 ∧ own_u (((-1 : Int32).toUInt32 >>> ((F7 p) &&& 31).toUInt32).toInt32) = 2 ^ (11 + 1) - 1 := by
  have a1 : (2 : Nat) ^ 11 = 2048 := by decide
  have a2 : (2 : Nat) ^ (11 + 1) = 4096 := by decide
  have hp := own_u_toInt p (by omega)
  have e := own_nlz_11 (p := p) (by omega) (by omega)
  simp only [F8]
  rw [e]
  exact ⟨own_u_top h1 h2 (by decide), by decide⟩
theorem own_hob_12 {p : Int32} (h1 : 2 ^ 12 ≤ own_u p) (h2 : own_u p < 2 ^ (12 + 1)) : own_u (F8 p) = 2 ^ 12 ∧ own_u (((-1 : Int32).toUInt32 >>> ((F7 p) &&& 31).toUInt32).toInt32) = 2 ^ (12 + 1) - 1 := by
  have a1 : (2 : Nat) ^ 12 = 4096 := by decide
  have a2 : (2 : Nat) ^ (12 + 1) = 8192 := by decide
  have hp := own_u_toInt p (by omega)
  have e := own_nlz_12 (p := p) (by omega) (by omega)
  simp only [F8]
  rw [e]
  exact ⟨own_u_top h1 h2 (by decide), by decide⟩
theorem own_hob_13 {p : Int32} (h1 : 2 ^ 13 ≤ own_u p) (h2 : own_u p < 2 ^ (13 + 1)) : own_u (F8 p) = 2 ^ 13 ∧ own_u (((-1 : Int32).toUInt32 >>> ((F7 p) &&& 31).toUInt32).toInt32) = 2 ^ (13 + 1) - 1 := by
  have a1 : (2 : Nat) ^ 13 = 8192 := by decide
  have a2 : (2 : Nat) ^ (13 + 1) = 16384 := by decide
  have hp := own_u_toInt p (by omega)
  have e := own_nlz_13 (p := p) (by omega) (by omega)
  simp only [F8]
  rw [e]
  exact ⟨own_u_top h1 h2 (by decide), by decide⟩
theorem own_hob_14 {p : Int32} (h1 : 2 ^ 14 ≤ own_u p) (h2 : own_u p < 2 ^ (14 + 1)) : own_u (F8 p) = 2 ^ 14 ∧ own_u (((-1 : Int32).toUInt32 >>> ((F7 p) &&& 31).toUInt32).toInt32) = 2 ^ (14 + 1) - 1 := by
  have a1 : (2 : Nat) ^ 14 = 16384 := by decide
  have a2 : (2 : Nat) ^ (14 + 1) = 32768 := by decide
  have hp := own_u_toInt p (by omega)
  have e := own_nlz_14 (p := p) (by omega) (by omega)
  simp only [F8]
  rw [e]
  exact ⟨own_u_top h1 h2 (by decide), by decide⟩
theorem own_hob_15 {p : Int32} (h1 : 2 ^ 15 ≤ own_u p) (h2 : own_u p < 2 ^ (15 + 1)) : own_u (F8 p) = 2 ^ 15 ∧ own_u (((-1 : Int32).toUInt32 >>> ((F7 p) &&& 31).toUInt32).toInt32) = 2 ^ (15 + 1) - 1 := by
  have a1 : (2 : Nat) ^ 15 = 32768 := by decide
  have a2 : (2 : Nat) ^ (15 + 1) = 65536 := by decide
  have hp := own_u_toInt p (by omega)
  have e := own_nlz_15 (p := p) (by omega) (by omega)
  simp only [F8]
  rw [e]
  exact ⟨own_u_top h1 h2 (by decide), by decide⟩
theorem own_hob_16 {p : Int32} (h1 : 2 ^ 16 ≤ own_u p) (h2 : own_u p < 2 ^ (16 + 1)) : own_u (F8 p) = 2 ^ 16 ∧ own_u (((-1 : Int32).toUInt32 >>> ((F7 p) &&& 31).toUInt32).toInt32) = 2 ^ (16 + 1) - 1 := by
  have a1 : (2 : Nat) ^ 16 = 65536 := by decide
  have a2 : (2 : Nat) ^ (16 + 1) = 131072 := by decide
  have hp := own_u_toInt p (by omega)
  have e := own_nlz_16 (p := p) (by omega) (by omega)
  simp only [F8]
  rw [e]
  exact ⟨own_u_top h1 h2 (by decide), by decide⟩
theorem own_hob_17 {p : Int32} (h1 : 2 ^ 17 ≤ own_u p) (h2 : own_u p < 2 ^ (17 + 1)) : own_u (F8 p) = 2 ^ 17 ∧ own_u (((-1 : Int32).toUInt32 >>> ((F7 p) &&& 31).toUInt32).toInt32) = 2 ^ (17 + 1) - 1 := by
  have a1 : (2 : Nat) ^ 17 = 131072 := by decide
  have a2 : (2 : Nat) ^ (17 + 1) = 262144 := by decide
  have hp := own_u_toInt p (by omega)
  have e := own_nlz_17 (p := p) (by omega) (by omega)
  simp only [F8]
  rw [e]
  exact ⟨own_u_top h1 h2 (by decide), by decide⟩
theorem own_hob_18 {p : Int32} (h1 : 2 ^ 18 ≤ own_u p) (h2 : own_u p < 2 ^ (18 + 1)) : own_u (F8 p) = 2 ^ 18 ∧ own_u (((-1 : Int32).toUInt32 >>> ((F7 p) &&& 31).toUInt32).toInt32) = 2 ^ (18 + 1) - 1 := by
  have a1 : (2 : Nat) ^ 18 = 262144 := by decide
  have a2 : (2 : Nat) ^ (18 + 1) = 524288 := by decide
  have hp := own_u_toInt p (by omega)
  have e := own_nlz_18 (p := p) (by omega) (by omega)
  simp only [F8]
  rw [e]
  exact ⟨own_u_top h1 h2 (by decide), by decide⟩
theorem own_hob_19 {p : Int32} (h1 : 2 ^ 19 ≤ own_u p) (h2 : own_u p < 2 ^ (19 + 1)) : own_u (F8 p) = 2 ^ 19 ∧ own_u (((-1 : Int32).toUInt32 >>> ((F7 p) &&& 31).toUInt32).toInt32) = 2 ^ (19 + 1) - 1 := by
  have a1 : (2 : Nat) ^ 19 = 524288 := by decide
  have a2 : (2 : Nat) ^ (19 + 1) = 1048576 := by decide
  have hp := own_u_toInt p (by omega)
  have e := own_nlz_19 (p := p) (by omega) (by omega)
  simp only [F8]
  rw [e]
  exact ⟨own_u_top h1 h2 (by decide), by decide⟩
theorem own_hob_20 {p : Int32} (h1 : 2 ^ 20 ≤ own_u p) (h2 : own_u p < 2 ^ (20 + 1)) : own_u (F8 p) = 2 ^ 20 ∧ own_u (((-1 : Int32).toUInt32 >>> ((F7 p) &&& 31).toUInt32).toInt32) = 2 ^ (20 + 1) - 1 := by
  have a1 : (2 : Nat) ^ 20 = 1048576 := by decide
  have a2 : (2 : Nat) ^ (20 + 1) = 2097152 := by decide
  have hp := own_u_toInt p (by omega)
  have e := own_nlz_20 (p := p) (by omega) (by omega)
  simp only [F8]
  rw [e]
  exact ⟨own_u_top h1 h2 (by decide), by decide⟩
theorem own_hob_21 {p : Int32} (h1 : 2 ^ 21 ≤ own_u p) (h2 : own_u p < 2 ^ (21 + 1)) : own_u (F8 p) = 2 ^ 21 ∧ own_u (((-1 : Int32).toUInt32 >>> ((F7 p) &&& 31).toUInt32).toInt32) = 2 ^ (21 + 1) - 1 := by
  have a1 : (2 : Nat) ^ 21 = 2097152 := by decide
  have a2 : (2 : Nat) ^ (21 + 1) = 4194304 := by decide
  have hp := own_u_toInt p (by omega)
  have e := own_nlz_21 (p := p) (by omega) (by omega)
  simp only [F8]
  rw [e]
  exact ⟨own_u_top h1 h2 (by decide), by decide⟩
theorem own_hob_22 {p : Int32} (h1 : 2 ^ 22 ≤ own_u p) (h2 : own_u p < 2 ^ (22 + 1)) : own_u (F8 p) = 2 ^ 22 ∧ own_u (((-1 : Int32).toUInt32 >>> ((F7 p) &&& 31).toUInt32).toInt32) = 2 ^ (22 + 1) - 1 := by
  have a1 : (2 : Nat) ^ 22 = 4194304 := by decide
  have a2 : (2 : Nat) ^ (22 + 1) = 8388608 := by decide
  have hp := own_u_toInt p (by omega)
  have e := own_nlz_22 (p := p) (by omega) (by omega)
  simp only [F8]
  rw [e]
  exact ⟨own_u_top h1 h2 (by decide), by decide⟩
theorem own_hob_23 {p : Int32} (h1 : 2 ^ 23 ≤ own_u p) (h2 : own_u p < 2 ^ (23 + 1)) : own_u (F8 p) = 2 ^ 23 ∧ own_u (((-1 : Int32).toUInt32 >>> ((F7 p) &&& 31).toUInt32).toInt32) = 2 ^ (23 + 1) - 1 := by
  have a1 : (2 : Nat) ^ 23 = 8388608 := by decide
  have a2 : (2 : Nat) ^ (23 + 1) = 16777216 := by decide
  have hp := own_u_toInt p (by omega)
  have e := own_nlz_23 (p := p) (by omega) (by omega)
  simp only [F8]
  rw [e]
  exact ⟨own_u_top h1 h2 (by decide), by decide⟩
theorem own_hob_24 {p : Int32} (h1 : 2 ^ 24 ≤ own_u p) (h2 : own_u p < 2 ^ (24 + 1)) : own_u (F8 p) = 2 ^ 24 ∧ own_u (((-1 : Int32).toUInt32 >>> ((F7 p) &&& 31).toUInt32).toInt32) = 2 ^ (24 + 1) - 1 := by
  have a1 : (2 : Nat) ^ 24 = 16777216 := by decide
  have a2 : (2 : Nat) ^ (24 + 1) = 33554432 := by decide
  have hp := own_u_toInt p (by omega)
  have e := own_nlz_24 (p := p) (by omega) (by omega)
  simp only [F8]
  rw [e]
  exact ⟨own_u_top h1 h2 (by decide), by decide⟩
theorem own_hob_25 {p : Int32} (h1 : 2 ^ 25 ≤ own_u p) (h2 : own_u p < 2 ^ (25 + 1)) : own_u (F8 p) = 2 ^ 25 ∧ own_u (((-1 : Int32).toUInt32 >>> ((F7 p) &&& 31).toUInt32).toInt32) = 2 ^ (25 + 1) - 1 := by
  have a1 : (2 : Nat) ^ 25 = 33554432 := by decide
  have a2 : (2 : Nat) ^ (25 + 1) = 67108864 := by decide
  have hp := own_u_toInt p (by omega)
  have e := own_nlz_25 (p := p) (by omega) (by omega)
  simp only [F8]
  rw [e]
  exact ⟨own_u_top h1 h2 (by decide), by decide⟩
theorem own_hob_26 {p : Int32} (h1 : 2 ^ 26 ≤ own_u p) (h2 : own_u p < 2 ^ (26 + 1)) : own_u (F8 p) = 2 ^ 26 ∧ own_u (((-1 : Int32).toUInt32 >>> ((F7 p) &&& 31).toUInt32).toInt32) = 2 ^ (26 + 1) - 1 := by
  have a1 : (2 : Nat) ^ 26 = 67108864 := by decide
  have a2 : (2 : Nat) ^ (26 + 1) = 134217728 := by decide
  have hp := own_u_toInt p (by omega)
  have e := own_nlz_26 (p := p) (by omega) (by omega)
  simp only [F8]
  rw [e]
  exact ⟨own_u_top h1 h2 (by decide), by decide⟩
theorem own_hob_27 {p : Int32} (h1 : 2 ^ 27 ≤ own_u p) (h2 : own_u p < 2 ^ (27 + 1)) : own_u (F8 p) = 2 ^ 27 ∧ own_u (((-1 : Int32).toUInt32 >>> ((F7 p) &&& 31).toUInt32).toInt32) = 2 ^ (27 + 1) - 1 := by
  have a1 : (2 : Nat) ^ 27 = 134217728 := by decide
  have a2 : (2 : Nat) ^ (27 + 1) = 268435456 := by decide
  have hp := own_u_toInt p (by omega)
  have e := own_nlz_27 (p := p) (by omega) (by omega)
  simp only [F8]
  rw [e]
  exact ⟨own_u_top h1 h2 (by decide), by decide⟩
theorem own_hob_28 {p : Int32} (h1 : 2 ^ 28 ≤ own_u p) (h2 : own_u p < 2 ^ (28 + 1)) : own_u (F8 p) = 2 ^ 28 ∧ own_u (((-1 : Int32).toUInt32 >>> ((F7 p) &&& 31).toUInt32).toInt32) = 2 ^ (28 + 1) - 1 := by
  have a1 : (2 : Nat) ^ 28 = 268435456 := by decide
  have a2 : (2 : Nat) ^ (28 + 1) = 536870912 := by decide
  have hp := own_u_toInt p (by omega)
  have e := own_nlz_28 (p := p) (by omega) (by omega)
  simp only [F8]
  rw [e]
  exact ⟨own_u_top h1 h2 (by decide), by decide⟩
theorem own_hob_29 {p : Int32} (h1 : 2 ^ 29 ≤ own_u p) (h2 : own_u p < 2 ^ (29 + 1)) : own_u (F8 p) = 2 ^ 29 ∧ own_u (((-1 : Int32).toUInt32 >>> ((F7 p) &&& 31).toUInt32).toInt32) = 2 ^ (29 + 1) - 1 := by
  have a1 : (2 : Nat) ^ 29 = 536870912 := by decide
  have a2 : (2 : Nat) ^ (29 + 1) = 1073741824 := by decide
  have hp := own_u_toInt p (by omega)
  have e := own_nlz_29 (p := p) (by omega) (by omega)
  simp only [F8]
  rw [e]
  exact ⟨own_u_top h1 h2 (by decide), by decide⟩
theorem own_hob_30 {p : Int32} (h1 : 2 ^ 30 ≤ own_u p) (h2 : own_u p < 2 ^ (30 + 1)) : own_u (F8 p) = 2 ^ 30 ∧ own_u (((-1 : Int32).toUInt32 >>> ((F7 p) &&& 31).toUInt32).toInt32) = 2 ^ (30 + 1) - 1 := by
  have a1 : (2 : Nat) ^ 30 = 1073741824 := by decide
  have a2 : (2 : Nat) ^ (30 + 1) = 2147483648 := by decide
  have hp := own_u_toInt p (by omega)
  have e := own_nlz_30 (p := p) (by omega) (by omega)
  simp only [F8]
  rw [e]
  exact ⟨own_u_top h1 h2 (by decide), by decide⟩
set_option maxHeartbeats 4000000 in
theorem own_hob {p : Int32} {t : Nat} (ht : t ≤ 30) (h1 : 2 ^ t ≤ own_u p) (h2 : own_u p < 2 ^ (t + 1)) : own_u (F8 p) = 2 ^ t ∧ own_u (((-1 : Int32).toUInt32 >>> ((F7 p) &&& 31).toUInt32).toInt32) = 2 ^ (t + 1) - 1 := by
  have hc : t = 0 ∨ t = 1 ∨ t = 2 ∨ t = 3 ∨ t = 4 ∨ t = 5 ∨ t = 6 ∨ t = 7 ∨ t = 8 ∨ t = 9 ∨ t = 10 ∨ t = 11 ∨ t = 12 ∨ t = 13 ∨ t = 14 ∨ t = 15 ∨ t = 16 ∨ t = 17 ∨ t = 18 ∨ t = 19 ∨ t = 20 ∨ t = 21 ∨ t = 22 ∨ t = 23 ∨ t = 24 ∨ t = 25 ∨ t = 26 ∨ t = 27 ∨ t = 28 ∨ t = 29 ∨ t = 30 := by omega
  rcases hc with rfl | rfl | rfl | rfl | rfl | rfl | rfl | rfl | rfl | rfl | rfl | rfl | rfl | rfl | rfl | rfl | rfl | rfl | rfl | rfl | rfl | rfl | rfl | rfl | rfl | rfl | rfl | rfl | rfl | rfl | rfl
  · exact own_hob_0 h1 h2
  · exact own_hob_1 h1 h2
  · exact own_hob_2 h1 h2
  · exact own_hob_3 h1 h2
  · exact own_hob_4 h1 h2
  · exact own_hob_5 h1 h2
  · exact own_hob_6 h1 h2
  · exact own_hob_7 h1 h2
  · exact own_hob_8 h1 h2
  · exact own_hob_9 h1 h2
  · exact own_hob_10 h1 h2
  · exact own_hob_11 h1 h2
  · exact own_hob_12 h1 h2
  · exact own_hob_13 h1 h2
  · exact own_hob_14 h1 h2
  · exact own_hob_15 h1 h2
  · exact own_hob_16 h1 h2
  · exact own_hob_17 h1 h2
  · exact own_hob_18 h1 h2
  · exact own_hob_19 h1 h2
  · exact own_hob_20 h1 h2
  · exact own_hob_21 h1 h2
  · exact own_hob_22 h1 h2
  · exact own_hob_23 h1 h2
  · exact own_hob_24 h1 h2
  · exact own_hob_25 h1 h2
  · exact own_hob_26 h1 h2
  · exact own_hob_27 h1 h2
  · exact own_hob_28 h1 h2
  · exact own_hob_29 h1 h2
  · exact own_hob_30 h1 h2

def own_idx : Nat → Int64
  | 0 => 1
  | i + 1 => own_idx i + 1
def own_dr (key : Int64) (i : Nat) : Int64 := F4 key (own_idx i)
def own_lw (x : Int64) : Int32 := x.toInt32
def own_hw (x : Int64) : Int32 := ((x.toUInt64 >>> ((32 : Int32) &&& 0x3f).toInt64.toUInt64).toInt64).toInt32
def own_d (key : Int64) (i : Nat) : Nat := if i % 2 = 0 then own_u (own_lw (own_dr key (i / 2 + 1))) else own_u (own_hw (own_dr key (i / 2 + 1)))
def own_half (key : Int64) (B : Nat) : Nat := own_u (if ((F9 (Int32.ofNat B)) &&& (1 : Int32)) = (1 : Int32) then own_hw (own_dr key 0) else own_lw (own_dr key 0))
def own_h (key : Int64) : Nat := own_u (own_lw (own_dr key 0) ^^^ own_hw (own_dr key 0))
def own_JS (key : Int64) (n r : Int32) : Prop := own_u r < 2147483648 ∧ own_J (own_half key) (own_d key) (own_h key) (own_u n) (own_u r)
def own_JB (key : Int64) (n r : Int32) : Prop := (n.toInt = 1 ∧ r = 0) ∨ (2 ≤ n.toInt ∧ own_JS key n r)
def own_Ex (q0 : Int64) (p1 bt : Int32) (k : Nat) (bx : Int32) : Prop := ∃ j, own_u bx = own_X (own_half q0) (own_d q0) (own_u bt) k j ∧ own_u bx < own_u p1 ∧ ∀ i, i < j → own_u p1 ≤ own_X (own_half q0) (own_d q0) (own_u bt) k i
def own_Inv (q0 : Int64) (p1 bt : Int32) (k i : Nat) (bx : Int32) : Prop := own_u bx = own_X (own_half q0) (own_d q0) (own_u bt) k (2 * i) ∧ ∀ j, j < 2 * i → own_u p1 ≤ own_X (own_half q0) (own_d q0) (own_u bt) k j
theorem own_ge1 {p : Int32} (h : 1 ≤ p.toInt) : ¬ p < (1 : Int32) := by
  have e : (1 : Int32).toInt = 1 := by decide
  rw [Int32.lt_iff_toInt_lt]; omega
theorem own_n2 {p : Int32} (h : (1 : Int32) < p) : 2 ≤ p.toInt := by
  have e : (1 : Int32).toInt = 1 := by decide
  rw [Int32.lt_iff_toInt_lt] at h; omega
theorem own_JB0 {q0 : Int64} {p1 : Int32} (hn1 : 1 ≤ p1.toInt) (h : ¬ (1 : Int32) < p1) : own_JB q0 p1 0 := by
  have e : (1 : Int32).toInt = 1 := by decide
  rw [Int32.lt_iff_toInt_lt] at h
  exact Or.inl ⟨by omega, rfl⟩
theorem own_JB2 {q0 : Int64} {p1 r : Int32} (h : (1 : Int32) < p1) (J : own_JS q0 p1 r) : own_JB q0 p1 r := Or.inr ⟨own_n2 h, J⟩
theorem own_un {p : Int32} (hn : 2 ≤ p.toInt) : 2 ≤ own_u p ∧ own_u p < 2147483648 := by
  have h := own_toInt_u p (by omega)
  omega
theorem own_bt {q0 fi : Int64} {p1 lo hi bt : Int32} (hn : 2 ≤ p1.toInt) (hfi : fi = (F4 q0 (1 : Int64))) (hlo : lo = (fi.toInt32)) (hhi : hi = (((fi.toUInt64 >>> ((32 : Int32) &&& 0x3f).toInt64.toUInt64).toInt64).toInt32))
    (hbt : bt = ((lo ^^^ hi) &&& (((-1 : Int32).toUInt32 >>> ((F7 (p1 - (1 : Int32))) &&& 31).toUInt32).toInt32))) : ∃ k, k ≤ 30 ∧ 2 ^ k ≤ own_u p1 - 1 ∧ own_u p1 - 1 < 2 ^ (k + 1) ∧ own_u bt = own_h q0 % 2 ^ (k + 1) := by
  obtain ⟨n1, n2⟩ := own_un hn
  have hm : own_u (p1 - 1) = own_u p1 - 1 := own_u_sub1 p1 (by omega)
  obtain ⟨l1, l2⟩ := own_log (B := own_u p1 - 1) (by omega)
  have hk : (own_u p1 - 1).log2 ≤ 30 := by
    have e31 : (2 : Nat) ^ 31 = 2147483648 := by decide
    have : (own_u p1 - 1).log2 < 31 := (Nat.pow_lt_pow_iff_right (a := 2) (by decide)).mp (Nat.lt_of_le_of_lt l1 (by omega))
    omega
  refine ⟨(own_u p1 - 1).log2, hk, l1, l2, ?_⟩
  obtain ⟨-, hmask⟩ := own_hob (p := p1 - 1) hk (by rw [hm]; exact l1) (by rw [hm]; exact l2)
  rw [hbt, own_u_mask hmask, hlo, hhi, hfi]
  rfl
theorem own_sm {q0 : Int64} {bt : Int32} {k : Nat} (hk : k ≤ 30) (hB : own_u bt = own_h q0 % 2 ^ (k + 1)) : own_u bt < 2147483648 := by
  obtain ⟨p1, p2, p3⟩ := own_pow_lt hk
  have : own_h q0 % 2 ^ (k + 1) < 2 ^ (k + 1) := Nat.mod_lt _ (Nat.pow_pos (by decide))
  omega
theorem own_sm2 {bt bt2 : Int32} {k : Nat} (hk : k ≤ 30) (h : own_u bt2 = own_u bt - 2 ^ k ∧ own_u bt2 < 2 ^ k) : own_u bt2 < 2147483648 := by
  obtain ⟨p1, p2, p3⟩ := own_pow_lt hk
  omega
theorem own_ttG {bt qq : Int32} {k : Nat} (hk : k ≤ 30) (hlt : own_u bt < 2 ^ (k + 1)) (hne : ¬ bt = (0 : Int32)) (hqq : qq = (F8 bt)) : ∃ t, t ≤ k ∧ 2 ^ t ≤ own_u bt ∧ own_u bt < 2 ^ (t + 1) ∧ own_u qq = 2 ^ t := by
  have h0 : own_u bt ≠ 0 := fun e => hne (own_u_inj e)
  obtain ⟨l1, l2⟩ := own_log h0
  have ht : (own_u bt).log2 ≤ k := by
    have : (own_u bt).log2 < k + 1 := (Nat.pow_lt_pow_iff_right (a := 2) (by decide)).mp (Nat.lt_of_le_of_lt l1 hlt)
    omega
  refine ⟨_, ht, l1, l2, ?_⟩
  rw [hqq]
  exact (own_hob (Nat.le_trans ht hk) l1 l2).1
theorem own_tt {q0 : Int64} {bt qq : Int32} {k : Nat} (hk : k ≤ 30) (hB : own_u bt = own_h q0 % 2 ^ (k + 1)) (hne : ¬ bt = (0 : Int32)) (hqq : qq = (F8 bt)) : ∃ t, t ≤ k ∧ 2 ^ t ≤ own_u bt ∧ own_u bt < 2 ^ (t + 1) ∧ own_u qq = 2 ^ t :=
  own_ttG hk (by rw [hB]; exact Nat.mod_lt _ (Nat.pow_pos (by decide))) hne hqq
theorem own_tt2 {bt bt2 qq : Int32} {k : Nat} (hk : k ≤ 30) (h : own_u bt2 = own_u bt - 2 ^ k ∧ own_u bt2 < 2 ^ k) (hne : ¬ bt2 = (0 : Int32)) (hqq : qq = (F8 bt2)) : ∃ t, t < k ∧ 2 ^ t ≤ own_u bt2 ∧ own_u bt2 < 2 ^ (t + 1) ∧ own_u qq = 2 ^ t := by
  obtain ⟨t, t0, t1, t2, t3⟩ := own_ttG hk (by rw [Nat.pow_succ]; omega) hne hqq
  exact ⟨t, (Nat.pow_lt_pow_iff_right (a := 2) (by decide)).mp (Nat.lt_of_le_of_lt t1 h.2), t1, t2, t3⟩
theorem own_hf {q0 fi : Int64} {lo hi bt v : Int32} (hv : v = (if ((F9 bt) &&& (1 : Int32)) = (1 : Int32) then hi else lo)) (hfi : fi = (F4 q0 (1 : Int64))) (hlo : lo = (fi.toInt32)) (hhi : hi = (((fi.toUInt64 >>> ((32 : Int32) &&& 0x3f).toInt64.toUInt64).toInt64).toInt32)) (hs : own_u bt < 2147483648) : own_u v = own_half q0 (own_u bt) := by
  have e : Int32.ofNat (own_u bt) = bt := own_u_inj (own_u_ofNat (by omega))
  rw [own_half, e, hv, hhi, hlo, hfi]
  rfl
theorem own_bu {q0 : Int64} {qq bb v : Int32} {t B : Nat} (hq : own_u qq = 2 ^ t) (hbb : bb = (qq ||| (v &&& (qq - (1 : Int32))))) (hf : own_u v = own_half q0 B) : own_u bb = 2 ^ t + own_half q0 B % 2 ^ t := by
  rw [hbb, own_u_b hq, hf]
theorem own_bbl {bb : Int32} {t k x : Nat} (hk : k ≤ 30) (ht : t ≤ k) (hu : own_u bb = 2 ^ t + x % 2 ^ t) : own_u bb < 2 ^ (t + 1) ∧ own_u bb < 2147483648 := by
  obtain ⟨p1, p2, p3⟩ := own_pow_lt (Nat.le_trans ht hk)
  have : x % 2 ^ t < 2 ^ t := Nat.mod_lt _ p2
  have e := Nat.pow_succ 2 t
  omega
theorem own_lt2 {p1 bb : Int32} {t k x : Nat} (hk : k ≤ 30) (hn : 2 ≤ p1.toInt) (k1 : 2 ^ k ≤ own_u p1 - 1) (ht : t < k) (hu : own_u bb = 2 ^ t + x % 2 ^ t) : bb < p1 := by
  obtain ⟨n1, n2⟩ := own_un hn
  obtain ⟨b1, b2⟩ := own_bbl hk (Nat.le_of_lt ht) hu
  have : 2 ^ (t + 1) ≤ 2 ^ k := Nat.pow_le_pow_right (by decide) ht
  rw [own_u_ltI b2 n2]; omega
theorem own_bge {qq bb : Int32} {t k x : Nat} (hk : k ≤ 30) (ht : t ≤ k) (hq : own_u qq = 2 ^ t) (hu : own_u bb = 2 ^ t + x % 2 ^ t) : ¬ bb < qq := by
  obtain ⟨b1, b2⟩ := own_bbl hk ht hu
  obtain ⟨p1, p2, p3⟩ := own_pow_lt (Nat.le_trans ht hk)
  rw [own_u_ltI b2 (by omega)]; omega
theorem own_tk {q0 : Int64} {p1 bt qq bb : Int32} {t k : Nat} (hk : k ≤ 30) (hn : 2 ≤ p1.toInt) (k1 : 2 ^ k ≤ own_u p1 - 1) (ht : t ≤ k) (t1 : 2 ^ t ≤ own_u bt) (hq : own_u qq = 2 ^ t) (hu : own_u bb = 2 ^ t + own_half q0 (own_u bt) % 2 ^ t) (hge : ¬ bb < p1) : own_u qq = 2 ^ k ∧ 2 ^ k ≤ own_u bt ∧ own_Inv q0 p1 bt k 0 bb := by
  have e : t = k := by
    rcases Nat.lt_or_ge t k with h | h
    · exact absurd (own_lt2 hk hn k1 h hu) hge
    · omega
  subst e
  exact ⟨hq, t1, hu, fun j hj => absurd hj (Nat.not_lt_zero j)⟩
theorem own_off {q0 : Int64} {bt bt2 qq : Int32} {k : Nat} (hqk : own_u qq = 2 ^ k) (hbk : 2 ^ k ≤ own_u bt) (hB : own_u bt = own_h q0 % 2 ^ (k + 1)) (hbt2 : bt2 = (bt ^^^ qq)) : own_u bt2 = own_u bt - 2 ^ k ∧ own_u bt2 < 2 ^ k := by
  have h2 : own_u bt < 2 ^ (k + 1) := by rw [hB]; exact Nat.mod_lt _ (Nat.pow_pos (by decide))
  have e := own_u_off hqk hbk h2
  rw [← hbt2] at e
  rw [Nat.pow_succ] at h2
  exact ⟨e, by omega⟩
theorem own_u0 : own_u (0 : Int32) = 0 := rfl
theorem own_J0 {q0 : Int64} {p1 bt : Int32} {k : Nat} (k1 : 2 ^ k ≤ own_u p1 - 1) (k2 : own_u p1 - 1 < 2 ^ (k + 1)) (hB : own_u bt = own_h q0 % 2 ^ (k + 1)) (h0 : bt = (0 : Int32)) : own_JS q0 p1 (0 : Int32) := by
  have e : own_h q0 % 2 ^ (k + 1) = 0 := by rw [← hB, h0]; rfl
  refine ⟨by rw [own_u0]; omega, k, k1, k2, Or.inl ?_⟩
  rw [e]
  exact ⟨Nat.pow_pos (by decide), rfl⟩
theorem own_LB {half : Nat → Nat} {B t : Nat} (t1 : 2 ^ t ≤ B) (t2 : B < 2 ^ (t + 1)) : own_L half B = 2 ^ t + half B % 2 ^ t := by
  have hne : B ≠ 0 := by have := Nat.pow_pos (a := 2) (n := t) (by decide); omega
  rw [own_L, if_neg hne, own_logu t1 t2]
theorem own_J1 {q0 : Int64} {p1 bt bb : Int32} {t k : Nat} (hk : k ≤ 30) (hn : 2 ≤ p1.toInt) (k1 : 2 ^ k ≤ own_u p1 - 1) (k2 : own_u p1 - 1 < 2 ^ (k + 1)) (hB : own_u bt = own_h q0 % 2 ^ (k + 1)) (ht : t ≤ k) (t1 : 2 ^ t ≤ own_u bt) (t2 : own_u bt < 2 ^ (t + 1)) (hu : own_u bb = 2 ^ t + own_half q0 (own_u bt) % 2 ^ t) (hlt : bb < p1) : own_JS q0 p1 bb := by
  obtain ⟨n1, n2⟩ := own_un hn
  obtain ⟨b1, b2⟩ := own_bbl hk ht hu
  rw [own_u_ltI b2 n2] at hlt
  refine ⟨b2, k, k1, k2, ?_⟩
  rw [← hB]
  rcases Nat.lt_or_ge t k with h | h
  · left
    have : 2 ^ (t + 1) ≤ 2 ^ k := Nat.pow_le_pow_right (by decide) h
    exact ⟨by omega, by rw [own_LB t1 t2, hu]⟩
  · have e : t = k := by omega
    subst e
    right
    refine ⟨t1, 0, ?_, fun i hi => absurd hi (Nat.not_lt_zero i), ?_⟩
    · show 2 ^ t + own_half q0 (own_u bt) % 2 ^ t < _
      omega
    · show own_u bb = if 2 ^ t ≤ 2 ^ t + own_half q0 (own_u bt) % 2 ^ t then 2 ^ t + own_half q0 (own_u bt) % 2 ^ t else _
      rw [if_pos (by omega), hu]
theorem own_Xlt {q0 : Int64} {bt bx : Int32} {k j : Nat} (hk : k ≤ 30) (h : own_u bx = own_X (own_half q0) (own_d q0) (own_u bt) k j) : own_u bx < 2 ^ (k + 1) ∧ own_u bx < 2147483648 := by
  obtain ⟨p1, p2, p3⟩ := own_pow_lt hk
  have : own_X (own_half q0) (own_d q0) (own_u bt) k j < 2 ^ (k + 1) := by
    cases j with
    | zero =>
      show 2 ^ k + _ % 2 ^ k < _
      have : own_half q0 (own_u bt) % 2 ^ k < 2 ^ k := Nat.mod_lt _ p2
      have e := Nat.pow_succ 2 k
      omega
    | succ j => exact Nat.mod_lt _ (Nat.pow_pos (by decide))
  omega
theorem own_J2 {q0 : Int64} {p1 bt qq bx : Int32} {k : Nat} (hk : k ≤ 30) (hn : 2 ≤ p1.toInt) (k1 : 2 ^ k ≤ own_u p1 - 1) (k2 : own_u p1 - 1 < 2 ^ (k + 1)) (hB : own_u bt = own_h q0 % 2 ^ (k + 1)) (hbk : 2 ^ k ≤ own_u bt) (hqk : own_u qq = 2 ^ k) (hex : own_Ex q0 p1 bt k bx) (hge : ¬ bx < qq) : own_JS q0 p1 bx := by
  obtain ⟨j, j1, j2, j3⟩ := hex
  obtain ⟨x1, x2⟩ := own_Xlt hk j1
  obtain ⟨q1, q2, q3⟩ := own_pow_lt hk
  rw [own_u_ltI x2 (by omega)] at hge
  refine ⟨x2, k, k1, k2, Or.inr ?_⟩
  rw [← hB]
  exact ⟨hbk, j, by rw [← j1]; exact j2, j3, by rw [← j1, if_pos (by omega)]⟩
theorem own_J34 {q0 : Int64} {p1 bt bt2 qq bx r : Int32} {k : Nat} (hk : k ≤ 30) (k1 : 2 ^ k ≤ own_u p1 - 1) (k2 : own_u p1 - 1 < 2 ^ (k + 1)) (hB : own_u bt = own_h q0 % 2 ^ (k + 1)) (hbk : 2 ^ k ≤ own_u bt) (hqk : own_u qq = 2 ^ k) (hex : own_Ex q0 p1 bt k bx) (hlt : bx < qq) (h2 : own_u bt2 = own_u bt - 2 ^ k ∧ own_u bt2 < 2 ^ k) (hr : own_u r = own_L (own_half q0) (own_u bt2)) (hr2 : own_u r < 2147483648) : own_JS q0 p1 r := by
  obtain ⟨j, j1, j2, j3⟩ := hex
  obtain ⟨x1, x2⟩ := own_Xlt hk j1
  obtain ⟨q1, q2, q3⟩ := own_pow_lt hk
  rw [own_u_ltI x2 (by omega)] at hlt
  refine ⟨hr2, k, k1, k2, Or.inr ?_⟩
  rw [← hB]
  exact ⟨hbk, j, by rw [← j1]; exact j2, j3, by rw [← j1, if_neg (by omega), ← h2.1]; exact hr⟩
theorem own_J3 {q0 : Int64} {p1 bt bt2 qq bx : Int32} {k : Nat} (hk : k ≤ 30) (hn : 2 ≤ p1.toInt) (k1 : 2 ^ k ≤ own_u p1 - 1) (k2 : own_u p1 - 1 < 2 ^ (k + 1)) (hB : own_u bt = own_h q0 % 2 ^ (k + 1)) (hbk : 2 ^ k ≤ own_u bt) (hqk : own_u qq = 2 ^ k) (hex : own_Ex q0 p1 bt k bx) (hlt : bx < qq) (h2 : own_u bt2 = own_u bt - 2 ^ k ∧ own_u bt2 < 2 ^ k) (h0 : bt2 = (0 : Int32)) : own_JS q0 p1 (0 : Int32) :=
  own_J34 hk k1 k2 hB hbk hqk hex hlt h2 (by rw [h0]; rfl) (by rw [own_u0]; omega)
theorem own_J4 {q0 : Int64} {p1 bt bt2 qq bx bb : Int32} {k t : Nat} (hk : k ≤ 30) (hn : 2 ≤ p1.toInt) (k1 : 2 ^ k ≤ own_u p1 - 1) (k2 : own_u p1 - 1 < 2 ^ (k + 1)) (hB : own_u bt = own_h q0 % 2 ^ (k + 1)) (hbk : 2 ^ k ≤ own_u bt) (hqk : own_u qq = 2 ^ k) (hex : own_Ex q0 p1 bt k bx) (hlt : bx < qq) (h2 : own_u bt2 = own_u bt - 2 ^ k ∧ own_u bt2 < 2 ^ k)
    (ht : t < k) (t1 : 2 ^ t ≤ own_u bt2) (t2 : own_u bt2 < 2 ^ (t + 1)) (hu : own_u bb = 2 ^ t + own_half q0 (own_u bt2) % 2 ^ t) : own_JS q0 p1 bb :=
  own_J34 hk k1 k2 hB hbk hqk hex hlt h2 (by rw [own_LB t1 t2, hu]) (own_bbl hk (Nat.le_of_lt ht) hu).2
theorem own_ex_hd {q0 : Int64} {p1 bt bx : Int32} {k i : Nat} (hk : k ≤ 30) (hn : 2 ≤ p1.toInt) (hI : own_Inv q0 p1 bt k i bx) (hlt : bx < p1) : own_Ex q0 p1 bt k bx := by
  obtain ⟨n1, n2⟩ := own_un hn
  rw [own_u_ltI (own_Xlt hk hI.1).2 n2] at hlt
  exact ⟨2 * i, hI.1, hlt, hI.2⟩
theorem own_X1 {q0 nn : Int64} {bt b1 rg : Int32} {k i : Nat} (hrk : own_u rg = 2 ^ (k + 1) - 1) (hnn : nn = (F4 q0 ((own_idx i) + (1 : Int64)))) (hb1 : b1 = ((nn.toInt32) &&& rg)) : own_u b1 = own_X (own_half q0) (own_d q0) (own_u bt) k (2 * i + 1) := by
  rw [hb1, own_u_mask hrk, hnn]
  show _ = own_d q0 (2 * i) % 2 ^ (k + 1)
  rw [own_d, if_pos (by omega), show 2 * i / 2 + 1 = i + 1 by omega]
  rfl
theorem own_X2 {q0 nn : Int64} {bt b2 rg : Int32} {k i : Nat} (hrk : own_u rg = 2 ^ (k + 1) - 1) (hnn : nn = (F4 q0 ((own_idx i) + (1 : Int64)))) (hb2 : b2 = ((((nn.toUInt64 >>> ((32 : Int32) &&& 0x3f).toInt64.toUInt64).toInt64).toInt32) &&& rg)) : own_u b2 = own_X (own_half q0) (own_d q0) (own_u bt) k (2 * i + 2) := by
  rw [hb2, own_u_mask hrk, hnn]
  show _ = own_d q0 (2 * i + 1) % 2 ^ (k + 1)
  rw [own_d, if_neg (by omega), show (2 * i + 1) / 2 + 1 = i + 1 by omega]
  rfl
theorem own_more {q0 : Int64} {p1 bt bx : Int32} {k i : Nat} (hk : k ≤ 30) (hn : 2 ≤ p1.toInt) (hI : own_Inv q0 p1 bt k i bx) (hge : ¬ bx < p1) : ∀ j, j < 2 * i + 1 → own_u p1 ≤ own_X (own_half q0) (own_d q0) (own_u bt) k j := fun j hj => by
  obtain ⟨n1, n2⟩ := own_un hn
  rw [own_u_ltI (own_Xlt hk hI.1).2 n2] at hge
  rcases Nat.lt_or_ge j (2 * i) with h | h
  · exact hI.2 j h
  · have e : j = 2 * i := by omega
    rw [e, ← hI.1]; omega
theorem own_ex_lo {q0 nn : Int64} {p1 bt bx b1 rg : Int32} {k i : Nat} (hk : k ≤ 30) (hn : 2 ≤ p1.toInt) (hI : own_Inv q0 p1 bt k i bx) (hge : ¬ bx < p1) (hrk : own_u rg = 2 ^ (k + 1) - 1) (hnn : nn = (F4 q0 ((own_idx i) + (1 : Int64)))) (hb1 : b1 = ((nn.toInt32) &&& rg)) (hlt : b1 < p1) : own_Ex q0 p1 bt k b1 := by
  obtain ⟨n1, n2⟩ := own_un hn
  have e := own_X1 (bt := bt) hrk hnn hb1
  rw [own_u_ltI (own_Xlt hk e).2 n2] at hlt
  exact ⟨2 * i + 1, e, hlt, own_more hk hn hI hge⟩
theorem own_inv_next {q0 nn : Int64} {p1 bt bx b1 b2 rg : Int32} {k i : Nat} (hk : k ≤ 30) (hn : 2 ≤ p1.toInt) (hI : own_Inv q0 p1 bt k i bx) (hge : ¬ bx < p1) (hrk : own_u rg = 2 ^ (k + 1) - 1) (hnn : nn = (F4 q0 ((own_idx i) + (1 : Int64)))) (hb1 : b1 = ((nn.toInt32) &&& rg)) (hb2 : b2 = ((((nn.toUInt64 >>> ((32 : Int32) &&& 0x3f).toInt64.toUInt64).toInt64).toInt32) &&& rg)) (hge1 : ¬ b1 < p1) : own_Inv q0 p1 bt k (i + 1) b2 := by
  obtain ⟨n1, n2⟩ := own_un hn
  have e1 := own_X1 (bt := bt) hrk hnn hb1
  have e2 := own_X2 (bt := bt) hrk hnn hb2
  rw [own_u_ltI (own_Xlt hk e1).2 n2] at hge1
  refine ⟨e2, fun j hj => ?_⟩
  rcases Nat.lt_or_ge j (2 * i + 1) with h | h
  · exact own_more hk hn hI hge j h
  · have e : j = 2 * i + 1 := by omega
    rw [e, ← e1]; omega
theorem own_stop {q0 nn : Int64} {p1 b1 rg : Int32} {i I : Nat} (hn : 2 ≤ p1.toInt) (hIz : own_dr q0 I = 0) (hi : i + 1 = I) (hnn : nn = (F4 q0 ((own_idx i) + (1 : Int64)))) (hb1 : b1 = ((nn.toInt32) &&& rg)) : b1 < p1 := by
  obtain ⟨n1, n2⟩ := own_un hn
  subst hi
  have e : nn = 0 := hnn.trans hIz
  have e1 : own_u b1 = 0 := by
    rw [hb1, own_u_and, e]
    show own_u (0 : Int64).toInt32 &&& _ = 0
    rw [show own_u (0 : Int64).toInt32 = 0 from rfl, Nat.zero_and]
  rw [own_u_ltI (by omega) n2]; omega
theorem own_idx_eq (i : Nat) : own_idx i = Int64.ofNat (i + 1) := by
  induction i with
  | zero => rfl
  | succ i ih =>
    show own_idx i + 1 = _
    rw [ih, Int64.ofNat_add (i + 1) 1]; rfl
theorem own_zero (q0 : Int64) : ∃ I, 2 ≤ I ∧ own_dr q0 I = 0 := by
  obtain ⟨c, hc⟩ : ∃ c : Int64, c = -(q0 * (-1018231460777725123 : Int64)) := ⟨_, rfl⟩
  refine ⟨c.toBitVec.toNat + (18446744073709551616 - 1) + 18446744073709551616, by omega, ?_⟩
  have e : own_idx (c.toBitVec.toNat + (18446744073709551616 - 1) + 18446744073709551616) = c := by
    rw [own_idx_eq]
    apply Int64.toBitVec_inj.mp
    apply BitVec.eq_of_toNat_eq
    have := c.toBitVec.isLt
    rw [Int64.toBitVec_ofNat']
    simp only [BitVec.toNat_ofNat]
    omega
  show F4 q0 (own_idx _) = 0
  rw [e]
  have e2 : q0 + c * (-7046029254386353131 : Int64) = 0 := by
    have e3 : (-1018231460777725123 : Int64) * (-7046029254386353131 : Int64) = 1 := by decide +kernel
    rw [hc, Int64.neg_mul, Int64.mul_assoc, e3, Int64.mul_one, Int64.add_right_neg]
  simp only [F4, F5]
  rw [e2]
  decide +kernel

theorem d3_0 : decode prog_4_method_4_code 0 = .ok (.lconst 1, 1) := by decide +kernel
theorem d3_1 : decode prog_4_method_4_code 1 = .ok (.lstore 4, 2) := by decide +kernel
theorem d3_3 : decode prog_4_method_4_code 3 = .ok (.lload_n 0, 1) := by decide +kernel
theorem d3_4 : decode prog_4_method_4_code 4 = .ok (.lload 4, 2) := by decide +kernel
theorem d3_6 : decode prog_4_method_4_code 6 = .ok (.aload_n 3, 1) := by decide +kernel
theorem d3_7 : decode prog_4_method_4_code 7 = .ok (.invokestatic 31, 3) := by decide +kernel
theorem d3_10 : decode prog_4_method_4_code 10 = .ok (.lstore 6, 2) := by decide +kernel
theorem d3_12 : decode prog_4_method_4_code 12 = .ok (.lload 6, 2) := by decide +kernel
theorem d3_14 : decode prog_4_method_4_code 14 = .ok (.l2i, 1) := by decide +kernel
theorem d3_15 : decode prog_4_method_4_code 15 = .ok (.istore 8, 2) := by decide +kernel
theorem d3_17 : decode prog_4_method_4_code 17 = .ok (.lload 6, 2) := by decide +kernel
theorem d3_19 : decode prog_4_method_4_code 19 = .ok (.bipush 32, 2) := by decide +kernel
theorem d3_21 : decode prog_4_method_4_code 21 = .ok (.lushr, 1) := by decide +kernel
theorem d3_22 : decode prog_4_method_4_code 22 = .ok (.l2i, 1) := by decide +kernel
theorem d3_23 : decode prog_4_method_4_code 23 = .ok (.istore 9, 2) := by decide +kernel
theorem d3_25 : decode prog_4_method_4_code 25 = .ok (.iload 8, 2) := by decide +kernel
theorem d3_27 : decode prog_4_method_4_code 27 = .ok (.iload 9, 2) := by decide +kernel
theorem d3_29 : decode prog_4_method_4_code 29 = .ok (.ixor, 1) := by decide +kernel
theorem d3_30 : decode prog_4_method_4_code 30 = .ok (.iconst (-1), 1) := by decide +kernel
theorem d3_31 : decode prog_4_method_4_code 31 = .ok (.iload_n 2, 1) := by decide +kernel
theorem d3_32 : decode prog_4_method_4_code 32 = .ok (.iconst 1, 1) := by decide +kernel
theorem d3_33 : decode prog_4_method_4_code 33 = .ok (.isub, 1) := by decide +kernel
theorem d3_34 : decode prog_4_method_4_code 34 = .ok (.invokestatic 35, 3) := by decide +kernel
theorem d3_37 : decode prog_4_method_4_code 37 = .ok (.iushr, 1) := by decide +kernel
theorem d3_38 : decode prog_4_method_4_code 38 = .ok (.iand, 1) := by decide +kernel
theorem d3_39 : decode prog_4_method_4_code 39 = .ok (.istore 10, 2) := by decide +kernel
theorem d3_41 : decode prog_4_method_4_code 41 = .ok (.iload 10, 2) := by decide +kernel
theorem d3_43 : decode prog_4_method_4_code 43 = .ok (.ifCond .eq 141, 3) := by decide +kernel
theorem d3_46 : decode prog_4_method_4_code 46 = .ok (.iload 10, 2) := by decide +kernel
theorem d3_48 : decode prog_4_method_4_code 48 = .ok (.invokestatic 41, 3) := by decide +kernel
theorem d3_51 : decode prog_4_method_4_code 51 = .ok (.istore 11, 2) := by decide +kernel
theorem d3_53 : decode prog_4_method_4_code 53 = .ok (.iload 11, 2) := by decide +kernel
theorem d3_55 : decode prog_4_method_4_code 55 = .ok (.iconst 1, 1) := by decide +kernel
theorem d3_56 : decode prog_4_method_4_code 56 = .ok (.ishl, 1) := by decide +kernel
theorem d3_57 : decode prog_4_method_4_code 57 = .ok (.iconst 1, 1) := by decide +kernel
theorem d3_58 : decode prog_4_method_4_code 58 = .ok (.isub, 1) := by decide +kernel
theorem d3_59 : decode prog_4_method_4_code 59 = .ok (.istore 12, 2) := by decide +kernel
theorem d3_61 : decode prog_4_method_4_code 61 = .ok (.iload 10, 2) := by decide +kernel
theorem d3_63 : decode prog_4_method_4_code 63 = .ok (.invokestatic 44, 3) := by decide +kernel
theorem d3_66 : decode prog_4_method_4_code 66 = .ok (.iconst 1, 1) := by decide +kernel
theorem d3_67 : decode prog_4_method_4_code 67 = .ok (.iand, 1) := by decide +kernel
theorem d3_68 : decode prog_4_method_4_code 68 = .ok (.iconst 1, 1) := by decide +kernel
theorem d3_69 : decode prog_4_method_4_code 69 = .ok (.if_icmp .ne 8, 3) := by decide +kernel
theorem d3_72 : decode prog_4_method_4_code 72 = .ok (.iload 9, 2) := by decide +kernel
theorem d3_74 : decode prog_4_method_4_code 74 = .ok (.goto 5, 3) := by decide +kernel
theorem d3_77 : decode prog_4_method_4_code 77 = .ok (.iload 8, 2) := by decide +kernel
theorem d3_79 : decode prog_4_method_4_code 79 = .ok (.istore 13, 2) := by decide +kernel
theorem d3_81 : decode prog_4_method_4_code 81 = .ok (.iload 11, 2) := by decide +kernel
theorem d3_83 : decode prog_4_method_4_code 83 = .ok (.iload 13, 2) := by decide +kernel
theorem d3_85 : decode prog_4_method_4_code 85 = .ok (.iload 11, 2) := by decide +kernel
theorem d3_87 : decode prog_4_method_4_code 87 = .ok (.iconst 1, 1) := by decide +kernel
theorem d3_88 : decode prog_4_method_4_code 88 = .ok (.isub, 1) := by decide +kernel
theorem d3_89 : decode prog_4_method_4_code 89 = .ok (.iand, 1) := by decide +kernel
theorem d3_90 : decode prog_4_method_4_code 90 = .ok (.ior, 1) := by decide +kernel
theorem d3_91 : decode prog_4_method_4_code 91 = .ok (.istore 14, 2) := by decide +kernel
theorem d3_93 : decode prog_4_method_4_code 93 = .ok (.iload 14, 2) := by decide +kernel
theorem d3_95 : decode prog_4_method_4_code 95 = .ok (.iload_n 2, 1) := by decide +kernel
theorem d3_96 : decode prog_4_method_4_code 96 = .ok (.if_icmp .lt 68, 3) := by decide +kernel
theorem d3_99 : decode prog_4_method_4_code 99 = .ok (.aload_n 3, 1) := by decide +kernel
theorem d3_100 : decode prog_4_method_4_code 100 = .ok (.ifnull 18, 3) := by decide +kernel
theorem d3_118 : decode prog_4_method_4_code 118 = .ok (.lload 4, 2) := by decide +kernel
theorem d3_120 : decode prog_4_method_4_code 120 = .ok (.lconst 1, 1) := by decide +kernel
theorem d3_121 : decode prog_4_method_4_code 121 = .ok (.ladd, 1) := by decide +kernel
theorem d3_122 : decode prog_4_method_4_code 122 = .ok (.lstore 4, 2) := by decide +kernel
theorem d3_124 : decode prog_4_method_4_code 124 = .ok (.lload_n 0, 1) := by decide +kernel
theorem d3_125 : decode prog_4_method_4_code 125 = .ok (.lload 4, 2) := by decide +kernel
theorem d3_127 : decode prog_4_method_4_code 127 = .ok (.aload_n 3, 1) := by decide +kernel
theorem d3_128 : decode prog_4_method_4_code 128 = .ok (.invokestatic 31, 3) := by decide +kernel
theorem d3_131 : decode prog_4_method_4_code 131 = .ok (.lstore 15, 2) := by decide +kernel
theorem d3_133 : decode prog_4_method_4_code 133 = .ok (.lload 15, 2) := by decide +kernel
theorem d3_135 : decode prog_4_method_4_code 135 = .ok (.l2i, 1) := by decide +kernel
theorem d3_136 : decode prog_4_method_4_code 136 = .ok (.iload 12, 2) := by decide +kernel
theorem d3_138 : decode prog_4_method_4_code 138 = .ok (.iand, 1) := by decide +kernel
theorem d3_139 : decode prog_4_method_4_code 139 = .ok (.istore 14, 2) := by decide +kernel
theorem d3_141 : decode prog_4_method_4_code 141 = .ok (.iload 14, 2) := by decide +kernel
theorem d3_143 : decode prog_4_method_4_code 143 = .ok (.iload_n 2, 1) := by decide +kernel
theorem d3_144 : decode prog_4_method_4_code 144 = .ok (.if_icmp .ge 6, 3) := by decide +kernel
theorem d3_147 : decode prog_4_method_4_code 147 = .ok (.goto 17, 3) := by decide +kernel
theorem d3_150 : decode prog_4_method_4_code 150 = .ok (.lload 15, 2) := by decide +kernel
theorem d3_152 : decode prog_4_method_4_code 152 = .ok (.bipush 32, 2) := by decide +kernel
theorem d3_154 : decode prog_4_method_4_code 154 = .ok (.lushr, 1) := by decide +kernel
theorem d3_155 : decode prog_4_method_4_code 155 = .ok (.l2i, 1) := by decide +kernel
theorem d3_156 : decode prog_4_method_4_code 156 = .ok (.iload 12, 2) := by decide +kernel
theorem d3_158 : decode prog_4_method_4_code 158 = .ok (.iand, 1) := by decide +kernel
theorem d3_159 : decode prog_4_method_4_code 159 = .ok (.istore 14, 2) := by decide +kernel
theorem d3_161 : decode prog_4_method_4_code 161 = .ok (.goto (-68), 3) := by decide +kernel
theorem d3_164 : decode prog_4_method_4_code 164 = .ok (.iload 14, 2) := by decide +kernel
theorem d3_166 : decode prog_4_method_4_code 166 = .ok (.iload 11, 2) := by decide +kernel
theorem d3_168 : decode prog_4_method_4_code 168 = .ok (.if_icmp .lt 6, 3) := by decide +kernel
theorem d3_171 : decode prog_4_method_4_code 171 = .ok (.iload 14, 2) := by decide +kernel
theorem d3_173 : decode prog_4_method_4_code 173 = .ok (.ireturn, 1) := by decide +kernel
theorem d3_174 : decode prog_4_method_4_code 174 = .ok (.iload 10, 2) := by decide +kernel
theorem d3_176 : decode prog_4_method_4_code 176 = .ok (.iload 11, 2) := by decide +kernel
theorem d3_178 : decode prog_4_method_4_code 178 = .ok (.ixor, 1) := by decide +kernel
theorem d3_179 : decode prog_4_method_4_code 179 = .ok (.istore 10, 2) := by decide +kernel
theorem d3_181 : decode prog_4_method_4_code 181 = .ok (.goto (-140), 3) := by decide +kernel
theorem d3_184 : decode prog_4_method_4_code 184 = .ok (.iconst 0, 1) := by decide +kernel
theorem d3_185 : decode prog_4_method_4_code 185 = .ok (.ireturn, 1) := by decide +kernel
theorem pn_3 : plainName "com/example/which_bucket/whichbucket/WhichBucket" = true := by first | (simp [plainName, overriddenIn]; done) | decide +kernel
set_option maxRecDepth 65536 in
set_option maxHeartbeats 40000000 in
theorem own_loop {p : Program} {l : Launch} {e : Env} {s : State} {m : MethodId} {below : List Frame} {meth : Method} {c : Code} {Z : State} {a0 : Array Value} {h0 : Heap} {n0 : Nat} {Q : Option Value → Heap → List Loc → Prop} {q0 fi : Int64} {p1 lo hi bt qq rg hf : Int32} {k I : Nat}
    (hx : p.tables.exec = Jvm.exec) (hZ : Z.Warmed39 s.vm) (hw : ∀ d ∈ tables_1, d.before a0 Z = true) (hby : c.code = prog_4_method_4_code) (hml : c.maxLocals = 17) (hown : s.vm.findClass "com/example/which_bucket/whichbucket/WhichBucket" = some m.cls) (Z0 : n0 ≤ h0.size) (hk : k ≤ 30) (hn : 2 ≤ p1.toInt) (hrk : own_u rg = 2 ^ (k + 1) - 1) (hIz : own_dr q0 I = 0)
    (KX : ∀ (T' : State) (locs' : List Loc) (X' : Stand p l e ({ frames := 3, cells := 0, slots := 0, locals := 46 } : Room) s m #[(.long q0), (.int p1), .null] below meth c T' locs' 0 0) (N' : Fr n0 locs') (e' : T'.heap = h0) (dx nx : Int64) (bx : Int32) (hex : own_Ex q0 p1 bt k bx), own_Go p.tables e below s 0 0 Q (T'.setTop (mkF m 164 #[.val (.long q0), .second, iv p1, .val .null, .val (.long dx), .second, .val (.long fi), .second, iv lo, iv hi, iv bt, iv qq, iv rg, iv hf, iv bx, .val (.long nx), .second] []))) (f : Nat) :
    ∀ (i : Nat) (T : State) (locs : List Loc) (X : Stand p l e ({ frames := 3, cells := 0, slots := 0, locals := 46 } : Room) s m #[(.long q0), (.int p1), .null] below meth c T locs 0 0) (NN : Fr n0 locs) (eT : T.heap = h0) (nx : Int64) (bx : Int32), i + f + 1 = I → own_Inv q0 p1 bt k i bx → own_Go p.tables e below s 0 0 Q (T.setTop (mkF m 93 #[.val (.long q0), .second, iv p1, .val .null, .val (.long (own_idx i)), .second, .val (.long fi), .second, iv lo, iv hi, iv bt, iv qq, iv rg, iv hf, iv bx, .val (.long nx), .second] [])) := by
  induction f with
  | zero =>
      intro i T locs X NN eT nx bx hiF hInv
      refine own_step (U' := T.setTop (mkF m 96 #[.val (.long q0), .second, iv p1, .val .null, .val (.long (own_idx i)), .second, .val (.long fi), .second, iv lo, iv hi, iv bt, iv qq, iv rg, iv hf, iv bx, .val (.long nx), .second] [(.int p1), (.int bx)])) (fun t k => XS.iload X.here hx rfl (hb hby d3_93) rfl (XS.iloadN X.here hx rfl (hb hby d3_95) rfl k)) ?_
      by_cases hc96_1 : bx < p1
      · refine own_step (U' := T.setTop (mkF m 164 #[.val (.long q0), .second, iv p1, .val .null, .val (.long (own_idx i)), .second, .val (.long fi), .second, iv lo, iv hi, iv bt, iv qq, iv rg, iv hf, iv bx, .val (.long nx), .second] [])) (fun t k => XS.icmpYes X.here hx rfl (pc0 := 96) (pc' := 164) rfl (hb hby d3_96) rfl (tlt hc96_1).1 (by decide) (by decide) k) ?_
        exact KX _ _ X NN eT _ _ _ (own_ex_hd hk hn hInv hc96_1)
      · refine own_step (U' := T.setTop (mkF m 125 #[.val (.long q0), .second, iv p1, .val .null, .val (.long ((own_idx i) + (1 : Int64))), .second, .val (.long fi), .second, iv lo, iv hi, iv bt, iv qq, iv rg, iv hf, iv bx, .val (.long nx), .second] [(.long q0)])) (fun t k => XS.icmpNo X.here hx rfl (hb hby d3_96) rfl (flt hc96_1).1 (XS.aloadN X.here hx rfl (hb hby d3_99) rfl rfl (XS.ifnullYes X.here hx rfl (pc0 := 100) (pc' := 118) rfl (hb hby d3_100) rfl (by decide) (by decide) (XS.lload X.here hx rfl (hb hby d3_118) rfl (XS.lconst X.here hx rfl (hb hby d3_120) (XS.ladd X.here hx rfl (hb hby d3_121) rfl (XS.lstore X.here hx rfl (hb hby d3_122) rfl (l' := #[.val (.long q0), .second, iv p1, .val .null, .val (.long ((own_idx i) + (1 : Int64))), .second, .val (.long fi), .second, iv lo, iv hi, iv bt, iv qq, iv rg, iv hf, iv bx, .val (.long nx), .second]) rfl (XS.lloadN X.here hx rfl (hb hby d3_124) rfl k)))))))) ?_
        refine own_step (U' := T.setTop (mkF m 128 #[.val (.long q0), .second, iv p1, .val .null, .val (.long ((own_idx i) + (1 : Int64))), .second, .val (.long fi), .second, iv lo, iv hi, iv bt, iv qq, iv rg, iv hf, iv bx, .val (.long nx), .second] [.null, (.long ((own_idx i) + (1 : Int64))), (.long q0)])) (fun t k => XS.lload X.here hx rfl (hb hby d3_125) rfl (XS.aloadN X.here hx rfl (hb hby d3_127) rfl rfl k)) ?_
        obtain ⟨_, _, ⟨T2, L2, k2, n2⟩, -, X2, ⟨Lc2, hQ2, l2, y2, z2⟩, st2⟩ := Jvm.LawKit.callS X hx (y := (⟨"com/example/which_bucket/whichbucket/WhichBucket", "draw", "(JJLcom/example/which_bucket/whichbucket/RandomSource;)J"⟩ : MethodName)) hown (mvT hZ (own_w hw 11 rfl)) (mvT hZ (own_w hw 12 rfl)) (mvT hZ (own_w hw 3 rfl)) (mvT hZ (own_w hw 13 rfl)) (by decide) (backOf (W := 0) (rm4 l Z a0 hw [] q0 ((own_idx i) + (1 : Int64)) h0 n0 Z0) hZ (own_w hw 13 rfl) (own_w hw 3 rfl) (by decide) (by decide)) (g := (mkF m 128 #[.val (.long q0), .second, iv p1, .val .null, .val (.long ((own_idx i) + (1 : Int64))), .second, .val (.long fi), .second, iv lo, iv hi, iv bt, iv qq, iv rg, iv hf, iv bx, .val (.long nx), .second] [.null, (.long ((own_idx i) + (1 : Int64))), (.long q0)])) rfl (by rw [hml]; rfl) (argsL := [(.long q0), (.long ((own_idx i) + (1 : Int64))), .null]) (rest := []) (lenOf pd__JJLcom_example_which_bucket_whichbucket_RandomSource__J rfl) rfl (by show 2 * 0 + _ ≤ _; exact Nat.le_of_eq rfl) (hb hby d3_128) (fun _ _ => ⟨rfl, eT, (by decide : 0 + 0 ≤ _), (by decide : 0 + 0 ≤ _)⟩)
        dsimp only [Pt.U, Pt.locs, Pt.cells, Pt.slots] at X2 l2 y2 z2 st2 hQ2
        subst l2 y2 z2
        obtain ⟨rfl, N2q, eq2⟩ := hQ2
        have N2 := Fr.app NN N2q
        refine own_step (U' := T2.setTop (mkF m 131 #[.val (.long q0), .second, iv p1, .val .null, .val (.long ((own_idx i) + (1 : Int64))), .second, .val (.long fi), .second, iv lo, iv hi, iv bt, iv qq, iv rg, iv hf, iv bx, .val (.long nx), .second] [(.long (F4 q0 ((own_idx i) + (1 : Int64))))])) st2 ?_
        obtain ⟨nn, hnn⟩ : ∃ v : Int64, v = (F4 q0 ((own_idx i) + (1 : Int64))) := ⟨_, rfl⟩
        rw [← hnn]
        refine own_step (U' := T2.setTop (mkF m 139 #[.val (.long q0), .second, iv p1, .val .null, .val (.long ((own_idx i) + (1 : Int64))), .second, .val (.long fi), .second, iv lo, iv hi, iv bt, iv qq, iv rg, iv hf, iv bx, .val (.long nn), .second] [(.int ((nn.toInt32) &&& rg))])) (fun t k => XS.lstore X2.here hx rfl (hb hby d3_131) rfl (l' := #[.val (.long q0), .second, iv p1, .val .null, .val (.long ((own_idx i) + (1 : Int64))), .second, .val (.long fi), .second, iv lo, iv hi, iv bt, iv qq, iv rg, iv hf, iv bx, .val (.long nn), .second]) rfl (XS.lload X2.here hx rfl (hb hby d3_133) rfl (XS.l2i X2.here hx rfl (hb hby d3_135) rfl (XS.iload X2.here hx rfl (hb hby d3_136) rfl (XS.iand X2.here hx rfl (hb hby d3_138) rfl k))))) ?_
        obtain ⟨b1, hb1⟩ : ∃ v : Int32, v = ((nn.toInt32) &&& rg) := ⟨_, rfl⟩
        rw [← hb1]
        refine own_step (U' := T2.setTop (mkF m 144 #[.val (.long q0), .second, iv p1, .val .null, .val (.long ((own_idx i) + (1 : Int64))), .second, .val (.long fi), .second, iv lo, iv hi, iv bt, iv qq, iv rg, iv hf, iv b1, .val (.long nn), .second] [(.int p1), (.int b1)])) (fun t k => XS.istore X2.here hx rfl (hb hby d3_139) rfl (l' := #[.val (.long q0), .second, iv p1, .val .null, .val (.long ((own_idx i) + (1 : Int64))), .second, .val (.long fi), .second, iv lo, iv hi, iv bt, iv qq, iv rg, iv hf, iv b1, .val (.long nn), .second]) rfl (XS.iload X2.here hx rfl (hb hby d3_141) rfl (XS.iloadN X2.here hx rfl (hb hby d3_143) rfl k))) ?_
        by_cases hc144_3 : b1 < p1
        · refine own_step (U' := T2.setTop (mkF m 164 #[.val (.long q0), .second, iv p1, .val .null, .val (.long ((own_idx i) + (1 : Int64))), .second, .val (.long fi), .second, iv lo, iv hi, iv bt, iv qq, iv rg, iv hf, iv b1, .val (.long nn), .second] [])) (fun t k => XS.icmpNo X2.here hx rfl (hb hby d3_144) rfl (tlt hc144_3).2.1 (XS.goto X2.here hx rfl (pc0 := 147) (pc' := 164) rfl (hb hby d3_147) (by decide) (by decide) k)) ?_
          exact KX _ _ X2 N2 eq2 _ _ _ (own_ex_lo (i := i) hk hn hInv hc96_1 hrk hnn hb1 hc144_3)
        · refine own_step (U' := T2.setTop (mkF m 159 #[.val (.long q0), .second, iv p1, .val .null, .val (.long ((own_idx i) + (1 : Int64))), .second, .val (.long fi), .second, iv lo, iv hi, iv bt, iv qq, iv rg, iv hf, iv b1, .val (.long nn), .second] [(.int ((((nn.toUInt64 >>> ((32 : Int32) &&& 0x3f).toInt64.toUInt64).toInt64).toInt32) &&& rg))])) (fun t k => XS.icmpYes X2.here hx rfl (pc0 := 144) (pc' := 150) rfl (hb hby d3_144) rfl (flt hc144_3).2.1 (by decide) (by decide) (XS.lload X2.here hx rfl (hb hby d3_150) rfl (XS.bipush X2.here hx rfl (hb hby d3_152) (XS.lushr X2.here hx rfl (hb hby d3_154) rfl (XS.l2i X2.here hx rfl (hb hby d3_155) rfl (XS.iload X2.here hx rfl (hb hby d3_156) rfl (XS.iand X2.here hx rfl (hb hby d3_158) rfl k))))))) ?_
          obtain ⟨b2, hb2⟩ : ∃ v : Int32, v = ((((nn.toUInt64 >>> ((32 : Int32) &&& 0x3f).toInt64.toUInt64).toInt64).toInt32) &&& rg) := ⟨_, rfl⟩
          rw [← hb2]
          refine own_step (U' := T2.setTop (mkF m 93 #[.val (.long q0), .second, iv p1, .val .null, .val (.long ((own_idx i) + (1 : Int64))), .second, .val (.long fi), .second, iv lo, iv hi, iv bt, iv qq, iv rg, iv hf, iv b2, .val (.long nn), .second] [])) (fun t k => XS.istore X2.here hx rfl (hb hby d3_159) rfl (l' := #[.val (.long q0), .second, iv p1, .val .null, .val (.long ((own_idx i) + (1 : Int64))), .second, .val (.long fi), .second, iv lo, iv hi, iv bt, iv qq, iv rg, iv hf, iv b2, .val (.long nn), .second]) rfl (XS.goto X2.here hx rfl (pc0 := 161) (pc' := 93) rfl (hb hby d3_161) (by decide) (by decide) k)) ?_
          exact absurd (own_stop (i := i) hn hIz (by omega) hnn hb1) hc144_3
  | succ f ih =>
      intro i T locs X NN eT nx bx hiF hInv
      refine own_step (U' := T.setTop (mkF m 96 #[.val (.long q0), .second, iv p1, .val .null, .val (.long (own_idx i)), .second, .val (.long fi), .second, iv lo, iv hi, iv bt, iv qq, iv rg, iv hf, iv bx, .val (.long nx), .second] [(.int p1), (.int bx)])) (fun t k => XS.iload X.here hx rfl (hb hby d3_93) rfl (XS.iloadN X.here hx rfl (hb hby d3_95) rfl k)) ?_
      by_cases hc96_4 : bx < p1
      · refine own_step (U' := T.setTop (mkF m 164 #[.val (.long q0), .second, iv p1, .val .null, .val (.long (own_idx i)), .second, .val (.long fi), .second, iv lo, iv hi, iv bt, iv qq, iv rg, iv hf, iv bx, .val (.long nx), .second] [])) (fun t k => XS.icmpYes X.here hx rfl (pc0 := 96) (pc' := 164) rfl (hb hby d3_96) rfl (tlt hc96_4).1 (by decide) (by decide) k) ?_
        exact KX _ _ X NN eT _ _ _ (own_ex_hd hk hn hInv hc96_4)
      · refine own_step (U' := T.setTop (mkF m 125 #[.val (.long q0), .second, iv p1, .val .null, .val (.long ((own_idx i) + (1 : Int64))), .second, .val (.long fi), .second, iv lo, iv hi, iv bt, iv qq, iv rg, iv hf, iv bx, .val (.long nx), .second] [(.long q0)])) (fun t k => XS.icmpNo X.here hx rfl (hb hby d3_96) rfl (flt hc96_4).1 (XS.aloadN X.here hx rfl (hb hby d3_99) rfl rfl (XS.ifnullYes X.here hx rfl (pc0 := 100) (pc' := 118) rfl (hb hby d3_100) rfl (by decide) (by decide) (XS.lload X.here hx rfl (hb hby d3_118) rfl (XS.lconst X.here hx rfl (hb hby d3_120) (XS.ladd X.here hx rfl (hb hby d3_121) rfl (XS.lstore X.here hx rfl (hb hby d3_122) rfl (l' := #[.val (.long q0), .second, iv p1, .val .null, .val (.long ((own_idx i) + (1 : Int64))), .second, .val (.long fi), .second, iv lo, iv hi, iv bt, iv qq, iv rg, iv hf, iv bx, .val (.long nx), .second]) rfl (XS.lloadN X.here hx rfl (hb hby d3_124) rfl k)))))))) ?_
        refine own_step (U' := T.setTop (mkF m 128 #[.val (.long q0), .second, iv p1, .val .null, .val (.long ((own_idx i) + (1 : Int64))), .second, .val (.long fi), .second, iv lo, iv hi, iv bt, iv qq, iv rg, iv hf, iv bx, .val (.long nx), .second] [.null, (.long ((own_idx i) + (1 : Int64))), (.long q0)])) (fun t k => XS.lload X.here hx rfl (hb hby d3_125) rfl (XS.aloadN X.here hx rfl (hb hby d3_127) rfl rfl k)) ?_
        obtain ⟨_, _, ⟨T5, L5, k5, n5⟩, -, X5, ⟨Lc5, hQ5, l5, y5, z5⟩, st5⟩ := Jvm.LawKit.callS X hx (y := (⟨"com/example/which_bucket/whichbucket/WhichBucket", "draw", "(JJLcom/example/which_bucket/whichbucket/RandomSource;)J"⟩ : MethodName)) hown (mvT hZ (own_w hw 11 rfl)) (mvT hZ (own_w hw 12 rfl)) (mvT hZ (own_w hw 3 rfl)) (mvT hZ (own_w hw 13 rfl)) (by decide) (backOf (W := 0) (rm4 l Z a0 hw [] q0 ((own_idx i) + (1 : Int64)) h0 n0 Z0) hZ (own_w hw 13 rfl) (own_w hw 3 rfl) (by decide) (by decide)) (g := (mkF m 128 #[.val (.long q0), .second, iv p1, .val .null, .val (.long ((own_idx i) + (1 : Int64))), .second, .val (.long fi), .second, iv lo, iv hi, iv bt, iv qq, iv rg, iv hf, iv bx, .val (.long nx), .second] [.null, (.long ((own_idx i) + (1 : Int64))), (.long q0)])) rfl (by rw [hml]; rfl) (argsL := [(.long q0), (.long ((own_idx i) + (1 : Int64))), .null]) (rest := []) (lenOf pd__JJLcom_example_which_bucket_whichbucket_RandomSource__J rfl) rfl (by show 2 * 0 + _ ≤ _; exact Nat.le_of_eq rfl) (hb hby d3_128) (fun _ _ => ⟨rfl, eT, (by decide : 0 + 0 ≤ _), (by decide : 0 + 0 ≤ _)⟩)
        dsimp only [Pt.U, Pt.locs, Pt.cells, Pt.slots] at X5 l5 y5 z5 st5 hQ5
        subst l5 y5 z5
        obtain ⟨rfl, N5q, eq5⟩ := hQ5
        have N5 := Fr.app NN N5q
        refine own_step (U' := T5.setTop (mkF m 131 #[.val (.long q0), .second, iv p1, .val .null, .val (.long ((own_idx i) + (1 : Int64))), .second, .val (.long fi), .second, iv lo, iv hi, iv bt, iv qq, iv rg, iv hf, iv bx, .val (.long nx), .second] [(.long (F4 q0 ((own_idx i) + (1 : Int64))))])) st5 ?_
        obtain ⟨nn, hnn⟩ : ∃ v : Int64, v = (F4 q0 ((own_idx i) + (1 : Int64))) := ⟨_, rfl⟩
        rw [← hnn]
        refine own_step (U' := T5.setTop (mkF m 139 #[.val (.long q0), .second, iv p1, .val .null, .val (.long ((own_idx i) + (1 : Int64))), .second, .val (.long fi), .second, iv lo, iv hi, iv bt, iv qq, iv rg, iv hf, iv bx, .val (.long nn), .second] [(.int ((nn.toInt32) &&& rg))])) (fun t k => XS.lstore X5.here hx rfl (hb hby d3_131) rfl (l' := #[.val (.long q0), .second, iv p1, .val .null, .val (.long ((own_idx i) + (1 : Int64))), .second, .val (.long fi), .second, iv lo, iv hi, iv bt, iv qq, iv rg, iv hf, iv bx, .val (.long nn), .second]) rfl (XS.lload X5.here hx rfl (hb hby d3_133) rfl (XS.l2i X5.here hx rfl (hb hby d3_135) rfl (XS.iload X5.here hx rfl (hb hby d3_136) rfl (XS.iand X5.here hx rfl (hb hby d3_138) rfl k))))) ?_
        obtain ⟨b1, hb1⟩ : ∃ v : Int32, v = ((nn.toInt32) &&& rg) := ⟨_, rfl⟩
        rw [← hb1]
        refine own_step (U' := T5.setTop (mkF m 144 #[.val (.long q0), .second, iv p1, .val .null, .val (.long ((own_idx i) + (1 : Int64))), .second, .val (.long fi), .second, iv lo, iv hi, iv bt, iv qq, iv rg, iv hf, iv b1, .val (.long nn), .second] [(.int p1), (.int b1)])) (fun t k => XS.istore X5.here hx rfl (hb hby d3_139) rfl (l' := #[.val (.long q0), .second, iv p1, .val .null, .val (.long ((own_idx i) + (1 : Int64))), .second, .val (.long fi), .second, iv lo, iv hi, iv bt, iv qq, iv rg, iv hf, iv b1, .val (.long nn), .second]) rfl (XS.iload X5.here hx rfl (hb hby d3_141) rfl (XS.iloadN X5.here hx rfl (hb hby d3_143) rfl k))) ?_
        by_cases hc144_6 : b1 < p1
        · refine own_step (U' := T5.setTop (mkF m 164 #[.val (.long q0), .second, iv p1, .val .null, .val (.long ((own_idx i) + (1 : Int64))), .second, .val (.long fi), .second, iv lo, iv hi, iv bt, iv qq, iv rg, iv hf, iv b1, .val (.long nn), .second] [])) (fun t k => XS.icmpNo X5.here hx rfl (hb hby d3_144) rfl (tlt hc144_6).2.1 (XS.goto X5.here hx rfl (pc0 := 147) (pc' := 164) rfl (hb hby d3_147) (by decide) (by decide) k)) ?_
          exact KX _ _ X5 N5 eq5 _ _ _ (own_ex_lo (i := i) hk hn hInv hc96_4 hrk hnn hb1 hc144_6)
        · refine own_step (U' := T5.setTop (mkF m 159 #[.val (.long q0), .second, iv p1, .val .null, .val (.long ((own_idx i) + (1 : Int64))), .second, .val (.long fi), .second, iv lo, iv hi, iv bt, iv qq, iv rg, iv hf, iv b1, .val (.long nn), .second] [(.int ((((nn.toUInt64 >>> ((32 : Int32) &&& 0x3f).toInt64.toUInt64).toInt64).toInt32) &&& rg))])) (fun t k => XS.icmpYes X5.here hx rfl (pc0 := 144) (pc' := 150) rfl (hb hby d3_144) rfl (flt hc144_6).2.1 (by decide) (by decide) (XS.lload X5.here hx rfl (hb hby d3_150) rfl (XS.bipush X5.here hx rfl (hb hby d3_152) (XS.lushr X5.here hx rfl (hb hby d3_154) rfl (XS.l2i X5.here hx rfl (hb hby d3_155) rfl (XS.iload X5.here hx rfl (hb hby d3_156) rfl (XS.iand X5.here hx rfl (hb hby d3_158) rfl k))))))) ?_
          obtain ⟨b2, hb2⟩ : ∃ v : Int32, v = ((((nn.toUInt64 >>> ((32 : Int32) &&& 0x3f).toInt64.toUInt64).toInt64).toInt32) &&& rg) := ⟨_, rfl⟩
          rw [← hb2]
          refine own_step (U' := T5.setTop (mkF m 93 #[.val (.long q0), .second, iv p1, .val .null, .val (.long ((own_idx i) + (1 : Int64))), .second, .val (.long fi), .second, iv lo, iv hi, iv bt, iv qq, iv rg, iv hf, iv b2, .val (.long nn), .second] [])) (fun t k => XS.istore X5.here hx rfl (hb hby d3_159) rfl (l' := #[.val (.long q0), .second, iv p1, .val .null, .val (.long ((own_idx i) + (1 : Int64))), .second, .val (.long fi), .second, iv lo, iv hi, iv bt, iv qq, iv rg, iv hf, iv b2, .val (.long nn), .second]) rfl (XS.goto X5.here hx rfl (pc0 := 161) (pc' := 93) rfl (hb hby d3_161) (by decide) (by decide) k)) ?_
          exact ih (i + 1) _ _ X5 N5 eq5 _ _ (by omega) (own_inv_next (i := i) hk hn hInv hc96_4 hrk hnn hb1 hb2 hc144_6)
theorem ef_3 (m : MethodId) (q0 : Int64) (p1 : Int32) : entryFrame m #[(.long q0), (.int p1), .null] 17 = mkF m 0 #[.val (.long q0), .second, iv p1, .val .null, .unset, .unset, .unset, .unset, .unset, .unset, .unset, .unset, .unset, .unset, .unset, .unset, .unset] [] := by first | (simp [entryFrame, mkF, argsToLocals, Value.category]; done) | rfl
def Q3 (Z : State) (q0 : Int64) (p1 : Int32) (h0 : Heap) (n0 : Nat) (v : Option Value) (h : Heap) (L : List Loc) : Prop := ∃ r : Int32, v = some (.int r) ∧ own_JS q0 p1 r ∧ Fr n0 L ∧ h = h0
set_option maxRecDepth 65536 in
set_option maxHeartbeats 40000000 in
theorem rm3 (l : Launch) (Z : State) (a0 : Array Value) (hw : ∀ d ∈ tables_1, d.before a0 Z = true) (ws : List Jvm.Cond) (q0 : Int64) (p1 : Int32) (h0 : Heap) (n0 : Nat) (Z0 : n0 ≤ h0.size) (hn : 2 ≤ p1.toInt) :
    MetFree l (⟨"com/example/which_bucket/whichbucket/WhichBucket", "jumpBackHashOfSeveral", "(JILcom/example/which_bucket/whichbucket/RandomSource;)I"⟩ : MethodName) (head1 (Jvm.Cond.code (⟨"com/example/which_bucket/whichbucket/WhichBucket", "jumpBackHashOfSeveral", "(JILcom/example/which_bucket/whichbucket/RandomSource;)I"⟩ : MethodName) prog_4_method_4_code 17 (some .int) :: ws) ({ frames := 3, cells := 0, slots := 0, locals := 46 } : Room)) (fun a U => a = #[(.long q0), (.int p1), .null] ∧ Z.Warmed39 U.vm ∧ U.heap = h0) (fun _ _ _ _ _ => True) (fun _ U o U' => ∃ v L, o = .returned v ∧ Q3 Z q0 p1 h0 n0 v U'.heap L ∧ FrameEnd U o U' L ({ frames := 3, cells := 0, slots := 0, locals := 46 } : Room).cells ({ frames := 3, cells := 0, slots := 0, locals := 46 } : Room).slots) := by
  refine MetFree.of_bodySF (plainFor_of_name pn_3) hisR ?_
  intro p e s m args below meth c s₁ Bd hml0 hP hK
  obtain ⟨rfl, hZ, hh⟩ := hP
  have hx := Bd.exec
  have hby := Bd.bytes
  have hml : c.maxLocals = 17 := hml0
  have hown : s.vm.findClass "com/example/which_bucket/whichbucket/WhichBucket" = some m.cls := findClass_of_methodNamed Bd.named
  have hnm := (name_of_methodNamed Bd.named Bd.method).1
  have hlk : meth.locks = false := Bd.notSynchronized
  have X0 : Stand p l e ({ frames := 3, cells := 0, slots := 0, locals := 46 } : Room) s m #[(.long q0), (.int p1), .null] below meth c s₁ [] 0 0 := Stand.of_body Bd
  have e0 : s₁.heap = h0 := by rw [← hh, Bd.state]; rfl
  have N0 := Fr.nil n0
  have KK0 := Keep.refl h0 []
  show own_Go p.tables e below s 0 0 (Q3 Z q0 p1 h0 n0) (s₁.setTop (entryFrame m #[(.long q0), (.int p1), .null] 17))
  rw [ef_3]
  refine own_step (U' := s₁.setTop (mkF m 7 #[.val (.long q0), .second, iv p1, .val .null, .val (.long (1 : Int64)), .second, .unset, .unset, .unset, .unset, .unset, .unset, .unset, .unset, .unset, .unset, .unset] [.null, (.long (1 : Int64)), (.long q0)])) (fun t k => XS.lconst X0.here hx rfl (hb hby d3_0) (XS.lstore X0.here hx rfl (hb hby d3_1) rfl (l' := #[.val (.long q0), .second, iv p1, .val .null, .val (.long (1 : Int64)), .second, .unset, .unset, .unset, .unset, .unset, .unset, .unset, .unset, .unset, .unset, .unset]) rfl (XS.lloadN X0.here hx rfl (hb hby d3_3) rfl (XS.lload X0.here hx rfl (hb hby d3_4) rfl (XS.aloadN X0.here hx rfl (hb hby d3_6) rfl rfl k))))) ?_
  obtain ⟨_, _, ⟨T1, L1, k1, n1⟩, -, X1, ⟨Lc1, hQ1, l1, y1, z1⟩, st1⟩ := Jvm.LawKit.callS X0 hx (y := (⟨"com/example/which_bucket/whichbucket/WhichBucket", "draw", "(JJLcom/example/which_bucket/whichbucket/RandomSource;)J"⟩ : MethodName)) hown (mvT hZ (own_w hw 11 rfl)) (mvT hZ (own_w hw 12 rfl)) (mvT hZ (own_w hw 3 rfl)) (mvT hZ (own_w hw 13 rfl)) (by decide) (backOf (W := 0) (rm4 l Z a0 hw [] q0 (1 : Int64) h0 n0 Z0) hZ (own_w hw 13 rfl) (own_w hw 3 rfl) (by decide) (by decide)) (g := (mkF m 7 #[.val (.long q0), .second, iv p1, .val .null, .val (.long (1 : Int64)), .second, .unset, .unset, .unset, .unset, .unset, .unset, .unset, .unset, .unset, .unset, .unset] [.null, (.long (1 : Int64)), (.long q0)])) rfl (by rw [hml]; rfl) (argsL := [(.long q0), (.long (1 : Int64)), .null]) (rest := []) (lenOf pd__JJLcom_example_which_bucket_whichbucket_RandomSource__J rfl) rfl (by show 2 * 0 + _ ≤ _; exact Nat.le_of_eq rfl) (hb hby d3_7) (fun _ _ => ⟨rfl, e0, (by decide : 0 + 0 ≤ _), (by decide : 0 + 0 ≤ _)⟩)
  dsimp only [Pt.U, Pt.locs, Pt.cells, Pt.slots] at X1 l1 y1 z1 st1 hQ1
  subst l1 y1 z1
  obtain ⟨rfl, N1q, eq1⟩ := hQ1
  have N1 := Fr.app N0 N1q
  refine own_step (U' := T1.setTop (mkF m 10 #[.val (.long q0), .second, iv p1, .val .null, .val (.long (1 : Int64)), .second, .unset, .unset, .unset, .unset, .unset, .unset, .unset, .unset, .unset, .unset, .unset] [(.long (F4 q0 (1 : Int64)))])) st1 ?_
  obtain ⟨fi, hfi⟩ : ∃ v : Int64, v = (F4 q0 (1 : Int64)) := ⟨_, rfl⟩
  rw [← hfi]
  refine own_step (U' := T1.setTop (mkF m 15 #[.val (.long q0), .second, iv p1, .val .null, .val (.long (1 : Int64)), .second, .val (.long fi), .second, .unset, .unset, .unset, .unset, .unset, .unset, .unset, .unset, .unset] [(.int (fi.toInt32))])) (fun t k => XS.lstore X1.here hx rfl (hb hby d3_10) rfl (l' := #[.val (.long q0), .second, iv p1, .val .null, .val (.long (1 : Int64)), .second, .val (.long fi), .second, .unset, .unset, .unset, .unset, .unset, .unset, .unset, .unset, .unset]) rfl (XS.lload X1.here hx rfl (hb hby d3_12) rfl (XS.l2i X1.here hx rfl (hb hby d3_14) rfl k))) ?_
  obtain ⟨lo, hlo⟩ : ∃ v : Int32, v = (fi.toInt32) := ⟨_, rfl⟩
  rw [← hlo]
  refine own_step (U' := T1.setTop (mkF m 23 #[.val (.long q0), .second, iv p1, .val .null, .val (.long (1 : Int64)), .second, .val (.long fi), .second, iv lo, .unset, .unset, .unset, .unset, .unset, .unset, .unset, .unset] [(.int (((fi.toUInt64 >>> ((32 : Int32) &&& 0x3f).toInt64.toUInt64).toInt64).toInt32))])) (fun t k => XS.istore X1.here hx rfl (hb hby d3_15) rfl (l' := #[.val (.long q0), .second, iv p1, .val .null, .val (.long (1 : Int64)), .second, .val (.long fi), .second, iv lo, .unset, .unset, .unset, .unset, .unset, .unset, .unset, .unset]) rfl (XS.lload X1.here hx rfl (hb hby d3_17) rfl (XS.bipush X1.here hx rfl (hb hby d3_19) (XS.lushr X1.here hx rfl (hb hby d3_21) rfl (XS.l2i X1.here hx rfl (hb hby d3_22) rfl k))))) ?_
  obtain ⟨hi, hhi⟩ : ∃ v : Int32, v = (((fi.toUInt64 >>> ((32 : Int32) &&& 0x3f).toInt64.toUInt64).toInt64).toInt32) := ⟨_, rfl⟩
  rw [← hhi]
  refine own_step (U' := T1.setTop (mkF m 34 #[.val (.long q0), .second, iv p1, .val .null, .val (.long (1 : Int64)), .second, .val (.long fi), .second, iv lo, iv hi, .unset, .unset, .unset, .unset, .unset, .unset, .unset] [(.int (p1 - (1 : Int32))), (.int (-1 : Int32)), (.int (lo ^^^ hi))])) (fun t k => XS.istore X1.here hx rfl (hb hby d3_23) rfl (l' := #[.val (.long q0), .second, iv p1, .val .null, .val (.long (1 : Int64)), .second, .val (.long fi), .second, iv lo, iv hi, .unset, .unset, .unset, .unset, .unset, .unset, .unset]) rfl (XS.iload X1.here hx rfl (hb hby d3_25) rfl (XS.iload X1.here hx rfl (hb hby d3_27) rfl (XS.ixor X1.here hx rfl (hb hby d3_29) rfl (XS.iconst X1.here hx rfl (hb hby d3_30) (XS.iloadN X1.here hx rfl (hb hby d3_31) rfl (XS.iconst X1.here hx rfl (hb hby d3_32) (XS.isub X1.here hx rfl (hb hby d3_33) rfl k)))))))) ?_
  obtain ⟨_, _, ⟨T2, L2, k2, n2⟩, -, X2, ⟨Lc2, hQ2, l2, y2, z2⟩, st2⟩ := Jvm.LawKit.callS X1 hx (y := (⟨"java/lang/Integer", "numberOfLeadingZeros", "(I)I"⟩ : MethodName)) hown (mvT hZ (own_w hw 24 rfl)) (mvT hZ (own_w hw 25 rfl)) (mvT hZ (own_w hw 26 rfl)) (mvT hZ (own_w hw 27 rfl)) (by decide) (backOf (W := 2) (rm7 l Z a0 hw [] (p1 - (1 : Int32)) h0 n0 Z0) hZ (own_w hw 27 rfl) (own_w hw 26 rfl) (by decide) (by decide)) (g := (mkF m 34 #[.val (.long q0), .second, iv p1, .val .null, .val (.long (1 : Int64)), .second, .val (.long fi), .second, iv lo, iv hi, .unset, .unset, .unset, .unset, .unset, .unset, .unset] [(.int (p1 - (1 : Int32))), (.int (-1 : Int32)), (.int (lo ^^^ hi))])) rfl (by rw [hml]; rfl) (argsL := [(.int (p1 - (1 : Int32)))]) (rest := [(.int (-1 : Int32)), (.int (lo ^^^ hi))]) (lenOf pd__I_I rfl) rfl (by show 2 * 0 + _ ≤ _; exact Nat.le_of_eq rfl) (hb hby d3_34) (fun _ _ => ⟨rfl, eq1, (by decide : 0 + 0 ≤ _), (by decide : 0 + 0 ≤ _)⟩)
  dsimp only [Pt.U, Pt.locs, Pt.cells, Pt.slots] at X2 l2 y2 z2 st2 hQ2
  subst l2 y2 z2
  obtain ⟨rfl, N2q, eq2⟩ := hQ2
  have N2 := Fr.app N1 N2q
  refine own_step (U' := T2.setTop (mkF m 37 #[.val (.long q0), .second, iv p1, .val .null, .val (.long (1 : Int64)), .second, .val (.long fi), .second, iv lo, iv hi, .unset, .unset, .unset, .unset, .unset, .unset, .unset] [(.int (F7 (p1 - (1 : Int32)))), (.int (-1 : Int32)), (.int (lo ^^^ hi))])) st2 ?_
  refine own_step (U' := T2.setTop (mkF m 39 #[.val (.long q0), .second, iv p1, .val .null, .val (.long (1 : Int64)), .second, .val (.long fi), .second, iv lo, iv hi, .unset, .unset, .unset, .unset, .unset, .unset, .unset] [(.int ((lo ^^^ hi) &&& (((-1 : Int32).toUInt32 >>> ((F7 (p1 - (1 : Int32))) &&& 31).toUInt32).toInt32)))])) (fun t k => XS.iushr X2.here hx rfl (hb hby d3_37) rfl (XS.iand X2.here hx rfl (hb hby d3_38) rfl k)) ?_
  obtain ⟨bt, hbt⟩ : ∃ v : Int32, v = ((lo ^^^ hi) &&& (((-1 : Int32).toUInt32 >>> ((F7 (p1 - (1 : Int32))) &&& 31).toUInt32).toInt32)) := ⟨_, rfl⟩
  rw [← hbt]
  refine own_step (U' := T2.setTop (mkF m 41 #[.val (.long q0), .second, iv p1, .val .null, .val (.long (1 : Int64)), .second, .val (.long fi), .second, iv lo, iv hi, iv bt, .unset, .unset, .unset, .unset, .unset, .unset] [])) (fun t k => XS.istore X2.here hx rfl (hb hby d3_39) rfl (l' := #[.val (.long q0), .second, iv p1, .val .null, .val (.long (1 : Int64)), .second, .val (.long fi), .second, iv lo, iv hi, iv bt, .unset, .unset, .unset, .unset, .unset, .unset]) rfl k) ?_
  obtain ⟨k, hk, k1, k2, hB⟩ := own_bt hn hfi hlo hhi hbt
  refine own_step (U' := T2.setTop (mkF m 43 #[.val (.long q0), .second, iv p1, .val .null, .val (.long (1 : Int64)), .second, .val (.long fi), .second, iv lo, iv hi, iv bt, .unset, .unset, .unset, .unset, .unset, .unset] [(.int bt)])) (fun t k => XS.iload X2.here hx rfl (hb hby d3_41) rfl k) ?_
  by_cases hc43_3 : bt = (0 : Int32)
  · refine own_step (U' := T2.setTop (mkF m 185 #[.val (.long q0), .second, iv p1, .val .null, .val (.long (1 : Int64)), .second, .val (.long fi), .second, iv lo, iv hi, iv bt, .unset, .unset, .unset, .unset, .unset, .unset] [(.int (0 : Int32))])) (fun t k => XS.ifYes X2.here hx rfl (pc0 := 43) (pc' := 184) rfl (hb hby d3_43) rfl ((if0 _ _).trans (teq hc43_3).1) (by decide) (by decide) (XS.iconst X2.here hx rfl (hb hby d3_184) k)) ?_
    exact own_out X2 (v := (some (.int (0 : Int32)))) hlk (own_nv Bd.returns) (by rw [eq2]; exact ⟨(0 : Int32), rfl, (own_J0 k1 k2 hB hc43_3), N2, rfl⟩) (by decide) (by decide) (fun fs hr => retI X2 hx Bd.returns (hb hby d3_185) hr)
  · refine own_step (U' := T2.setTop (mkF m 48 #[.val (.long q0), .second, iv p1, .val .null, .val (.long (1 : Int64)), .second, .val (.long fi), .second, iv lo, iv hi, iv bt, .unset, .unset, .unset, .unset, .unset, .unset] [(.int bt)])) (fun t k => XS.ifNo X2.here hx rfl (hb hby d3_43) rfl ((if0 _ _).trans (feq hc43_3).1) (XS.iload X2.here hx rfl (hb hby d3_46) rfl k)) ?_
    obtain ⟨_, _, ⟨T4, L4, k4, n4⟩, -, X4, ⟨Lc4, hQ4, l4, y4, z4⟩, st4⟩ := Jvm.LawKit.callS X2 hx (y := (⟨"java/lang/Integer", "highestOneBit", "(I)I"⟩ : MethodName)) hown (mvT hZ (own_w hw 29 rfl)) (mvT hZ (own_w hw 30 rfl)) (mvT hZ (own_w hw 26 rfl)) (mvT hZ (own_w hw 31 rfl)) (by decide) (backOf (W := 0) (rm8 l Z a0 hw [] bt h0 n0 Z0) hZ (own_w hw 31 rfl) (own_w hw 26 rfl) (by decide) (by decide)) (g := (mkF m 48 #[.val (.long q0), .second, iv p1, .val .null, .val (.long (1 : Int64)), .second, .val (.long fi), .second, iv lo, iv hi, iv bt, .unset, .unset, .unset, .unset, .unset, .unset] [(.int bt)])) rfl (by rw [hml]; rfl) (argsL := [(.int bt)]) (rest := []) (lenOf pd__I_I rfl) rfl (by show 2 * 0 + _ ≤ _; exact Nat.le_of_eq rfl) (hb hby d3_48) (fun _ _ => ⟨rfl, eq2, (by decide : 0 + 0 ≤ _), (by decide : 0 + 0 ≤ _)⟩)
    dsimp only [Pt.U, Pt.locs, Pt.cells, Pt.slots] at X4 l4 y4 z4 st4 hQ4
    subst l4 y4 z4
    obtain ⟨rfl, N4q, eq4⟩ := hQ4
    have N4 := Fr.app N2 N4q
    refine own_step (U' := T4.setTop (mkF m 51 #[.val (.long q0), .second, iv p1, .val .null, .val (.long (1 : Int64)), .second, .val (.long fi), .second, iv lo, iv hi, iv bt, .unset, .unset, .unset, .unset, .unset, .unset] [(.int (F8 bt))])) st4 ?_
    obtain ⟨qq, hqq⟩ : ∃ v : Int32, v = (F8 bt) := ⟨_, rfl⟩
    rw [← hqq]
    refine own_step (U' := T4.setTop (mkF m 53 #[.val (.long q0), .second, iv p1, .val .null, .val (.long (1 : Int64)), .second, .val (.long fi), .second, iv lo, iv hi, iv bt, iv qq, .unset, .unset, .unset, .unset, .unset] [])) (fun t k => XS.istore X4.here hx rfl (hb hby d3_51) rfl (l' := #[.val (.long q0), .second, iv p1, .val .null, .val (.long (1 : Int64)), .second, .val (.long fi), .second, iv lo, iv hi, iv bt, iv qq, .unset, .unset, .unset, .unset, .unset]) rfl k) ?_
    obtain ⟨tt, htt, tt1, tt2, ttq⟩ := own_tt hk hB hc43_3 hqq
    refine own_step (U' := T4.setTop (mkF m 59 #[.val (.long q0), .second, iv p1, .val .null, .val (.long (1 : Int64)), .second, .val (.long fi), .second, iv lo, iv hi, iv bt, iv qq, .unset, .unset, .unset, .unset, .unset] [(.int ((qq <<< ((1 : Int32) &&& 31)) - (1 : Int32)))])) (fun t k => XS.iload X4.here hx rfl (hb hby d3_53) rfl (XS.iconst X4.here hx rfl (hb hby d3_55) (XS.ishl X4.here hx rfl (hb hby d3_56) rfl (XS.iconst X4.here hx rfl (hb hby d3_57) (XS.isub X4.here hx rfl (hb hby d3_58) rfl k))))) ?_
    obtain ⟨rg, hrg⟩ : ∃ v : Int32, v = ((qq <<< ((1 : Int32) &&& 31)) - (1 : Int32)) := ⟨_, rfl⟩
    rw [← hrg]
    refine own_step (U' := T4.setTop (mkF m 63 #[.val (.long q0), .second, iv p1, .val .null, .val (.long (1 : Int64)), .second, .val (.long fi), .second, iv lo, iv hi, iv bt, iv qq, iv rg, .unset, .unset, .unset, .unset] [(.int bt)])) (fun t k => XS.istore X4.here hx rfl (hb hby d3_59) rfl (l' := #[.val (.long q0), .second, iv p1, .val .null, .val (.long (1 : Int64)), .second, .val (.long fi), .second, iv lo, iv hi, iv bt, iv qq, iv rg, .unset, .unset, .unset, .unset]) rfl (XS.iload X4.here hx rfl (hb hby d3_61) rfl k)) ?_
    obtain ⟨_, _, ⟨T5, L5, k5, n5⟩, -, X5, ⟨Lc5, hQ5, l5, y5, z5⟩, st5⟩ := Jvm.LawKit.callS X4 hx (y := (⟨"java/lang/Integer", "bitCount", "(I)I"⟩ : MethodName)) hown (mvT hZ (own_w hw 34 rfl)) (mvT hZ (own_w hw 35 rfl)) (mvT hZ (own_w hw 26 rfl)) (mvT hZ (own_w hw 36 rfl)) (by decide) (backOf (W := 0) (rm9 l Z a0 hw [] bt h0 n0 Z0) hZ (own_w hw 36 rfl) (own_w hw 26 rfl) (by decide) (by decide)) (g := (mkF m 63 #[.val (.long q0), .second, iv p1, .val .null, .val (.long (1 : Int64)), .second, .val (.long fi), .second, iv lo, iv hi, iv bt, iv qq, iv rg, .unset, .unset, .unset, .unset] [(.int bt)])) rfl (by rw [hml]; rfl) (argsL := [(.int bt)]) (rest := []) (lenOf pd__I_I rfl) rfl (by show 2 * 0 + _ ≤ _; exact Nat.le_of_eq rfl) (hb hby d3_63) (fun _ _ => ⟨rfl, eq4, (by decide : 0 + 0 ≤ _), (by decide : 0 + 0 ≤ _)⟩)
    dsimp only [Pt.U, Pt.locs, Pt.cells, Pt.slots] at X5 l5 y5 z5 st5 hQ5
    subst l5 y5 z5
    obtain ⟨rfl, N5q, eq5⟩ := hQ5
    have N5 := Fr.app N4 N5q
    refine own_step (U' := T5.setTop (mkF m 66 #[.val (.long q0), .second, iv p1, .val .null, .val (.long (1 : Int64)), .second, .val (.long fi), .second, iv lo, iv hi, iv bt, iv qq, iv rg, .unset, .unset, .unset, .unset] [(.int (F9 bt))])) st5 ?_
    refine own_step (U' := T5.setTop (mkF m 69 #[.val (.long q0), .second, iv p1, .val .null, .val (.long (1 : Int64)), .second, .val (.long fi), .second, iv lo, iv hi, iv bt, iv qq, iv rg, .unset, .unset, .unset, .unset] [(.int (1 : Int32)), (.int ((F9 bt) &&& (1 : Int32)))])) (fun t k => XS.iconst X5.here hx rfl (hb hby d3_66) (XS.iand X5.here hx rfl (hb hby d3_67) rfl (XS.iconst X5.here hx rfl (hb hby d3_68) k))) ?_
    obtain ⟨v79_7, hv79_7⟩ : ∃ v : Int32, v = (if ((F9 bt) &&& (1 : Int32)) = (1 : Int32) then hi else lo) := ⟨_, rfl⟩
    have K79_8 : ∀ (T' : State) (locs' : List Loc) (X' : Stand p l e ({ frames := 3, cells := 0, slots := 0, locals := 46 } : Room) s m #[(.long q0), (.int p1), .null] below meth c T' locs' 0 0) (N' : Fr n0 locs') (e' : T'.heap = h0), own_Go p.tables e below s 0 0 (Q3 Z q0 p1 h0 n0) (T'.setTop (mkF m 79 #[.val (.long q0), .second, iv p1, .val .null, .val (.long (1 : Int64)), .second, .val (.long fi), .second, iv lo, iv hi, iv bt, iv qq, iv rg, .unset, .unset, .unset, .unset] [(.int v79_7)])) := by
      intro T8 L8 X8 N8 e8
      refine own_step (U' := T8.setTop (mkF m 91 #[.val (.long q0), .second, iv p1, .val .null, .val (.long (1 : Int64)), .second, .val (.long fi), .second, iv lo, iv hi, iv bt, iv qq, iv rg, iv v79_7, .unset, .unset, .unset] [(.int (qq ||| (v79_7 &&& (qq - (1 : Int32)))))])) (fun t k => XS.istore X8.here hx rfl (hb hby d3_79) rfl (l' := #[.val (.long q0), .second, iv p1, .val .null, .val (.long (1 : Int64)), .second, .val (.long fi), .second, iv lo, iv hi, iv bt, iv qq, iv rg, iv v79_7, .unset, .unset, .unset]) rfl (XS.iload X8.here hx rfl (hb hby d3_81) rfl (XS.iload X8.here hx rfl (hb hby d3_83) rfl (XS.iload X8.here hx rfl (hb hby d3_85) rfl (XS.iconst X8.here hx rfl (hb hby d3_87) (XS.isub X8.here hx rfl (hb hby d3_88) rfl (XS.iand X8.here hx rfl (hb hby d3_89) rfl (XS.ior X8.here hx rfl (hb hby d3_90) rfl k)))))))) ?_
      obtain ⟨bb, hbb⟩ : ∃ v : Int32, v = (qq ||| (v79_7 &&& (qq - (1 : Int32)))) := ⟨_, rfl⟩
      rw [← hbb]
      refine own_step (U' := T8.setTop (mkF m 93 #[.val (.long q0), .second, iv p1, .val .null, .val (.long (1 : Int64)), .second, .val (.long fi), .second, iv lo, iv hi, iv bt, iv qq, iv rg, iv v79_7, iv bb, .unset, .unset] [])) (fun t k => XS.istore X8.here hx rfl (hb hby d3_91) rfl (l' := #[.val (.long q0), .second, iv p1, .val .null, .val (.long (1 : Int64)), .second, .val (.long fi), .second, iv lo, iv hi, iv bt, iv qq, iv rg, iv v79_7, iv bb, .unset, .unset]) rfl k) ?_
      have hftt := own_hf hv79_7 hfi hlo hhi (own_sm hk hB)
      have hutt := own_bu ttq hbb hftt
      refine own_step (U' := T8.setTop (mkF m 96 #[.val (.long q0), .second, iv p1, .val .null, .val (.long (1 : Int64)), .second, .val (.long fi), .second, iv lo, iv hi, iv bt, iv qq, iv rg, iv v79_7, iv bb, .unset, .unset] [(.int p1), (.int bb)])) (fun t k => XS.iload X8.here hx rfl (hb hby d3_93) rfl (XS.iloadN X8.here hx rfl (hb hby d3_95) rfl k)) ?_
      by_cases hc96_9 : bb < p1
      · refine own_step (U' := T8.setTop (mkF m 173 #[.val (.long q0), .second, iv p1, .val .null, .val (.long (1 : Int64)), .second, .val (.long fi), .second, iv lo, iv hi, iv bt, iv qq, iv rg, iv v79_7, iv bb, .unset, .unset] [(.int bb)])) (fun t k => XS.icmpYes X8.here hx rfl (pc0 := 96) (pc' := 164) rfl (hb hby d3_96) rfl (tlt hc96_9).1 (by decide) (by decide) (XS.iload X8.here hx rfl (hb hby d3_164) rfl (XS.iload X8.here hx rfl (hb hby d3_166) rfl (XS.icmpNo X8.here hx rfl (hb hby d3_168) rfl (flt (own_bge hk htt ttq hutt)).1 (XS.iload X8.here hx rfl (hb hby d3_171) rfl k))))) ?_
        exact own_out X8 (v := (some (.int bb))) hlk (own_nv Bd.returns) (by rw [e8]; exact ⟨bb, rfl, (own_J1 hk hn k1 k2 hB htt tt1 tt2 hutt hc96_9), N8, rfl⟩) (by decide) (by decide) (fun fs hr => retI X8 hx Bd.returns (hb hby d3_173) hr)
      · refine own_step (U' := T8.setTop (mkF m 99 #[.val (.long q0), .second, iv p1, .val .null, .val (.long (1 : Int64)), .second, .val (.long fi), .second, iv lo, iv hi, iv bt, iv qq, iv rg, iv v79_7, iv bb, .unset, .unset] [])) (fun t k => XS.icmpNo X8.here hx rfl (hb hby d3_96) rfl (flt hc96_9).1 k) ?_
        obtain ⟨hqk, hbk, hI0⟩ := own_tk hk hn k1 htt tt1 ttq hutt hc96_9
        have hrk := own_u_range hk hqk
        rw [← hrg] at hrk
        obtain ⟨I, hI2, hIz⟩ := own_zero q0
        have KX : ∀ (T' : State) (locs' : List Loc) (X' : Stand p l e ({ frames := 3, cells := 0, slots := 0, locals := 46 } : Room) s m #[(.long q0), (.int p1), .null] below meth c T' locs' 0 0) (N' : Fr n0 locs') (e' : T'.heap = h0) (dx nx : Int64) (bx : Int32) (hex : own_Ex q0 p1 bt k bx), own_Go p.tables e below s 0 0 (Q3 Z q0 p1 h0 n0) (T'.setTop (mkF m 164 #[.val (.long q0), .second, iv p1, .val .null, .val (.long dx), .second, .val (.long fi), .second, iv lo, iv hi, iv bt, iv qq, iv rg, iv v79_7, iv bx, .val (.long nx), .second] [])) := by
          intro T10 L10 X10 N10 e10 dx nx bx hex
          refine own_step (U' := T10.setTop (mkF m 168 #[.val (.long q0), .second, iv p1, .val .null, .val (.long dx), .second, .val (.long fi), .second, iv lo, iv hi, iv bt, iv qq, iv rg, iv v79_7, iv bx, .val (.long nx), .second] [(.int qq), (.int bx)])) (fun t k => XS.iload X10.here hx rfl (hb hby d3_164) rfl (XS.iload X10.here hx rfl (hb hby d3_166) rfl k)) ?_
          by_cases hc168_11 : bx < qq
          · refine own_step (U' := T10.setTop (mkF m 179 #[.val (.long q0), .second, iv p1, .val .null, .val (.long dx), .second, .val (.long fi), .second, iv lo, iv hi, iv bt, iv qq, iv rg, iv v79_7, iv bx, .val (.long nx), .second] [(.int (bt ^^^ qq))])) (fun t k => XS.icmpYes X10.here hx rfl (pc0 := 168) (pc' := 174) rfl (hb hby d3_168) rfl (tlt hc168_11).1 (by decide) (by decide) (XS.iload X10.here hx rfl (hb hby d3_174) rfl (XS.iload X10.here hx rfl (hb hby d3_176) rfl (XS.ixor X10.here hx rfl (hb hby d3_178) rfl k)))) ?_
            obtain ⟨bt2, hbt2⟩ : ∃ v : Int32, v = (bt ^^^ qq) := ⟨_, rfl⟩
            rw [← hbt2]
            refine own_step (U' := T10.setTop (mkF m 41 #[.val (.long q0), .second, iv p1, .val .null, .val (.long dx), .second, .val (.long fi), .second, iv lo, iv hi, iv bt2, iv qq, iv rg, iv v79_7, iv bx, .val (.long nx), .second] [])) (fun t k => XS.istore X10.here hx rfl (hb hby d3_179) rfl (l' := #[.val (.long q0), .second, iv p1, .val .null, .val (.long dx), .second, .val (.long fi), .second, iv lo, iv hi, iv bt2, iv qq, iv rg, iv v79_7, iv bx, .val (.long nx), .second]) rfl (XS.goto X10.here hx rfl (pc0 := 181) (pc' := 41) rfl (hb hby d3_181) (by decide) (by decide) k)) ?_
            have hbt2u := own_off hqk hbk hB hbt2
            refine own_step (U' := T10.setTop (mkF m 43 #[.val (.long q0), .second, iv p1, .val .null, .val (.long dx), .second, .val (.long fi), .second, iv lo, iv hi, iv bt2, iv qq, iv rg, iv v79_7, iv bx, .val (.long nx), .second] [(.int bt2)])) (fun t k => XS.iload X10.here hx rfl (hb hby d3_41) rfl k) ?_
            by_cases hc43_12 : bt2 = (0 : Int32)
            · refine own_step (U' := T10.setTop (mkF m 185 #[.val (.long q0), .second, iv p1, .val .null, .val (.long dx), .second, .val (.long fi), .second, iv lo, iv hi, iv bt2, iv qq, iv rg, iv v79_7, iv bx, .val (.long nx), .second] [(.int (0 : Int32))])) (fun t k => XS.ifYes X10.here hx rfl (pc0 := 43) (pc' := 184) rfl (hb hby d3_43) rfl ((if0 _ _).trans (teq hc43_12).1) (by decide) (by decide) (XS.iconst X10.here hx rfl (hb hby d3_184) k)) ?_
              exact own_out X10 (v := (some (.int (0 : Int32)))) hlk (own_nv Bd.returns) (by rw [e10]; exact ⟨(0 : Int32), rfl, (own_J3 hk hn k1 k2 hB hbk hqk hex hc168_11 hbt2u hc43_12), N10, rfl⟩) (by decide) (by decide) (fun fs hr => retI X10 hx Bd.returns (hb hby d3_185) hr)
            · refine own_step (U' := T10.setTop (mkF m 48 #[.val (.long q0), .second, iv p1, .val .null, .val (.long dx), .second, .val (.long fi), .second, iv lo, iv hi, iv bt2, iv qq, iv rg, iv v79_7, iv bx, .val (.long nx), .second] [(.int bt2)])) (fun t k => XS.ifNo X10.here hx rfl (hb hby d3_43) rfl ((if0 _ _).trans (feq hc43_12).1) (XS.iload X10.here hx rfl (hb hby d3_46) rfl k)) ?_
              obtain ⟨_, _, ⟨T13, L13, k13, n13⟩, -, X13, ⟨Lc13, hQ13, l13, y13, z13⟩, st13⟩ := Jvm.LawKit.callS X10 hx (y := (⟨"java/lang/Integer", "highestOneBit", "(I)I"⟩ : MethodName)) hown (mvT hZ (own_w hw 29 rfl)) (mvT hZ (own_w hw 30 rfl)) (mvT hZ (own_w hw 26 rfl)) (mvT hZ (own_w hw 31 rfl)) (by decide) (backOf (W := 0) (rm8 l Z a0 hw [] bt2 h0 n0 Z0) hZ (own_w hw 31 rfl) (own_w hw 26 rfl) (by decide) (by decide)) (g := (mkF m 48 #[.val (.long q0), .second, iv p1, .val .null, .val (.long dx), .second, .val (.long fi), .second, iv lo, iv hi, iv bt2, iv qq, iv rg, iv v79_7, iv bx, .val (.long nx), .second] [(.int bt2)])) rfl (by rw [hml]; rfl) (argsL := [(.int bt2)]) (rest := []) (lenOf pd__I_I rfl) rfl (by show 2 * 0 + _ ≤ _; exact Nat.le_of_eq rfl) (hb hby d3_48) (fun _ _ => ⟨rfl, e10, (by decide : 0 + 0 ≤ _), (by decide : 0 + 0 ≤ _)⟩)
              dsimp only [Pt.U, Pt.locs, Pt.cells, Pt.slots] at X13 l13 y13 z13 st13 hQ13
              subst l13 y13 z13
              obtain ⟨rfl, N13q, eq13⟩ := hQ13
              have N13 := Fr.app N10 N13q
              refine own_step (U' := T13.setTop (mkF m 51 #[.val (.long q0), .second, iv p1, .val .null, .val (.long dx), .second, .val (.long fi), .second, iv lo, iv hi, iv bt2, iv qq, iv rg, iv v79_7, iv bx, .val (.long nx), .second] [(.int (F8 bt2))])) st13 ?_
              obtain ⟨qqb, hqqb⟩ : ∃ v : Int32, v = (F8 bt2) := ⟨_, rfl⟩
              rw [← hqqb]
              refine own_step (U' := T13.setTop (mkF m 53 #[.val (.long q0), .second, iv p1, .val .null, .val (.long dx), .second, .val (.long fi), .second, iv lo, iv hi, iv bt2, iv qqb, iv rg, iv v79_7, iv bx, .val (.long nx), .second] [])) (fun t k => XS.istore X13.here hx rfl (hb hby d3_51) rfl (l' := #[.val (.long q0), .second, iv p1, .val .null, .val (.long dx), .second, .val (.long fi), .second, iv lo, iv hi, iv bt2, iv qqb, iv rg, iv v79_7, iv bx, .val (.long nx), .second]) rfl k) ?_
              obtain ⟨ttb, httb, ttb1, ttb2, ttbq⟩ := own_tt2 hk hbt2u hc43_12 hqqb
              refine own_step (U' := T13.setTop (mkF m 59 #[.val (.long q0), .second, iv p1, .val .null, .val (.long dx), .second, .val (.long fi), .second, iv lo, iv hi, iv bt2, iv qqb, iv rg, iv v79_7, iv bx, .val (.long nx), .second] [(.int ((qqb <<< ((1 : Int32) &&& 31)) - (1 : Int32)))])) (fun t k => XS.iload X13.here hx rfl (hb hby d3_53) rfl (XS.iconst X13.here hx rfl (hb hby d3_55) (XS.ishl X13.here hx rfl (hb hby d3_56) rfl (XS.iconst X13.here hx rfl (hb hby d3_57) (XS.isub X13.here hx rfl (hb hby d3_58) rfl k))))) ?_
              obtain ⟨rgb, hrgb⟩ : ∃ v : Int32, v = ((qqb <<< ((1 : Int32) &&& 31)) - (1 : Int32)) := ⟨_, rfl⟩
              rw [← hrgb]
              refine own_step (U' := T13.setTop (mkF m 63 #[.val (.long q0), .second, iv p1, .val .null, .val (.long dx), .second, .val (.long fi), .second, iv lo, iv hi, iv bt2, iv qqb, iv rgb, iv v79_7, iv bx, .val (.long nx), .second] [(.int bt2)])) (fun t k => XS.istore X13.here hx rfl (hb hby d3_59) rfl (l' := #[.val (.long q0), .second, iv p1, .val .null, .val (.long dx), .second, .val (.long fi), .second, iv lo, iv hi, iv bt2, iv qqb, iv rgb, iv v79_7, iv bx, .val (.long nx), .second]) rfl (XS.iload X13.here hx rfl (hb hby d3_61) rfl k)) ?_
              obtain ⟨_, _, ⟨T14, L14, k14, n14⟩, -, X14, ⟨Lc14, hQ14, l14, y14, z14⟩, st14⟩ := Jvm.LawKit.callS X13 hx (y := (⟨"java/lang/Integer", "bitCount", "(I)I"⟩ : MethodName)) hown (mvT hZ (own_w hw 34 rfl)) (mvT hZ (own_w hw 35 rfl)) (mvT hZ (own_w hw 26 rfl)) (mvT hZ (own_w hw 36 rfl)) (by decide) (backOf (W := 0) (rm9 l Z a0 hw [] bt2 h0 n0 Z0) hZ (own_w hw 36 rfl) (own_w hw 26 rfl) (by decide) (by decide)) (g := (mkF m 63 #[.val (.long q0), .second, iv p1, .val .null, .val (.long dx), .second, .val (.long fi), .second, iv lo, iv hi, iv bt2, iv qqb, iv rgb, iv v79_7, iv bx, .val (.long nx), .second] [(.int bt2)])) rfl (by rw [hml]; rfl) (argsL := [(.int bt2)]) (rest := []) (lenOf pd__I_I rfl) rfl (by show 2 * 0 + _ ≤ _; exact Nat.le_of_eq rfl) (hb hby d3_63) (fun _ _ => ⟨rfl, eq13, (by decide : 0 + 0 ≤ _), (by decide : 0 + 0 ≤ _)⟩)
              dsimp only [Pt.U, Pt.locs, Pt.cells, Pt.slots] at X14 l14 y14 z14 st14 hQ14
              subst l14 y14 z14
              obtain ⟨rfl, N14q, eq14⟩ := hQ14
              have N14 := Fr.app N13 N14q
              refine own_step (U' := T14.setTop (mkF m 66 #[.val (.long q0), .second, iv p1, .val .null, .val (.long dx), .second, .val (.long fi), .second, iv lo, iv hi, iv bt2, iv qqb, iv rgb, iv v79_7, iv bx, .val (.long nx), .second] [(.int (F9 bt2))])) st14 ?_
              refine own_step (U' := T14.setTop (mkF m 69 #[.val (.long q0), .second, iv p1, .val .null, .val (.long dx), .second, .val (.long fi), .second, iv lo, iv hi, iv bt2, iv qqb, iv rgb, iv v79_7, iv bx, .val (.long nx), .second] [(.int (1 : Int32)), (.int ((F9 bt2) &&& (1 : Int32)))])) (fun t k => XS.iconst X14.here hx rfl (hb hby d3_66) (XS.iand X14.here hx rfl (hb hby d3_67) rfl (XS.iconst X14.here hx rfl (hb hby d3_68) k))) ?_
              obtain ⟨v79_16, hv79_16⟩ : ∃ v : Int32, v = (if ((F9 bt2) &&& (1 : Int32)) = (1 : Int32) then hi else lo) := ⟨_, rfl⟩
              have K79_17 : ∀ (T' : State) (locs' : List Loc) (X' : Stand p l e ({ frames := 3, cells := 0, slots := 0, locals := 46 } : Room) s m #[(.long q0), (.int p1), .null] below meth c T' locs' 0 0) (N' : Fr n0 locs') (e' : T'.heap = h0), own_Go p.tables e below s 0 0 (Q3 Z q0 p1 h0 n0) (T'.setTop (mkF m 79 #[.val (.long q0), .second, iv p1, .val .null, .val (.long dx), .second, .val (.long fi), .second, iv lo, iv hi, iv bt2, iv qqb, iv rgb, iv v79_7, iv bx, .val (.long nx), .second] [(.int v79_16)])) := by
                intro T17 L17 X17 N17 e17
                refine own_step (U' := T17.setTop (mkF m 91 #[.val (.long q0), .second, iv p1, .val .null, .val (.long dx), .second, .val (.long fi), .second, iv lo, iv hi, iv bt2, iv qqb, iv rgb, iv v79_16, iv bx, .val (.long nx), .second] [(.int (qqb ||| (v79_16 &&& (qqb - (1 : Int32)))))])) (fun t k => XS.istore X17.here hx rfl (hb hby d3_79) rfl (l' := #[.val (.long q0), .second, iv p1, .val .null, .val (.long dx), .second, .val (.long fi), .second, iv lo, iv hi, iv bt2, iv qqb, iv rgb, iv v79_16, iv bx, .val (.long nx), .second]) rfl (XS.iload X17.here hx rfl (hb hby d3_81) rfl (XS.iload X17.here hx rfl (hb hby d3_83) rfl (XS.iload X17.here hx rfl (hb hby d3_85) rfl (XS.iconst X17.here hx rfl (hb hby d3_87) (XS.isub X17.here hx rfl (hb hby d3_88) rfl (XS.iand X17.here hx rfl (hb hby d3_89) rfl (XS.ior X17.here hx rfl (hb hby d3_90) rfl k)))))))) ?_
                obtain ⟨bbb, hbbb⟩ : ∃ v : Int32, v = (qqb ||| (v79_16 &&& (qqb - (1 : Int32)))) := ⟨_, rfl⟩
                rw [← hbbb]
                refine own_step (U' := T17.setTop (mkF m 93 #[.val (.long q0), .second, iv p1, .val .null, .val (.long dx), .second, .val (.long fi), .second, iv lo, iv hi, iv bt2, iv qqb, iv rgb, iv v79_16, iv bbb, .val (.long nx), .second] [])) (fun t k => XS.istore X17.here hx rfl (hb hby d3_91) rfl (l' := #[.val (.long q0), .second, iv p1, .val .null, .val (.long dx), .second, .val (.long fi), .second, iv lo, iv hi, iv bt2, iv qqb, iv rgb, iv v79_16, iv bbb, .val (.long nx), .second]) rfl k) ?_
                have hfttb := own_hf hv79_16 hfi hlo hhi (own_sm2 hk hbt2u)
                have huttb := own_bu ttbq hbbb hfttb
                refine own_step (U' := T17.setTop (mkF m 173 #[.val (.long q0), .second, iv p1, .val .null, .val (.long dx), .second, .val (.long fi), .second, iv lo, iv hi, iv bt2, iv qqb, iv rgb, iv v79_16, iv bbb, .val (.long nx), .second] [(.int bbb)])) (fun t k => XS.iload X17.here hx rfl (hb hby d3_93) rfl (XS.iloadN X17.here hx rfl (hb hby d3_95) rfl (XS.icmpYes X17.here hx rfl (pc0 := 96) (pc' := 164) rfl (hb hby d3_96) rfl (tlt (own_lt2 hk hn k1 httb huttb)).1 (by decide) (by decide) (XS.iload X17.here hx rfl (hb hby d3_164) rfl (XS.iload X17.here hx rfl (hb hby d3_166) rfl (XS.icmpNo X17.here hx rfl (hb hby d3_168) rfl (flt (own_bge hk (Nat.le_of_lt httb) ttbq huttb)).1 (XS.iload X17.here hx rfl (hb hby d3_171) rfl k))))))) ?_
                exact own_out X17 (v := (some (.int bbb))) hlk (own_nv Bd.returns) (by rw [e17]; exact ⟨bbb, rfl, (own_J4 hk hn k1 k2 hB hbk hqk hex hc168_11 hbt2u httb ttb1 ttb2 huttb), N17, rfl⟩) (by decide) (by decide) (fun fs hr => retI X17 hx Bd.returns (hb hby d3_173) hr)
              by_cases hc69_18 : ((F9 bt2) &&& (1 : Int32)) = (1 : Int32)
              · refine own_step (U' := T14.setTop (mkF m 79 #[.val (.long q0), .second, iv p1, .val .null, .val (.long dx), .second, .val (.long fi), .second, iv lo, iv hi, iv bt2, iv qqb, iv rgb, iv v79_7, iv bx, .val (.long nx), .second] [(.int hi)])) (fun t k => XS.icmpNo X14.here hx rfl (hb hby d3_69) rfl (teq hc69_18).2 (XS.iload X14.here hx rfl (hb hby d3_72) rfl (XS.goto X14.here hx rfl (pc0 := 74) (pc' := 79) rfl (hb hby d3_74) (by decide) (by decide) k))) ?_
                have q_v79_16 : v79_16 = hi := by rw [hv79_16, if_pos hc69_18]
                rw [q_v79_16] at K79_17
                exact K79_17 _ _ X14 N14 eq14
              · refine own_step (U' := T14.setTop (mkF m 79 #[.val (.long q0), .second, iv p1, .val .null, .val (.long dx), .second, .val (.long fi), .second, iv lo, iv hi, iv bt2, iv qqb, iv rgb, iv v79_7, iv bx, .val (.long nx), .second] [(.int lo)])) (fun t k => XS.icmpYes X14.here hx rfl (pc0 := 69) (pc' := 77) rfl (hb hby d3_69) rfl (feq hc69_18).2 (by decide) (by decide) (XS.iload X14.here hx rfl (hb hby d3_77) rfl k)) ?_
                have q_v79_16 : v79_16 = lo := by rw [hv79_16, if_neg hc69_18]
                rw [q_v79_16] at K79_17
                exact K79_17 _ _ X14 N14 eq14
          · refine own_step (U' := T10.setTop (mkF m 173 #[.val (.long q0), .second, iv p1, .val .null, .val (.long dx), .second, .val (.long fi), .second, iv lo, iv hi, iv bt, iv qq, iv rg, iv v79_7, iv bx, .val (.long nx), .second] [(.int bx)])) (fun t k => XS.icmpNo X10.here hx rfl (hb hby d3_168) rfl (flt hc168_11).1 (XS.iload X10.here hx rfl (hb hby d3_171) rfl k)) ?_
            exact own_out X10 (v := (some (.int bx))) hlk (own_nv Bd.returns) (by rw [e10]; exact ⟨bx, rfl, (own_J2 hk hn k1 k2 hB hbk hqk hex hc168_11), N10, rfl⟩) (by decide) (by decide) (fun fs hr => retI X10 hx Bd.returns (hb hby d3_173) hr)
        refine own_step (U' := T8.setTop (mkF m 127 #[.val (.long q0), .second, iv p1, .val .null, .val (.long ((1 : Int64) + (1 : Int64))), .second, .val (.long fi), .second, iv lo, iv hi, iv bt, iv qq, iv rg, iv v79_7, iv bb, .unset, .unset] [(.long ((1 : Int64) + (1 : Int64))), (.long q0)])) (fun t k => XS.aloadN X8.here hx rfl (hb hby d3_99) rfl rfl (XS.ifnullYes X8.here hx rfl (pc0 := 100) (pc' := 118) rfl (hb hby d3_100) rfl (by decide) (by decide) (XS.lload X8.here hx rfl (hb hby d3_118) rfl (XS.lconst X8.here hx rfl (hb hby d3_120) (XS.ladd X8.here hx rfl (hb hby d3_121) rfl (XS.lstore X8.here hx rfl (hb hby d3_122) rfl (l' := #[.val (.long q0), .second, iv p1, .val .null, .val (.long ((1 : Int64) + (1 : Int64))), .second, .val (.long fi), .second, iv lo, iv hi, iv bt, iv qq, iv rg, iv v79_7, iv bb, .unset, .unset]) rfl (XS.lloadN X8.here hx rfl (hb hby d3_124) rfl (XS.lload X8.here hx rfl (hb hby d3_125) rfl k)))))))) ?_
        refine own_step (U' := T8.setTop (mkF m 128 #[.val (.long q0), .second, iv p1, .val .null, .val (.long ((1 : Int64) + (1 : Int64))), .second, .val (.long fi), .second, iv lo, iv hi, iv bt, iv qq, iv rg, iv v79_7, iv bb, .unset, .unset] [.null, (.long ((1 : Int64) + (1 : Int64))), (.long q0)])) (fun t k => XS.aloadN X8.here hx rfl (hb hby d3_127) rfl rfl k) ?_
        obtain ⟨_, _, ⟨T19, L19, k19, n19⟩, -, X19, ⟨Lc19, hQ19, l19, y19, z19⟩, st19⟩ := Jvm.LawKit.callS X8 hx (y := (⟨"com/example/which_bucket/whichbucket/WhichBucket", "draw", "(JJLcom/example/which_bucket/whichbucket/RandomSource;)J"⟩ : MethodName)) hown (mvT hZ (own_w hw 11 rfl)) (mvT hZ (own_w hw 12 rfl)) (mvT hZ (own_w hw 3 rfl)) (mvT hZ (own_w hw 13 rfl)) (by decide) (backOf (W := 0) (rm4 l Z a0 hw [] q0 ((1 : Int64) + (1 : Int64)) h0 n0 Z0) hZ (own_w hw 13 rfl) (own_w hw 3 rfl) (by decide) (by decide)) (g := (mkF m 128 #[.val (.long q0), .second, iv p1, .val .null, .val (.long ((1 : Int64) + (1 : Int64))), .second, .val (.long fi), .second, iv lo, iv hi, iv bt, iv qq, iv rg, iv v79_7, iv bb, .unset, .unset] [.null, (.long ((1 : Int64) + (1 : Int64))), (.long q0)])) rfl (by rw [hml]; rfl) (argsL := [(.long q0), (.long ((1 : Int64) + (1 : Int64))), .null]) (rest := []) (lenOf pd__JJLcom_example_which_bucket_whichbucket_RandomSource__J rfl) rfl (by show 2 * 0 + _ ≤ _; exact Nat.le_of_eq rfl) (hb hby d3_128) (fun _ _ => ⟨rfl, e8, (by decide : 0 + 0 ≤ _), (by decide : 0 + 0 ≤ _)⟩)
        dsimp only [Pt.U, Pt.locs, Pt.cells, Pt.slots] at X19 l19 y19 z19 st19 hQ19
        subst l19 y19 z19
        obtain ⟨rfl, N19q, eq19⟩ := hQ19
        have N19 := Fr.app N8 N19q
        refine own_step (U' := T19.setTop (mkF m 131 #[.val (.long q0), .second, iv p1, .val .null, .val (.long ((1 : Int64) + (1 : Int64))), .second, .val (.long fi), .second, iv lo, iv hi, iv bt, iv qq, iv rg, iv v79_7, iv bb, .unset, .unset] [(.long (F4 q0 ((1 : Int64) + (1 : Int64))))])) st19 ?_
        obtain ⟨nn, hnn⟩ : ∃ v : Int64, v = (F4 q0 ((1 : Int64) + (1 : Int64))) := ⟨_, rfl⟩
        rw [← hnn]
        refine own_step (U' := T19.setTop (mkF m 139 #[.val (.long q0), .second, iv p1, .val .null, .val (.long ((1 : Int64) + (1 : Int64))), .second, .val (.long fi), .second, iv lo, iv hi, iv bt, iv qq, iv rg, iv v79_7, iv bb, .val (.long nn), .second] [(.int ((nn.toInt32) &&& rg))])) (fun t k => XS.lstore X19.here hx rfl (hb hby d3_131) rfl (l' := #[.val (.long q0), .second, iv p1, .val .null, .val (.long ((1 : Int64) + (1 : Int64))), .second, .val (.long fi), .second, iv lo, iv hi, iv bt, iv qq, iv rg, iv v79_7, iv bb, .val (.long nn), .second]) rfl (XS.lload X19.here hx rfl (hb hby d3_133) rfl (XS.l2i X19.here hx rfl (hb hby d3_135) rfl (XS.iload X19.here hx rfl (hb hby d3_136) rfl (XS.iand X19.here hx rfl (hb hby d3_138) rfl k))))) ?_
        obtain ⟨b1, hb1⟩ : ∃ v : Int32, v = ((nn.toInt32) &&& rg) := ⟨_, rfl⟩
        rw [← hb1]
        refine own_step (U' := T19.setTop (mkF m 144 #[.val (.long q0), .second, iv p1, .val .null, .val (.long ((1 : Int64) + (1 : Int64))), .second, .val (.long fi), .second, iv lo, iv hi, iv bt, iv qq, iv rg, iv v79_7, iv b1, .val (.long nn), .second] [(.int p1), (.int b1)])) (fun t k => XS.istore X19.here hx rfl (hb hby d3_139) rfl (l' := #[.val (.long q0), .second, iv p1, .val .null, .val (.long ((1 : Int64) + (1 : Int64))), .second, .val (.long fi), .second, iv lo, iv hi, iv bt, iv qq, iv rg, iv v79_7, iv b1, .val (.long nn), .second]) rfl (XS.iload X19.here hx rfl (hb hby d3_141) rfl (XS.iloadN X19.here hx rfl (hb hby d3_143) rfl k))) ?_
        by_cases hc144_20 : b1 < p1
        · refine own_step (U' := T19.setTop (mkF m 164 #[.val (.long q0), .second, iv p1, .val .null, .val (.long ((1 : Int64) + (1 : Int64))), .second, .val (.long fi), .second, iv lo, iv hi, iv bt, iv qq, iv rg, iv v79_7, iv b1, .val (.long nn), .second] [])) (fun t k => XS.icmpNo X19.here hx rfl (hb hby d3_144) rfl (tlt hc144_20).2.1 (XS.goto X19.here hx rfl (pc0 := 147) (pc' := 164) rfl (hb hby d3_147) (by decide) (by decide) k)) ?_
          exact KX _ _ X19 N19 eq19 _ _ _ (own_ex_lo (i := 0) hk hn hI0 hc96_9 hrk hnn hb1 hc144_20)
        · refine own_step (U' := T19.setTop (mkF m 159 #[.val (.long q0), .second, iv p1, .val .null, .val (.long ((1 : Int64) + (1 : Int64))), .second, .val (.long fi), .second, iv lo, iv hi, iv bt, iv qq, iv rg, iv v79_7, iv b1, .val (.long nn), .second] [(.int ((((nn.toUInt64 >>> ((32 : Int32) &&& 0x3f).toInt64.toUInt64).toInt64).toInt32) &&& rg))])) (fun t k => XS.icmpYes X19.here hx rfl (pc0 := 144) (pc' := 150) rfl (hb hby d3_144) rfl (flt hc144_20).2.1 (by decide) (by decide) (XS.lload X19.here hx rfl (hb hby d3_150) rfl (XS.bipush X19.here hx rfl (hb hby d3_152) (XS.lushr X19.here hx rfl (hb hby d3_154) rfl (XS.l2i X19.here hx rfl (hb hby d3_155) rfl (XS.iload X19.here hx rfl (hb hby d3_156) rfl (XS.iand X19.here hx rfl (hb hby d3_158) rfl k))))))) ?_
          obtain ⟨b2, hb2⟩ : ∃ v : Int32, v = ((((nn.toUInt64 >>> ((32 : Int32) &&& 0x3f).toInt64.toUInt64).toInt64).toInt32) &&& rg) := ⟨_, rfl⟩
          rw [← hb2]
          refine own_step (U' := T19.setTop (mkF m 93 #[.val (.long q0), .second, iv p1, .val .null, .val (.long ((1 : Int64) + (1 : Int64))), .second, .val (.long fi), .second, iv lo, iv hi, iv bt, iv qq, iv rg, iv v79_7, iv b2, .val (.long nn), .second] [])) (fun t k => XS.istore X19.here hx rfl (hb hby d3_159) rfl (l' := #[.val (.long q0), .second, iv p1, .val .null, .val (.long ((1 : Int64) + (1 : Int64))), .second, .val (.long fi), .second, iv lo, iv hi, iv bt, iv qq, iv rg, iv v79_7, iv b2, .val (.long nn), .second]) rfl (XS.goto X19.here hx rfl (pc0 := 161) (pc' := 93) rfl (hb hby d3_161) (by decide) (by decide) k)) ?_
          exact own_loop hx hZ hw hby hml hown Z0 hk hn hrk hIz KX (I - 2) 1 _ _ X19 N19 eq19 _ _ (by omega) (own_inv_next (i := 0) hk hn hI0 hc96_9 hrk hnn hb1 hb2 hc144_20)
    by_cases hc69_21 : ((F9 bt) &&& (1 : Int32)) = (1 : Int32)
    · refine own_step (U' := T5.setTop (mkF m 79 #[.val (.long q0), .second, iv p1, .val .null, .val (.long (1 : Int64)), .second, .val (.long fi), .second, iv lo, iv hi, iv bt, iv qq, iv rg, .unset, .unset, .unset, .unset] [(.int hi)])) (fun t k => XS.icmpNo X5.here hx rfl (hb hby d3_69) rfl (teq hc69_21).2 (XS.iload X5.here hx rfl (hb hby d3_72) rfl (XS.goto X5.here hx rfl (pc0 := 74) (pc' := 79) rfl (hb hby d3_74) (by decide) (by decide) k))) ?_
      have q_v79_7 : v79_7 = hi := by rw [hv79_7, if_pos hc69_21]
      rw [q_v79_7] at K79_8
      exact K79_8 _ _ X5 N5 eq5
    · refine own_step (U' := T5.setTop (mkF m 79 #[.val (.long q0), .second, iv p1, .val .null, .val (.long (1 : Int64)), .second, .val (.long fi), .second, iv lo, iv hi, iv bt, iv qq, iv rg, .unset, .unset, .unset, .unset] [(.int lo)])) (fun t k => XS.icmpYes X5.here hx rfl (pc0 := 69) (pc' := 77) rfl (hb hby d3_69) rfl (feq hc69_21).2 (by decide) (by decide) (XS.iload X5.here hx rfl (hb hby d3_77) rfl k)) ?_
      have q_v79_7 : v79_7 = lo := by rw [hv79_7, if_neg hc69_21]
      rw [q_v79_7] at K79_8
      exact K79_8 _ _ X5 N5 eq5
theorem d1_0 : decode prog_4_method_2_code 0 = .ok (.iload_n 2, 1) := by decide +kernel
theorem d1_1 : decode prog_4_method_2_code 1 = .ok (.invokestatic 7, 3) := by decide +kernel
theorem d1_4 : decode prog_4_method_2_code 4 = .ok (.iconst 0, 1) := by decide +kernel
theorem d1_5 : decode prog_4_method_2_code 5 = .ok (.istore_n 3, 1) := by decide +kernel
theorem d1_6 : decode prog_4_method_2_code 6 = .ok (.iload_n 2, 1) := by decide +kernel
theorem d1_7 : decode prog_4_method_2_code 7 = .ok (.iconst 1, 1) := by decide +kernel
theorem d1_8 : decode prog_4_method_2_code 8 = .ok (.if_icmp .le 10, 3) := by decide +kernel
theorem d1_11 : decode prog_4_method_2_code 11 = .ok (.lload_n 0, 1) := by decide +kernel
theorem d1_12 : decode prog_4_method_2_code 12 = .ok (.iload_n 2, 1) := by decide +kernel
theorem d1_13 : decode prog_4_method_2_code 13 = .ok (.aconst_null, 1) := by decide +kernel
theorem d1_14 : decode prog_4_method_2_code 14 = .ok (.invokestatic 13, 3) := by decide +kernel
theorem d1_17 : decode prog_4_method_2_code 17 = .ok (.istore_n 3, 1) := by decide +kernel
theorem d1_18 : decode prog_4_method_2_code 18 = .ok (.iload_n 3, 1) := by decide +kernel
theorem d1_19 : decode prog_4_method_2_code 19 = .ok (.ireturn, 1) := by decide +kernel
theorem pn_1 : plainName "com/example/which_bucket/whichbucket/WhichBucket" = true := by first | (simp [plainName, overriddenIn]; done) | decide +kernel
theorem ef_1 (m : MethodId) (q0 : Int64) (p1 : Int32) : entryFrame m #[(.long q0), (.int p1)] 4 = mkF m 0 #[.val (.long q0), .second, iv p1, .unset] [] := by first | (simp [entryFrame, mkF, argsToLocals, Value.category]; done) | rfl
def Q1 (Z : State) (q0 : Int64) (p1 : Int32) (h0 : Heap) (n0 : Nat) (v : Option Value) (h : Heap) (L : List Loc) : Prop := ∃ r : Int32, v = some (.int r) ∧ own_JB q0 p1 r ∧ Fr n0 L ∧ h = h0
set_option maxRecDepth 65536 in
set_option maxHeartbeats 40000000 in
theorem rm1 (l : Launch) (Z : State) (a0 : Array Value) (hw : ∀ d ∈ tables_1, d.before a0 Z = true) (ws : List Jvm.Cond) (q0 : Int64) (p1 : Int32) (h0 : Heap) (n0 : Nat) (Z0 : n0 ≤ h0.size) (hn1 : 1 ≤ p1.toInt) :
    MetFree l (⟨"com/example/which_bucket/whichbucket/WhichBucket", "jumpBackHash", "(JI)I"⟩ : MethodName) (head1 (Jvm.Cond.code (⟨"com/example/which_bucket/whichbucket/WhichBucket", "jumpBackHash", "(JI)I"⟩ : MethodName) prog_4_method_2_code 4 (some .int) :: ws) ({ frames := 4, cells := 0, slots := 0, locals := 74 } : Room)) (fun a U => a = #[(.long q0), (.int p1)] ∧ Z.Warmed39 U.vm ∧ U.heap = h0) (fun _ _ _ _ _ => True) (fun _ U o U' => ∃ v L, o = .returned v ∧ Q1 Z q0 p1 h0 n0 v U'.heap L ∧ FrameEnd U o U' L ({ frames := 4, cells := 0, slots := 0, locals := 74 } : Room).cells ({ frames := 4, cells := 0, slots := 0, locals := 74 } : Room).slots) := by
  refine MetFree.of_bodySF (plainFor_of_name pn_1) hisR ?_
  intro p e s m args below meth c s₁ Bd hml0 hP hK
  obtain ⟨rfl, hZ, hh⟩ := hP
  have hx := Bd.exec
  have hby := Bd.bytes
  have hml : c.maxLocals = 4 := hml0
  have hown : s.vm.findClass "com/example/which_bucket/whichbucket/WhichBucket" = some m.cls := findClass_of_methodNamed Bd.named
  have hnm := (name_of_methodNamed Bd.named Bd.method).1
  have hlk : meth.locks = false := Bd.notSynchronized
  have X0 : Stand p l e ({ frames := 4, cells := 0, slots := 0, locals := 74 } : Room) s m #[(.long q0), (.int p1)] below meth c s₁ [] 0 0 := Stand.of_body Bd
  have e0 : s₁.heap = h0 := by rw [← hh, Bd.state]; rfl
  have N0 := Fr.nil n0
  have KK0 := Keep.refl h0 []
  show own_Go p.tables e below s 0 0 (Q1 Z q0 p1 h0 n0) (s₁.setTop (entryFrame m #[(.long q0), (.int p1)] 4))
  rw [ef_1]
  refine own_step (U' := s₁.setTop (mkF m 1 #[.val (.long q0), .second, iv p1, .unset] [(.int p1)])) (fun t k => XS.iloadN X0.here hx rfl (hb hby d1_0) rfl k) ?_
  obtain ⟨_, _, ⟨T1, L1, k1, n1⟩, -, X1, ⟨Lc1, hQ1, l1, y1, z1⟩, st1⟩ := Jvm.LawKit.callS X0 hx (y := (⟨"com/example/which_bucket/whichbucket/WhichBucket", "requireBucketCount", "(I)V"⟩ : MethodName)) hown (mvT hZ (own_w hw 5 rfl)) (mvT hZ (own_w hw 6 rfl)) (mvT hZ (own_w hw 3 rfl)) (mvT hZ (own_w hw 7 rfl)) (by decide) (backOf (W := 0) (rm2 l Z a0 hw [] p1 h0 n0 Z0 (own_ge1 hn1)) hZ (own_w hw 7 rfl) (own_w hw 3 rfl) (by decide) (by decide)) (g := (mkF m 1 #[.val (.long q0), .second, iv p1, .unset] [(.int p1)])) rfl (by rw [hml]; rfl) (argsL := [(.int p1)]) (rest := []) (lenOf pd__I_V rfl) rfl (by show 2 * 0 + _ ≤ _; exact Nat.le_of_eq rfl) (hb hby d1_1) (fun _ _ => ⟨rfl, e0, (by decide : 0 + 0 ≤ _), (by decide : 0 + 0 ≤ _)⟩)
  dsimp only [Pt.U, Pt.locs, Pt.cells, Pt.slots] at X1 l1 y1 z1 st1 hQ1
  subst l1 y1 z1
  obtain ⟨rfl, N1q, eq1⟩ := hQ1
  have N1 := Fr.app N0 N1q
  refine own_step (U' := T1.setTop (mkF m 4 #[.val (.long q0), .second, iv p1, .unset] [])) st1 ?_
  refine own_step (U' := T1.setTop (mkF m 8 #[.val (.long q0), .second, iv p1, iv (0 : Int32)] [(.int (1 : Int32)), (.int p1)])) (fun t k => XS.iconst X1.here hx rfl (hb hby d1_4) (XS.istoreN X1.here hx rfl (hb hby d1_5) rfl (l' := #[.val (.long q0), .second, iv p1, iv (0 : Int32)]) rfl (XS.iloadN X1.here hx rfl (hb hby d1_6) rfl (XS.iconst X1.here hx rfl (hb hby d1_7) k)))) ?_
  by_cases hc8_2 : (1 : Int32) < p1
  · refine own_step (U' := T1.setTop (mkF m 14 #[.val (.long q0), .second, iv p1, iv (0 : Int32)] [.null, (.int p1), (.long q0)])) (fun t k => XS.icmpNo X1.here hx rfl (hb hby d1_8) rfl (tlt hc8_2).2.2.2 (XS.lloadN X1.here hx rfl (hb hby d1_11) rfl (XS.iloadN X1.here hx rfl (hb hby d1_12) rfl (XS.aconstNull X1.here hx rfl (hb hby d1_13) k)))) ?_
    obtain ⟨_, _, ⟨T3, L3, k3, n3⟩, -, X3, ⟨Lc3, hQ3, l3, y3, z3⟩, st3⟩ := Jvm.LawKit.callS X1 hx (y := (⟨"com/example/which_bucket/whichbucket/WhichBucket", "jumpBackHashOfSeveral", "(JILcom/example/which_bucket/whichbucket/RandomSource;)I"⟩ : MethodName)) hown (mvT hZ (own_w hw 8 rfl)) (mvT hZ (own_w hw 9 rfl)) (mvT hZ (own_w hw 3 rfl)) (mvT hZ (own_w hw 10 rfl)) (by decide) (backOf (W := 0) (rm3 l Z a0 hw [] q0 p1 h0 n0 Z0 (own_n2 hc8_2)) hZ (own_w hw 10 rfl) (own_w hw 3 rfl) (by decide) (by decide)) (g := (mkF m 14 #[.val (.long q0), .second, iv p1, iv (0 : Int32)] [.null, (.int p1), (.long q0)])) rfl (by rw [hml]; rfl) (argsL := [(.long q0), (.int p1), .null]) (rest := []) (lenOf pd__JILcom_example_which_bucket_whichbucket_RandomSource__I rfl) rfl (by show 2 * 0 + _ ≤ _; exact Nat.le_of_eq rfl) (hb hby d1_14) (fun _ _ => ⟨rfl, eq1, (by decide : 0 + 0 ≤ _), (by decide : 0 + 0 ≤ _)⟩)
    dsimp only [Pt.U, Pt.locs, Pt.cells, Pt.slots] at X3 l3 y3 z3 st3 hQ3
    subst l3 y3 z3
    obtain ⟨r3, rfl, J3, N3q, eq3⟩ := hQ3
    have N3 := Fr.app N1 N3q
    refine own_step (U' := T3.setTop (mkF m 17 #[.val (.long q0), .second, iv p1, iv (0 : Int32)] [(.int r3)])) st3 ?_
    refine own_step (U' := T3.setTop (mkF m 19 #[.val (.long q0), .second, iv p1, iv r3] [(.int r3)])) (fun t k => XS.istoreN X3.here hx rfl (hb hby d1_17) rfl (l' := #[.val (.long q0), .second, iv p1, iv r3]) rfl (XS.iloadN X3.here hx rfl (hb hby d1_18) rfl k)) ?_
    exact own_out X3 (v := (some (.int r3))) hlk (own_nv Bd.returns) (by rw [eq3]; exact ⟨_, rfl, own_JB2 hc8_2 J3, N3, rfl⟩) (by decide) (by decide) (fun fs hr => retI X3 hx Bd.returns (hb hby d1_19) hr)
  · refine own_step (U' := T1.setTop (mkF m 19 #[.val (.long q0), .second, iv p1, iv (0 : Int32)] [(.int (0 : Int32))])) (fun t k => XS.icmpYes X1.here hx rfl (pc0 := 8) (pc' := 18) rfl (hb hby d1_8) rfl (flt hc8_2).2.2.2 (by decide) (by decide) (XS.iloadN X1.here hx rfl (hb hby d1_18) rfl k)) ?_
    exact own_out X1 (v := (some (.int (0 : Int32)))) hlk (own_nv Bd.returns) (by rw [eq1]; exact ⟨_, rfl, own_JB0 hn1 hc8_2, N1, rfl⟩) (by decide) (by decide) (fun fs hr => retI X1 hx Bd.returns (hb hby d1_19) hr)

theorem own_JBb {q0 : Int64} {n r : Int32} (J : own_JB q0 n r) : 0 ≤ r.toInt ∧ r.toInt < n.toInt := by
  rcases J with ⟨h1, rfl⟩ | ⟨h1, h2, h3⟩
  · have e : (0 : Int32).toInt = 0 := by decide
    omega
  · obtain ⟨n1, n2⟩ := own_un h1
    have hl := own_J_lt h3
    have e1 := own_u_toInt r h2; have e2 := own_u_toInt n n2
    omega
theorem own_JBvs {q0 : Int64} {n m r r' : Int32} (J : own_JB q0 n r) (J' : own_JB q0 m r') (h : n.toInt ≤ m.toInt) : n.toInt ≤ r'.toInt ∨ r' = r := by
  have b := own_JBb J; have b' := own_JBb J'
  rcases J with ⟨h1, h2⟩ | ⟨h1, h2, h3⟩
  · by_cases q : r'.toInt = 0
    · right; rw [h2]; exact Int32.toInt_inj.mp q
    · left; omega
  · rcases J' with ⟨g1, -⟩ | ⟨g1, g2, g3⟩
    · omega
    · obtain ⟨n1, n2⟩ := own_un h1
      obtain ⟨m1, m2⟩ := own_un g1
      have e1 := own_u_toInt n n2; have e2 := own_u_toInt m m2; have e3 := own_u_toInt r' g2
      rcases own_J_vs n1 h3 g3 (by omega) with q | q
      · left; omega
      · right; exact own_u_inj q
theorem own_ee {x y : Int32} (h : y = (((x &&& (2147483647 : Int32)) % (30 : Int32)) + (1 : Int32))) : 1 ≤ y.toInt ∧ y.toInt ≤ 30 := by
  have m := c_mask x 2147483647 31 (by decide) (by decide)
  have q := (c_irem (x &&& 2147483647) 30 30 (by decide)).1 (by omega)
  have e1 : (1 : Int32).toInt = 1 := by decide
  have a := c_iadd ((x &&& (2147483647 : Int32)) % (30 : Int32)) 1; have r := rng32 (((x &&& (2147483647 : Int32)) % (30 : Int32)) + 1)
  rw [h]; omega
theorem own_pw1 : own_u ((1 : Int32) <<< ((1 : Int32) &&& 31)) = 2 ^ 1 := by decide
theorem own_pw2 : own_u ((1 : Int32) <<< ((2 : Int32) &&& 31)) = 2 ^ 2 := by decide
theorem own_pw3 : own_u ((1 : Int32) <<< ((3 : Int32) &&& 31)) = 2 ^ 3 := by decide
theorem own_pw4 : own_u ((1 : Int32) <<< ((4 : Int32) &&& 31)) = 2 ^ 4 := by decide
theorem own_pw5 : own_u ((1 : Int32) <<< ((5 : Int32) &&& 31)) = 2 ^ 5 := by decide
theorem own_pw6 : own_u ((1 : Int32) <<< ((6 : Int32) &&& 31)) = 2 ^ 6 := by decide
theorem own_pw7 : own_u ((1 : Int32) <<< ((7 : Int32) &&& 31)) = 2 ^ 7 := by decide
theorem own_pw8 : own_u ((1 : Int32) <<< ((8 : Int32) &&& 31)) = 2 ^ 8 := by decide
theorem own_pw9 : own_u ((1 : Int32) <<< ((9 : Int32) &&& 31)) = 2 ^ 9 := by decide
theorem own_pw10 : own_u ((1 : Int32) <<< ((10 : Int32) &&& 31)) = 2 ^ 10 := by decide
theorem own_pw11 : own_u ((1 : Int32) <<< ((11 : Int32) &&& 31)) = 2 ^ 11 := by decide
theorem own_pw12 : own_u ((1 : Int32) <<< ((12 : Int32) &&& 31)) = 2 ^ 12 := by decide
theorem own_pw13 : own_u ((1 : Int32) <<< ((13 : Int32) &&& 31)) = 2 ^ 13 := by decide
theorem own_pw14 : own_u ((1 : Int32) <<< ((14 : Int32) &&& 31)) = 2 ^ 14 := by decide
theorem own_pw15 : own_u ((1 : Int32) <<< ((15 : Int32) &&& 31)) = 2 ^ 15 := by decide
theorem own_pw16 : own_u ((1 : Int32) <<< ((16 : Int32) &&& 31)) = 2 ^ 16 := by decide
theorem own_pw17 : own_u ((1 : Int32) <<< ((17 : Int32) &&& 31)) = 2 ^ 17 := by decide
theorem own_pw18 : own_u ((1 : Int32) <<< ((18 : Int32) &&& 31)) = 2 ^ 18 := by decide
theorem own_pw19 : own_u ((1 : Int32) <<< ((19 : Int32) &&& 31)) = 2 ^ 19 := by decide
theorem own_pw20 : own_u ((1 : Int32) <<< ((20 : Int32) &&& 31)) = 2 ^ 20 := by decide
theorem own_pw21 : own_u ((1 : Int32) <<< ((21 : Int32) &&& 31)) = 2 ^ 21 := by decide
theorem own_pw22 : own_u ((1 : Int32) <<< ((22 : Int32) &&& 31)) = 2 ^ 22 := by decide
theorem own_pw23 : own_u ((1 : Int32) <<< ((23 : Int32) &&& 31)) = 2 ^ 23 := by decide
theorem own_pw24 : own_u ((1 : Int32) <<< ((24 : Int32) &&& 31)) = 2 ^ 24 := by decide
theorem own_pw25 : own_u ((1 : Int32) <<< ((25 : Int32) &&& 31)) = 2 ^ 25 := by decide
theorem own_pw26 : own_u ((1 : Int32) <<< ((26 : Int32) &&& 31)) = 2 ^ 26 := by decide
theorem own_pw27 : own_u ((1 : Int32) <<< ((27 : Int32) &&& 31)) = 2 ^ 27 := by decide
theorem own_pw28 : own_u ((1 : Int32) <<< ((28 : Int32) &&& 31)) = 2 ^ 28 := by decide
theorem own_pw29 : own_u ((1 : Int32) <<< ((29 : Int32) &&& 31)) = 2 ^ 29 := by decide
theorem own_pw30 : own_u ((1 : Int32) <<< ((30 : Int32) &&& 31)) = 2 ^ 30 := by decide
set_option maxHeartbeats 4000000 in
theorem own_pe {x y p : Int32} (h : y = (((x &&& (2147483647 : Int32)) % (30 : Int32)) + (1 : Int32))) (hp : p = ((1 : Int32) <<< (y &&& 31))) : ∃ e : Nat, 1 ≤ e ∧ e ≤ 30 ∧ own_u p = 2 ^ e := by
  have b := own_ee h
  clear h
  have hc : y.toInt = 1 ∨ y.toInt = 2 ∨ y.toInt = 3 ∨ y.toInt = 4 ∨ y.toInt = 5 ∨ y.toInt = 6 ∨ y.toInt = 7 ∨ y.toInt = 8 ∨ y.toInt = 9 ∨ y.toInt = 10 ∨ y.toInt = 11 ∨ y.toInt = 12 ∨ y.toInt = 13 ∨ y.toInt = 14 ∨ y.toInt = 15 ∨ y.toInt = 16 ∨ y.toInt = 17 ∨ y.toInt = 18 ∨ y.toInt = 19 ∨ y.toInt = 20 ∨ y.toInt = 21 ∨ y.toInt = 22 ∨ y.toInt = 23 ∨ y.toInt = 24 ∨ y.toInt = 25 ∨ y.toInt = 26 ∨ y.toInt = 27 ∨ y.toInt = 28 ∨ y.toInt = 29 ∨ y.toInt = 30 := by omega
  rcases hc with c | c | c | c | c | c | c | c | c | c | c | c | c | c | c | c | c | c | c | c | c | c | c | c | c | c | c | c | c | c
  · exact ⟨1, by decide, by decide, by rw [hp, show y = (1 : Int32) from Int32.toInt_inj.mp c]; exact own_pw1⟩
  · exact ⟨2, by decide, by decide, by rw [hp, show y = (2 : Int32) from Int32.toInt_inj.mp c]; exact own_pw2⟩
  · exact ⟨3, by decide, by decide, by rw [hp, show y = (3 : Int32) from Int32.toInt_inj.mp c]; exact own_pw3⟩
  · exact ⟨4, by decide, by decide, by rw [hp, show y = (4 : Int32) from Int32.toInt_inj.mp c]; exact own_pw4⟩
  · exact ⟨5, by decide, by decide, by rw [hp, show y = (5 : Int32) from Int32.toInt_inj.mp c]; exact own_pw5⟩
  · exact ⟨6, by decide, by decide, by rw [hp, show y = (6 : Int32) from Int32.toInt_inj.mp c]; exact own_pw6⟩
  · exact ⟨7, by decide, by decide, by rw [hp, show y = (7 : Int32) from Int32.toInt_inj.mp c]; exact own_pw7⟩
  · exact ⟨8, by decide, by decide, by rw [hp, show y = (8 : Int32) from Int32.toInt_inj.mp c]; exact own_pw8⟩
  · exact ⟨9, by decide, by decide, by rw [hp, show y = (9 : Int32) from Int32.toInt_inj.mp c]; exact own_pw9⟩
  · exact ⟨10, by decide, by decide, by rw [hp, show y = (10 : Int32) from Int32.toInt_inj.mp c]; exact own_pw10⟩
  · exact ⟨11, by decide, by decide, by rw [hp, show y = (11 : Int32) from Int32.toInt_inj.mp c]; exact own_pw11⟩
  · exact ⟨12, by decide, by decide, by rw [hp, show y = (12 : Int32) from Int32.toInt_inj.mp c]; exact own_pw12⟩
  · exact ⟨13, by decide, by decide, by rw [hp, show y = (13 : Int32) from Int32.toInt_inj.mp c]; exact own_pw13⟩
  · exact ⟨14, by decide, by decide, by rw [hp, show y = (14 : Int32) from Int32.toInt_inj.mp c]; exact own_pw14⟩
  · exact ⟨15, by decide, by decide, by rw [hp, show y = (15 : Int32) from Int32.toInt_inj.mp c]; exact own_pw15⟩
  · exact ⟨16, by decide, by decide, by rw [hp, show y = (16 : Int32) from Int32.toInt_inj.mp c]; exact own_pw16⟩
  · exact ⟨17, by decide, by decide, by rw [hp, show y = (17 : Int32) from Int32.toInt_inj.mp c]; exact own_pw17⟩
  · exact ⟨18, by decide, by decide, by rw [hp, show y = (18 : Int32) from Int32.toInt_inj.mp c]; exact own_pw18⟩
  · exact ⟨19, by decide, by decide, by rw [hp, show y = (19 : Int32) from Int32.toInt_inj.mp c]; exact own_pw19⟩
  · exact ⟨20, by decide, by decide, by rw [hp, show y = (20 : Int32) from Int32.toInt_inj.mp c]; exact own_pw20⟩
  · exact ⟨21, by decide, by decide, by rw [hp, show y = (21 : Int32) from Int32.toInt_inj.mp c]; exact own_pw21⟩
  · exact ⟨22, by decide, by decide, by rw [hp, show y = (22 : Int32) from Int32.toInt_inj.mp c]; exact own_pw22⟩
  · exact ⟨23, by decide, by decide, by rw [hp, show y = (23 : Int32) from Int32.toInt_inj.mp c]; exact own_pw23⟩
  · exact ⟨24, by decide, by decide, by rw [hp, show y = (24 : Int32) from Int32.toInt_inj.mp c]; exact own_pw24⟩
  · exact ⟨25, by decide, by decide, by rw [hp, show y = (25 : Int32) from Int32.toInt_inj.mp c]; exact own_pw25⟩
  · exact ⟨26, by decide, by decide, by rw [hp, show y = (26 : Int32) from Int32.toInt_inj.mp c]; exact own_pw26⟩
  · exact ⟨27, by decide, by decide, by rw [hp, show y = (27 : Int32) from Int32.toInt_inj.mp c]; exact own_pw27⟩
  · exact ⟨28, by decide, by decide, by rw [hp, show y = (28 : Int32) from Int32.toInt_inj.mp c]; exact own_pw28⟩
  · exact ⟨29, by decide, by decide, by rw [hp, show y = (29 : Int32) from Int32.toInt_inj.mp c]; exact own_pw29⟩
  · exact ⟨30, by decide, by decide, by rw [hp, show y = (30 : Int32) from Int32.toInt_inj.mp c]; exact own_pw30⟩
theorem own_pt {y p : Int32} {e : Nat} (h : 1 ≤ e ∧ e ≤ 30 ∧ own_u p = 2 ^ e) : 2 ≤ p.toInt := by
  obtain ⟨h1, h2, h3⟩ := h
  obtain ⟨p1, p2, p3⟩ := own_pow_lt h2
  have : 2 ^ 1 ≤ 2 ^ e := Nat.pow_le_pow_right (by decide) h1
  have e := own_u_toInt p (by omega)
  omega
theorem own_pos1 {y p : Int32} {e : Nat} (h : 1 ≤ e ∧ e ≤ 30 ∧ own_u p = 2 ^ e) : 1 ≤ p.toInt := by have := own_pt (y := y) h; omega
theorem own_JBp {q0 : Int64} {p r : Int32} {e : Nat} (h : 1 ≤ e ∧ e ≤ 30 ∧ own_u p = 2 ^ e) (J : own_JB q0 p r) : own_u r < 2147483648 ∧ own_u r = own_L (own_half q0) (own_h q0 % 2 ^ e) := by
  have h2 := own_pt (y := p) h
  rcases J with ⟨g1, -⟩ | ⟨g1, g2, g3⟩
  · omega
  · rw [h.2.2] at g3
    exact ⟨g2, own_J_pow h.1 g3⟩
theorem own_bs {q0 fi : Int64} {p bs : Int32} {e : Nat} (h : 1 ≤ e ∧ e ≤ 30 ∧ own_u p = 2 ^ e) (hfi : fi = (F5 q0 (1 : Int64))) (hbs : bs = (((fi.toInt32) ^^^ (((fi.toUInt64 >>> ((32 : Int32) &&& 0x3f).toInt64.toUInt64).toInt64).toInt32)) &&& (p - (1 : Int32)))) : own_u bs = own_h q0 % 2 ^ e := by
  have hm : own_u (p - 1) = 2 ^ e - 1 := by rw [own_u_sub1 p (by rw [h.2.2]; exact Nat.pow_pos (by decide)), h.2.2]
  rw [hbs, own_u_mask hm, hfi]
  rfl
theorem own_rp0 {q0 : Int64} {p r bs : Int32} {e : Nat} (h : 1 ≤ e ∧ e ≤ 30 ∧ own_u p = 2 ^ e) (J : own_JB q0 p r) (hb : own_u bs = own_h q0 % 2 ^ e) (h0 : bs = (0 : Int32)) : r = (0 : Int32) := by
  obtain ⟨j1, j2⟩ := own_JBp h J
  apply own_u_inj
  rw [j2, ← hb, h0]; rfl
theorem own_rp1 {q0 : Int64} {p r bs : Int32} {e : Nat} (h : 1 ≤ e ∧ e ≤ 30 ∧ own_u p = 2 ^ e) (J : own_JB q0 p r) (hb : own_u bs = own_h q0 % 2 ^ e) (h0 : ¬ bs = (0 : Int32)) : ∃ t, 2 ^ t ≤ own_u r ∧ own_u r < 2 ^ (t + 1) ∧ 2 ^ t ≤ own_u bs ∧ own_u bs < 2 ^ (t + 1) ∧ t ≤ 30 := by
  obtain ⟨j1, j2⟩ := own_JBp h J
  rw [← hb] at j2
  have hne : own_u bs ≠ 0 := fun z => h0 (own_u_inj z)
  obtain ⟨l1, l2⟩ := own_log hne
  rw [own_LB l1 l2] at j2
  have hm : own_half q0 (own_u bs) % 2 ^ (own_u bs).log2 < 2 ^ (own_u bs).log2 := Nat.mod_lt _ (Nat.pow_pos (by decide))
  have e1 := Nat.pow_succ 2 (own_u bs).log2
  have hlt : own_u bs < 2 ^ e := by rw [hb]; exact Nat.mod_lt _ (Nat.pow_pos (by decide))
  have ht : (own_u bs).log2 < e := (Nat.pow_lt_pow_iff_right (a := 2) (by decide)).mp (Nat.lt_of_le_of_lt l1 hlt)
  exact ⟨_, by omega, by omega, l1, l2, by omega⟩
theorem own_rpos {q0 : Int64} {p r bs : Int32} {e : Nat} (h : 1 ≤ e ∧ e ≤ 30 ∧ own_u p = 2 ^ e) (J : own_JB q0 p r) (hb : own_u bs = own_h q0 % 2 ^ e) (h0 : ¬ bs = (0 : Int32)) : (0 : Int32) < r := by
  obtain ⟨t, t1, t2, t3, t4, t5⟩ := own_rp1 h J hb h0
  obtain ⟨j1, -⟩ := own_JBp h J
  have : 1 ≤ 2 ^ t := Nat.pow_pos (by decide)
  rw [own_u_ltI (by rw [own_u0]; omega) j1, own_u0]; omega
theorem own_rtop {q0 : Int64} {p r bs : Int32} {e : Nat} (h : 1 ≤ e ∧ e ≤ 30 ∧ own_u p = 2 ^ e) (J : own_JB q0 p r) (hb : own_u bs = own_h q0 % 2 ^ e) (h0 : ¬ bs = (0 : Int32)) : (r ^^^ bs) < (r &&& bs) := by
  obtain ⟨t, t1, t2, t3, t4, t5⟩ := own_rp1 h J hb h0
  have h1 := own_top t1 t2 t3 t4
  obtain ⟨p1, p2, p3⟩ := own_pow_lt t5
  have h2 : own_u r &&& own_u bs ≤ own_u r := Nat.and_le_left
  rw [own_u_ltI (by rw [own_u_xor]; omega) (by rw [own_u_and]; omega), own_u_xor, own_u_and]
  exact h1
theorem own_inc {a : Int32} (h1 : 0 ≤ a.toInt) (h2 : a.toInt ≤ 2147483645) : (a + (1 : Int32)).toInt = a.toInt + 1 := by
  have e1 : (1 : Int32).toInt = 1 := by decide
  have s := c_iadd a 1; have r := rng32 (a + 1)
  omega
theorem own_A (x : Int32) : 0 ≤ ((x &&& (2147483647 : Int32)) % (2147483646 : Int32)).toInt ∧ ((x &&& (2147483647 : Int32)) % (2147483646 : Int32)).toInt ≤ 2147483645 := by
  have m := c_mask x 2147483647 31 (by decide) (by decide)
  have m0 : 0 ≤ (x &&& (2147483647 : Int32)).toInt := by omega
  have q := (c_irem (x &&& 2147483647) 2147483646 2147483646 (by decide)).1 m0
  have q1 := Int.emod_nonneg (x &&& (2147483647 : Int32)).toInt (b := 2147483646) (by decide)
  have q2 := Int.emod_lt_of_pos (x &&& (2147483647 : Int32)).toInt (b := 2147483646) (by decide)
  rw [q]
  exact ⟨q1, by omega⟩
theorem own_Bn (x : Int32) : 1 ≤ (((x &&& (2147483647 : Int32)) % (2147483646 : Int32)) + (1 : Int32)).toInt ∧ (((x &&& (2147483647 : Int32)) % (2147483646 : Int32)) + (1 : Int32)).toInt ≤ 2147483646 := by
  obtain ⟨h1, h2⟩ := own_A x
  rw [own_inc h1 h2]; omega
theorem own_Cn {n : Int32} (h1 : 1 ≤ n.toInt) (h2 : n.toInt ≤ 2147483646) : (((2147483647 : Int32) - n) + (1 : Int32)).toInt = 2147483648 - n.toInt := by
  have eM : (2147483647 : Int32).toInt = 2147483647 := by decide
  have s := c_isub 2147483647 n; have r2 := rng32 (2147483647 - n)
  have e : ((2147483647 : Int32) - n).toInt = 2147483647 - n.toInt := by omega
  by_cases q : n.toInt = 1
  · have e1 : (1 : Int32).toInt = 1 := by decide
    have a := c_iadd ((2147483647 : Int32) - n) 1; have r3 := rng32 ((2147483647 : Int32) - n + 1)
    omega
  · rw [own_inc (by omega) (by omega), e]; omega
theorem own_nzm (x : Int32) : (((2147483647 : Int32) - (((x &&& (2147483647 : Int32)) % (2147483646 : Int32)) + (1 : Int32))) + (1 : Int32)) ≠ 0 := fun z => by
  obtain ⟨h1, h2⟩ := own_Bn x
  have e := own_Cn h1 h2
  rw [z] at e
  have e0 : (0 : Int32).toInt = 0 := by decide
  omega
theorem own_and {x : Int32} : 0 ≤ (x &&& (15 : Int32)).toInt ∧ (x &&& (15 : Int32)).toInt ≤ 15 := by
  have m := c_mask x 15 4 (by decide) (by decide)
  omega
theorem own_sumn {n d : Int32} (h1 : 1 ≤ n.toInt) (h2 : 0 ≤ d.toInt) (h3 : n.toInt + d.toInt ≤ 2147483647) : (n + d).toInt = n.toInt + d.toInt := by
  have a := c_iadd n d; have r := rng32 (n + d)
  omega
theorem own_nm {x y v n m : Int32} (hn : n = (if v = (0 : Int32) then (((x &&& (2147483647 : Int32)) % (2147483646 : Int32)) + (1 : Int32)) else ((x &&& (15 : Int32)) + (1 : Int32))))
    (hm : m = (if v = (0 : Int32) then ((((x &&& (2147483647 : Int32)) % (2147483646 : Int32)) + (1 : Int32)) + ((y &&& (2147483647 : Int32)) % (((2147483647 : Int32) - (((x &&& (2147483647 : Int32)) % (2147483646 : Int32)) + (1 : Int32))) + (1 : Int32)))) else (((x &&& (15 : Int32)) + (1 : Int32)) + (y &&& (15 : Int32))))) :
    1 ≤ n.toInt ∧ n.toInt ≤ 2147483646 ∧ n.toInt ≤ m.toInt := by
  by_cases hv : v = 0
  · rw [if_pos hv] at hn hm
    obtain ⟨h1, h2⟩ := own_Bn x
    rw [← hn] at h1 h2 hm
    have e := own_Cn h1 h2
    have my := c_mask y 2147483647 31 (by decide) (by decide)
    have m0 : 0 ≤ (y &&& (2147483647 : Int32)).toInt := by clear hn hm e; omega
    clear my hn
    generalize (y &&& (2147483647 : Int32)) = w at *
    generalize (((2147483647 : Int32) - n) + (1 : Int32)) = c at *
    have q2 := (c_iremV w c).1 m0 (by omega)
    obtain ⟨q3, q4, -⟩ := q2
    generalize w % c = d at *
    have s := own_sumn (n := n) (d := d) h1 q3 (by omega)
    rw [hm, s]; omega
  · rw [if_neg hv] at hn hm
    have hx := own_and (x := x)
    have e := own_inc (a := x &&& 15) hx.1 (by omega)
    rw [← hn] at e hm
    have hy := own_and (x := y)
    have s := own_sumn (n := n) (d := y &&& 15) (by omega) hy.1 (by omega)
    rw [hm, s]; omega
theorem own_np {n m : Int32} (h : 1 ≤ n.toInt ∧ n.toInt ≤ 2147483646 ∧ n.toInt ≤ m.toInt) : (n + (1 : Int32)).toInt = n.toInt + 1 := by
  have e1 : (1 : Int32).toInt = 1 := by decide
  have a := c_iadd n 1; have r := rng32 (n + 1)
  omega
theorem own_g0 {q0 : Int64} {n r : Int32} (J : own_JB q0 n r) : ¬ r < (0 : Int32) := by
  have e : (0 : Int32).toInt = 0 := by decide
  have := own_JBb J
  rw [Int32.lt_iff_toInt_lt]; omega
theorem own_g1 {q0 : Int64} {n r : Int32} (J : own_JB q0 n r) : r < n := by
  have := own_JBb J
  rw [Int32.lt_iff_toInt_lt]; omega
theorem own_g2 {q0 : Int64} {n m r : Int32} (h : 1 ≤ n.toInt ∧ n.toInt ≤ 2147483646 ∧ n.toInt ≤ m.toInt) (J : own_JB q0 (n + (1 : Int32)) r) : ¬ n < r := by
  have := own_JBb J; have := own_np h
  rw [Int32.lt_iff_toInt_lt]; omega
theorem own_g3 {q0 : Int64} {n m r r1 : Int32} (h : 1 ≤ n.toInt ∧ n.toInt ≤ 2147483646 ∧ n.toInt ≤ m.toInt) (J : own_JB q0 n r) (J1 : own_JB q0 (n + (1 : Int32)) r1) (hne : ¬ r1 = r) : r1 = n := by
  have b := own_JBb J1; have e := own_np h
  rcases own_JBvs J J1 (by omega) with q | q
  · apply Int32.toInt_inj.mp; omega
  · exact absurd q hne
theorem own_g4 {q0 : Int64} {n m r rm : Int32} (h : 1 ≤ n.toInt ∧ n.toInt ≤ 2147483646 ∧ n.toInt ≤ m.toInt) (J : own_JB q0 n r) (Jm : own_JB q0 m rm) (hlt : rm < n) : rm = r := by
  rw [Int32.lt_iff_toInt_lt] at hlt
  rcases own_JBvs J Jm h.2.2 with q | q
  · omega
  · exact q
theorem own_h1 {n m : Int32} (h : 1 ≤ n.toInt ∧ n.toInt ≤ 2147483646 ∧ n.toInt ≤ m.toInt) : 1 ≤ (n + (1 : Int32)).toInt := by have := own_np h; omega
theorem own_hm {n m : Int32} (h : 1 ≤ n.toInt ∧ n.toInt ≤ 2147483646 ∧ n.toInt ≤ m.toInt) : 1 ≤ m.toInt := by omega

theorem pn_0 : plainName "com/example/which_bucket/whichbucket/WhichBucketJumpBackHashPinLaw" = true := by first | (simp [plainName, overriddenIn]; done) | decide +kernel
theorem ef_0 (m : MethodId) (q0 : Int64) (p1 : Int32) (p2 : Int32) (p3 : Int32) (p4 : Int32) : entryFrame m #[(.long q0), (.int p1), (.int p2), (.int p3), (.int p4)] maxLocals = mkF m 0 #[.val (.long q0), .second, iv p1, iv p2, iv p3, iv p4, .unset, .unset, .unset, .unset, .unset, .unset, .unset, .unset, .unset, .unset, .unset, .unset, .unset] [] := by first | (simp [entryFrame, mkF, argsToLocals, Value.category, maxLocals]; done) | rfl
def Q0 (Z : State) (q0 : Int64) (p1 : Int32) (p2 : Int32) (p3 : Int32) (p4 : Int32) (h0 : Heap) (n0 : Nat) (v : Option Value) (h : Heap) (L : List Loc) : Prop := v = some (.int 1) ∧ Fr n0 L
set_option maxRecDepth 65536 in
set_option maxHeartbeats 40000000 in
theorem rm0 (l : Launch) (Z : State) (a0 : Array Value) (hw : ∀ d ∈ tables_1, d.before a0 Z = true) (ws : List Jvm.Cond) (q0 : Int64) (p1 : Int32) (p2 : Int32) (p3 : Int32) (p4 : Int32) (h0 : Heap) (n0 : Nat) (Z0 : n0 ≤ h0.size) :
    MetFree l x (head1 (Jvm.Cond.code x code maxLocals ret :: ws) room_1) (fun a U => a = #[(.long q0), (.int p1), (.int p2), (.int p3), (.int p4)] ∧ Z.Warmed39 U.vm ∧ U.heap = h0) (fun _ _ _ _ _ => True) (fun _ U o U' => ∃ v L, o = .returned v ∧ Q0 Z q0 p1 p2 p3 p4 h0 n0 v U'.heap L ∧ FrameEnd U o U' L 0 0) := by
  refine MetFree.of_bodySF (plainFor_of_name pn_0) hisR ?_
  intro p e s m args below meth c s₁ Bd hml0 hP hK
  obtain ⟨rfl, hZ, hh⟩ := hP
  have hx := Bd.exec
  have hby := Bd.bytes
  have hml : c.maxLocals = 19 := hml0
  have hown : s.vm.findClass "com/example/which_bucket/whichbucket/WhichBucketJumpBackHashPinLaw" = some m.cls := findClass_of_methodNamed Bd.named
  have hnm := (name_of_methodNamed Bd.named Bd.method).1
  have hlk : meth.locks = false := Bd.notSynchronized
  have X0 : Stand p l e room_1 s m #[(.long q0), (.int p1), (.int p2), (.int p3), (.int p4)] below meth c s₁ [] 0 0 := Stand.of_body Bd
  have e0 : s₁.heap = h0 := by rw [← hh, Bd.state]; rfl
  have N0 := Fr.nil n0
  have KK0 := Keep.refl h0 []
  show own_Go p.tables e below s 0 0 (Q0 Z q0 p1 p2 p3 p4 h0 n0) (s₁.setTop (entryFrame m #[(.long q0), (.int p1), (.int p2), (.int p3), (.int p4)] maxLocals))
  rw [ef_0]
  refine own_step (U' := s₁.setTop (mkF m 4 #[.val (.long q0), .second, iv p1, iv p2, iv p3, iv p4, .unset, .unset, .unset, .unset, .unset, .unset, .unset, .unset, .unset, .unset, .unset, .unset, .unset] [(.int (p4 &&& (1 : Int32)))])) (fun t k => XS.iload X0.here hx rfl (hb hby at_0) rfl (XS.iconst X0.here hx rfl (hb hby at_2) (XS.iand X0.here hx rfl (hb hby at_3) rfl k))) ?_
  obtain ⟨v12_2, hv12_2⟩ : ∃ v : Int32, v = (if (p4 &&& (1 : Int32)) = (0 : Int32) then (0 : Int32) else (1 : Int32)) := ⟨_, rfl⟩
  have K12_3 : ∀ (T' : State) (locs' : List Loc) (X' : Stand p l e room_1 s m #[(.long q0), (.int p1), (.int p2), (.int p3), (.int p4)] below meth c T' locs' 0 0) (N' : Fr n0 locs') (e' : T'.heap = h0), own_Go p.tables e below s 0 0 (Q0 Z q0 p1 p2 p3 p4 h0 n0) (T'.setTop (mkF m 12 #[.val (.long q0), .second, iv p1, iv p2, iv p3, iv p4, .unset, .unset, .unset, .unset, .unset, .unset, .unset, .unset, .unset, .unset, .unset, .unset, .unset] [(.int v12_2)])) := by
    intro T3 L3 X3 N3 e3
    refine own_step (U' := T3.setTop (mkF m 16 #[.val (.long q0), .second, iv p1, iv p2, iv p3, iv p4, iv v12_2, .unset, .unset, .unset, .unset, .unset, .unset, .unset, .unset, .unset, .unset, .unset, .unset] [(.int v12_2)])) (fun t k => XS.istore X3.here hx rfl (hb hby at_12) rfl (l' := #[.val (.long q0), .second, iv p1, iv p2, iv p3, iv p4, iv v12_2, .unset, .unset, .unset, .unset, .unset, .unset, .unset, .unset, .unset, .unset, .unset, .unset]) rfl (XS.iload X3.here hx rfl (hb hby at_14) rfl k)) ?_
    obtain ⟨v67_5, hv67_5⟩ : ∃ v : Int32, v = (if v12_2 = (0 : Int32) then (((p1 &&& (2147483647 : Int32)) % (2147483646 : Int32)) + (1 : Int32)) else ((p1 &&& (15 : Int32)) + (1 : Int32))) := ⟨_, rfl⟩
    obtain ⟨v67_6, hv67_6⟩ : ∃ v : Int32, v = (if v12_2 = (0 : Int32) then ((((p1 &&& (2147483647 : Int32)) % (2147483646 : Int32)) + (1 : Int32)) + ((p2 &&& (2147483647 : Int32)) % (((2147483647 : Int32) - (((p1 &&& (2147483647 : Int32)) % (2147483646 : Int32)) + (1 : Int32))) + (1 : Int32)))) else (((p1 &&& (15 : Int32)) + (1 : Int32)) + (p2 &&& (15 : Int32)))) := ⟨_, rfl⟩
    have K67_7 : ∀ (T' : State) (locs' : List Loc) (X' : Stand p l e room_1 s m #[(.long q0), (.int p1), (.int p2), (.int p3), (.int p4)] below meth c T' locs' 0 0) (N' : Fr n0 locs') (e' : T'.heap = h0), own_Go p.tables e below s 0 0 (Q0 Z q0 p1 p2 p3 p4 h0 n0) (T'.setTop (mkF m 67 #[.val (.long q0), .second, iv p1, iv p2, iv p3, iv p4, iv v12_2, iv v67_5, iv v67_6, .unset, .unset, .unset, .unset, .unset, .unset, .unset, .unset, .unset, .unset] [])) := by
      intro T7 L7 X7 N7 e7
      refine own_step (U' := T7.setTop (mkF m 77 #[.val (.long q0), .second, iv p1, iv p2, iv p3, iv p4, iv v12_2, iv v67_5, iv v67_6, .unset, .unset, .unset, .unset, .unset, .unset, .unset, .unset, .unset, .unset] [(.int (((p3 &&& (2147483647 : Int32)) % (30 : Int32)) + (1 : Int32)))])) (fun t k => XS.iload X7.here hx rfl (hb hby at_67) rfl (X7.ldcInt hx hown (mvT hZ (own_w hw 0 rfl)) (g := (mkF m 69 #[.val (.long q0), .second, iv p1, iv p2, iv p3, iv p4, iv v12_2, iv v67_5, iv v67_6, .unset, .unset, .unset, .unset, .unset, .unset, .unset, .unset, .unset, .unset] [(.int p3)])) rfl (hb hby at_69) t (XS.iand X7.here hx rfl (hb hby at_71) rfl (XS.bipush X7.here hx rfl (hb hby at_72) (iremM X7 hx rfl (hb hby at_74) rfl (by decide) (XS.iconst X7.here hx rfl (hb hby at_75) (XS.iadd X7.here hx rfl (hb hby at_76) rfl k))))))) ?_
      obtain ⟨ee, hee⟩ : ∃ v : Int32, v = (((p3 &&& (2147483647 : Int32)) % (30 : Int32)) + (1 : Int32)) := ⟨_, rfl⟩
      rw [← hee]
      refine own_step (U' := T7.setTop (mkF m 83 #[.val (.long q0), .second, iv p1, iv p2, iv p3, iv p4, iv v12_2, iv v67_5, iv v67_6, iv ee, .unset, .unset, .unset, .unset, .unset, .unset, .unset, .unset, .unset] [(.int ((1 : Int32) <<< (ee &&& 31)))])) (fun t k => XS.istore X7.here hx rfl (hb hby at_77) rfl (l' := #[.val (.long q0), .second, iv p1, iv p2, iv p3, iv p4, iv v12_2, iv v67_5, iv v67_6, iv ee, .unset, .unset, .unset, .unset, .unset, .unset, .unset, .unset, .unset]) rfl (XS.iconst X7.here hx rfl (hb hby at_79) (XS.iload X7.here hx rfl (hb hby at_80) rfl (XS.ishl X7.here hx rfl (hb hby at_82) rfl k)))) ?_
      obtain ⟨pp, hpp⟩ : ∃ v : Int32, v = ((1 : Int32) <<< (ee &&& 31)) := ⟨_, rfl⟩
      rw [← hpp]
      refine own_step (U' := T7.setTop (mkF m 85 #[.val (.long q0), .second, iv p1, iv p2, iv p3, iv p4, iv v12_2, iv v67_5, iv v67_6, iv ee, iv pp, .unset, .unset, .unset, .unset, .unset, .unset, .unset, .unset] [])) (fun t k => XS.istore X7.here hx rfl (hb hby at_83) rfl (l' := #[.val (.long q0), .second, iv p1, iv p2, iv p3, iv p4, iv v12_2, iv v67_5, iv v67_6, iv ee, iv pp, .unset, .unset, .unset, .unset, .unset, .unset, .unset, .unset]) rfl k) ?_
      obtain ⟨ex, hpe⟩ := own_pe hee hpp
      refine own_step (U' := T7.setTop (mkF m 88 #[.val (.long q0), .second, iv p1, iv p2, iv p3, iv p4, iv v12_2, iv v67_5, iv v67_6, iv ee, iv pp, .unset, .unset, .unset, .unset, .unset, .unset, .unset, .unset] [(.int v67_5), (.long q0)])) (fun t k => XS.lloadN X7.here hx rfl (hb hby at_85) rfl (XS.iload X7.here hx rfl (hb hby at_86) rfl k)) ?_
      obtain ⟨_, _, ⟨T8, L8, k8, n8⟩, -, X8, ⟨Lc8, hQ8, l8, y8, z8⟩, st8⟩ := Jvm.LawKit.callS X7 hx (y := (⟨"com/example/which_bucket/whichbucket/WhichBucket", "jumpBackHash", "(JI)I"⟩ : MethodName)) hown (mvT hZ (own_w hw 1 rfl)) (mvT hZ (own_w hw 2 rfl)) (mvT hZ (own_w hw 3 rfl)) (mvT hZ (own_w hw 4 rfl)) (by decide) (backOf (W := 0) (rm1 l Z a0 hw [] q0 v67_5 h0 n0 Z0 (own_nm hv67_5 hv67_6).1) hZ (own_w hw 4 rfl) (own_w hw 3 rfl) (by decide) (by decide)) (g := (mkF m 88 #[.val (.long q0), .second, iv p1, iv p2, iv p3, iv p4, iv v12_2, iv v67_5, iv v67_6, iv ee, iv pp, .unset, .unset, .unset, .unset, .unset, .unset, .unset, .unset] [(.int v67_5), (.long q0)])) rfl (by rw [hml]; rfl) (argsL := [(.long q0), (.int v67_5)]) (rest := []) (lenOf pd__JI_I rfl) rfl (by show 2 * 0 + _ ≤ _; exact Nat.le_of_eq rfl) (hb hby at_88) (fun _ _ => ⟨rfl, e7, (by decide : 0 + 0 ≤ _), (by decide : 0 + 0 ≤ _)⟩)
      dsimp only [Pt.U, Pt.locs, Pt.cells, Pt.slots] at X8 l8 y8 z8 st8 hQ8
      subst l8 y8 z8
      obtain ⟨ra, rfl, Jra, N8q, eq8⟩ := hQ8
      have N8 := Fr.app N7 N8q
      refine own_step (U' := T8.setTop (mkF m 91 #[.val (.long q0), .second, iv p1, iv p2, iv p3, iv p4, iv v12_2, iv v67_5, iv v67_6, iv ee, iv pp, .unset, .unset, .unset, .unset, .unset, .unset, .unset, .unset] [(.int ra)])) st8 ?_
      refine own_step (U' := T8.setTop (mkF m 98 #[.val (.long q0), .second, iv p1, iv p2, iv p3, iv p4, iv v12_2, iv v67_5, iv v67_6, iv ee, iv pp, iv ra, .unset, .unset, .unset, .unset, .unset, .unset, .unset] [(.int (v67_5 + (1 : Int32))), (.long q0)])) (fun t k => XS.istore X8.here hx rfl (hb hby at_91) rfl (l' := #[.val (.long q0), .second, iv p1, iv p2, iv p3, iv p4, iv v12_2, iv v67_5, iv v67_6, iv ee, iv pp, iv ra, .unset, .unset, .unset, .unset, .unset, .unset, .unset]) rfl (XS.lloadN X8.here hx rfl (hb hby at_93) rfl (XS.iload X8.here hx rfl (hb hby at_94) rfl (XS.iconst X8.here hx rfl (hb hby at_96) (XS.iadd X8.here hx rfl (hb hby at_97) rfl k))))) ?_
      obtain ⟨_, _, ⟨T9, L9, k9, n9⟩, -, X9, ⟨Lc9, hQ9, l9, y9, z9⟩, st9⟩ := Jvm.LawKit.callS X8 hx (y := (⟨"com/example/which_bucket/whichbucket/WhichBucket", "jumpBackHash", "(JI)I"⟩ : MethodName)) hown (mvT hZ (own_w hw 1 rfl)) (mvT hZ (own_w hw 2 rfl)) (mvT hZ (own_w hw 3 rfl)) (mvT hZ (own_w hw 4 rfl)) (by decide) (backOf (W := 0) (rm1 l Z a0 hw [] q0 (v67_5 + (1 : Int32)) h0 n0 Z0 (own_h1 (own_nm hv67_5 hv67_6))) hZ (own_w hw 4 rfl) (own_w hw 3 rfl) (by decide) (by decide)) (g := (mkF m 98 #[.val (.long q0), .second, iv p1, iv p2, iv p3, iv p4, iv v12_2, iv v67_5, iv v67_6, iv ee, iv pp, iv ra, .unset, .unset, .unset, .unset, .unset, .unset, .unset] [(.int (v67_5 + (1 : Int32))), (.long q0)])) rfl (by rw [hml]; rfl) (argsL := [(.long q0), (.int (v67_5 + (1 : Int32)))]) (rest := []) (lenOf pd__JI_I rfl) rfl (by show 2 * 0 + _ ≤ _; exact Nat.le_of_eq rfl) (hb hby at_98) (fun _ _ => ⟨rfl, eq8, (by decide : 0 + 0 ≤ _), (by decide : 0 + 0 ≤ _)⟩)
      dsimp only [Pt.U, Pt.locs, Pt.cells, Pt.slots] at X9 l9 y9 z9 st9 hQ9
      subst l9 y9 z9
      obtain ⟨rb, rfl, Jrb, N9q, eq9⟩ := hQ9
      have N9 := Fr.app N8 N9q
      refine own_step (U' := T9.setTop (mkF m 101 #[.val (.long q0), .second, iv p1, iv p2, iv p3, iv p4, iv v12_2, iv v67_5, iv v67_6, iv ee, iv pp, iv ra, .unset, .unset, .unset, .unset, .unset, .unset, .unset] [(.int rb)])) st9 ?_
      refine own_step (U' := T9.setTop (mkF m 106 #[.val (.long q0), .second, iv p1, iv p2, iv p3, iv p4, iv v12_2, iv v67_5, iv v67_6, iv ee, iv pp, iv ra, iv rb, .unset, .unset, .unset, .unset, .unset, .unset] [(.int v67_6), (.long q0)])) (fun t k => XS.istore X9.here hx rfl (hb hby at_101) rfl (l' := #[.val (.long q0), .second, iv p1, iv p2, iv p3, iv p4, iv v12_2, iv v67_5, iv v67_6, iv ee, iv pp, iv ra, iv rb, .unset, .unset, .unset, .unset, .unset, .unset]) rfl (XS.lloadN X9.here hx rfl (hb hby at_103) rfl (XS.iload X9.here hx rfl (hb hby at_104) rfl k))) ?_
      obtain ⟨_, _, ⟨T10, L10, k10, n10⟩, -, X10, ⟨Lc10, hQ10, l10, y10, z10⟩, st10⟩ := Jvm.LawKit.callS X9 hx (y := (⟨"com/example/which_bucket/whichbucket/WhichBucket", "jumpBackHash", "(JI)I"⟩ : MethodName)) hown (mvT hZ (own_w hw 1 rfl)) (mvT hZ (own_w hw 2 rfl)) (mvT hZ (own_w hw 3 rfl)) (mvT hZ (own_w hw 4 rfl)) (by decide) (backOf (W := 0) (rm1 l Z a0 hw [] q0 v67_6 h0 n0 Z0 (own_hm (own_nm hv67_5 hv67_6))) hZ (own_w hw 4 rfl) (own_w hw 3 rfl) (by decide) (by decide)) (g := (mkF m 106 #[.val (.long q0), .second, iv p1, iv p2, iv p3, iv p4, iv v12_2, iv v67_5, iv v67_6, iv ee, iv pp, iv ra, iv rb, .unset, .unset, .unset, .unset, .unset, .unset] [(.int v67_6), (.long q0)])) rfl (by rw [hml]; rfl) (argsL := [(.long q0), (.int v67_6)]) (rest := []) (lenOf pd__JI_I rfl) rfl (by show 2 * 0 + _ ≤ _; exact Nat.le_of_eq rfl) (hb hby at_106) (fun _ _ => ⟨rfl, eq9, (by decide : 0 + 0 ≤ _), (by decide : 0 + 0 ≤ _)⟩)
      dsimp only [Pt.U, Pt.locs, Pt.cells, Pt.slots] at X10 l10 y10 z10 st10 hQ10
      subst l10 y10 z10
      obtain ⟨rc, rfl, Jrc, N10q, eq10⟩ := hQ10
      have N10 := Fr.app N9 N10q
      refine own_step (U' := T10.setTop (mkF m 109 #[.val (.long q0), .second, iv p1, iv p2, iv p3, iv p4, iv v12_2, iv v67_5, iv v67_6, iv ee, iv pp, iv ra, iv rb, .unset, .unset, .unset, .unset, .unset, .unset] [(.int rc)])) st10 ?_
      refine own_step (U' := T10.setTop (mkF m 114 #[.val (.long q0), .second, iv p1, iv p2, iv p3, iv p4, iv v12_2, iv v67_5, iv v67_6, iv ee, iv pp, iv ra, iv rb, iv rc, .unset, .unset, .unset, .unset, .unset] [(.int pp), (.long q0)])) (fun t k => XS.istore X10.here hx rfl (hb hby at_109) rfl (l' := #[.val (.long q0), .second, iv p1, iv p2, iv p3, iv p4, iv v12_2, iv v67_5, iv v67_6, iv ee, iv pp, iv ra, iv rb, iv rc, .unset, .unset, .unset, .unset, .unset]) rfl (XS.lloadN X10.here hx rfl (hb hby at_111) rfl (XS.iload X10.here hx rfl (hb hby at_112) rfl k))) ?_
      obtain ⟨_, _, ⟨T11, L11, k11, n11⟩, -, X11, ⟨Lc11, hQ11, l11, y11, z11⟩, st11⟩ := Jvm.LawKit.callS X10 hx (y := (⟨"com/example/which_bucket/whichbucket/WhichBucket", "jumpBackHash", "(JI)I"⟩ : MethodName)) hown (mvT hZ (own_w hw 1 rfl)) (mvT hZ (own_w hw 2 rfl)) (mvT hZ (own_w hw 3 rfl)) (mvT hZ (own_w hw 4 rfl)) (by decide) (backOf (W := 0) (rm1 l Z a0 hw [] q0 pp h0 n0 Z0 (own_pos1 (y := pp) hpe)) hZ (own_w hw 4 rfl) (own_w hw 3 rfl) (by decide) (by decide)) (g := (mkF m 114 #[.val (.long q0), .second, iv p1, iv p2, iv p3, iv p4, iv v12_2, iv v67_5, iv v67_6, iv ee, iv pp, iv ra, iv rb, iv rc, .unset, .unset, .unset, .unset, .unset] [(.int pp), (.long q0)])) rfl (by rw [hml]; rfl) (argsL := [(.long q0), (.int pp)]) (rest := []) (lenOf pd__JI_I rfl) rfl (by show 2 * 0 + _ ≤ _; exact Nat.le_of_eq rfl) (hb hby at_114) (fun _ _ => ⟨rfl, eq10, (by decide : 0 + 0 ≤ _), (by decide : 0 + 0 ≤ _)⟩)
      dsimp only [Pt.U, Pt.locs, Pt.cells, Pt.slots] at X11 l11 y11 z11 st11 hQ11
      subst l11 y11 z11
      obtain ⟨rd, rfl, Jrd, N11q, eq11⟩ := hQ11
      have N11 := Fr.app N10 N11q
      refine own_step (U' := T11.setTop (mkF m 117 #[.val (.long q0), .second, iv p1, iv p2, iv p3, iv p4, iv v12_2, iv v67_5, iv v67_6, iv ee, iv pp, iv ra, iv rb, iv rc, .unset, .unset, .unset, .unset, .unset] [(.int rd)])) st11 ?_
      refine own_step (U' := T11.setTop (mkF m 121 #[.val (.long q0), .second, iv p1, iv p2, iv p3, iv p4, iv v12_2, iv v67_5, iv v67_6, iv ee, iv pp, iv ra, iv rb, iv rc, iv rd, .unset, .unset, .unset, .unset] [(.long (1 : Int64)), (.long q0)])) (fun t k => XS.istore X11.here hx rfl (hb hby at_117) rfl (l' := #[.val (.long q0), .second, iv p1, iv p2, iv p3, iv p4, iv v12_2, iv v67_5, iv v67_6, iv ee, iv pp, iv ra, iv rb, iv rc, iv rd, .unset, .unset, .unset, .unset]) rfl (XS.lloadN X11.here hx rfl (hb hby at_119) rfl (XS.lconst X11.here hx rfl (hb hby at_120) k))) ?_
      obtain ⟨_, _, ⟨T12, L12, k12, n12⟩, -, X12, ⟨Lc12, hQ12, l12, y12, z12⟩, st12⟩ := Jvm.LawKit.callS X11 hx (y := (⟨"com/example/which_bucket/whichbucket/SplitMix64", "draw", "(JJ)J"⟩ : MethodName)) hown (mvT hZ (own_w hw 40 rfl)) (mvT hZ (own_w hw 15 rfl)) (mvT hZ (own_w hw 16 rfl)) (mvT hZ (own_w hw 17 rfl)) (by decide) (backOf (W := 0) (rm5 l Z a0 hw [] q0 (1 : Int64) h0 n0 Z0) hZ (own_w hw 17 rfl) (own_w hw 16 rfl) (by decide) (by decide)) (g := (mkF m 121 #[.val (.long q0), .second, iv p1, iv p2, iv p3, iv p4, iv v12_2, iv v67_5, iv v67_6, iv ee, iv pp, iv ra, iv rb, iv rc, iv rd, .unset, .unset, .unset, .unset] [(.long (1 : Int64)), (.long q0)])) rfl (by rw [hml]; rfl) (argsL := [(.long q0), (.long (1 : Int64))]) (rest := []) (lenOf pd__JJ_J rfl) rfl (by show 2 * 0 + _ ≤ _; exact Nat.le_of_eq rfl) (hb hby at_121) (fun _ _ => ⟨rfl, eq11, (by decide : 0 + 0 ≤ _), (by decide : 0 + 0 ≤ _)⟩)
      dsimp only [Pt.U, Pt.locs, Pt.cells, Pt.slots] at X12 l12 y12 z12 st12 hQ12
      subst l12 y12 z12
      obtain ⟨rfl, N12q, eq12⟩ := hQ12
      have N12 := Fr.app N11 N12q
      refine own_step (U' := T12.setTop (mkF m 124 #[.val (.long q0), .second, iv p1, iv p2, iv p3, iv p4, iv v12_2, iv v67_5, iv v67_6, iv ee, iv pp, iv ra, iv rb, iv rc, iv rd, .unset, .unset, .unset, .unset] [(.long (F5 q0 (1 : Int64)))])) st12 ?_
      obtain ⟨fi, hfi⟩ : ∃ v : Int64, v = (F5 q0 (1 : Int64)) := ⟨_, rfl⟩
      rw [← hfi]
      refine own_step (U' := T12.setTop (mkF m 143 #[.val (.long q0), .second, iv p1, iv p2, iv p3, iv p4, iv v12_2, iv v67_5, iv v67_6, iv ee, iv pp, iv ra, iv rb, iv rc, iv rd, .val (.long fi), .second, .unset, .unset] [(.int (1 : Int32))])) (fun t k => XS.lstore X12.here hx rfl (hb hby at_124) rfl (l' := #[.val (.long q0), .second, iv p1, iv p2, iv p3, iv p4, iv v12_2, iv v67_5, iv v67_6, iv ee, iv pp, iv ra, iv rb, iv rc, iv rd, .val (.long fi), .second, .unset, .unset]) rfl (XS.iload X12.here hx rfl (hb hby at_126) rfl (XS.ifNo X12.here hx rfl (hb hby at_128) rfl ((if0 _ _).trans (flt (own_g0 Jra)).1) (XS.iload X12.here hx rfl (hb hby at_131) rfl (XS.iload X12.here hx rfl (hb hby at_133) rfl (XS.icmpNo X12.here hx rfl (hb hby at_135) rfl (tlt (own_g1 Jra)).2.1 (XS.iconst X12.here hx rfl (hb hby at_138) (XS.goto X12.here hx rfl (pc0 := 139) (pc' := 143) rfl (hb hby at_139) (by decide) (by decide) k)))))))) ?_
      refine own_step (U' := T12.setTop (mkF m 162 #[.val (.long q0), .second, iv p1, iv p2, iv p3, iv p4, iv v12_2, iv v67_5, iv v67_6, iv ee, iv pp, iv ra, iv rb, iv rc, iv rd, .val (.long fi), .second, iv (1 : Int32), .unset] [])) (fun t k => XS.istore X12.here hx rfl (hb hby at_143) rfl (l' := #[.val (.long q0), .second, iv p1, iv p2, iv p3, iv p4, iv v12_2, iv v67_5, iv v67_6, iv ee, iv pp, iv ra, iv rb, iv rc, iv rd, .val (.long fi), .second, iv (1 : Int32), .unset]) rfl (XS.iload X12.here hx rfl (hb hby at_145) rfl (XS.ifNo X12.here hx rfl (hb hby at_147) rfl (by decide) (XS.iload X12.here hx rfl (hb hby at_150) rfl (XS.ifNo X12.here hx rfl (hb hby at_152) rfl ((if0 _ _).trans (flt (own_g0 Jrb)).1) (XS.iload X12.here hx rfl (hb hby at_155) rfl (XS.iload X12.here hx rfl (hb hby at_157) rfl (XS.icmpNo X12.here hx rfl (hb hby at_159) rfl (flt (own_g2 (own_nm hv67_5 hv67_6) Jrb)).2.2.1 k)))))))) ?_
      refine own_step (U' := T12.setTop (mkF m 166 #[.val (.long q0), .second, iv p1, iv p2, iv p3, iv p4, iv v12_2, iv v67_5, iv v67_6, iv ee, iv pp, iv ra, iv rb, iv rc, iv rd, .val (.long fi), .second, iv (1 : Int32), .unset] [(.int ra), (.int rb)])) (fun t k => XS.iload X12.here hx rfl (hb hby at_162) rfl (XS.iload X12.here hx rfl (hb hby at_164) rfl k)) ?_
      have K181_14 : ∀ (T' : State) (locs' : List Loc) (X' : Stand p l e room_1 s m #[(.long q0), (.int p1), (.int p2), (.int p3), (.int p4)] below meth c T' locs' 0 0) (N' : Fr n0 locs') (e' : T'.heap = h0), own_Go p.tables e below s 0 0 (Q0 Z q0 p1 p2 p3 p4 h0 n0) (T'.setTop (mkF m 181 #[.val (.long q0), .second, iv p1, iv p2, iv p3, iv p4, iv v12_2, iv v67_5, iv v67_6, iv ee, iv pp, iv ra, iv rb, iv rc, iv rd, .val (.long fi), .second, iv (1 : Int32), .unset] [(.int (1 : Int32))])) := by
        intro T14 L14 X14 N14 e14
        refine own_step (U' := T14.setTop (mkF m 200 #[.val (.long q0), .second, iv p1, iv p2, iv p3, iv p4, iv v12_2, iv v67_5, iv v67_6, iv ee, iv pp, iv ra, iv rb, iv rc, iv rd, .val (.long fi), .second, iv (1 : Int32), .unset] [])) (fun t k => XS.istore X14.here hx rfl (hb hby at_181) rfl (l' := #[.val (.long q0), .second, iv p1, iv p2, iv p3, iv p4, iv v12_2, iv v67_5, iv v67_6, iv ee, iv pp, iv ra, iv rb, iv rc, iv rd, .val (.long fi), .second, iv (1 : Int32), .unset]) rfl (XS.iload X14.here hx rfl (hb hby at_183) rfl (XS.ifNo X14.here hx rfl (hb hby at_185) rfl (by decide) (XS.iload X14.here hx rfl (hb hby at_188) rfl (XS.ifNo X14.here hx rfl (hb hby at_190) rfl ((if0 _ _).trans (flt (own_g0 Jrc)).1) (XS.iload X14.here hx rfl (hb hby at_193) rfl (XS.iload X14.here hx rfl (hb hby at_195) rfl (XS.icmpNo X14.here hx rfl (hb hby at_197) rfl (tlt (own_g1 Jrc)).2.1 k)))))))) ?_
        refine own_step (U' := T14.setTop (mkF m 204 #[.val (.long q0), .second, iv p1, iv p2, iv p3, iv p4, iv v12_2, iv v67_5, iv v67_6, iv ee, iv pp, iv ra, iv rb, iv rc, iv rd, .val (.long fi), .second, iv (1 : Int32), .unset] [(.int v67_5), (.int rc)])) (fun t k => XS.iload X14.here hx rfl (hb hby at_200) rfl (XS.iload X14.here hx rfl (hb hby at_202) rfl k)) ?_
        have K219_16 : ∀ (T' : State) (locs' : List Loc) (X' : Stand p l e room_1 s m #[(.long q0), (.int p1), (.int p2), (.int p3), (.int p4)] below meth c T' locs' 0 0) (N' : Fr n0 locs') (e' : T'.heap = h0), own_Go p.tables e below s 0 0 (Q0 Z q0 p1 p2 p3 p4 h0 n0) (T'.setTop (mkF m 219 #[.val (.long q0), .second, iv p1, iv p2, iv p3, iv p4, iv v12_2, iv v67_5, iv v67_6, iv ee, iv pp, iv ra, iv rb, iv rc, iv rd, .val (.long fi), .second, iv (1 : Int32), .unset] [(.int (1 : Int32))])) := by
          intro T16 L16 X16 N16 e16
          refine own_step (U' := T16.setTop (mkF m 231 #[.val (.long q0), .second, iv p1, iv p2, iv p3, iv p4, iv v12_2, iv v67_5, iv v67_6, iv ee, iv pp, iv ra, iv rb, iv rc, iv rd, .val (.long fi), .second, iv (1 : Int32), .unset] [(.int ((fi.toInt32) ^^^ (((fi.toUInt64 >>> ((32 : Int32) &&& 0x3f).toInt64.toUInt64).toInt64).toInt32)))])) (fun t k => XS.istore X16.here hx rfl (hb hby at_219) rfl (l' := #[.val (.long q0), .second, iv p1, iv p2, iv p3, iv p4, iv v12_2, iv v67_5, iv v67_6, iv ee, iv pp, iv ra, iv rb, iv rc, iv rd, .val (.long fi), .second, iv (1 : Int32), .unset]) rfl (XS.lload X16.here hx rfl (hb hby at_221) rfl (XS.l2i X16.here hx rfl (hb hby at_223) rfl (XS.lload X16.here hx rfl (hb hby at_224) rfl (XS.bipush X16.here hx rfl (hb hby at_226) (XS.lushr X16.here hx rfl (hb hby at_228) rfl (XS.l2i X16.here hx rfl (hb hby at_229) rfl (XS.ixor X16.here hx rfl (hb hby at_230) rfl k)))))))) ?_
          refine own_step (U' := T16.setTop (mkF m 236 #[.val (.long q0), .second, iv p1, iv p2, iv p3, iv p4, iv v12_2, iv v67_5, iv v67_6, iv ee, iv pp, iv ra, iv rb, iv rc, iv rd, .val (.long fi), .second, iv (1 : Int32), .unset] [(.int (((fi.toInt32) ^^^ (((fi.toUInt64 >>> ((32 : Int32) &&& 0x3f).toInt64.toUInt64).toInt64).toInt32)) &&& (pp - (1 : Int32))))])) (fun t k => XS.iload X16.here hx rfl (hb hby at_231) rfl (XS.iconst X16.here hx rfl (hb hby at_233) (XS.isub X16.here hx rfl (hb hby at_234) rfl (XS.iand X16.here hx rfl (hb hby at_235) rfl k)))) ?_
          obtain ⟨bs, hbs⟩ : ∃ v : Int32, v = (((fi.toInt32) ^^^ (((fi.toUInt64 >>> ((32 : Int32) &&& 0x3f).toInt64.toUInt64).toInt64).toInt32)) &&& (pp - (1 : Int32))) := ⟨_, rfl⟩
          rw [← hbs]
          refine own_step (U' := T16.setTop (mkF m 238 #[.val (.long q0), .second, iv p1, iv p2, iv p3, iv p4, iv v12_2, iv v67_5, iv v67_6, iv ee, iv pp, iv ra, iv rb, iv rc, iv rd, .val (.long fi), .second, iv (1 : Int32), iv bs] [])) (fun t k => XS.istore X16.here hx rfl (hb hby at_236) rfl (l' := #[.val (.long q0), .second, iv p1, iv p2, iv p3, iv p4, iv v12_2, iv v67_5, iv v67_6, iv ee, iv pp, iv ra, iv rb, iv rc, iv rd, .val (.long fi), .second, iv (1 : Int32), iv bs]) rfl k) ?_
          have hbu := own_bs hpe hfi hbs
          refine own_step (U' := T16.setTop (mkF m 240 #[.val (.long q0), .second, iv p1, iv p2, iv p3, iv p4, iv v12_2, iv v67_5, iv v67_6, iv ee, iv pp, iv ra, iv rb, iv rc, iv rd, .val (.long fi), .second, iv (1 : Int32), iv bs] [(.int bs)])) (fun t k => XS.iload X16.here hx rfl (hb hby at_238) rfl k) ?_
          have K300_18 : ∀ (T' : State) (locs' : List Loc) (X' : Stand p l e room_1 s m #[(.long q0), (.int p1), (.int p2), (.int p3), (.int p4)] below meth c T' locs' 0 0) (N' : Fr n0 locs') (e' : T'.heap = h0), own_Go p.tables e below s 0 0 (Q0 Z q0 p1 p2 p3 p4 h0 n0) (T'.setTop (mkF m 300 #[.val (.long q0), .second, iv p1, iv p2, iv p3, iv p4, iv v12_2, iv v67_5, iv v67_6, iv ee, iv pp, iv ra, iv rb, iv rc, iv rd, .val (.long fi), .second, iv (1 : Int32), iv bs] [])) := by
            intro T18 L18 X18 N18 e18
            refine own_step (U' := T18.setTop (mkF m 302 #[.val (.long q0), .second, iv p1, iv p2, iv p3, iv p4, iv v12_2, iv v67_5, iv v67_6, iv ee, iv pp, iv ra, iv rb, iv rc, iv rd, .val (.long fi), .second, iv (1 : Int32), iv bs] [(.int (1 : Int32))])) (fun t k => XS.iload X18.here hx rfl (hb hby at_300) rfl k) ?_
            exact own_out X18 (v := (some (.int (1 : Int32)))) hlk (own_nv Bd.returns) (by rw [e18]; exact ⟨rfl, N18⟩) (by decide) (by decide) (fun fs hr => retN X18 hx (t := .boolean) Bd.returns (by simp) (hb hby at_302) hr)
          by_cases hc240_19 : bs = (0 : Int32)
          · refine own_step (U' := T16.setTop (mkF m 260 #[.val (.long q0), .second, iv p1, iv p2, iv p3, iv p4, iv v12_2, iv v67_5, iv v67_6, iv ee, iv pp, iv ra, iv rb, iv rc, iv rd, .val (.long fi), .second, iv (1 : Int32), iv bs] [])) (fun t k => XS.ifNo X16.here hx rfl (hb hby at_240) rfl ((if0 _ _).trans (teq hc240_19).2) (XS.iload X16.here hx rfl (hb hby at_243) rfl (XS.ifNo X16.here hx rfl (hb hby at_245) rfl (by decide) (XS.iload X16.here hx rfl (hb hby at_248) rfl (XS.ifNo X16.here hx rfl (hb hby at_250) rfl ((if0 _ _).trans (teq (own_rp0 hpe Jrd hbu hc240_19)).2) (XS.iconst X16.here hx rfl (hb hby at_253) (XS.goto X16.here hx rfl (pc0 := 254) (pc' := 258) rfl (hb hby at_254) (by decide) (by decide) (XS.istore X16.here hx rfl (hb hby at_258) rfl (l' := #[.val (.long q0), .second, iv p1, iv p2, iv p3, iv p4, iv v12_2, iv v67_5, iv v67_6, iv ee, iv pp, iv ra, iv rb, iv rc, iv rd, .val (.long fi), .second, iv (1 : Int32), iv bs]) rfl k)))))))) ?_
            refine own_step (U' := T16.setTop (mkF m 300 #[.val (.long q0), .second, iv p1, iv p2, iv p3, iv p4, iv v12_2, iv v67_5, iv v67_6, iv ee, iv pp, iv ra, iv rb, iv rc, iv rd, .val (.long fi), .second, iv (1 : Int32), iv bs] [])) (fun t k => XS.goto X16.here hx rfl (pc0 := 260) (pc' := 300) rfl (hb hby at_260) (by decide) (by decide) k) ?_
            exact K300_18 _ _ X16 N16 e16
          · refine own_step (U' := T16.setTop (mkF m 280 #[.val (.long q0), .second, iv p1, iv p2, iv p3, iv p4, iv v12_2, iv v67_5, iv v67_6, iv ee, iv pp, iv ra, iv rb, iv rc, iv rd, .val (.long fi), .second, iv (1 : Int32), iv bs] [])) (fun t k => XS.ifYes X16.here hx rfl (pc0 := 240) (pc' := 263) rfl (hb hby at_240) rfl ((if0 _ _).trans (feq hc240_19).2) (by decide) (by decide) (XS.iload X16.here hx rfl (hb hby at_263) rfl (XS.ifNo X16.here hx rfl (hb hby at_265) rfl (by decide) (XS.iload X16.here hx rfl (hb hby at_268) rfl (XS.ifNo X16.here hx rfl (hb hby at_270) rfl ((if0 _ _).trans (tlt (own_rpos hpe Jrd hbu hc240_19)).2.2.2) (XS.iload X16.here hx rfl (hb hby at_273) rfl (XS.iload X16.here hx rfl (hb hby at_275) rfl (XS.icmpNo X16.here hx rfl (hb hby at_277) rfl (tlt (own_g1 Jrd)).2.1 k)))))))) ?_
            refine own_step (U' := T16.setTop (mkF m 294 #[.val (.long q0), .second, iv p1, iv p2, iv p3, iv p4, iv v12_2, iv v67_5, iv v67_6, iv ee, iv pp, iv ra, iv rb, iv rc, iv rd, .val (.long fi), .second, iv (1 : Int32), iv bs] [(.int (1 : Int32))])) (fun t k => XS.iload X16.here hx rfl (hb hby at_280) rfl (XS.iload X16.here hx rfl (hb hby at_282) rfl (XS.ixor X16.here hx rfl (hb hby at_284) rfl (XS.iload X16.here hx rfl (hb hby at_285) rfl (XS.iload X16.here hx rfl (hb hby at_287) rfl (XS.iand X16.here hx rfl (hb hby at_289) rfl (XS.icmpNo X16.here hx rfl (hb hby at_290) rfl (tlt (own_rtop hpe Jrd hbu hc240_19)).2.1 (XS.iconst X16.here hx rfl (hb hby at_293) k)))))))) ?_
            refine own_step (U' := T16.setTop (mkF m 300 #[.val (.long q0), .second, iv p1, iv p2, iv p3, iv p4, iv v12_2, iv v67_5, iv v67_6, iv ee, iv pp, iv ra, iv rb, iv rc, iv rd, .val (.long fi), .second, iv (1 : Int32), iv bs] [])) (fun t k => XS.goto X16.here hx rfl (pc0 := 294) (pc' := 298) rfl (hb hby at_294) (by decide) (by decide) (XS.istore X16.here hx rfl (hb hby at_298) rfl (l' := #[.val (.long q0), .second, iv p1, iv p2, iv p3, iv p4, iv v12_2, iv v67_5, iv v67_6, iv ee, iv pp, iv ra, iv rb, iv rc, iv rd, .val (.long fi), .second, iv (1 : Int32), iv bs]) rfl k)) ?_
            exact K300_18 _ _ X16 N16 e16
        by_cases hc204_20 : rc < v67_5
        · refine own_step (U' := T14.setTop (mkF m 219 #[.val (.long q0), .second, iv p1, iv p2, iv p3, iv p4, iv v12_2, iv v67_5, iv v67_6, iv ee, iv pp, iv ra, iv rb, iv rc, iv rd, .val (.long fi), .second, iv (1 : Int32), .unset] [(.int (1 : Int32))])) (fun t k => XS.icmpNo X14.here hx rfl (hb hby at_204) rfl (tlt hc204_20).2.1 (XS.iload X14.here hx rfl (hb hby at_207) rfl (XS.iload X14.here hx rfl (hb hby at_209) rfl (XS.icmpNo X14.here hx rfl (hb hby at_211) rfl (teq (own_g4 (own_nm hv67_5 hv67_6) Jra Jrc hc204_20)).2 (XS.iconst X14.here hx rfl (hb hby at_214) (XS.goto X14.here hx rfl (pc0 := 215) (pc' := 219) rfl (hb hby at_215) (by decide) (by decide) k)))))) ?_
          exact K219_16 _ _ X14 N14 e14
        · refine own_step (U' := T14.setTop (mkF m 219 #[.val (.long q0), .second, iv p1, iv p2, iv p3, iv p4, iv v12_2, iv v67_5, iv v67_6, iv ee, iv pp, iv ra, iv rb, iv rc, iv rd, .val (.long fi), .second, iv (1 : Int32), .unset] [(.int (1 : Int32))])) (fun t k => XS.icmpYes X14.here hx rfl (pc0 := 204) (pc' := 214) rfl (hb hby at_204) rfl (flt hc204_20).2.1 (by decide) (by decide) (XS.iconst X14.here hx rfl (hb hby at_214) (XS.goto X14.here hx rfl (pc0 := 215) (pc' := 219) rfl (hb hby at_215) (by decide) (by decide) k))) ?_
          exact K219_16 _ _ X14 N14 e14
      by_cases hc166_21 : rb = ra
      · refine own_step (U' := T12.setTop (mkF m 181 #[.val (.long q0), .second, iv p1, iv p2, iv p3, iv p4, iv v12_2, iv v67_5, iv v67_6, iv ee, iv pp, iv ra, iv rb, iv rc, iv rd, .val (.long fi), .second, iv (1 : Int32), .unset] [(.int (1 : Int32))])) (fun t k => XS.icmpYes X12.here hx rfl (pc0 := 166) (pc' := 176) rfl (hb hby at_166) rfl (teq hc166_21).1 (by decide) (by decide) (XS.iconst X12.here hx rfl (hb hby at_176) (XS.goto X12.here hx rfl (pc0 := 177) (pc' := 181) rfl (hb hby at_177) (by decide) (by decide) k))) ?_
        exact K181_14 _ _ X12 N12 eq12
      · refine own_step (U' := T12.setTop (mkF m 181 #[.val (.long q0), .second, iv p1, iv p2, iv p3, iv p4, iv v12_2, iv v67_5, iv v67_6, iv ee, iv pp, iv ra, iv rb, iv rc, iv rd, .val (.long fi), .second, iv (1 : Int32), .unset] [(.int (1 : Int32))])) (fun t k => XS.icmpNo X12.here hx rfl (hb hby at_166) rfl (feq hc166_21).1 (XS.iload X12.here hx rfl (hb hby at_169) rfl (XS.iload X12.here hx rfl (hb hby at_171) rfl (XS.icmpNo X12.here hx rfl (hb hby at_173) rfl (teq (own_g3 (own_nm hv67_5 hv67_6) Jra Jrb hc166_21)).2 (XS.iconst X12.here hx rfl (hb hby at_176) (XS.goto X12.here hx rfl (pc0 := 177) (pc' := 181) rfl (hb hby at_177) (by decide) (by decide) k)))))) ?_
        exact K181_14 _ _ X12 N12 eq12
    by_cases hc16_22 : v12_2 = (0 : Int32)
    · refine own_step (U' := T3.setTop (mkF m 48 #[.val (.long q0), .second, iv p1, iv p2, iv p3, iv p4, iv v12_2, .unset, .unset, .unset, .unset, .unset, .unset, .unset, .unset, .unset, .unset, .unset, .unset] [(.int (((p1 &&& (2147483647 : Int32)) % (2147483646 : Int32)) + (1 : Int32)))])) (fun t k => XS.ifYes X3.here hx rfl (pc0 := 16) (pc' := 39) rfl (hb hby at_16) rfl ((if0 _ _).trans (teq hc16_22).1) (by decide) (by decide) (XS.iloadN X3.here hx rfl (hb hby at_39) rfl (X3.ldcInt hx hown (mvT hZ (own_w hw 0 rfl)) (g := (mkF m 40 #[.val (.long q0), .second, iv p1, iv p2, iv p3, iv p4, iv v12_2, .unset, .unset, .unset, .unset, .unset, .unset, .unset, .unset, .unset, .unset, .unset, .unset] [(.int p1)])) rfl (hb hby at_40) t (XS.iand X3.here hx rfl (hb hby at_42) rfl (X3.ldcInt hx hown (mvT hZ (own_w hw 41 rfl)) (g := (mkF m 43 #[.val (.long q0), .second, iv p1, iv p2, iv p3, iv p4, iv v12_2, .unset, .unset, .unset, .unset, .unset, .unset, .unset, .unset, .unset, .unset, .unset, .unset] [(.int (p1 &&& (2147483647 : Int32)))])) rfl (hb hby at_43) t (iremM X3 hx rfl (hb hby at_45) rfl (by decide) (XS.iconst X3.here hx rfl (hb hby at_46) (XS.iadd X3.here hx rfl (hb hby at_47) rfl k)))))))) ?_
      refine own_step (U' := T3.setTop (mkF m 61 #[.val (.long q0), .second, iv p1, iv p2, iv p3, iv p4, iv v12_2, iv (((p1 &&& (2147483647 : Int32)) % (2147483646 : Int32)) + (1 : Int32)), .unset, .unset, .unset, .unset, .unset, .unset, .unset, .unset, .unset, .unset, .unset] [(.int ((2147483647 : Int32) - (((p1 &&& (2147483647 : Int32)) % (2147483646 : Int32)) + (1 : Int32)))), (.int (p2 &&& (2147483647 : Int32))), (.int (((p1 &&& (2147483647 : Int32)) % (2147483646 : Int32)) + (1 : Int32)))])) (fun t k => XS.istore X3.here hx rfl (hb hby at_48) rfl (l' := #[.val (.long q0), .second, iv p1, iv p2, iv p3, iv p4, iv v12_2, iv (((p1 &&& (2147483647 : Int32)) % (2147483646 : Int32)) + (1 : Int32)), .unset, .unset, .unset, .unset, .unset, .unset, .unset, .unset, .unset, .unset, .unset]) rfl (XS.iload X3.here hx rfl (hb hby at_50) rfl (XS.iloadN X3.here hx rfl (hb hby at_52) rfl (X3.ldcInt hx hown (mvT hZ (own_w hw 0 rfl)) (g := (mkF m 53 #[.val (.long q0), .second, iv p1, iv p2, iv p3, iv p4, iv v12_2, iv (((p1 &&& (2147483647 : Int32)) % (2147483646 : Int32)) + (1 : Int32)), .unset, .unset, .unset, .unset, .unset, .unset, .unset, .unset, .unset, .unset, .unset] [(.int p2), (.int (((p1 &&& (2147483647 : Int32)) % (2147483646 : Int32)) + (1 : Int32)))])) rfl (hb hby at_53) t (XS.iand X3.here hx rfl (hb hby at_55) rfl (X3.ldcInt hx hown (mvT hZ (own_w hw 0 rfl)) (g := (mkF m 56 #[.val (.long q0), .second, iv p1, iv p2, iv p3, iv p4, iv v12_2, iv (((p1 &&& (2147483647 : Int32)) % (2147483646 : Int32)) + (1 : Int32)), .unset, .unset, .unset, .unset, .unset, .unset, .unset, .unset, .unset, .unset, .unset] [(.int (p2 &&& (2147483647 : Int32))), (.int (((p1 &&& (2147483647 : Int32)) % (2147483646 : Int32)) + (1 : Int32)))])) rfl (hb hby at_56) t (XS.iload X3.here hx rfl (hb hby at_58) rfl (XS.isub X3.here hx rfl (hb hby at_60) rfl k)))))))) ?_
      refine own_step (U' := T3.setTop (mkF m 67 #[.val (.long q0), .second, iv p1, iv p2, iv p3, iv p4, iv v12_2, iv (((p1 &&& (2147483647 : Int32)) % (2147483646 : Int32)) + (1 : Int32)), iv ((((p1 &&& (2147483647 : Int32)) % (2147483646 : Int32)) + (1 : Int32)) + ((p2 &&& (2147483647 : Int32)) % (((2147483647 : Int32) - (((p1 &&& (2147483647 : Int32)) % (2147483646 : Int32)) + (1 : Int32))) + (1 : Int32)))), .unset, .unset, .unset, .unset, .unset, .unset, .unset, .unset, .unset, .unset] [])) (fun t k => XS.iconst X3.here hx rfl (hb hby at_61) (XS.iadd X3.here hx rfl (hb hby at_62) rfl (iremM X3 hx rfl (hb hby at_63) rfl (own_nzm p1) (XS.iadd X3.here hx rfl (hb hby at_64) rfl (XS.istore X3.here hx rfl (hb hby at_65) rfl (l' := #[.val (.long q0), .second, iv p1, iv p2, iv p3, iv p4, iv v12_2, iv (((p1 &&& (2147483647 : Int32)) % (2147483646 : Int32)) + (1 : Int32)), iv ((((p1 &&& (2147483647 : Int32)) % (2147483646 : Int32)) + (1 : Int32)) + ((p2 &&& (2147483647 : Int32)) % (((2147483647 : Int32) - (((p1 &&& (2147483647 : Int32)) % (2147483646 : Int32)) + (1 : Int32))) + (1 : Int32)))), .unset, .unset, .unset, .unset, .unset, .unset, .unset, .unset, .unset, .unset]) rfl k))))) ?_
      have q_v67_5 : v67_5 = (((p1 &&& (2147483647 : Int32)) % (2147483646 : Int32)) + (1 : Int32)) := by rw [hv67_5, if_pos hc16_22]
      have q_v67_6 : v67_6 = ((((p1 &&& (2147483647 : Int32)) % (2147483646 : Int32)) + (1 : Int32)) + ((p2 &&& (2147483647 : Int32)) % (((2147483647 : Int32) - (((p1 &&& (2147483647 : Int32)) % (2147483646 : Int32)) + (1 : Int32))) + (1 : Int32)))) := by rw [hv67_6, if_pos hc16_22]
      rw [q_v67_5, q_v67_6] at K67_7
      exact K67_7 _ _ X3 N3 e3
    · refine own_step (U' := T3.setTop (mkF m 29 #[.val (.long q0), .second, iv p1, iv p2, iv p3, iv p4, iv v12_2, iv ((p1 &&& (15 : Int32)) + (1 : Int32)), .unset, .unset, .unset, .unset, .unset, .unset, .unset, .unset, .unset, .unset, .unset] [(.int ((p1 &&& (15 : Int32)) + (1 : Int32)))])) (fun t k => XS.ifNo X3.here hx rfl (hb hby at_16) rfl ((if0 _ _).trans (feq hc16_22).1) (XS.iloadN X3.here hx rfl (hb hby at_19) rfl (XS.bipush X3.here hx rfl (hb hby at_20) (XS.iand X3.here hx rfl (hb hby at_22) rfl (XS.iconst X3.here hx rfl (hb hby at_23) (XS.iadd X3.here hx rfl (hb hby at_24) rfl (XS.istore X3.here hx rfl (hb hby at_25) rfl (l' := #[.val (.long q0), .second, iv p1, iv p2, iv p3, iv p4, iv v12_2, iv ((p1 &&& (15 : Int32)) + (1 : Int32)), .unset, .unset, .unset, .unset, .unset, .unset, .unset, .unset, .unset, .unset, .unset]) rfl (XS.iload X3.here hx rfl (hb hby at_27) rfl k)))))))) ?_
      refine own_step (U' := T3.setTop (mkF m 67 #[.val (.long q0), .second, iv p1, iv p2, iv p3, iv p4, iv v12_2, iv ((p1 &&& (15 : Int32)) + (1 : Int32)), iv (((p1 &&& (15 : Int32)) + (1 : Int32)) + (p2 &&& (15 : Int32))), .unset, .unset, .unset, .unset, .unset, .unset, .unset, .unset, .unset, .unset] [])) (fun t k => XS.iloadN X3.here hx rfl (hb hby at_29) rfl (XS.bipush X3.here hx rfl (hb hby at_30) (XS.iand X3.here hx rfl (hb hby at_32) rfl (XS.iadd X3.here hx rfl (hb hby at_33) rfl (XS.istore X3.here hx rfl (hb hby at_34) rfl (l' := #[.val (.long q0), .second, iv p1, iv p2, iv p3, iv p4, iv v12_2, iv ((p1 &&& (15 : Int32)) + (1 : Int32)), iv (((p1 &&& (15 : Int32)) + (1 : Int32)) + (p2 &&& (15 : Int32))), .unset, .unset, .unset, .unset, .unset, .unset, .unset, .unset, .unset, .unset]) rfl (XS.goto X3.here hx rfl (pc0 := 36) (pc' := 67) rfl (hb hby at_36) (by decide) (by decide) k)))))) ?_
      have q_v67_5 : v67_5 = ((p1 &&& (15 : Int32)) + (1 : Int32)) := by rw [hv67_5, if_neg hc16_22]
      have q_v67_6 : v67_6 = (((p1 &&& (15 : Int32)) + (1 : Int32)) + (p2 &&& (15 : Int32))) := by rw [hv67_6, if_neg hc16_22]
      rw [q_v67_5, q_v67_6] at K67_7
      exact K67_7 _ _ X3 N3 e3
  by_cases hc4_23 : (p4 &&& (1 : Int32)) = (0 : Int32)
  · refine own_step (U' := s₁.setTop (mkF m 12 #[.val (.long q0), .second, iv p1, iv p2, iv p3, iv p4, .unset, .unset, .unset, .unset, .unset, .unset, .unset, .unset, .unset, .unset, .unset, .unset, .unset] [(.int (0 : Int32))])) (fun t k => XS.ifYes X0.here hx rfl (pc0 := 4) (pc' := 11) rfl (hb hby at_4) rfl ((if0 _ _).trans (teq hc4_23).1) (by decide) (by decide) (XS.iconst X0.here hx rfl (hb hby at_11) k)) ?_
    have q_v12_2 : v12_2 = (0 : Int32) := by rw [hv12_2, if_pos hc4_23]
    rw [q_v12_2] at K12_3
    exact K12_3 _ _ X0 N0 e0
  · refine own_step (U' := s₁.setTop (mkF m 12 #[.val (.long q0), .second, iv p1, iv p2, iv p3, iv p4, .unset, .unset, .unset, .unset, .unset, .unset, .unset, .unset, .unset, .unset, .unset, .unset, .unset] [(.int (1 : Int32))])) (fun t k => XS.ifNo X0.here hx rfl (hb hby at_4) rfl ((if0 _ _).trans (feq hc4_23).1) (XS.iconst X0.here hx rfl (hb hby at_7) (XS.goto X0.here hx rfl (pc0 := 8) (pc' := 12) rfl (hb hby at_8) (by decide) (by decide) k))) ?_
    have q_v12_2 : v12_2 = (1 : Int32) := by rw [hv12_2, if_neg hc4_23]
    rw [q_v12_2] at K12_3
    exact K12_3 _ _ X0 N0 e0
set_option maxRecDepth 65536 in
set_option maxHeartbeats 40000000 in
theorem comes_1 {Post : Tables → Env → Array Value → State → Outcome → State → Prop} (hpost : ∀ tb e args s v u, (limb_1_1.after args s (.returned v) u = true ∧ limb_1_2.after args s (.returned v) u = true ∧ True) → FrameEnd s (.returned v) u (Jvm.fieldLocs frame_1_writes args s ++ Jvm.arrayLocs frame_1_arrays args s ++ Jvm.staticLocs frame_1_statics s) 0 0 → Post tb e args s (.returned v) u) :
    ArmFor flags0 classFile x code maxLocals ret World_1 tables_1 room_1 Calls_1 rest_1 Pre_1 Post := by
  intro l hfl _ _ p e ha hc hk s m args below hf hA hF happ hP
  obtain ⟨hcalls, hrest, hpre⟩ := hP
  obtain ⟨-, -, -, hnamed, -, -, -, hat⟩ := (Spec.applies_iff hf).mp happ
  obtain ⟨hg, hn⟩ := and_e (Cond.before_iff.mp (show (Jvm.Cond.and given_1 narrow_1).before args s = true from hpre))
  obtain ⟨gc, gr0⟩ := and_e hg
  obtain ⟨ga0, gr1⟩ := and_e gr0
  obtain ⟨ga1, gr2⟩ := and_e gr1
  obtain ⟨ga2, gr3⟩ := and_e gr2
  obtain ⟨ga3, gr4⟩ := and_e gr3
  obtain ⟨w0, w1, w2, w3, w4, rfl⟩ : ∃ w0 w1 w2 w3 w4 : Value, args = #[w0, w1, w2, w3, w4] := by
    have hs : args.size = 5 := by simpa [Cond.value, given_1] using gc
    obtain ⟨L⟩ := args
    match L, hs with
    | [w0, w1, w2, w3, w4], _ => exact ⟨w0, w1, w2, w3, w4, rfl⟩
  have hw := fun d (hd : d ∈ tables_1) => atoms_spec (ws := Jvm.Cond.code x code maxLocals ret :: tables_1) hat d (List.mem_cons_of_mem _ hd)
  have hfit : Fit s := fun {y c} hc i hi => by
    obtain ⟨ha, rfl⟩ := Array.getElem?_eq_some_iff.mp hc
    have q := List.all_eq_true.mp ((Array.all_eq_true_iff_forall_mem.mp hF) _ (Array.getElem_mem ha)) i (List.mem_range.mpr hi)
    simpa [Array.getElem?_eq_getElem hi] using q
  obtain ⟨i0, ei0⟩ := isL_v ga0
  obtain rfl : w0 = (.long i0) := Option.some.inj ei0
  obtain ⟨i1, ei1⟩ := is_v ga1
  obtain rfl : w1 = (.int i1) := Option.some.inj ei1
  obtain ⟨i2, ei2⟩ := is_v ga2
  obtain rfl : w2 = (.int i2) := Option.some.inj ei2
  obtain ⟨i3, ei3⟩ := is_v ga3
  obtain rfl : w3 = (.int i3) := Option.some.inj ei3
  obtain ⟨i4, ei4⟩ := is_v gr4
  obtain rfl : w4 = (.int i4) := Option.some.inj ei4
  obtain ⟨n, o, h1, h2, h3, _, L, rfl, ⟨rfl, N⟩, hq⟩ := rm0 l s _ hw tables_1 i0 i1 i2 i3 i4  s.heap s.heap.size (Nat.le_refl _)  p e ha hc hk s m _ below hf ((Spec.applies_iff_loose hf).mp happ).1 ⟨rfl, State.Warmed39.refl s, rfl⟩ trivial
  refine ⟨n, _, h1, h2, h3, hpost _ _ _ _ _ _ ⟨Cond.after_iff.mpr rfl, Cond.after_iff.mpr (eq_i res_at (Term.int_eval (1)) rfl), trivial⟩ ⟨hq.1, hq.2.1, (hq.2.2.sift fun y hy => Or.inr (N y hy)).mono (by decide) (by decide)⟩⟩
theorem main_1_1 : Claimed_1_1 := comes_1 fun _ _ _ _ _ _ h hF => ⟨h.1, hF⟩
theorem main_1_2 : Claimed_1_2 := comes_1 fun _ _ _ _ _ _ h hF => ⟨h.2.1, hF⟩
end Jvm.Pilot.@@N@@
namespace Jvm.Pilot.@@N@@
open Jvm Jvm.ClassFile Sem Op Lib Jvm.Free Jvm.Stand Jvm.Pilot.@@N@@.Jvm.D
/-! MADE BY PROGRAM (witnessworld.py) out of the Statement's table words and the real class files: 16 classes; the members and pool entries that the words name. The judged class is class 1, her method 1. -/
namespace start1
open Jvm.ClassFile
def u (s : String) : CpInfo := .utf8 (stringToUtf16 s)
/-- a pool by its gaps: so many unusable entries, then the entry; so many at the end -/
def gap : Nat → List CpInfo → List CpInfo
  | 0, r => r
  | n + 1, r => .unusable :: gap n r
def poolList (es : List (Nat × CpInfo)) (last : Nat) : List CpInfo := es.foldr (fun e r => gap e.1 (e.2 :: r)) (gap last [])
def pool (es : List (Nat × CpInfo)) (last : Nat) : Array CpInfo := ⟨poolList es last⟩
def fileOf (pool : Array CpInfo) (this : Nat) (attrs : Array Attribute := #[]) (ms : Array MethodInfo := #[]) (fl : Nat := 33) (sup : Nat := 0) (ifs : Array Nat := #[]) (fds : Array FieldInfo := #[]) : ClassFile where
  minorVersion := 0
  majorVersion := 65
  constantPool := pool
  accessFlags := fl
  thisClass := this
  superClass := sup
  interfaces := ifs
  fields := fds
  methods := ms
  attributes := attrs
def plain (name : String) (sup : Option ClassId) : Class where
  name := name
  kind := .ordinary
  loader := none
  accessFlags := 33
  super := sup
  interfaces := #[]
  cf := none
  fields := #[]
  methods := #[]
  instanceTypes := #[]
  staticTypes := #[]
  resolved := #[]
  callSites := []
  init := .initialized
  statics := none
  mirror := none

def pool0 : Array CpInfo := pool [(5, u "<init>"), (0, u "()V"), (1, .class_ 10), (1, u "java/lang/Object")] 113

def k0m0 : Method := { name := "<init>", desc := "()V", sig := { parameters := [], returnType := none }, accessFlags := 1, code := none }
/-- java/lang/Object -/
def k0 : Class := { plain "java/lang/Object" none with
  accessFlags := 33
  interfaces := #[]
  cf := some (fileOf pool0 8 #[] #[{ accessFlags := 1, nameIndex := 5, descriptorIndex := 6, attributes := #[] }] 33 0 #[] #[])
  fields := #[]
  methods := #[k0m0]
  instanceTypes := #[]
  staticTypes := #[]
  resolved := Array.replicate 124 none
  statics := none }

def pool1 : Array CpInfo := pool [(2, .class_ 4), (1, u "java/lang/Object"), (0, u "<init>"), (0, u "()V"), (0, .integer 2147483647), (0, .integer 2147483646), (0, .methodref 10 11), (0, .class_ 12), (0, .nameAndType 13 14), (0, u "com/example/which_bucket/whichbucket/WhichBucket"), (0, u "jumpBackHash"), (0, u "(JI)I"), (0, .methodref 16 17), (0, .class_ 18), (0, .nameAndType 19 20), (0, u "com/example/which_bucket/whichbucket/SplitMix64"), (0, u "draw"), (0, u "(JJ)J"), (0, .class_ 22), (0, u "com/example/which_bucket/whichbucket/WhichBucketJumpBackHashPinLaw"), (2, u "law"), (0, u "(JIIII)Z")] 3

def k1m0 : Method := { name := "<init>", desc := "()V", sig := { parameters := [], returnType := none }, accessFlags := 1, code := none }
def k1c1 : Code := { maxStack := 4, maxLocals := 19, code := code, exceptionTable := #[], attributes := #[] }
def k1m1 : Method := { name := "law", desc := "(JIIII)Z", sig := { parameters := [.long, .int, .int, .int, .int], returnType := some .boolean }, accessFlags := 9, code := some k1c1 }
/-- com/example/which_bucket/whichbucket/WhichBucketJumpBackHashPinLaw -/
def k1 : Class := { plain "com/example/which_bucket/whichbucket/WhichBucketJumpBackHashPinLaw" (some 0) with
  accessFlags := 49
  interfaces := #[]
  cf := some (fileOf pool1 21 #[] #[{ accessFlags := 1, nameIndex := 5, descriptorIndex := 6, attributes := #[] }, { accessFlags := 9, nameIndex := 25, descriptorIndex := 26, attributes := #[] }] 49 2 #[] #[])
  fields := #[]
  methods := #[k1m0, k1m1]
  instanceTypes := #[]
  staticTypes := #[]
  resolved := Array.replicate 30 none
  statics := none }

def pool2 : Array CpInfo := pool [(2, .class_ 4), (1, u "java/lang/Object"), (0, u "<init>"), (0, u "()V"), (0, .methodref 8 9), (0, .class_ 10), (0, .nameAndType 11 12), (0, u "com/example/which_bucket/whichbucket/WhichBucket"), (0, u "requireBucketCount"), (0, u "(I)V"), (0, .methodref 8 14), (0, .nameAndType 15 16), (0, u "jumpBackHashOfSeveral"), (0, u "(JILcom/example/which_bucket/whichbucket/RandomSource;)I"), (14, .methodref 8 32), (0, .nameAndType 33 34), (0, u "draw"), (0, u "(JJLcom/example/which_bucket/whichbucket/RandomSource;)J"), (0, .methodref 36 37), (0, .class_ 38), (0, .nameAndType 39 40), (0, u "java/lang/Integer"), (0, u "numberOfLeadingZeros"), (0, u "(I)I"), (0, .methodref 36 42), (0, .nameAndType 43 40), (0, u "highestOneBit"), (0, .methodref 36 45), (0, .nameAndType 46 40), (0, u "bitCount"), (0, .long 64), (14, .methodref 63 64), (0, .class_ 65), (0, .nameAndType 33 66), (0, u "com/example/which_bucket/whichbucket/SplitMix64"), (0, u "(JJ)J"), (76, u "MAX_SOURCE_DRAWS"), (0, u "I"), (2, u "JUMP_HASH_MULTIPLIER"), (0, u "J"), (0, u "TWO_TO_THE_31"), (0, u "D"), (2, u "jumpBackHash"), (0, u "(JI)I")] 22

def k2m0 : Method := { name := "<init>", desc := "()V", sig := { parameters := [], returnType := none }, accessFlags := 2, code := none }
def k2c1 : Code := { maxStack := 4, maxLocals := 4, code := prog_4_method_2_code, exceptionTable := #[], attributes := #[] }
def k2m1 : Method := { name := "jumpBackHash", desc := "(JI)I", sig := { parameters := [.long, .int], returnType := some .int }, accessFlags := 9, code := some k2c1 }
def k2c2 : Code := { maxStack := 5, maxLocals := 17, code := prog_4_method_4_code, exceptionTable := #[], attributes := #[] }
def k2m2 : Method := { name := "jumpBackHashOfSeveral", desc := "(JILcom/example/which_bucket/whichbucket/RandomSource;)I", sig := { parameters := [.long, .int, (.object "com/example/which_bucket/whichbucket/RandomSource")], returnType := some .int }, accessFlags := 10, code := some k2c2 }
def k2c3 : Code := { maxStack := 4, maxLocals := 5, code := prog_4_method_6_code, exceptionTable := #[], attributes := #[] }
def k2m3 : Method := { name := "draw", desc := "(JJLcom/example/which_bucket/whichbucket/RandomSource;)J", sig := { parameters := [.long, .long, (.object "com/example/which_bucket/whichbucket/RandomSource")], returnType := some .long }, accessFlags := 10, code := some k2c3 }
def k2c4 : Code := { maxStack := 3, maxLocals := 1, code := prog_4_method_8_code, exceptionTable := #[], attributes := #[] }
def k2m4 : Method := { name := "requireBucketCount", desc := "(I)V", sig := { parameters := [.int], returnType := none }, accessFlags := 10, code := some k2c4 }
/-- com/example/which_bucket/whichbucket/WhichBucket -/
def k2 : Class := { plain "com/example/which_bucket/whichbucket/WhichBucket" (some 0) with
  accessFlags := 33
  interfaces := #[]
  cf := some (fileOf pool2 8 #[] #[{ accessFlags := 2, nameIndex := 5, descriptorIndex := 6, attributes := #[] }, { accessFlags := 9, nameIndex := 153, descriptorIndex := 154, attributes := #[] }, { accessFlags := 10, nameIndex := 15, descriptorIndex := 16, attributes := #[] }, { accessFlags := 10, nameIndex := 33, descriptorIndex := 34, attributes := #[] }, { accessFlags := 10, nameIndex := 11, descriptorIndex := 12, attributes := #[] }] 33 2 #[] #[{ accessFlags := 26, nameIndex := 143, descriptorIndex := 144, attributes := #[] }, { accessFlags := 26, nameIndex := 147, descriptorIndex := 148, attributes := #[] }, { accessFlags := 26, nameIndex := 149, descriptorIndex := 150, attributes := #[] }])
  fields := #[{ name := "MAX_SOURCE_DRAWS", type := .int, accessFlags := 26, slot := 0, constantValue := 0 }, { name := "JUMP_HASH_MULTIPLIER", type := .long, accessFlags := 26, slot := 1, constantValue := 0 }, { name := "TWO_TO_THE_31", type := .double, accessFlags := 26, slot := 2, constantValue := 0 }]
  methods := #[k2m0, k2m1, k2m2, k2m3, k2m4]
  instanceTypes := #[]
  staticTypes := #[.int, .long, .double]
  resolved := Array.replicate 177 none
  statics := none }

def pool3 : Array CpInfo := pool [(7, .class_ 8), (0, u "com/example/which_bucket/whichbucket/RandomSource"), (0, .class_ 10), (0, u "java/lang/Object")] 10

/-- com/example/which_bucket/whichbucket/RandomSource -/
def k3 : Class := { plain "com/example/which_bucket/whichbucket/RandomSource" (some 0) with
  accessFlags := 1537
  interfaces := #[]
  cf := some (fileOf pool3 7 #[] #[] 1537 9 #[] #[])
  fields := #[]
  methods := #[]
  instanceTypes := #[]
  staticTypes := #[]
  resolved := Array.replicate 21 none
  statics := none }

def pool4 : Array CpInfo := pool [(2, .class_ 4), (1, u "java/lang/Object"), (0, u "<init>"), (0, u "()V"), (1, .class_ 10), (1, u "com/example/which_bucket/whichbucket/SplitMix64"), (0, u "state"), (0, u "J"), (0, .long 11400714819323198485), (1, .methodref 8 16), (0, .nameAndType 17 18), (0, u "mix"), (0, u "(J)J"), (0, .long 13787848793156543929), (1, .long 10723151780598845931), (1, .class_ 24), (0, u "com/example/which_bucket/whichbucket/RandomSource"), (0, u "GAMMA"), (7, u "draw"), (0, u "(JJ)J")] 2

def k4m0 : Method := { name := "<init>", desc := "()V", sig := { parameters := [], returnType := none }, accessFlags := 0, code := none }
def k4c1 : Code := { maxStack := 6, maxLocals := 4, code := prog_3_method_4_code, exceptionTable := #[], attributes := #[] }
def k4m1 : Method := { name := "draw", desc := "(JJ)J", sig := { parameters := [.long, .long], returnType := some .long }, accessFlags := 8, code := some k4c1 }
def k4c2 : Code := { maxStack := 5, maxLocals := 4, code := prog_3_method_5_code, exceptionTable := #[], attributes := #[] }
def k4m2 : Method := { name := "mix", desc := "(J)J", sig := { parameters := [.long], returnType := some .long }, accessFlags := 10, code := some k4c2 }
/-- com/example/which_bucket/whichbucket/SplitMix64 -/
def k4 : Class := { plain "com/example/which_bucket/whichbucket/SplitMix64" (some 0) with
  accessFlags := 32
  interfaces := #[3]
  cf := some (fileOf pool4 8 #[] #[{ accessFlags := 0, nameIndex := 5, descriptorIndex := 6, attributes := #[] }, { accessFlags := 8, nameIndex := 33, descriptorIndex := 34, attributes := #[] }, { accessFlags := 10, nameIndex := 17, descriptorIndex := 18, attributes := #[] }] 32 2 #[23] #[{ accessFlags := 26, nameIndex := 25, descriptorIndex := 12, attributes := #[] }, { accessFlags := 2, nameIndex := 11, descriptorIndex := 12, attributes := #[] }])
  fields := #[{ name := "GAMMA", type := .long, accessFlags := 26, slot := 0, constantValue := 0 }, { name := "state", type := .long, accessFlags := 2, slot := 0, constantValue := 0 }]
  methods := #[k4m0, k4m1, k4m2]
  instanceTypes := #[.long]
  staticTypes := #[.long]
  resolved := Array.replicate 37 none
  statics := none }

def pool5 : Array CpInfo := pool [(1, .class_ 2), (0, u "java/io/Serializable"), (0, .class_ 4), (0, u "java/lang/Object")] 2

/-- java/io/Serializable -/
def k5 : Class := { plain "java/io/Serializable" (some 0) with
  accessFlags := 1537
  interfaces := #[]
  cf := some (fileOf pool5 1 #[] #[] 1537 3 #[] #[])
  fields := #[]
  methods := #[]
  instanceTypes := #[]
  staticTypes := #[]
  resolved := Array.replicate 7 none
  statics := none }

def pool6 : Array CpInfo := pool [(2, .class_ 4), (1, u "java/lang/Object"), (0, u "<init>"), (0, u "()V"), (1, .class_ 10), (1, u "java/lang/Number"), (2, .class_ 14), (0, u "java/io/Serializable"), (0, u "serialVersionUID"), (0, u "J")] 20

def k6m0 : Method := { name := "<init>", desc := "()V", sig := { parameters := [], returnType := none }, accessFlags := 1, code := none }
/-- java/lang/Number -/
def k6 : Class := { plain "java/lang/Number" (some 0) with
  accessFlags := 1057
  interfaces := #[5]
  cf := some (fileOf pool6 8 #[] #[{ accessFlags := 1, nameIndex := 5, descriptorIndex := 6, attributes := #[] }] 1057 2 #[13] #[{ accessFlags := 26, nameIndex := 15, descriptorIndex := 16, attributes := #[] }])
  fields := #[{ name := "serialVersionUID", type := .long, accessFlags := 26, slot := 0, constantValue := 0 }]
  methods := #[k6m0]
  instanceTypes := #[]
  staticTypes := #[.long]
  resolved := Array.replicate 37 none
  statics := none }

def pool7 : Array CpInfo := pool [(1, .class_ 2), (0, u "java/lang/Comparable"), (0, .class_ 4), (0, u "java/lang/Object")] 7

/-- java/lang/Comparable -/
def k7 : Class := { plain "java/lang/Comparable" (some 0) with
  accessFlags := 1537
  interfaces := #[]
  cf := some (fileOf pool7 1 #[] #[] 1537 3 #[] #[])
  fields := #[]
  methods := #[]
  instanceTypes := #[]
  staticTypes := #[]
  resolved := Array.replicate 12 none
  statics := none }

def pool8 : Array CpInfo := pool [(1, .class_ 2), (0, u "java/lang/constant/Constable"), (0, .class_ 4), (0, u "java/lang/Object")] 6

/-- java/lang/constant/Constable -/
def k8 : Class := { plain "java/lang/constant/Constable" (some 0) with
  accessFlags := 1537
  interfaces := #[]
  cf := some (fileOf pool8 1 #[] #[] 1537 3 #[] #[])
  fields := #[]
  methods := #[]
  instanceTypes := #[]
  staticTypes := #[]
  resolved := Array.replicate 11 none
  statics := none }

def pool9 : Array CpInfo := pool [(1, .class_ 2), (0, u "java/lang/constant/ConstantDesc"), (0, .class_ 4), (0, u "java/lang/Object")] 32

/-- java/lang/constant/ConstantDesc -/
def k9 : Class := { plain "java/lang/constant/ConstantDesc" (some 0) with
  accessFlags := 1537
  interfaces := #[]
  cf := some (fileOf pool9 1 #[] #[] 1537 3 #[] #[])
  fields := #[]
  methods := #[]
  instanceTypes := #[]
  staticTypes := #[]
  resolved := Array.replicate 37 none
  statics := none }

def pool10 : Array CpInfo := pool [(1, .class_ 2), (0, u "java/lang/Integer"), (16, u "digits"), (0, u "[C"), (30, .methodref 1 52), (0, .nameAndType 53 54), (0, u "numberOfLeadingZeros"), (0, u "(I)I"), (30, u "DigitOnes"), (0, u "[B"), (2, u "DigitTens"), (37, .integer 2147483648), (61, .class_ 190), (0, u "java/lang/Integer$IntegerCache"), (3, u "I"), (8, .class_ 204), (0, u "java/lang/Number"), (2, u "value"), (56, .integer 65536), (0, .integer 1431655765), (0, .integer 858993459), (0, .integer 252645135), (34, u "TYPE"), (0, u "Ljava/lang/Class;"), (0, .class_ 305), (0, u "java/lang/Comparable"), (0, .class_ 307), (0, u "java/lang/constant/Constable"), (0, .class_ 309), (0, u "java/lang/constant/ConstantDesc"), (0, u "MIN_VALUE"), (1, u "MAX_VALUE"), (3, u "SIZE"), (1, u "BYTES"), (1, u "serialVersionUID"), (0, u "J"), (81, u "highestOneBit"), (3, u "bitCount")] 45

def k10c0 : Code := { maxStack := 3, maxLocals := 1, code := jdk_33_method_45_code, exceptionTable := #[], attributes := #[] }
def k10m0 : Method := { name := "highestOneBit", desc := "(I)I", sig := { parameters := [.int], returnType := some .int }, accessFlags := 9, code := some k10c0 }
def k10c1 : Code := { maxStack := 3, maxLocals := 2, code := jdk_33_method_47_code, exceptionTable := #[], attributes := #[] }
def k10m1 : Method := { name := "numberOfLeadingZeros", desc := "(I)I", sig := { parameters := [.int], returnType := some .int }, accessFlags := 9, code := some k10c1 }
def k10c2 : Code := { maxStack := 3, maxLocals := 1, code := jdk_33_method_49_code, exceptionTable := #[], attributes := #[] }
def k10m2 : Method := { name := "bitCount", desc := "(I)I", sig := { parameters := [.int], returnType := some .int }, accessFlags := 9, code := some k10c2 }
/-- java/lang/Integer -/
def k10 : Class := { plain "java/lang/Integer" (some 6) with
  accessFlags := 49
  interfaces := #[7, 8, 9]
  cf := some (fileOf pool10 1 #[.nestMembers #[189]] #[{ accessFlags := 9, nameIndex := 403, descriptorIndex := 54, attributes := #[] }, { accessFlags := 9, nameIndex := 53, descriptorIndex := 54, attributes := #[] }, { accessFlags := 9, nameIndex := 407, descriptorIndex := 54, attributes := #[] }] 49 203 #[304, 306, 308] #[{ accessFlags := 25, nameIndex := 310, descriptorIndex := 194, attributes := #[] }, { accessFlags := 25, nameIndex := 312, descriptorIndex := 194, attributes := #[] }, { accessFlags := 25, nameIndex := 302, descriptorIndex := 303, attributes := #[] }, { accessFlags := 24, nameIndex := 19, descriptorIndex := 20, attributes := #[] }, { accessFlags := 24, nameIndex := 89, descriptorIndex := 86, attributes := #[] }, { accessFlags := 24, nameIndex := 85, descriptorIndex := 86, attributes := #[] }, { accessFlags := 18, nameIndex := 207, descriptorIndex := 194, attributes := #[] }, { accessFlags := 25, nameIndex := 316, descriptorIndex := 194, attributes := #[] }, { accessFlags := 25, nameIndex := 318, descriptorIndex := 194, attributes := #[] }, { accessFlags := 26, nameIndex := 320, descriptorIndex := 321, attributes := #[] }])
  fields := #[{ name := "MIN_VALUE", type := .int, accessFlags := 25, slot := 0, constantValue := 0 }, { name := "MAX_VALUE", type := .int, accessFlags := 25, slot := 1, constantValue := 0 }, { name := "TYPE", type := (.object "java/lang/Class"), accessFlags := 25, slot := 2, constantValue := 0 }, { name := "digits", type := (.array .char), accessFlags := 24, slot := 3, constantValue := 0 }, { name := "DigitTens", type := (.array .byte), accessFlags := 24, slot := 4, constantValue := 0 }, { name := "DigitOnes", type := (.array .byte), accessFlags := 24, slot := 5, constantValue := 0 }, { name := "value", type := .int, accessFlags := 18, slot := 0, constantValue := 0 }, { name := "SIZE", type := .int, accessFlags := 25, slot := 6, constantValue := 0 }, { name := "BYTES", type := .int, accessFlags := 25, slot := 7, constantValue := 0 }, { name := "serialVersionUID", type := .long, accessFlags := 26, slot := 8, constantValue := 0 }]
  methods := #[k10m0, k10m1, k10m2]
  instanceTypes := #[.int]
  staticTypes := #[.int, .int, (.object "java/lang/Class"), (.array .char), (.array .byte), (.array .byte), .int, .int, .long]
  resolved := Array.replicate 453 none
  statics := none }

def pool11 : Array CpInfo := pool [(1, u "java/lang/Cloneable"), (0, .class_ 1), (0, u "java/lang/Object"), (0, .class_ 3)] 3

/-- java/lang/Cloneable -/
def k11 : Class := { plain "java/lang/Cloneable" (some 0) with
  accessFlags := 1537
  interfaces := #[]
  cf := some (fileOf pool11 2 #[] #[] 1537 4 #[] #[])
  fields := #[]
  methods := #[]
  instanceTypes := #[]
  staticTypes := #[]
  resolved := Array.replicate 8 none
  statics := none }

/-- the primitive byte -/
def k12 : Class := { plain "byte" none with kind := .primitive 'B', accessFlags := 0x411 }
/-- [B -/
def k13 : Class := { plain "[B" (some 0) with kind := .array 12 .byte, interfaces := #[11, 5], accessFlags := 1041 }

/-- the primitive int -/
def k14 : Class := { plain "int" none with kind := .primitive 'I', accessFlags := 0x411 }
/-- [I -/
def k15 : Class := { plain "[I" (some 0) with kind := .array 14 .int, interfaces := #[11, 5], accessFlags := 1041 }

def heap : Heap := #[]
def classes : Array Class := #[k0, k1, k2, k3, k4, k5, k6, k7, k8, k9, k10, k11, k12, k13, k14, k15]
def interned : List (Array UInt16 × Addr) := []
def slotsUsed : Nat := 0
def theMethod : MethodId := ⟨1, 1⟩
def args0 : Array Value := #[.long 5, .int 6, .int 7, .int 8, .int 9]
def aboutOver (below : List Frame) : State where
  vm := { classes := classes, interned := interned.toArray }
  heap := heap
  slotsUsed := slotsUsed
  threads := #[{ frames := .invoking theMethod args0 :: below }]
def below0 : List Frame := [.native { method := ⟨0, 0⟩, args := #[] }]
def about1 : State := aboutOver below0
def p0 : Program := .bare "" "" ""
def e0 : Env := launch0.env 0 0 0
theorem w_frames : about1.frames = Frame.invoking theMethod args0 :: below0 := rfl
set_option maxRecDepth 65536 in
theorem w_args : argsFit about1.vm theMethod args0 = true := by decide +kernel
set_option maxRecDepth 65536 in
theorem w_heap : heapFits about1 = true := by decide +kernel
set_option maxRecDepth 65536 in
theorem w_runnable : about1.curStatus? = some .runnable := by decide +kernel
set_option maxRecDepth 65536 in
theorem w_alone : about1.alone = true := by decide +kernel
set_option maxRecDepth 65536 in
theorem w_named : about1.methodNamed? x = some theMethod := by decide +kernel
set_option maxRecDepth 65536 in
theorem w_hears : about1.hears theMethod below0 = true := by decide +kernel
set_option maxRecDepth 65536 in
theorem w_ripe : about1.ripe theMethod args0 below0 = true := by decide +kernel
theorem w_running : about1.status = .running := rfl
set_option maxRecDepth 65536 in
theorem w_room : about1.hasRoom e0.platform room_1 = true :=
  launch0.hasRoom_least _ room_1 (by decide +kernel) (by decide +kernel) (by decide +kernel) (by decide +kernel) (by decide +kernel) (by decide +kernel)
theorem allAtoms_all (ts : List Jvm.Cond) (a : Array Jvm.Value) (st : Jvm.State) : (allAtoms ts).before a st = ts.all (fun c => c.before a st) := by
  induction ts with
  | nil => rfl
  | cons c t ih =>
    show (Jvm.Cond.and c (allAtoms t)).before a st = _
    rw [Jvm.Cond.before_and, ih, List.all_cons]
def words1 : List Jvm.Cond := Jvm.Cond.code x code maxLocals ret :: tables_1
/-- a 'code' word, met by the world's own term for the bytes: nothing is compared byte by byte -/
theorem code_word {y : MethodName} {bytes : ByteArray} {mx : Nat} {rt : Option FieldType} {a : Array Value} {s : State} {m : MethodId} {meth : Method} {c : Code} (h1 : s.methodNamed? y = some m) (h2 : s.vm.method? m = some meth) (h3 : meth.code = some c) (h4 : c.code = bytes)
    (h5 : (c.maxLocals == mx && c.exceptionTable.isEmpty && decide (c.maxStack ≤ mostOperands) && decide (meth.sig.returnType = rt) && !meth.locks && decide (parseMethodDescriptor y.desc = some meth.sig)) = true) : (Jvm.Cond.code y bytes mx rt).before a s = true := by
  simp only [Bool.and_eq_true, beq_iff_eq, Bool.not_eq_true', decide_eq_true_eq] at h5
  obtain ⟨⟨⟨⟨⟨g1, g2⟩, g3⟩, g4⟩, g5⟩, g6⟩ := h5
  simp [Cond.before, Cond.holds, Cond.value, h1, h2, h3, h4, g1, g2, g3, g4, g5, g6]
def isCode : Jvm.Cond → Bool
  | .code _ _ _ _ => true
  | _ => false
theorem all_split {L : List Jvm.Cond} {P : Jvm.Cond → Bool} (h1 : L.all (fun c => isCode c || P c) = true) (h2 : ∀ c ∈ L.filter isCode, P c = true) : L.all P = true := by
  refine List.all_eq_true.mpr fun c hc => ?_
  have h := List.all_eq_true.mp h1 c hc
  rcases Bool.eq_false_or_eq_true (isCode c) with hi | hi
  · exact h2 c (List.mem_filter.mpr ⟨hc, hi⟩)
  · simpa [hi] using h
set_option maxRecDepth 65536 in
theorem w_c0 : (Jvm.Cond.code x code maxLocals ret).before args0 about1 = true := code_word (m := ⟨1, 1⟩) (meth := k1m1) (c := k1c1) (by decide +kernel) rfl rfl rfl (by decide +kernel)
set_option maxRecDepth 65536 in
theorem w_c1 : (Jvm.Cond.code ({ cls := "com/example/which_bucket/whichbucket/WhichBucket", name := "jumpBackHash", desc := "(JI)I" } : Jvm.MethodName) prog_4_method_2_code (4 : Nat) (Option.some Jvm.ClassFile.FieldType.int)).before args0 about1 = true := code_word (m := ⟨2, 1⟩) (meth := k2m1) (c := k2c1) (by decide +kernel) rfl rfl rfl (by decide +kernel)
set_option maxRecDepth 65536 in
theorem w_c2 : (Jvm.Cond.code ({ cls := "com/example/which_bucket/whichbucket/WhichBucket", name := "requireBucketCount", desc := "(I)V" } : Jvm.MethodName) prog_4_method_8_code (1 : Nat) (Option.none : Option Jvm.ClassFile.FieldType)).before args0 about1 = true := code_word (m := ⟨2, 4⟩) (meth := k2m4) (c := k2c4) (by decide +kernel) rfl rfl rfl (by decide +kernel)
set_option maxRecDepth 65536 in
theorem w_c3 : (Jvm.Cond.code ({ cls := "com/example/which_bucket/whichbucket/WhichBucket", name := "jumpBackHashOfSeveral", desc := "(JILcom/example/which_bucket/whichbucket/RandomSource;)I" } : Jvm.MethodName) prog_4_method_4_code (17 : Nat) (Option.some Jvm.ClassFile.FieldType.int)).before args0 about1 = true := code_word (m := ⟨2, 2⟩) (meth := k2m2) (c := k2c2) (by decide +kernel) rfl rfl rfl (by decide +kernel)
set_option maxRecDepth 65536 in
theorem w_c4 : (Jvm.Cond.code ({ cls := "com/example/which_bucket/whichbucket/WhichBucket", name := "draw", desc := "(JJLcom/example/which_bucket/whichbucket/RandomSource;)J" } : Jvm.MethodName) prog_4_method_6_code (5 : Nat) (Option.some Jvm.ClassFile.FieldType.long)).before args0 about1 = true := code_word (m := ⟨2, 3⟩) (meth := k2m3) (c := k2c3) (by decide +kernel) rfl rfl rfl (by decide +kernel)
set_option maxRecDepth 65536 in
theorem w_c5 : (Jvm.Cond.code ({ cls := "com/example/which_bucket/whichbucket/SplitMix64", name := "draw", desc := "(JJ)J" } : Jvm.MethodName) prog_3_method_4_code (4 : Nat) (Option.some Jvm.ClassFile.FieldType.long)).before args0 about1 = true := code_word (m := ⟨4, 1⟩) (meth := k4m1) (c := k4c1) (by decide +kernel) rfl rfl rfl (by decide +kernel)
set_option maxRecDepth 65536 in
theorem w_c6 : (Jvm.Cond.code ({ cls := "com/example/which_bucket/whichbucket/SplitMix64", name := "mix", desc := "(J)J" } : Jvm.MethodName) prog_3_method_5_code (4 : Nat) (Option.some Jvm.ClassFile.FieldType.long)).before args0 about1 = true := code_word (m := ⟨4, 2⟩) (meth := k4m2) (c := k4c2) (by decide +kernel) rfl rfl rfl (by decide +kernel)
set_option maxRecDepth 65536 in
theorem w_c7 : (Jvm.Cond.code ({ cls := "java/lang/Integer", name := "numberOfLeadingZeros", desc := "(I)I" } : Jvm.MethodName) jdk_33_method_47_code (2 : Nat) (Option.some Jvm.ClassFile.FieldType.int)).before args0 about1 = true := code_word (m := ⟨10, 1⟩) (meth := k10m1) (c := k10c1) (by decide +kernel) rfl rfl rfl (by decide +kernel)
set_option maxRecDepth 65536 in
theorem w_c8 : (Jvm.Cond.code ({ cls := "java/lang/Integer", name := "highestOneBit", desc := "(I)I" } : Jvm.MethodName) jdk_33_method_45_code (1 : Nat) (Option.some Jvm.ClassFile.FieldType.int)).before args0 about1 = true := code_word (m := ⟨10, 0⟩) (meth := k10m0) (c := k10c0) (by decide +kernel) rfl rfl rfl (by decide +kernel)
set_option maxRecDepth 65536 in
theorem w_c9 : (Jvm.Cond.code ({ cls := "java/lang/Integer", name := "bitCount", desc := "(I)I" } : Jvm.MethodName) jdk_33_method_49_code (1 : Nat) (Option.some Jvm.ClassFile.FieldType.int)).before args0 about1 = true := code_word (m := ⟨10, 2⟩) (meth := k10m2) (c := k10c2) (by decide +kernel) rfl rfl rfl (by decide +kernel)
def codes1 : List Jvm.Cond := [Jvm.Cond.code x code maxLocals ret, Jvm.Cond.code ({ cls := "com/example/which_bucket/whichbucket/WhichBucket", name := "jumpBackHash", desc := "(JI)I" } : Jvm.MethodName) prog_4_method_2_code (4 : Nat) (Option.some Jvm.ClassFile.FieldType.int), Jvm.Cond.code ({ cls := "com/example/which_bucket/whichbucket/WhichBucket", name := "requireBucketCount", desc := "(I)V" } : Jvm.MethodName) prog_4_method_8_code (1 : Nat) (Option.none : Option Jvm.ClassFile.FieldType), Jvm.Cond.code ({ cls := "com/example/which_bucket/whichbucket/WhichBucket", name := "jumpBackHashOfSeveral", desc := "(JILcom/example/which_bucket/whichbucket/RandomSource;)I" } : Jvm.MethodName) prog_4_method_4_code (17 : Nat) (Option.some Jvm.ClassFile.FieldType.int), Jvm.Cond.code ({ cls := "com/example/which_bucket/whichbucket/WhichBucket", name := "draw", desc := "(JJLcom/example/which_bucket/whichbucket/RandomSource;)J" } : Jvm.MethodName) prog_4_method_6_code (5 : Nat) (Option.some Jvm.ClassFile.FieldType.long), Jvm.Cond.code ({ cls := "com/example/which_bucket/whichbucket/SplitMix64", name := "draw", desc := "(JJ)J" } : Jvm.MethodName) prog_3_method_4_code (4 : Nat) (Option.some Jvm.ClassFile.FieldType.long), Jvm.Cond.code ({ cls := "com/example/which_bucket/whichbucket/SplitMix64", name := "mix", desc := "(J)J" } : Jvm.MethodName) prog_3_method_5_code (4 : Nat) (Option.some Jvm.ClassFile.FieldType.long), Jvm.Cond.code ({ cls := "java/lang/Integer", name := "numberOfLeadingZeros", desc := "(I)I" } : Jvm.MethodName) jdk_33_method_47_code (2 : Nat) (Option.some Jvm.ClassFile.FieldType.int), Jvm.Cond.code ({ cls := "java/lang/Integer", name := "highestOneBit", desc := "(I)I" } : Jvm.MethodName) jdk_33_method_45_code (1 : Nat) (Option.some Jvm.ClassFile.FieldType.int), Jvm.Cond.code ({ cls := "java/lang/Integer", name := "bitCount", desc := "(I)I" } : Jvm.MethodName) jdk_33_method_49_code (1 : Nat) (Option.some Jvm.ClassFile.FieldType.int)]
set_option maxRecDepth 65536 in
theorem codes_eq : words1.filter isCode = codes1 := rfl
theorem w_codes : ∀ c ∈ words1.filter isCode, c.before args0 about1 = true := by
  rw [codes_eq]
  intro c hc
  simp only [codes1, List.mem_cons, List.not_mem_nil, or_false] at hc
  rcases hc with rfl | rfl | rfl | rfl | rfl | rfl | rfl | rfl | rfl | rfl
  · exact w_c0
  · exact w_c1
  · exact w_c2
  · exact w_c3
  · exact w_c4
  · exact w_c5
  · exact w_c6
  · exact w_c7
  · exact w_c8
  · exact w_c9
set_option maxRecDepth 65536 in
theorem w_t1 : (words1.take 24).all (fun c => isCode c || c.before args0 about1) = true := by decide +kernel
set_option maxRecDepth 65536 in
theorem w_t2 : (words1.drop 24).all (fun c => isCode c || c.before args0 about1) = true := by decide +kernel
theorem w_tables : (allAtoms (Jvm.Cond.code x code maxLocals ret :: tables_1)).before args0 about1 = true := by
  rw [allAtoms_all]
  show words1.all (fun c => c.before args0 about1) = true
  refine all_split ?_ w_codes
  rw [← List.take_append_drop 24 words1, List.all_append, w_t1, w_t2]
  rfl
set_option maxRecDepth 65536 in
theorem w_case : (Jvm.Cond.and given_1 narrow_1).before args0 about1 = true := by decide +kernel
theorem w_applies : (headSpec (Jvm.Cond.code x code maxLocals ret :: tables_1) room_1).applies x e0.platform about1 = true :=
  (Spec.applies_iff w_frames).mpr ⟨w_running, w_runnable, w_alone, w_named, w_hears, w_ripe, w_room, w_tables⟩
theorem atStart : AtStart classFile x code maxLocals ret World_1 tables_1 room_1 Calls_1 rest_1 Pre_1 launch0 p0 e0 about1 theMethod args0 below0 :=
  ⟨lists_1, trivial, launch0.admits_env _ _ _, launch0.least_env, fairChoices_fair.cas, fairChoices_fair.clock, w_frames, w_args, w_heap, w_applies, trivial, trivial, w_case⟩
end start1
theorem witness_1 : WitnessClaimed_1 := ⟨start1.p0, start1.e0, start1.about1, start1.theMethod, start1.args0, start1.below0, start1.atStart⟩
end Jvm.Pilot.@@N@@
