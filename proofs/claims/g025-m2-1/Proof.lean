import JvmDerived
import JvmDerived.Pilot.@@N@@Statement
import JvmDerived.Pilot.@@N@@Code
set_option linter.unusedVariables false
set_option linter.unusedSimpArgs false
namespace Jvm.RoadKit
open Sem ClassFile Op Lib Jvm.Stand Jvm.Free Jvm.LawKit
section New
variable {p : Program} {l : Launch} {e : Env} {R : Room} {s : State} {m : MethodId} {args : Array Value} {below : List Frame} {meth : Method} {c : Code} {T : State} {locs : List Loc} {cells slots : Nat}
theorem retI (X : Stand p l e R s m args below meth c T locs cells slots) (hx : p.tables.exec = Jvm.exec) {pc : Nat} {Ls : Array Slot} {z : Int32} {rest : List Value} (hret : meth.sig.returnType = some .int) (hd : decode c.code pc = .ok (.ireturn, 1)) {fs : List Frame}
    (hl : ∀ (f : JFrame) (acts : List Action), f.method = m → f.locked = none → f.entered = [] → (doReturn e (T.setTop f) acts (some (.int z))).1 = T.setFrames fs) : Steps p.tables e below (T.setTop (mkF m pc Ls (.int z :: rest))) (T.setFrames fs) := by
  have hm' : T.vm.method? m = some meth := X.method'
  have hn : narrow .int (.int z) = .int z := rfl
  show Steps p.tables e below (T.setTop { method := m, pc := pc, locals := Ls, stack := _ :: rest, locked := none }) _
  jvm_step X.here [X.here.top, hx, hd, hm', hret, hn]
  first | (intro acts; rw [hl _ acts rfl rfl rfl]) | rw [hl _ _ rfl rfl rfl]
  exact Steps.refl _
end New
end Jvm.RoadKit
namespace Jvm.Pilot.@@N@@
open Jvm Jvm.ClassFile Sem Op Lib Jvm.Free Jvm.Stand Jvm.LawKit Jvm.RoadKit Bundle Jvm.Pilot.@@N@@.Jvm.D
theorem own_w {a0 : Array Value} {Z : State} (hw : ∀ d ∈ tables_1, d.before a0 Z = true) (i : Nat) {d : Jvm.Cond} (h : tables_1[i]? = some d) : d.before a0 Z = true := hw d (List.mem_of_getElem? h)
/-- from U the run comes to the method's end, and Q holds there -/
def own_Go (tb : Tables) (e : Env) (below : List Frame) (s : State) (C N : Nat) (Q : Option Value → Heap → List Loc → Prop) (U : State) : Prop :=
  ∃ t o, Steps tb e below U t ∧ t.status = .running ∧ Ended t below o ∧ ∃ v L, o = .returned v ∧ Q v t.heap L ∧ FrameEnd s o t L C N
theorem own_step {tb : Tables} {e : Env} {below : List Frame} {s : State} {C N : Nat} {Q : Option Value → Heap → List Loc → Prop} {U U' : State} (h : ∀ t, Steps tb e below U' t → Steps tb e below U t) (k : own_Go tb e below s C N Q U') : own_Go tb e below s C N Q U := by
  obtain ⟨t, o, h1, h2⟩ := k
  exact ⟨t, o, h t h1, h2⟩
theorem own_steps {tb : Tables} {e : Env} {below : List Frame} {s : State} {C N : Nat} {Q : Option Value → Heap → List Loc → Prop} {U U' : State} (h : Steps tb e below U U') (k : own_Go tb e below s C N Q U') : own_Go tb e below s C N Q U := own_step (fun _ q => h.trans q) k
theorem own_out {p : Program} {l : Launch} {e : Env} {R : Room} {s : State} {m : MethodId} {args : Array Value} {below : List Frame} {meth : Method} {c : Code} {T : State} {locs : List Loc} {cells slots : Nat} (X : Stand p l e R s m args below meth c T locs cells slots) {v : Option Value}
    (hlk : meth.locks = false) (hv : meth.sig.returnType = none → v = none) {C N : Nat} {Q : Option Value → Heap → List Loc → Prop} (hQ : Q v T.heap locs) (hC : cells ≤ C) (hN : slots ≤ N) {U : State}
    (k : ∀ fs, (∀ (f : JFrame) (acts : List Action), f.method = m → f.locked = none → f.entered = [] → (doReturn e (T.setTop f) acts v).1 = T.setFrames fs) → Steps p.tables e below U (T.setFrames fs)) : own_Go p.tables e below s C N Q U := by
  obtain ⟨fs, hr, hrun, hended, hW, hsame⟩ := X.leave hv hlk
  exact ⟨_, _, k fs hr, hrun, hended, _, _, rfl, hQ, ⟨_, rfl⟩, hW, hsame.mono hC hN⟩
theorem own_exaP {Z : State} {h : Heap} {a : Addr} {C : String} (E : Exa Z h a C) : ∀ c : Cell, h[a]? = some c → c.vm.isStatics = false := fun c hc => by
  obtain ⟨cell, k, h1, -, -, h4, -⟩ := E
  cases h1.symm.trans hc; exact h4
theorem own_staK {Z : State} {h h' : Heap} {C n d : String} {v : Value} {ws : List Addr} (S : Sta Z h C n d v) (K : Keep h h' ws) (q : ∀ w ∈ ws, ∀ c : Cell, h[w]? = some c → c.vm.isStatics = false) : Sta Z h' C n d v := by
  obtain ⟨cf, i, k, f, st, cell, h1, h2, h3, h4, h5, h6, h7⟩ := S
  exact ⟨cf, i, k, f, st, cell, h1, h2, h3, h4, K.2.1 st cell h5 (fun z => by have := q st z cell h5; rw [h6] at this; cases this), h6, h7⟩
theorem own_anyF {Z : State} {a0 : Array Value} {h : Heap} {a : Addr} {C O n d O' n' d' : String} {v' : Value} {k : Nat} (E : Exa Z h a C) (F : Fld Z h a O' n' d' v') (wi : (Cond.instantiable C k).before a0 Z = true) (L : Laid Z a0 C O n d) : ∃ v, Fld Z h a O n d v :=
  fld_laid E (by obtain ⟨cell, _, _, _, _, h1, _, _, h4, _⟩ := F; exact ⟨cell, h1, h4⟩) wi L
theorem own_nv {meth : Method} {t : FieldType} (h : meth.sig.returnType = some t) {v : Option Value} : meth.sig.returnType = none → v = none := fun q => by rw [h] at q; cases q
theorem pd__J_V : parseMethodDescriptor "(J)V" = some ⟨[.long], none⟩ := by decide +kernel
theorem pd__Lcom_example_urd_urd_model_NodeSet__Z : parseMethodDescriptor "(Lcom/example/urd/urd/model/NodeSet;)Z" = some ⟨[(.object "com/example/urd/urd/model/NodeSet")], some .boolean⟩ := by decide +kernel
theorem pd___V : parseMethodDescriptor "()V" = some ⟨[], none⟩ := by decide +kernel
theorem d2_0 : decode jdk_30_method_1_code 0 = .ok (.aload_n 0, 1) := by decide +kernel
theorem d2_1 : decode jdk_30_method_1_code 1 = .ok (.invokespecial 1, 3) := by decide +kernel
theorem d2_4 : decode jdk_30_method_1_code 4 = .ok (.return_, 1) := by decide +kernel
theorem pn_2 : plainName "java/lang/Record" = true := by first | (simp [plainName, overriddenIn]; done) | decide +kernel
theorem ef_2 (m : MethodId) (r0 : Addr) : entryFrame m #[(.ref r0)] 1 = mkF m 0 #[rv r0] [] := by first | (simp [entryFrame, mkF, argsToLocals, Value.category]; done) | rfl
def Q2 (Z : State) (r0 : Addr) (h0 : Heap) (n0 : Nat) (v : Option Value) (h : Heap) (L : List Loc) : Prop := v = none ∧ Fr n0 L ∧ h = h0
set_option maxRecDepth 65536 in
set_option maxHeartbeats 40000000 in
theorem rm2 (l : Launch) (Z : State) (a0 : Array Value) (hw : ∀ d ∈ tables_1, d.before a0 Z = true) (ws : List Jvm.Cond) (r0 : Addr) (h0 : Heap) (n0 : Nat) (Z0 : n0 ≤ h0.size) :
    MetFree l (⟨"java/lang/Record", "<init>", "()V"⟩ : MethodName) (head1 (Jvm.Cond.code (⟨"java/lang/Record", "<init>", "()V"⟩ : MethodName) jdk_30_method_1_code 1 none :: ws) ({ frames := 1, cells := 0, slots := 0, locals := 12 } : Room)) (fun a U => a = #[(.ref r0)] ∧ Z.Warmed39 U.vm ∧ U.heap = h0) (fun _ _ _ _ _ => True) (fun _ U o U' => ∃ v L, o = .returned v ∧ Q2 Z r0 h0 n0 v U'.heap L ∧ FrameEnd U o U' L ({ frames := 1, cells := 0, slots := 0, locals := 12 } : Room).cells ({ frames := 1, cells := 0, slots := 0, locals := 12 } : Room).slots) := by
  refine MetFree.of_bodySF (plainFor_of_name pn_2) hisR ?_
  intro p e s m args below meth c s₁ Bd hml0 hP hK
  obtain ⟨rfl, hZ, hh⟩ := hP
  have hx := Bd.exec
  have hby := Bd.bytes
  have hml : c.maxLocals = 1 := hml0
  have hown : s.vm.findClass "java/lang/Record" = some m.cls := findClass_of_methodNamed Bd.named
  have hnm := (name_of_methodNamed Bd.named Bd.method).1
  have hlk : meth.locks = false := Bd.notSynchronized
  have X0 : Stand p l e ({ frames := 1, cells := 0, slots := 0, locals := 12 } : Room) s m #[(.ref r0)] below meth c s₁ [] 0 0 := Stand.of_body Bd
  have e0 : s₁.heap = h0 := by rw [← hh, Bd.state]; rfl
  have N0 := Fr.nil n0
  have KK0 := Keep.refl h0 []
  show own_Go p.tables e below s 0 0 (Q2 Z r0 h0 n0) (s₁.setTop (entryFrame m #[(.ref r0)] 1))
  rw [ef_2]
  refine own_step (U' := s₁.setTop (mkF m 1 #[rv r0] [(.ref r0)])) (fun t k => XS.aloadN X0.here hx rfl (hb hby d2_0) rfl rfl k) ?_
  obtain ⟨T1, X1, e1, st1⟩ := initO X0 hx hZ hown (own_w hw 11 rfl) (own_w hw 12 rfl) (own_w hw 13 rfl) e0 (g := (mkF m 1 #[rv r0] [(.ref r0)])) rfl (by rw [hml]; rfl) rfl (hb hby d2_1) (by decide) (W := 0) (by show 2 * 0 + _ ≤ _; exact Nat.le_of_eq rfl) (by decide)
  refine own_step (U' := T1.setTop (mkF m 4 #[rv r0] [])) st1 ?_
  exact own_out X1 (v := none) hlk (fun _ => rfl) (by rw [e1]; exact ⟨rfl, N0, rfl⟩) (by decide) (by decide) (fun fs hr => X1.returnOut hx Bd.returns (hb hby d2_4) hr)
theorem d1_0 : decode prog_32_method_1_code 0 = .ok (.aload_n 0, 1) := by decide +kernel
theorem d1_1 : decode prog_32_method_1_code 1 = .ok (.invokespecial 1, 3) := by decide +kernel
theorem d1_4 : decode prog_32_method_1_code 4 = .ok (.aload_n 0, 1) := by decide +kernel
theorem d1_5 : decode prog_32_method_1_code 5 = .ok (.lload_n 1, 1) := by decide +kernel
theorem d1_6 : decode prog_32_method_1_code 6 = .ok (.putfield 7, 3) := by decide +kernel
theorem d1_9 : decode prog_32_method_1_code 9 = .ok (.return_, 1) := by decide +kernel
theorem pn_1 : plainName "com/example/urd/urd/model/NodeSet" = true := by first | (simp [plainName, overriddenIn]; done) | decide +kernel
theorem ef_1 (m : MethodId) (r0 : Addr) (q1 : Int64) : entryFrame m #[(.ref r0), (.long q1)] 3 = mkF m 0 #[rv r0, .val (.long q1), .second] [] := by first | (simp [entryFrame, mkF, argsToLocals, Value.category]; done) | rfl
def Q1 (Z : State) (r0 : Addr) (q1 : Int64) (h0 : Heap) (n0 : Nat) (v : Option Value) (h : Heap) (L : List Loc) : Prop := v = none ∧ Fr n0 L ∧ Keep h0 h [r0] ∧ Exa Z h r0 "com/example/urd/urd/model/NodeSet" ∧ Fld Z h r0 "com/example/urd/urd/model/NodeSet" "bits" "J" (.long q1)
set_option maxRecDepth 65536 in
set_option maxHeartbeats 40000000 in
theorem rm1 (l : Launch) (Z : State) (a0 : Array Value) (hw : ∀ d ∈ tables_1, d.before a0 Z = true) (ws : List Jvm.Cond) (r0 : Addr) (q1 : Int64) (h0 : Heap) (n0 : Nat) (Z0 : n0 ≤ h0.size) (E_r0 : Exa Z h0 r0 "com/example/urd/urd/model/NodeSet") (F_bits_r0 : Fld Z h0 r0 "com/example/urd/urd/model/NodeSet" "bits" "J" (.long (0 : Int64))) (g_r0 : n0 ≤ r0) :
    MetFree l (⟨"com/example/urd/urd/model/NodeSet", "<init>", "(J)V"⟩ : MethodName) (head1 (Jvm.Cond.code (⟨"com/example/urd/urd/model/NodeSet", "<init>", "(J)V"⟩ : MethodName) prog_32_method_1_code 3 none :: ws) ({ frames := 2, cells := 0, slots := 0, locals := 24 } : Room)) (fun a U => a = #[(.ref r0), (.long q1)] ∧ Z.Warmed39 U.vm ∧ U.heap = h0) (fun _ _ _ _ _ => True) (fun _ U o U' => ∃ v L, o = .returned v ∧ Q1 Z r0 q1 h0 n0 v U'.heap L ∧ FrameEnd U o U' L ({ frames := 2, cells := 0, slots := 0, locals := 24 } : Room).cells ({ frames := 2, cells := 0, slots := 0, locals := 24 } : Room).slots) := by
  refine MetFree.of_bodySF (plainFor_of_name pn_1) hisR ?_
  intro p e s m args below meth c s₁ Bd hml0 hP hK
  obtain ⟨rfl, hZ, hh⟩ := hP
  have hx := Bd.exec
  have hby := Bd.bytes
  have hml : c.maxLocals = 3 := hml0
  have hown : s.vm.findClass "com/example/urd/urd/model/NodeSet" = some m.cls := findClass_of_methodNamed Bd.named
  have hnm := (name_of_methodNamed Bd.named Bd.method).1
  have hlk : meth.locks = false := Bd.notSynchronized
  have X0 : Stand p l e ({ frames := 2, cells := 0, slots := 0, locals := 24 } : Room) s m #[(.ref r0), (.long q1)] below meth c s₁ [] 0 0 := Stand.of_body Bd
  have e0 : s₁.heap = h0 := by rw [← hh, Bd.state]; rfl
  have N0 := Fr.nil n0
  have KK0 := Keep.refl h0 [r0]
  show own_Go p.tables e below s 0 0 (Q1 Z r0 q1 h0 n0) (s₁.setTop (entryFrame m #[(.ref r0), (.long q1)] 3))
  rw [ef_1]
  refine own_step (U' := s₁.setTop (mkF m 1 #[rv r0, .val (.long q1), .second] [(.ref r0)])) (fun t k => XS.aloadN X0.here hx rfl (hb hby d1_0) rfl rfl k) ?_
  obtain ⟨_, _, ⟨T1, L1, k1, n1⟩, -, X1, ⟨Lc1, hQ1, l1, y1, z1⟩, st1⟩ := X0.specialBack hx (y := (⟨"java/lang/Record", "<init>", "()V"⟩ : MethodName)) rfl hown (mvT hZ (own_w hw 6 rfl)) (mvT hZ (own_w hw 7 rfl)) (mvT hZ (own_w hw 10 rfl)) (by decide) (backOf (W := 0) (rm2 l Z a0 hw [] r0 h0 n0 Z0) hZ (own_w hw 10 rfl) (own_w hw 9 rfl) (by decide) (by decide)) (g := (mkF m 1 #[rv r0, .val (.long q1), .second] [(.ref r0)])) rfl (by rw [hml]; rfl) (Steps.refl _) (a := r0) (argsL := []) (rest := []) (lenOf pd___V rfl) rfl (by show 2 * 0 + _ ≤ _; exact Nat.le_of_eq rfl) (hb hby d1_1) (fun _ _ => ⟨rfl, e0, (by decide : 0 + 0 ≤ _), (by decide : 0 + 0 ≤ _)⟩)
  dsimp only [Pt.U, Pt.locs, Pt.cells, Pt.slots] at X1 l1 y1 z1 st1 hQ1
  subst l1 y1 z1
  obtain ⟨rfl, N1q, eq1⟩ := hQ1
  have N1 := Fr.app N0 N1q
  refine own_steps (U' := T1.setTop (mkF m 4 #[rv r0, .val (.long q1), .second] [])) st1 ?_
  refine own_step (U' := T1.setTop (mkF m 6 #[rv r0, .val (.long q1), .second] [(.long q1), (.ref r0)])) (fun t k => XS.aloadN X1.here hx rfl (hb hby d1_4) rfl rfl (XS.lloadN X1.here hx rfl (hb hby d1_5) rfl k)) ?_
  obtain ⟨T2, h2, X2, e2, W2, st2⟩ := putF X1 hx hZ hown (host := "") (Or.inl (own_w hw 14 rfl)) Via.refl eq1 F_bits_r0 E_r0 (Or.inr ⟨(own_w hw 15 rfl), rfl, hnm⟩) (own_w hw 1 rfl) (ty := .long) (by decide) rfl rfl (g := (mkF m 6 #[rv r0, .val (.long q1), .second] [(.long q1), (.ref r0)])) rfl rfl (hb hby d1_6)
  have E_r0_2 := E_r0.wr W2
  have F_bits_r0_2 := F_bits_r0.same W2
  have Z2 : n0 ≤ h2.size := Nat.le_trans Z0 (Keep.of_wr W2).1
  have KK2 := KK0.wr W2 (Or.inl (List.mem_of_getElem? (i := 0) rfl))
  have N2 := Fr.snoc X2 N1 g_r0
  refine own_step (U' := T2.setTop (mkF m 9 #[rv r0, .val (.long q1), .second] [])) st2 ?_
  exact own_out X2 (v := none) hlk (fun _ => rfl) (by rw [e2]; exact ⟨rfl, N2, KK2, E_r0_2, F_bits_r0_2⟩) (by decide) (by decide) (fun fs hr => X2.returnOut hx Bd.returns (hb hby d1_9) hr)
theorem d4_0 : decode prog_32_method_13_code 0 = .ok (.aload_n 1, 1) := by decide +kernel
theorem d4_1 : decode prog_32_method_13_code 1 = .ok (.getfield 7, 3) := by decide +kernel
theorem d4_4 : decode prog_32_method_13_code 4 = .ok (.aload_n 0, 1) := by decide +kernel
theorem d4_5 : decode prog_32_method_13_code 5 = .ok (.getfield 7, 3) := by decide +kernel
theorem d4_8 : decode prog_32_method_13_code 8 = .ok (.ldc2_w 26, 3) := by decide +kernel
theorem d4_11 : decode prog_32_method_13_code 11 = .ok (.lxor, 1) := by decide +kernel
theorem d4_12 : decode prog_32_method_13_code 12 = .ok (.land, 1) := by decide +kernel
theorem d4_13 : decode prog_32_method_13_code 13 = .ok (.lconst 0, 1) := by decide +kernel
theorem d4_14 : decode prog_32_method_13_code 14 = .ok (.lcmp, 1) := by decide +kernel
theorem d4_15 : decode prog_32_method_13_code 15 = .ok (.ifCond .ne 7, 3) := by decide +kernel
theorem d4_18 : decode prog_32_method_13_code 18 = .ok (.iconst 1, 1) := by decide +kernel
theorem d4_19 : decode prog_32_method_13_code 19 = .ok (.goto 4, 3) := by decide +kernel
theorem d4_22 : decode prog_32_method_13_code 22 = .ok (.iconst 0, 1) := by decide +kernel
theorem d4_23 : decode prog_32_method_13_code 23 = .ok (.ireturn, 1) := by decide +kernel
theorem pn_4 : plainName "com/example/urd/urd/model/NodeSet" = true := by first | (simp [plainName, overriddenIn]; done) | decide +kernel
theorem ef_4 (m : MethodId) (r0 : Addr) (r1 : Addr) : entryFrame m #[(.ref r0), (.ref r1)] 2 = mkF m 0 #[rv r0, rv r1] [] := by first | (simp [entryFrame, mkF, argsToLocals, Value.category]; done) | rfl
def F4 (wa : Int64) (wb : Int64) : Int32 :=
  if (wb &&& (wa ^^^ (-1 : Int64))) = (0 : Int64) then
    (1 : Int32)
  else
    (0 : Int32)
def Q4 (Z : State) (r0 : Addr) (r1 : Addr) (wa : Int64) (wb : Int64) (h0 : Heap) (n0 : Nat) (v : Option Value) (h : Heap) (L : List Loc) : Prop := v = some (.int (F4 wa wb)) ∧ Fr n0 L ∧ h = h0
set_option maxRecDepth 65536 in
set_option maxHeartbeats 40000000 in
theorem rm4 (l : Launch) (Z : State) (a0 : Array Value) (hw : ∀ d ∈ tables_1, d.before a0 Z = true) (ws : List Jvm.Cond) (r0 : Addr) (r1 : Addr) (wa : Int64) (wb : Int64) (h0 : Heap) (n0 : Nat) (Z0 : n0 ≤ h0.size) (E_r0 : Exa Z h0 r0 "com/example/urd/urd/model/NodeSet") (F_bits_r0 : Fld Z h0 r0 "com/example/urd/urd/model/NodeSet" "bits" "J" (.long wa)) (E_r1 : Exa Z h0 r1 "com/example/urd/urd/model/NodeSet") (F_bits_r1 : Fld Z h0 r1 "com/example/urd/urd/model/NodeSet" "bits" "J" (.long wb)) :
    MetFree l (⟨"com/example/urd/urd/model/NodeSet", "containsAll", "(Lcom/example/urd/urd/model/NodeSet;)Z"⟩ : MethodName) (head1 (Jvm.Cond.code (⟨"com/example/urd/urd/model/NodeSet", "containsAll", "(Lcom/example/urd/urd/model/NodeSet;)Z"⟩ : MethodName) prog_32_method_13_code 2 (some .boolean) :: ws) ({ frames := 0, cells := 0, slots := 0, locals := 0 } : Room)) (fun a U => a = #[(.ref r0), (.ref r1)] ∧ Z.Warmed39 U.vm ∧ U.heap = h0) (fun _ _ _ _ _ => True) (fun _ U o U' => ∃ v L, o = .returned v ∧ Q4 Z r0 r1 wa wb h0 n0 v U'.heap L ∧ FrameEnd U o U' L ({ frames := 0, cells := 0, slots := 0, locals := 0 } : Room).cells ({ frames := 0, cells := 0, slots := 0, locals := 0 } : Room).slots) := by
  refine MetFree.of_bodySF (plainFor_of_name pn_4) hisR ?_
  intro p e s m args below meth c s₁ Bd hml0 hP hK
  obtain ⟨rfl, hZ, hh⟩ := hP
  have hx := Bd.exec
  have hby := Bd.bytes
  have hml : c.maxLocals = 2 := hml0
  have hown : s.vm.findClass "com/example/urd/urd/model/NodeSet" = some m.cls := findClass_of_methodNamed Bd.named
  have hnm := (name_of_methodNamed Bd.named Bd.method).1
  have hlk : meth.locks = false := Bd.notSynchronized
  have X0 : Stand p l e ({ frames := 0, cells := 0, slots := 0, locals := 0 } : Room) s m #[(.ref r0), (.ref r1)] below meth c s₁ [] 0 0 := Stand.of_body Bd
  have e0 : s₁.heap = h0 := by rw [← hh, Bd.state]; rfl
  have N0 := Fr.nil n0
  have KK0 := Keep.refl h0 []
  show own_Go p.tables e below s 0 0 (Q4 Z r0 r1 wa wb h0 n0) (s₁.setTop (entryFrame m #[(.ref r0), (.ref r1)] 2))
  rw [ef_4]
  refine own_step (U' := s₁.setTop (mkF m 1 #[rv r0, rv r1] [(.ref r1)])) (fun t k => XS.aloadN X0.here hx rfl (hb hby d4_0) rfl rfl k) ?_
  obtain ⟨T1, X1, e1, st1⟩ := getF X0 hx hZ hown (host := "") (Or.inl (own_w hw 14 rfl)) Via.refl e0 F_bits_r1 (g := (mkF m 1 #[rv r0, rv r1] [(.ref r1)])) rfl rfl (hb hby d4_1)
  refine own_step (U' := T1.setTop (mkF m 4 #[rv r0, rv r1] [(.long wb)])) st1 ?_
  refine own_step (U' := T1.setTop (mkF m 5 #[rv r0, rv r1] [(.ref r0), (.long wb)])) (fun t k => XS.aloadN X1.here hx rfl (hb hby d4_4) rfl rfl k) ?_
  obtain ⟨T2, X2, e2, st2⟩ := getF X1 hx hZ hown (host := "") (Or.inl (own_w hw 14 rfl)) Via.refl e1 F_bits_r0 (g := (mkF m 5 #[rv r0, rv r1] [(.ref r0), (.long wb)])) rfl rfl (hb hby d4_5)
  refine own_step (U' := T2.setTop (mkF m 8 #[rv r0, rv r1] [(.long wa), (.long wb)])) st2 ?_
  refine own_step (U' := T2.setTop (mkF m 15 #[rv r0, rv r1] [(.int (lcmpW (wb &&& (wa ^^^ (-1 : Int64))) (0 : Int64)))])) (fun t k => X2.ldc2Long hx hown (mvT hZ (own_w hw 21 rfl)) (g := (mkF m 8 #[rv r0, rv r1] [(.long wa), (.long wb)])) rfl (hb hby d4_8) t (XS.lxor X2.here hx rfl (hb hby d4_11) rfl (XS.land X2.here hx rfl (hb hby d4_12) rfl (XS.lconst X2.here hx rfl (hb hby d4_13) (XS.lcmp X2.here hx rfl (hb hby d4_14) rfl k))))) ?_
  by_cases hc15_3 : (wb &&& (wa ^^^ (-1 : Int64))) = (0 : Int64)
  · refine own_step (U' := T2.setTop (mkF m 23 #[rv r0, rv r1] [(.int (1 : Int32))])) (fun t k => XS.ifNo X2.here hx rfl (hb hby d4_15) rfl ((if0 _ _).trans (teq ((lw_eq (wb &&& (wa ^^^ (-1 : Int64))) (0 : Int64)).mpr hc15_3)).2) (XS.iconst X2.here hx rfl (hb hby d4_18) (XS.goto X2.here hx rfl (pc0 := 19) (pc' := 23) rfl (hb hby d4_19) (by decide) (by decide) k))) ?_
    exact own_out X2 (v := (some (.int (1 : Int32)))) hlk (own_nv Bd.returns) (by rw [e2]; exact ⟨by rw [show (F4 wa wb) = (1 : Int32) from (by simp only [F4, if_pos hc15_3])], N0, rfl⟩) (by decide) (by decide) (fun fs hr => retN X2 hx (t := .boolean) Bd.returns (by simp) (hb hby d4_23) hr)
  · refine own_step (U' := T2.setTop (mkF m 23 #[rv r0, rv r1] [(.int (0 : Int32))])) (fun t k => XS.ifYes X2.here hx rfl (pc0 := 15) (pc' := 22) rfl (hb hby d4_15) rfl ((if0 _ _).trans (feq (mt (lw_eq (wb &&& (wa ^^^ (-1 : Int64))) (0 : Int64)).mp hc15_3)).2) (by decide) (by decide) (XS.iconst X2.here hx rfl (hb hby d4_22) k)) ?_
    exact own_out X2 (v := (some (.int (0 : Int32)))) hlk (own_nv Bd.returns) (by rw [e2]; exact ⟨by rw [show (F4 wa wb) = (0 : Int32) from (by simp only [F4, if_neg hc15_3])], N0, rfl⟩) (by decide) (by decide) (fun fs hr => retN X2 hx (t := .boolean) Bd.returns (by simp) (hb hby d4_23) hr)

theorem own_sub (a o : Int64) : (o &&& (a ^^^ (-1 : Int64))) = 0 ↔ (a ||| o) = a := by
  rw [← Int64.toBitVec_inj, ← Int64.toBitVec_inj]
  have e1 : (o &&& (a ^^^ (-1 : Int64))).toBitVec = o.toBitVec &&& (a.toBitVec ^^^ BitVec.allOnes 64) := rfl
  have e2 : (a ||| o).toBitVec = a.toBitVec ||| o.toBitVec := rfl
  have e3 : (0 : Int64).toBitVec = 0#64 := rfl
  rw [e1, e2, e3]
  generalize a.toBitVec = x
  generalize o.toBitVec = y
  constructor
  · intro h
    apply BitVec.eq_of_getLsbD_eq
    intro i hi
    have q := congrArg (fun z => z.getLsbD i) h
    have t : (BitVec.allOnes 64).getLsbD i = true := by rw [BitVec.getLsbD_allOnes]; simp [hi]
    simp only [BitVec.getLsbD_and, BitVec.getLsbD_xor, BitVec.getLsbD_or, t, BitVec.getLsbD_zero] at q ⊢
    revert q
    cases x.getLsbD i <;> cases y.getLsbD i <;> simp
  · intro h
    apply BitVec.eq_of_getLsbD_eq
    intro i hi
    have q := congrArg (fun z => z.getLsbD i) h
    have t : (BitVec.allOnes 64).getLsbD i = true := by rw [BitVec.getLsbD_allOnes]; simp [hi]
    simp only [BitVec.getLsbD_and, BitVec.getLsbD_xor, BitVec.getLsbD_or, t, BitVec.getLsbD_zero] at q ⊢
    revert q
    cases x.getLsbD i <;> cases y.getLsbD i <;> simp
theorem own_law (a o : Int64) (v : Int32) (h : v = (if (a ||| o) = a then (1 : Int32) else (0 : Int32))) : F4 a o = v := by
  subst h
  simp only [F4]
  by_cases c : (a ||| o) = a
  · rw [if_pos c, if_pos ((own_sub a o).mpr c)]
  · rw [if_neg c, if_neg (fun q => c ((own_sub a o).mp q))]

theorem pn_0 : plainName "com/example/urd/urd/model/NodeSetContainsAllPinLaw" = true := by first | (simp [plainName, overriddenIn]; done) | decide +kernel
theorem ef_0 (m : MethodId) (q0 : Int64) (q1 : Int64) (p2 : Int32) : entryFrame m #[(.long q0), (.long q1), (.int p2)] maxLocals = mkF m 0 #[.val (.long q0), .second, .val (.long q1), .second, iv p2, .unset, .unset, .unset, .unset, .unset, .unset, .unset] [] := by first | (simp [entryFrame, mkF, argsToLocals, Value.category, maxLocals]; done) | rfl
def Q0 (Z : State) (q0 : Int64) (q1 : Int64) (p2 : Int32) (h0 : Heap) (n0 : Nat) (v : Option Value) (h : Heap) (L : List Loc) : Prop := v = some (.int 1) ∧ Fr n0 L
set_option maxRecDepth 65536 in
set_option maxHeartbeats 40000000 in
theorem rm0 (l : Launch) (Z : State) (a0 : Array Value) (hw : ∀ d ∈ tables_1, d.before a0 Z = true) (ws : List Jvm.Cond) (q0 : Int64) (q1 : Int64) (p2 : Int32) (h0 : Heap) (n0 : Nat) (Z0 : n0 ≤ h0.size) :
    MetFree l x (head1 (Jvm.Cond.code x code maxLocals ret :: ws) room_1) (fun a U => a = #[(.long q0), (.long q1), (.int p2)] ∧ Z.Warmed39 U.vm ∧ U.heap = h0) (fun _ _ _ _ _ => True) (fun _ U o U' => ∃ v L, o = .returned v ∧ Q0 Z q0 q1 p2 h0 n0 v U'.heap L ∧ FrameEnd U o U' L 16 128) := by
  refine MetFree.of_bodySF (plainFor_of_name pn_0) hisR ?_
  intro p e s m args below meth c s₁ Bd hml0 hP hK
  obtain ⟨rfl, hZ, hh⟩ := hP
  have hx := Bd.exec
  have hby := Bd.bytes
  have hml : c.maxLocals = 12 := hml0
  have hown : s.vm.findClass "com/example/urd/urd/model/NodeSetContainsAllPinLaw" = some m.cls := findClass_of_methodNamed Bd.named
  have hnm := (name_of_methodNamed Bd.named Bd.method).1
  have hlk : meth.locks = false := Bd.notSynchronized
  have X0 : Stand p l e room_1 s m #[(.long q0), (.long q1), (.int p2)] below meth c s₁ [] 0 0 := Stand.of_body Bd
  have e0 : s₁.heap = h0 := by rw [← hh, Bd.state]; rfl
  have N0 := Fr.nil n0
  have KK0 := Keep.refl h0 []
  show own_Go p.tables e below s 16 128 (Q0 Z q0 q1 p2 h0 n0) (s₁.setTop (entryFrame m #[(.long q0), (.long q1), (.int p2)] maxLocals))
  rw [ef_0]
  refine own_step (U' := s₁.setTop (mkF m 12 #[.val (.long q0), .second, .val (.long q1), .second, iv p2, iv (p2 &&& (3 : Int32)), .unset, .unset, .unset, .unset, .unset, .unset] [(.int (63 : Int32)), (.int ((p2.toUInt32 >>> ((2 : Int32) &&& 31).toUInt32).toInt32))])) (fun t k => XS.iload X0.here hx rfl (hb hby at_0) rfl (XS.iconst X0.here hx rfl (hb hby at_2) (XS.iand X0.here hx rfl (hb hby at_3) rfl (XS.istore X0.here hx rfl (hb hby at_4) rfl (l' := #[.val (.long q0), .second, .val (.long q1), .second, iv p2, iv (p2 &&& (3 : Int32)), .unset, .unset, .unset, .unset, .unset, .unset]) rfl (XS.iload X0.here hx rfl (hb hby at_6) rfl (XS.iconst X0.here hx rfl (hb hby at_8) (XS.iushr X0.here hx rfl (hb hby at_9) rfl (XS.bipush X0.here hx rfl (hb hby at_10) k)))))))) ?_
  refine own_step (U' := s₁.setTop (mkF m 17 #[.val (.long q0), .second, .val (.long q1), .second, iv p2, iv (p2 &&& (3 : Int32)), iv (((p2.toUInt32 >>> ((2 : Int32) &&& 31).toUInt32).toInt32) &&& (63 : Int32)), .unset, .unset, .unset, .unset, .unset] [(.int (p2 &&& (3 : Int32)))])) (fun t k => XS.iand X0.here hx rfl (hb hby at_12) rfl (XS.istore X0.here hx rfl (hb hby at_13) rfl (l' := #[.val (.long q0), .second, .val (.long q1), .second, iv p2, iv (p2 &&& (3 : Int32)), iv (((p2.toUInt32 >>> ((2 : Int32) &&& 31).toUInt32).toInt32) &&& (63 : Int32)), .unset, .unset, .unset, .unset, .unset]) rfl (XS.iload X0.here hx rfl (hb hby at_15) rfl k))) ?_
  obtain ⟨v64_4, hv64_4⟩ : ∃ v : Int64, v = (if (p2 &&& (3 : Int32)) = (0 : Int32) then q1 else (if (p2 &&& (3 : Int32)) = (1 : Int32) then (q1 &&& q0) else (if (p2 &&& (3 : Int32)) = (2 : Int32) then ((q1 &&& q0) ||| ((1 : Int64) <<< ((((p2.toUInt32 >>> ((2 : Int32) &&& 31).toUInt32).toInt32) &&& (63 : Int32)) &&& 0x3f).toInt64)) else (q1 ||| q0)))) := ⟨_, rfl⟩
  have K64_5 : ∀ (T' : State) (locs' : List Loc) (X' : Stand p l e room_1 s m #[(.long q0), (.long q1), (.int p2)] below meth c T' locs' 0 0) (N' : Fr n0 locs') (e' : T'.heap = h0), own_Go p.tables e below s 16 128 (Q0 Z q0 q1 p2 h0 n0) (T'.setTop (mkF m 64 #[.val (.long q0), .second, .val (.long q1), .second, iv p2, iv (p2 &&& (3 : Int32)), iv (((p2.toUInt32 >>> ((2 : Int32) &&& 31).toUInt32).toInt32) &&& (63 : Int32)), .val (.long v64_4), .second, .unset, .unset, .unset] [])) := by
    intro T5 L5 X5 N5 e5
    obtain ⟨T6, h6, X6, e6, E6, A6, D6, -, st6⟩ := newO X5 hx hZ hown (own_w hw 0 rfl) (own_w hw 1 rfl) (own_w hw 2 rfl) e5 (g := (mkF m 64 #[.val (.long q0), .second, .val (.long q1), .second, iv p2, iv (p2 &&& (3 : Int32)), iv (((p2.toUInt32 >>> ((2 : Int32) &&& 31).toUInt32).toInt32) &&& (63 : Int32)), .val (.long v64_4), .second, .unset, .unset, .unset] [])) rfl (hb hby at_64) (by decide) (by decide)
    obtain ⟨b6, g6⟩ : ∃ z, z = h0.size := ⟨_, rfl⟩
    have ge_b6 : n0 ≤ b6 := Nat.le_trans Z0 (Nat.le_of_eq g6.symm)
    have sz_b6 : h0.size ≤ b6 := Nat.le_trans KK0.1 (Nat.le_of_eq g6.symm)
    rw [← g6] at A6 D6 st6
    have F_bits_b6 : Fld Z h6 b6 "com/example/urd/urd/model/NodeSet" "bits" "J" (.long (0 : Int64)) := D6 (Or.inr (own_w hw 15 rfl)) (ty := .long) (by decide)
    have Z6 : n0 ≤ h6.size := Nat.le_trans Z0 E6.1
    have KK6 := KK0.ext E6
    refine own_step (U' := T6.setTop (mkF m 67 #[.val (.long q0), .second, .val (.long q1), .second, iv p2, iv (p2 &&& (3 : Int32)), iv (((p2.toUInt32 >>> ((2 : Int32) &&& 31).toUInt32).toInt32) &&& (63 : Int32)), .val (.long v64_4), .second, .unset, .unset, .unset] [(.ref b6)])) st6 ?_
    refine own_step (U' := T6.setTop (mkF m 69 #[.val (.long q0), .second, .val (.long q1), .second, iv p2, iv (p2 &&& (3 : Int32)), iv (((p2.toUInt32 >>> ((2 : Int32) &&& 31).toUInt32).toInt32) &&& (63 : Int32)), .val (.long v64_4), .second, .unset, .unset, .unset] [(.long q0), (.ref b6), (.ref b6)])) (fun t k => XS.dup X6.here hx rfl (hb hby at_67) rfl rfl (XS.lloadN X6.here hx rfl (hb hby at_68) rfl k)) ?_
    obtain ⟨_, _, ⟨T7, L7, k7, n7⟩, -, X7, ⟨Lc7, hQ7, l7, y7, z7⟩, st7⟩ := X6.specialBack hx (y := (⟨"com/example/urd/urd/model/NodeSet", "<init>", "(J)V"⟩ : MethodName)) rfl hown (mvT hZ (own_w hw 3 rfl)) (mvT hZ (own_w hw 4 rfl)) (mvT hZ (own_w hw 5 rfl)) (by decide) (backOf (W := 1) (rm1 l Z a0 hw [] b6 q0 h6 n0 Z6 A6 F_bits_b6 ge_b6) hZ (own_w hw 5 rfl) (own_w hw 2 rfl) (by decide) (by decide)) (g := (mkF m 69 #[.val (.long q0), .second, .val (.long q1), .second, iv p2, iv (p2 &&& (3 : Int32)), iv (((p2.toUInt32 >>> ((2 : Int32) &&& 31).toUInt32).toInt32) &&& (63 : Int32)), .val (.long v64_4), .second, .unset, .unset, .unset] [(.long q0), (.ref b6), (.ref b6)])) rfl (by rw [hml]; rfl) (Steps.refl _) (a := b6) (argsL := [(.long q0)]) (rest := [(.ref b6)]) (lenOf pd__J_V rfl) rfl (by show 2 * 0 + _ ≤ _; exact Nat.le_of_eq rfl) (hb hby at_69) (fun _ _ => ⟨rfl, e6, (by decide : 1 + 0 ≤ _), (by decide : 1 + 0 ≤ _)⟩)
    dsimp only [Pt.U, Pt.locs, Pt.cells, Pt.slots] at X7 l7 y7 z7 st7 hQ7
    subst l7 y7 z7
    obtain ⟨rfl, N7q, K7q, Ea7_b6, Fa7_bits_b6⟩ := hQ7
    have N7 := Fr.app N5 N7q
    have A6_7 := A6.keep K7q
    have Z7 : n0 ≤ T7.heap.size := Nat.le_trans Z6 K7q.1
    have KK7 := KK6.trans K7q (allS (Or.inr sz_b6) all0)
    refine own_steps (U' := T7.setTop (mkF m 72 #[.val (.long q0), .second, .val (.long q1), .second, iv p2, iv (p2 &&& (3 : Int32)), iv (((p2.toUInt32 >>> ((2 : Int32) &&& 31).toUInt32).toInt32) &&& (63 : Int32)), .val (.long v64_4), .second, .unset, .unset, .unset] [(.ref b6)])) st7 ?_
    refine own_step (U' := T7.setTop (mkF m 74 #[.val (.long q0), .second, .val (.long q1), .second, iv p2, iv (p2 &&& (3 : Int32)), iv (((p2.toUInt32 >>> ((2 : Int32) &&& 31).toUInt32).toInt32) &&& (63 : Int32)), .val (.long v64_4), .second, rv b6, .unset, .unset] [])) (fun t k => XS.astore X7.here hx rfl (hb hby at_72) rfl rfl (l' := #[.val (.long q0), .second, .val (.long q1), .second, iv p2, iv (p2 &&& (3 : Int32)), iv (((p2.toUInt32 >>> ((2 : Int32) &&& 31).toUInt32).toInt32) &&& (63 : Int32)), .val (.long v64_4), .second, rv b6, .unset, .unset]) rfl k) ?_
    obtain ⟨T8, h8, X8, e8, E8, A8, D8, -, st8⟩ := newO X7 hx hZ hown (own_w hw 0 rfl) (own_w hw 1 rfl) (own_w hw 2 rfl) rfl (g := (mkF m 74 #[.val (.long q0), .second, .val (.long q1), .second, iv p2, iv (p2 &&& (3 : Int32)), iv (((p2.toUInt32 >>> ((2 : Int32) &&& 31).toUInt32).toInt32) &&& (63 : Int32)), .val (.long v64_4), .second, rv b6, .unset, .unset] [])) rfl (hb hby at_74) (by decide) (by decide)
    obtain ⟨b8, g8⟩ : ∃ z, z = T7.heap.size := ⟨_, rfl⟩
    have ne_b6_b8 : b6 ≠ b8 := Nat.ne_of_lt (Nat.lt_of_lt_of_le Ea7_b6.lt (Nat.le_of_eq g8.symm))
    have ge_b8 : n0 ≤ b8 := Nat.le_trans Z7 (Nat.le_of_eq g8.symm)
    have sz_b8 : h0.size ≤ b8 := Nat.le_trans KK7.1 (Nat.le_of_eq g8.symm)
    rw [← g8] at A8 D8 st8
    have Ea7_b6_8 := Ea7_b6.ext E8
    have Fa7_bits_b6_8 := Fa7_bits_b6.ext E8
    have F_bits_b8 : Fld Z h8 b8 "com/example/urd/urd/model/NodeSet" "bits" "J" (.long (0 : Int64)) := D8 (Or.inr (own_w hw 15 rfl)) (ty := .long) (by decide)
    have Z8 : n0 ≤ h8.size := Nat.le_trans Z7 E8.1
    have KK8 := KK7.ext E8
    refine own_step (U' := T8.setTop (mkF m 77 #[.val (.long q0), .second, .val (.long q1), .second, iv p2, iv (p2 &&& (3 : Int32)), iv (((p2.toUInt32 >>> ((2 : Int32) &&& 31).toUInt32).toInt32) &&& (63 : Int32)), .val (.long v64_4), .second, rv b6, .unset, .unset] [(.ref b8)])) st8 ?_
    refine own_step (U' := T8.setTop (mkF m 80 #[.val (.long q0), .second, .val (.long q1), .second, iv p2, iv (p2 &&& (3 : Int32)), iv (((p2.toUInt32 >>> ((2 : Int32) &&& 31).toUInt32).toInt32) &&& (63 : Int32)), .val (.long v64_4), .second, rv b6, .unset, .unset] [(.long v64_4), (.ref b8), (.ref b8)])) (fun t k => XS.dup X8.here hx rfl (hb hby at_77) rfl rfl (XS.lload X8.here hx rfl (hb hby at_78) rfl k)) ?_
    obtain ⟨_, _, ⟨T9, L9, k9, n9⟩, -, X9, ⟨Lc9, hQ9, l9, y9, z9⟩, st9⟩ := X8.specialBack hx (y := (⟨"com/example/urd/urd/model/NodeSet", "<init>", "(J)V"⟩ : MethodName)) rfl hown (mvT hZ (own_w hw 3 rfl)) (mvT hZ (own_w hw 4 rfl)) (mvT hZ (own_w hw 5 rfl)) (by decide) (backOf (W := 1) (rm1 l Z a0 hw [] b8 v64_4 h8 n0 Z8 A8 F_bits_b8 ge_b8) hZ (own_w hw 5 rfl) (own_w hw 2 rfl) (by decide) (by decide)) (g := (mkF m 80 #[.val (.long q0), .second, .val (.long q1), .second, iv p2, iv (p2 &&& (3 : Int32)), iv (((p2.toUInt32 >>> ((2 : Int32) &&& 31).toUInt32).toInt32) &&& (63 : Int32)), .val (.long v64_4), .second, rv b6, .unset, .unset] [(.long v64_4), (.ref b8), (.ref b8)])) rfl (by rw [hml]; rfl) (Steps.refl _) (a := b8) (argsL := [(.long v64_4)]) (rest := [(.ref b8)]) (lenOf pd__J_V rfl) rfl (by show 2 * 0 + _ ≤ _; exact Nat.le_of_eq rfl) (hb hby at_80) (fun _ _ => ⟨rfl, e8, (by decide : 2 + 0 ≤ _), (by decide : 2 + 0 ≤ _)⟩)
    dsimp only [Pt.U, Pt.locs, Pt.cells, Pt.slots] at X9 l9 y9 z9 st9 hQ9
    subst l9 y9 z9
    obtain ⟨rfl, N9q, K9q, Ea9_b8, Fa9_bits_b8⟩ := hQ9
    have N9 := Fr.app N7 N9q
    have Ea7_b6_9 := Ea7_b6_8.keep K9q
    have Fa7_bits_b6_9 := Fa7_bits_b6_8.keep K9q (ninS ne_b6_b8 nin0)
    have A8_9 := A8.keep K9q
    have Z9 : n0 ≤ T9.heap.size := Nat.le_trans Z8 K9q.1
    have KK9 := KK8.trans K9q (allS (Or.inr sz_b8) all0)
    refine own_steps (U' := T9.setTop (mkF m 83 #[.val (.long q0), .second, .val (.long q1), .second, iv p2, iv (p2 &&& (3 : Int32)), iv (((p2.toUInt32 >>> ((2 : Int32) &&& 31).toUInt32).toInt32) &&& (63 : Int32)), .val (.long v64_4), .second, rv b6, .unset, .unset] [(.ref b8)])) st9 ?_
    refine own_step (U' := T9.setTop (mkF m 91 #[.val (.long q0), .second, .val (.long q1), .second, iv p2, iv (p2 &&& (3 : Int32)), iv (((p2.toUInt32 >>> ((2 : Int32) &&& 31).toUInt32).toInt32) &&& (63 : Int32)), .val (.long v64_4), .second, rv b6, rv b8, .unset] [(.int (lcmpW (q0 ||| v64_4) q0))])) (fun t k => XS.astore X9.here hx rfl (hb hby at_83) rfl rfl (l' := #[.val (.long q0), .second, .val (.long q1), .second, iv p2, iv (p2 &&& (3 : Int32)), iv (((p2.toUInt32 >>> ((2 : Int32) &&& 31).toUInt32).toInt32) &&& (63 : Int32)), .val (.long v64_4), .second, rv b6, rv b8, .unset]) rfl (XS.lloadN X9.here hx rfl (hb hby at_85) rfl (XS.lload X9.here hx rfl (hb hby at_86) rfl (XS.lor X9.here hx rfl (hb hby at_88) rfl (XS.lloadN X9.here hx rfl (hb hby at_89) rfl (XS.lcmp X9.here hx rfl (hb hby at_90) rfl k)))))) ?_
    obtain ⟨v99_11, hv99_11⟩ : ∃ v : Int32, v = (if (q0 ||| v64_4) = q0 then (1 : Int32) else (0 : Int32)) := ⟨_, rfl⟩
    have K99_12 : ∀ (T' : State) (locs' : List Loc) (X' : Stand p l e room_1 s m #[(.long q0), (.long q1), (.int p2)] below meth c T' locs' 2 2) (N' : Fr n0 locs') (e' : T'.heap = T9.heap), own_Go p.tables e below s 16 128 (Q0 Z q0 q1 p2 h0 n0) (T'.setTop (mkF m 99 #[.val (.long q0), .second, .val (.long q1), .second, iv p2, iv (p2 &&& (3 : Int32)), iv (((p2.toUInt32 >>> ((2 : Int32) &&& 31).toUInt32).toInt32) &&& (63 : Int32)), .val (.long v64_4), .second, rv b6, rv b8, .unset] [(.int v99_11)])) := by
      intro T12 L12 X12 N12 e12
      refine own_step (U' := T12.setTop (mkF m 105 #[.val (.long q0), .second, .val (.long q1), .second, iv p2, iv (p2 &&& (3 : Int32)), iv (((p2.toUInt32 >>> ((2 : Int32) &&& 31).toUInt32).toInt32) &&& (63 : Int32)), .val (.long v64_4), .second, rv b6, rv b8, iv v99_11] [(.ref b8), (.ref b6)])) (fun t k => XS.istore X12.here hx rfl (hb hby at_99) rfl (l' := #[.val (.long q0), .second, .val (.long q1), .second, iv p2, iv (p2 &&& (3 : Int32)), iv (((p2.toUInt32 >>> ((2 : Int32) &&& 31).toUInt32).toInt32) &&& (63 : Int32)), .val (.long v64_4), .second, rv b6, rv b8, iv v99_11]) rfl (XS.aload X12.here hx rfl (hb hby at_101) rfl rfl (XS.aload X12.here hx rfl (hb hby at_103) rfl rfl k))) ?_
      obtain ⟨cq13, kq13, qa13, qb13, qc13⟩ := isOf hZ e12 Ea7_b6_9
      obtain ⟨_, _, ⟨T13, L13, k13, n13⟩, -, X13, ⟨Lc13, hQ13, l13, y13, z13⟩, st13⟩ := X12.virtualBack hx (y := (⟨"com/example/urd/urd/model/NodeSet", "containsAll", "(Lcom/example/urd/urd/model/NodeSet;)Z"⟩ : MethodName)) (z := (⟨"com/example/urd/urd/model/NodeSet", "containsAll", "(Lcom/example/urd/urd/model/NodeSet;)Z"⟩ : MethodName)) hown (mvT hZ (own_w hw 16 rfl)) (mvT hZ (own_w hw 17 rfl)) (notFace_of_selects (args := #[]) (mvT hZ (own_w hw 19 rfl))) (mvT hZ (own_w hw 19 rfl)) (mvT hZ (own_w hw 18 rfl)) (by decide) (backOf (W := 0) (rm4 l Z a0 hw [] b6 b8 q0 v64_4 T9.heap n0 Z9 Ea7_b6_9 Fa7_bits_b6_9 Ea9_b8 Fa9_bits_b8) hZ (own_w hw 20 rfl) (own_w hw 2 rfl) (by decide) (by decide)) qa13 qc13 (g := (mkF m 105 #[.val (.long q0), .second, .val (.long q1), .second, iv p2, iv (p2 &&& (3 : Int32)), iv (((p2.toUInt32 >>> ((2 : Int32) &&& 31).toUInt32).toInt32) &&& (63 : Int32)), .val (.long v64_4), .second, rv b6, rv b8, iv v99_11] [(.ref b8), (.ref b6)])) rfl (by rw [hml]; rfl) (Steps.refl _) (argsL := [(.ref b8)]) (rest := []) (lenOf pd__Lcom_example_urd_urd_model_NodeSet__Z rfl) rfl (by show 2 * 0 + _ ≤ _; exact Nat.le_of_eq rfl) (hb hby at_105) (fun _ _ => ⟨rfl, e12, (by decide : 2 + 0 ≤ _), (by decide : 2 + 0 ≤ _)⟩)
      dsimp only [Pt.U, Pt.locs, Pt.cells, Pt.slots] at X13 l13 y13 z13 st13 hQ13
      subst l13 y13 z13
      obtain ⟨rfl, N13q, eq13⟩ := hQ13
      have N13 := Fr.app N12 N13q
      refine own_steps (U' := T13.setTop (mkF m 108 #[.val (.long q0), .second, .val (.long q1), .second, iv p2, iv (p2 &&& (3 : Int32)), iv (((p2.toUInt32 >>> ((2 : Int32) &&& 31).toUInt32).toInt32) &&& (63 : Int32)), .val (.long v64_4), .second, rv b6, rv b8, iv v99_11] [(.int (F4 q0 v64_4))])) st13 ?_
      refine own_step (U' := T13.setTop (mkF m 118 #[.val (.long q0), .second, .val (.long q1), .second, iv p2, iv (p2 &&& (3 : Int32)), iv (((p2.toUInt32 >>> ((2 : Int32) &&& 31).toUInt32).toInt32) &&& (63 : Int32)), .val (.long v64_4), .second, rv b6, rv b8, iv v99_11] [(.int (1 : Int32))])) (fun t k => XS.iload X13.here hx rfl (hb hby at_108) rfl (XS.icmpNo X13.here hx rfl (hb hby at_110) rfl (teq (own_law q0 v64_4 v99_11 hv99_11)).2 (XS.iconst X13.here hx rfl (hb hby at_113) (XS.goto X13.here hx rfl (pc0 := 114) (pc' := 118) rfl (hb hby at_114) (by decide) (by decide) k)))) ?_
      exact own_out X13 (v := (some (.int (1 : Int32)))) hlk (own_nv Bd.returns) (by rw [eq13]; exact ⟨rfl, N13⟩) (by decide) (by decide) (fun fs hr => retN X13 hx (t := .boolean) Bd.returns (by simp) (hb hby at_118) hr)
    by_cases hc91_14 : (q0 ||| v64_4) = q0
    · refine own_step (U' := T9.setTop (mkF m 99 #[.val (.long q0), .second, .val (.long q1), .second, iv p2, iv (p2 &&& (3 : Int32)), iv (((p2.toUInt32 >>> ((2 : Int32) &&& 31).toUInt32).toInt32) &&& (63 : Int32)), .val (.long v64_4), .second, rv b6, rv b8, .unset] [(.int (1 : Int32))])) (fun t k => XS.ifNo X9.here hx rfl (hb hby at_91) rfl ((if0 _ _).trans (teq ((lw_eq (q0 ||| v64_4) q0).mpr hc91_14)).2) (XS.iconst X9.here hx rfl (hb hby at_94) (XS.goto X9.here hx rfl (pc0 := 95) (pc' := 99) rfl (hb hby at_95) (by decide) (by decide) k))) ?_
      have q_v99_11 : v99_11 = (1 : Int32) := by rw [hv99_11, if_pos hc91_14]
      rw [q_v99_11] at K99_12
      exact K99_12 _ _ X9 N9 rfl
    · refine own_step (U' := T9.setTop (mkF m 99 #[.val (.long q0), .second, .val (.long q1), .second, iv p2, iv (p2 &&& (3 : Int32)), iv (((p2.toUInt32 >>> ((2 : Int32) &&& 31).toUInt32).toInt32) &&& (63 : Int32)), .val (.long v64_4), .second, rv b6, rv b8, .unset] [(.int (0 : Int32))])) (fun t k => XS.ifYes X9.here hx rfl (pc0 := 91) (pc' := 98) rfl (hb hby at_91) rfl ((if0 _ _).trans (feq (mt (lw_eq (q0 ||| v64_4) q0).mp hc91_14)).2) (by decide) (by decide) (XS.iconst X9.here hx rfl (hb hby at_98) k)) ?_
      have q_v99_11 : v99_11 = (0 : Int32) := by rw [hv99_11, if_neg hc91_14]
      rw [q_v99_11] at K99_12
      exact K99_12 _ _ X9 N9 rfl
  by_cases hc17_15 : (p2 &&& (3 : Int32)) = (0 : Int32)
  · refine own_step (U' := s₁.setTop (mkF m 64 #[.val (.long q0), .second, .val (.long q1), .second, iv p2, iv (p2 &&& (3 : Int32)), iv (((p2.toUInt32 >>> ((2 : Int32) &&& 31).toUInt32).toInt32) &&& (63 : Int32)), .val (.long q1), .second, .unset, .unset, .unset] [])) (fun t k => XS.ifNo X0.here hx rfl (hb hby at_17) rfl ((if0 _ _).trans (teq hc17_15).2) (XS.lloadN X0.here hx rfl (hb hby at_20) rfl (XS.lstore X0.here hx rfl (hb hby at_21) rfl (l' := #[.val (.long q0), .second, .val (.long q1), .second, iv p2, iv (p2 &&& (3 : Int32)), iv (((p2.toUInt32 >>> ((2 : Int32) &&& 31).toUInt32).toInt32) &&& (63 : Int32)), .val (.long q1), .second, .unset, .unset, .unset]) rfl (XS.goto X0.here hx rfl (pc0 := 23) (pc' := 64) rfl (hb hby at_23) (by decide) (by decide) k)))) ?_
    have q_v64_4 : v64_4 = q1 := by rw [hv64_4, if_pos hc17_15]
    rw [q_v64_4] at K64_5
    exact K64_5 _ _ X0 N0 e0
  · refine own_step (U' := s₁.setTop (mkF m 29 #[.val (.long q0), .second, .val (.long q1), .second, iv p2, iv (p2 &&& (3 : Int32)), iv (((p2.toUInt32 >>> ((2 : Int32) &&& 31).toUInt32).toInt32) &&& (63 : Int32)), .unset, .unset, .unset, .unset, .unset] [(.int (1 : Int32)), (.int (p2 &&& (3 : Int32)))])) (fun t k => XS.ifYes X0.here hx rfl (pc0 := 17) (pc' := 26) rfl (hb hby at_17) rfl ((if0 _ _).trans (feq hc17_15).2) (by decide) (by decide) (XS.iload X0.here hx rfl (hb hby at_26) rfl (XS.iconst X0.here hx rfl (hb hby at_28) k))) ?_
    by_cases hc29_16 : (p2 &&& (3 : Int32)) = (1 : Int32)
    · refine own_step (U' := s₁.setTop (mkF m 64 #[.val (.long q0), .second, .val (.long q1), .second, iv p2, iv (p2 &&& (3 : Int32)), iv (((p2.toUInt32 >>> ((2 : Int32) &&& 31).toUInt32).toInt32) &&& (63 : Int32)), .val (.long (q1 &&& q0)), .second, .unset, .unset, .unset] [])) (fun t k => XS.icmpNo X0.here hx rfl (hb hby at_29) rfl (teq hc29_16).2 (XS.lloadN X0.here hx rfl (hb hby at_32) rfl (XS.lloadN X0.here hx rfl (hb hby at_33) rfl (XS.land X0.here hx rfl (hb hby at_34) rfl (XS.lstore X0.here hx rfl (hb hby at_35) rfl (l' := #[.val (.long q0), .second, .val (.long q1), .second, iv p2, iv (p2 &&& (3 : Int32)), iv (((p2.toUInt32 >>> ((2 : Int32) &&& 31).toUInt32).toInt32) &&& (63 : Int32)), .val (.long (q1 &&& q0)), .second, .unset, .unset, .unset]) rfl (XS.goto X0.here hx rfl (pc0 := 37) (pc' := 64) rfl (hb hby at_37) (by decide) (by decide) k)))))) ?_
      have q_v64_4 : v64_4 = (q1 &&& q0) := by rw [hv64_4, if_neg hc17_15, if_pos hc29_16]
      rw [q_v64_4] at K64_5
      exact K64_5 _ _ X0 N0 e0
    · refine own_step (U' := s₁.setTop (mkF m 43 #[.val (.long q0), .second, .val (.long q1), .second, iv p2, iv (p2 &&& (3 : Int32)), iv (((p2.toUInt32 >>> ((2 : Int32) &&& 31).toUInt32).toInt32) &&& (63 : Int32)), .unset, .unset, .unset, .unset, .unset] [(.int (2 : Int32)), (.int (p2 &&& (3 : Int32)))])) (fun t k => XS.icmpYes X0.here hx rfl (pc0 := 29) (pc' := 40) rfl (hb hby at_29) rfl (feq hc29_16).2 (by decide) (by decide) (XS.iload X0.here hx rfl (hb hby at_40) rfl (XS.iconst X0.here hx rfl (hb hby at_42) k))) ?_
      by_cases hc43_17 : (p2 &&& (3 : Int32)) = (2 : Int32)
      · refine own_step (U' := s₁.setTop (mkF m 54 #[.val (.long q0), .second, .val (.long q1), .second, iv p2, iv (p2 &&& (3 : Int32)), iv (((p2.toUInt32 >>> ((2 : Int32) &&& 31).toUInt32).toInt32) &&& (63 : Int32)), .unset, .unset, .unset, .unset, .unset] [(.long ((q1 &&& q0) ||| ((1 : Int64) <<< ((((p2.toUInt32 >>> ((2 : Int32) &&& 31).toUInt32).toInt32) &&& (63 : Int32)) &&& 0x3f).toInt64)))])) (fun t k => XS.icmpNo X0.here hx rfl (hb hby at_43) rfl (teq hc43_17).2 (XS.lloadN X0.here hx rfl (hb hby at_46) rfl (XS.lloadN X0.here hx rfl (hb hby at_47) rfl (XS.land X0.here hx rfl (hb hby at_48) rfl (XS.lconst X0.here hx rfl (hb hby at_49) (XS.iload X0.here hx rfl (hb hby at_50) rfl (XS.lshl X0.here hx rfl (hb hby at_52) rfl (XS.lor X0.here hx rfl (hb hby at_53) rfl k)))))))) ?_
        refine own_step (U' := s₁.setTop (mkF m 64 #[.val (.long q0), .second, .val (.long q1), .second, iv p2, iv (p2 &&& (3 : Int32)), iv (((p2.toUInt32 >>> ((2 : Int32) &&& 31).toUInt32).toInt32) &&& (63 : Int32)), .val (.long ((q1 &&& q0) ||| ((1 : Int64) <<< ((((p2.toUInt32 >>> ((2 : Int32) &&& 31).toUInt32).toInt32) &&& (63 : Int32)) &&& 0x3f).toInt64))), .second, .unset, .unset, .unset] [])) (fun t k => XS.lstore X0.here hx rfl (hb hby at_54) rfl (l' := #[.val (.long q0), .second, .val (.long q1), .second, iv p2, iv (p2 &&& (3 : Int32)), iv (((p2.toUInt32 >>> ((2 : Int32) &&& 31).toUInt32).toInt32) &&& (63 : Int32)), .val (.long ((q1 &&& q0) ||| ((1 : Int64) <<< ((((p2.toUInt32 >>> ((2 : Int32) &&& 31).toUInt32).toInt32) &&& (63 : Int32)) &&& 0x3f).toInt64))), .second, .unset, .unset, .unset]) rfl (XS.goto X0.here hx rfl (pc0 := 56) (pc' := 64) rfl (hb hby at_56) (by decide) (by decide) k)) ?_
        have q_v64_4 : v64_4 = ((q1 &&& q0) ||| ((1 : Int64) <<< ((((p2.toUInt32 >>> ((2 : Int32) &&& 31).toUInt32).toInt32) &&& (63 : Int32)) &&& 0x3f).toInt64)) := by rw [hv64_4, if_neg hc17_15, if_neg hc29_16, if_pos hc43_17]
        rw [q_v64_4] at K64_5
        exact K64_5 _ _ X0 N0 e0
      · refine own_step (U' := s₁.setTop (mkF m 64 #[.val (.long q0), .second, .val (.long q1), .second, iv p2, iv (p2 &&& (3 : Int32)), iv (((p2.toUInt32 >>> ((2 : Int32) &&& 31).toUInt32).toInt32) &&& (63 : Int32)), .val (.long (q1 ||| q0)), .second, .unset, .unset, .unset] [])) (fun t k => XS.icmpYes X0.here hx rfl (pc0 := 43) (pc' := 59) rfl (hb hby at_43) rfl (feq hc43_17).2 (by decide) (by decide) (XS.lloadN X0.here hx rfl (hb hby at_59) rfl (XS.lloadN X0.here hx rfl (hb hby at_60) rfl (XS.lor X0.here hx rfl (hb hby at_61) rfl (XS.lstore X0.here hx rfl (hb hby at_62) rfl (l' := #[.val (.long q0), .second, .val (.long q1), .second, iv p2, iv (p2 &&& (3 : Int32)), iv (((p2.toUInt32 >>> ((2 : Int32) &&& 31).toUInt32).toInt32) &&& (63 : Int32)), .val (.long (q1 ||| q0)), .second, .unset, .unset, .unset]) rfl k))))) ?_
        have q_v64_4 : v64_4 = (q1 ||| q0) := by rw [hv64_4, if_neg hc17_15, if_neg hc29_16, if_neg hc43_17]
        rw [q_v64_4] at K64_5
        exact K64_5 _ _ X0 N0 e0
set_option maxRecDepth 65536 in
set_option maxHeartbeats 40000000 in
theorem comes_1 {Post : Tables → Env → Array Value → State → Outcome → State → Prop} (hpost : ∀ tb e args s v u, (limb_1_1.after args s (.returned v) u = true ∧ limb_1_2.after args s (.returned v) u = true ∧ True) → FrameEnd s (.returned v) u (Jvm.fieldLocs frame_1_writes args s ++ Jvm.arrayLocs frame_1_arrays args s ++ Jvm.staticLocs frame_1_statics s) 16 128 → Post tb e args s (.returned v) u) :
    ArmFor flags0 classFile x code maxLocals ret World_1 tables_1 room_1 Calls_1 rest_1 Pre_1 Post := by
  intro l hfl _ _ p e ha hc hk s m args below hf hA hF happ hP
  obtain ⟨hcalls, hrest, hpre⟩ := hP
  obtain ⟨-, -, -, hnamed, -, -, -, hat⟩ := (Spec.applies_iff hf).mp happ
  obtain ⟨hg, hn⟩ := and_e (Cond.before_iff.mp (show (Jvm.Cond.and given_1 narrow_1).before args s = true from hpre))
  obtain ⟨gc, gr0⟩ := and_e hg
  obtain ⟨ga0, gr1⟩ := and_e gr0
  obtain ⟨ga1, gr2⟩ := and_e gr1
  obtain ⟨w0, w1, w2, rfl⟩ : ∃ w0 w1 w2 : Value, args = #[w0, w1, w2] := by
    have hs : args.size = 3 := by simpa [Cond.value, given_1] using gc
    obtain ⟨L⟩ := args
    match L, hs with
    | [w0, w1, w2], _ => exact ⟨w0, w1, w2, rfl⟩
  have hw := fun d (hd : d ∈ tables_1) => atoms_spec (ws := Jvm.Cond.code x code maxLocals ret :: tables_1) hat d (List.mem_cons_of_mem _ hd)
  have hfit : Fit s := fun {y c} hc i hi => by
    obtain ⟨ha, rfl⟩ := Array.getElem?_eq_some_iff.mp hc
    have q := List.all_eq_true.mp ((Array.all_eq_true_iff_forall_mem.mp hF) _ (Array.getElem_mem ha)) i (List.mem_range.mpr hi)
    simpa [Array.getElem?_eq_getElem hi] using q
  obtain ⟨i0, ei0⟩ := isL_v ga0
  obtain rfl : w0 = (.long i0) := Option.some.inj ei0
  obtain ⟨i1, ei1⟩ := isL_v ga1
  obtain rfl : w1 = (.long i1) := Option.some.inj ei1
  obtain ⟨i2, ei2⟩ := is_v gr2
  obtain rfl : w2 = (.int i2) := Option.some.inj ei2
  obtain ⟨n, o, h1, h2, h3, _, L, rfl, ⟨rfl, N⟩, hq⟩ := rm0 l s _ hw tables_1 i0 i1 i2  s.heap s.heap.size (Nat.le_refl _)  p e ha hc hk s m _ below hf ((Spec.applies_iff_loose hf).mp happ).1 ⟨rfl, State.Warmed39.refl s, rfl⟩ trivial
  refine ⟨n, _, h1, h2, h3, hpost _ _ _ _ _ _ ⟨Cond.after_iff.mpr rfl, Cond.after_iff.mpr (eq_i res_at (Term.int_eval (1)) rfl), trivial⟩ ⟨hq.1, hq.2.1, (hq.2.2.sift fun y hy => Or.inr (N y hy)).mono (by decide) (by decide)⟩⟩
theorem main_1_1 : Claimed_1_1 := comes_1 fun _ _ _ _ _ _ h hF => ⟨h.1, hF⟩
theorem main_1_2 : Claimed_1_2 := comes_1 fun _ _ _ _ _ _ h hF => ⟨h.2.1, hF⟩
end Jvm.Pilot.@@N@@
namespace Jvm.Pilot.@@N@@
open Jvm Jvm.ClassFile Sem Op Lib Jvm.Free Jvm.Stand Jvm.Pilot.@@N@@.Jvm.D
/-! MADE BY PROGRAM (witnessworld.py) out of the Statement's table words and the real class files: 10 classes; the members and pool entries that the words name. The judged class is class 1, her method 1. -/
namespace start1
open Jvm.ClassFile
def u (s : String) : CpInfo := .utf8 (stringToUtf16 s)
/-- a pool by its gaps: so many unusable entries, then the entry; so many at the end -/
def gap : Nat → List CpInfo → List CpInfo
  | 0, r => r
  | n + 1, r => .unusable :: gap n r
def poolList (es : List (Nat × CpInfo)) (last : Nat) : List CpInfo := es.foldr (fun e r => gap e.1 (e.2 :: r)) (gap last [])
def pool (es : List (Nat × CpInfo)) (last : Nat) : Array CpInfo := ⟨poolList es last⟩
def fileOf (pool : Array CpInfo) (this : Nat) (attrs : Array Attribute := #[]) (ms : Array MethodInfo := #[]) (fl : Nat := 33) (sup : Nat := 0) (ifs : Array Nat := #[]) (fds : Array FieldInfo := #[]) : ClassFile where
  minorVersion := 0
  majorVersion := 65
  constantPool := pool
  accessFlags := fl
  thisClass := this
  superClass := sup
  interfaces := ifs
  fields := fds
  methods := ms
  attributes := attrs
def plain (name : String) (sup : Option ClassId) : Class where
  name := name
  kind := .ordinary
  loader := none
  accessFlags := 33
  super := sup
  interfaces := #[]
  cf := none
  fields := #[]
  methods := #[]
  instanceTypes := #[]
  staticTypes := #[]
  resolved := #[]
  callSites := []
  init := .initialized
  statics := none
  mirror := none

def pool0 : Array CpInfo := pool [(5, u "<init>"), (0, u "()V"), (1, .class_ 10), (1, u "java/lang/Object")] 113

def k0c0 : Code := { maxStack := 0, maxLocals := 1, code := object_method_1_code, exceptionTable := #[], attributes := #[] }
def k0m0 : Method := { name := "<init>", desc := "()V", sig := { parameters := [], returnType := none }, accessFlags := 1, code := some k0c0 }
/-- java/lang/Object -/
def k0 : Class := { plain "java/lang/Object" none with
  accessFlags := 33
  interfaces := #[]
  cf := some (fileOf pool0 8 #[] #[{ accessFlags := 1, nameIndex := 5, descriptorIndex := 6, attributes := #[] }] 33 0 #[] #[])
  fields := #[]
  methods := #[k0m0]
  instanceTypes := #[]
  staticTypes := #[]
  resolved := Array.replicate 124 none
  statics := none }

def pool1 : Array CpInfo := pool [(2, .class_ 4), (1, u "java/lang/Object"), (0, u "<init>"), (0, u "()V"), (0, .class_ 8), (0, u "com/example/urd/urd/model/NodeSet"), (0, .methodref 7 10), (0, .nameAndType 5 11), (0, u "(J)V"), (0, .methodref 7 13), (0, .nameAndType 14 15), (0, u "containsAll"), (0, u "(Lcom/example/urd/urd/model/NodeSet;)Z"), (0, .class_ 17), (0, u "com/example/urd/urd/model/NodeSetContainsAllPinLaw"), (2, u "law"), (0, u "(JJI)Z")] 3

def k1m0 : Method := { name := "<init>", desc := "()V", sig := { parameters := [], returnType := none }, accessFlags := 2, code := none }
def k1c1 : Code := { maxStack := 5, maxLocals := 12, code := code, exceptionTable := #[], attributes := #[] }
def k1m1 : Method := { name := "law", desc := "(JJI)Z", sig := { parameters := [.long, .long, .int], returnType := some .boolean }, accessFlags := 9, code := some k1c1 }
/-- com/example/urd/urd/model/NodeSetContainsAllPinLaw -/
def k1 : Class := { plain "com/example/urd/urd/model/NodeSetContainsAllPinLaw" (some 0) with
  accessFlags := 49
  interfaces := #[]
  cf := some (fileOf pool1 16 #[] #[{ accessFlags := 2, nameIndex := 5, descriptorIndex := 6, attributes := #[] }, { accessFlags := 9, nameIndex := 20, descriptorIndex := 21, attributes := #[] }] 49 2 #[] #[])
  fields := #[]
  methods := #[k1m0, k1m1]
  instanceTypes := #[]
  staticTypes := #[]
  resolved := Array.replicate 25 none
  statics := none }

def pool2 : Array CpInfo := pool [(1, .methodref 2 3), (0, .class_ 4), (0, .nameAndType 5 6), (0, u "java/lang/Object"), (0, u "<init>"), (0, u "()V"), (0, .class_ 8), (0, u "java/lang/Record")] 13

def k2c0 : Code := { maxStack := 1, maxLocals := 1, code := jdk_30_method_1_code, exceptionTable := #[], attributes := #[] }
def k2m0 : Method := { name := "<init>", desc := "()V", sig := { parameters := [], returnType := none }, accessFlags := 4, code := some k2c0 }
/-- java/lang/Record -/
def k2 : Class := { plain "java/lang/Record" (some 0) with
  accessFlags := 1057
  interfaces := #[]
  cf := some (fileOf pool2 7 #[] #[{ accessFlags := 4, nameIndex := 5, descriptorIndex := 6, attributes := #[] }] 1057 2 #[] #[])
  fields := #[]
  methods := #[k2m0]
  instanceTypes := #[]
  staticTypes := #[]
  resolved := Array.replicate 22 none
  statics := none }

def pool3 : Array CpInfo := pool [(1, .methodref 2 3), (0, .class_ 4), (0, .nameAndType 5 6), (0, u "java/lang/Record"), (0, u "<init>"), (0, u "()V"), (0, .fieldref 8 9), (0, .class_ 10), (0, .nameAndType 11 12), (0, u "com/example/urd/urd/model/NodeSet"), (0, u "bits"), (0, u "J"), (2, u "EMPTY"), (0, u "Lcom/example/urd/urd/model/NodeSet;"), (9, .long 18446744073709551615), (3, u "(J)V"), (101, .class_ 133), (0, u "com/example/urd/urd/model/NodeSet$SubsetIterator"), (1, u "MAX_NODES"), (0, u "I"), (27, u "containsAll"), (0, u "(Lcom/example/urd/urd/model/NodeSet;)Z")] 48

def k3c0 : Code := { maxStack := 3, maxLocals := 3, code := prog_32_method_1_code, exceptionTable := #[], attributes := #[] }
def k3m0 : Method := { name := "<init>", desc := "(J)V", sig := { parameters := [.long], returnType := none }, accessFlags := 1, code := some k3c0 }
def k3c1 : Code := { maxStack := 6, maxLocals := 2, code := prog_32_method_13_code, exceptionTable := #[], attributes := #[] }
def k3m1 : Method := { name := "containsAll", desc := "(Lcom/example/urd/urd/model/NodeSet;)Z", sig := { parameters := [(.object "com/example/urd/urd/model/NodeSet")], returnType := some .boolean }, accessFlags := 1, code := some k3c1 }
/-- com/example/urd/urd/model/NodeSet -/
def k3 : Class := { plain "com/example/urd/urd/model/NodeSet" (some 2) with
  accessFlags := 49
  interfaces := #[]
  cf := some (fileOf pool3 8 #[.nestMembers #[132]] #[{ accessFlags := 1, nameIndex := 5, descriptorIndex := 30, attributes := #[] }, { accessFlags := 1, nameIndex := 164, descriptorIndex := 165, attributes := #[] }] 49 2 #[] #[{ accessFlags := 18, nameIndex := 11, descriptorIndex := 12, attributes := #[] }, { accessFlags := 25, nameIndex := 135, descriptorIndex := 136, attributes := #[] }, { accessFlags := 26, nameIndex := 15, descriptorIndex := 16, attributes := #[] }])
  fields := #[{ name := "bits", type := .long, accessFlags := 18, slot := 0, constantValue := 0 }, { name := "MAX_NODES", type := .int, accessFlags := 25, slot := 0, constantValue := 0 }, { name := "EMPTY", type := (.object "com/example/urd/urd/model/NodeSet"), accessFlags := 26, slot := 1, constantValue := 0 }]
  methods := #[k3m0, k3m1]
  instanceTypes := #[.long]
  staticTypes := #[.int, (.object "com/example/urd/urd/model/NodeSet")]
  resolved := Array.replicate 214 none
  statics := none }

def pool4 : Array CpInfo := pool [(1, u "java/lang/Cloneable"), (0, .class_ 1), (0, u "java/lang/Object"), (0, .class_ 3)] 3

/-- java/lang/Cloneable -/
def k4 : Class := { plain "java/lang/Cloneable" (some 0) with
  accessFlags := 1537
  interfaces := #[]
  cf := some (fileOf pool4 2 #[] #[] 1537 4 #[] #[])
  fields := #[]
  methods := #[]
  instanceTypes := #[]
  staticTypes := #[]
  resolved := Array.replicate 8 none
  statics := none }

def pool5 : Array CpInfo := pool [(1, u "java/io/Serializable"), (0, .class_ 1), (0, u "java/lang/Object"), (0, .class_ 3)] 3

/-- java/io/Serializable -/
def k5 : Class := { plain "java/io/Serializable" (some 0) with
  accessFlags := 1537
  interfaces := #[]
  cf := some (fileOf pool5 2 #[] #[] 1537 4 #[] #[])
  fields := #[]
  methods := #[]
  instanceTypes := #[]
  staticTypes := #[]
  resolved := Array.replicate 8 none
  statics := none }

/-- the primitive byte -/
def k6 : Class := { plain "byte" none with kind := .primitive 'B', accessFlags := 0x411 }
/-- [B -/
def k7 : Class := { plain "[B" (some 0) with kind := .array 6 .byte, interfaces := #[4, 5], accessFlags := 1041 }

/-- the primitive int -/
def k8 : Class := { plain "int" none with kind := .primitive 'I', accessFlags := 0x411 }
/-- [I -/
def k9 : Class := { plain "[I" (some 0) with kind := .array 8 .int, interfaces := #[4, 5], accessFlags := 1041 }

def heap : Heap := #[]
def classes : Array Class := #[k0, k1, k2, k3, k4, k5, k6, k7, k8, k9]
def interned : List (Array UInt16 × Addr) := []
def slotsUsed : Nat := 0
def theMethod : MethodId := ⟨1, 1⟩
def args0 : Array Value := #[.long 5, .long 6, .int 7]
def aboutOver (below : List Frame) : State where
  vm := { classes := classes, interned := interned.toArray }
  heap := heap
  slotsUsed := slotsUsed
  threads := #[{ frames := .invoking theMethod args0 :: below }]
def below0 : List Frame := [.native { method := ⟨0, 0⟩, args := #[] }]
def about1 : State := aboutOver below0
def p0 : Program := .bare "" "" ""
def e0 : Env := launch0.env 0 0 0
theorem w_frames : about1.frames = Frame.invoking theMethod args0 :: below0 := rfl
set_option maxRecDepth 65536 in
theorem w_args : argsFit about1.vm theMethod args0 = true := by decide +kernel
set_option maxRecDepth 65536 in
theorem w_heap : heapFits about1 = true := by decide +kernel
set_option maxRecDepth 65536 in
theorem w_runnable : about1.curStatus? = some .runnable := by decide +kernel
set_option maxRecDepth 65536 in
theorem w_alone : about1.alone = true := by decide +kernel
set_option maxRecDepth 65536 in
theorem w_named : about1.methodNamed? x = some theMethod := by decide +kernel
set_option maxRecDepth 65536 in
theorem w_hears : about1.hears theMethod below0 = true := by decide +kernel
set_option maxRecDepth 65536 in
theorem w_ripe : about1.ripe theMethod args0 below0 = true := by decide +kernel
theorem w_running : about1.status = .running := rfl
set_option maxRecDepth 65536 in
theorem w_room : about1.hasRoom e0.platform room_1 = true :=
  launch0.hasRoom_least _ room_1 (by decide +kernel) (by decide +kernel) (by decide +kernel) (by decide +kernel) (by decide +kernel) (by decide +kernel)
theorem allAtoms_all (ts : List Jvm.Cond) (a : Array Jvm.Value) (st : Jvm.State) : (allAtoms ts).before a st = ts.all (fun c => c.before a st) := by
  induction ts with
  | nil => rfl
  | cons c t ih =>
    show (Jvm.Cond.and c (allAtoms t)).before a st = _
    rw [Jvm.Cond.before_and, ih, List.all_cons]
def words1 : List Jvm.Cond := Jvm.Cond.code x code maxLocals ret :: tables_1
/-- a 'code' word, met by the world's own term for the bytes: nothing is compared byte by byte -/
theorem code_word {y : MethodName} {bytes : ByteArray} {mx : Nat} {rt : Option FieldType} {a : Array Value} {s : State} {m : MethodId} {meth : Method} {c : Code} (h1 : s.methodNamed? y = some m) (h2 : s.vm.method? m = some meth) (h3 : meth.code = some c) (h4 : c.code = bytes)
    (h5 : (c.maxLocals == mx && c.exceptionTable.isEmpty && decide (c.maxStack ≤ mostOperands) && decide (meth.sig.returnType = rt) && !meth.locks && decide (parseMethodDescriptor y.desc = some meth.sig)) = true) : (Jvm.Cond.code y bytes mx rt).before a s = true := by
  simp only [Bool.and_eq_true, beq_iff_eq, Bool.not_eq_true', decide_eq_true_eq] at h5
  obtain ⟨⟨⟨⟨⟨g1, g2⟩, g3⟩, g4⟩, g5⟩, g6⟩ := h5
  simp [Cond.before, Cond.holds, Cond.value, h1, h2, h3, h4, g1, g2, g3, g4, g5, g6]
def isCode : Jvm.Cond → Bool
  | .code _ _ _ _ => true
  | _ => false
theorem all_split {L : List Jvm.Cond} {P : Jvm.Cond → Bool} (h1 : L.all (fun c => isCode c || P c) = true) (h2 : ∀ c ∈ L.filter isCode, P c = true) : L.all P = true := by
  refine List.all_eq_true.mpr fun c hc => ?_
  have h := List.all_eq_true.mp h1 c hc
  rcases Bool.eq_false_or_eq_true (isCode c) with hi | hi
  · exact h2 c (List.mem_filter.mpr ⟨hc, hi⟩)
  · simpa [hi] using h
set_option maxRecDepth 65536 in
theorem w_c0 : (Jvm.Cond.code x code maxLocals ret).before args0 about1 = true := code_word (m := ⟨1, 1⟩) (meth := k1m1) (c := k1c1) (by decide +kernel) rfl rfl rfl (by decide +kernel)
set_option maxRecDepth 65536 in
theorem w_c1 : (Jvm.Cond.code ({ cls := "com/example/urd/urd/model/NodeSet", name := "<init>", desc := "(J)V" } : Jvm.MethodName) prog_32_method_1_code (3 : Nat) (Option.none : Option Jvm.ClassFile.FieldType)).before args0 about1 = true := code_word (m := ⟨3, 0⟩) (meth := k3m0) (c := k3c0) (by decide +kernel) rfl rfl rfl (by decide +kernel)
set_option maxRecDepth 65536 in
theorem w_c2 : (Jvm.Cond.code ({ cls := "java/lang/Record", name := "<init>", desc := "()V" } : Jvm.MethodName) jdk_30_method_1_code (1 : Nat) (Option.none : Option Jvm.ClassFile.FieldType)).before args0 about1 = true := code_word (m := ⟨2, 0⟩) (meth := k2m0) (c := k2c0) (by decide +kernel) rfl rfl rfl (by decide +kernel)
set_option maxRecDepth 65536 in
theorem w_c3 : (Jvm.Cond.code ({ cls := "java/lang/Object", name := "<init>", desc := "()V" } : Jvm.MethodName) object_method_1_code (1 : Nat) (Option.none : Option Jvm.ClassFile.FieldType)).before args0 about1 = true := code_word (m := ⟨0, 0⟩) (meth := k0m0) (c := k0c0) (by decide +kernel) rfl rfl rfl (by decide +kernel)
set_option maxRecDepth 65536 in
theorem w_c4 : (Jvm.Cond.code ({ cls := "com/example/urd/urd/model/NodeSet", name := "containsAll", desc := "(Lcom/example/urd/urd/model/NodeSet;)Z" } : Jvm.MethodName) prog_32_method_13_code (2 : Nat) (Option.some Jvm.ClassFile.FieldType.boolean)).before args0 about1 = true := code_word (m := ⟨3, 1⟩) (meth := k3m1) (c := k3c1) (by decide +kernel) rfl rfl rfl (by decide +kernel)
def codes1 : List Jvm.Cond := [Jvm.Cond.code x code maxLocals ret, Jvm.Cond.code ({ cls := "com/example/urd/urd/model/NodeSet", name := "<init>", desc := "(J)V" } : Jvm.MethodName) prog_32_method_1_code (3 : Nat) (Option.none : Option Jvm.ClassFile.FieldType), Jvm.Cond.code ({ cls := "java/lang/Record", name := "<init>", desc := "()V" } : Jvm.MethodName) jdk_30_method_1_code (1 : Nat) (Option.none : Option Jvm.ClassFile.FieldType), Jvm.Cond.code ({ cls := "java/lang/Object", name := "<init>", desc := "()V" } : Jvm.MethodName) object_method_1_code (1 : Nat) (Option.none : Option Jvm.ClassFile.FieldType), Jvm.Cond.code ({ cls := "com/example/urd/urd/model/NodeSet", name := "containsAll", desc := "(Lcom/example/urd/urd/model/NodeSet;)Z" } : Jvm.MethodName) prog_32_method_13_code (2 : Nat) (Option.some Jvm.ClassFile.FieldType.boolean)]
set_option maxRecDepth 65536 in
theorem codes_eq : words1.filter isCode = codes1 := rfl
theorem w_codes : ∀ c ∈ words1.filter isCode, c.before args0 about1 = true := by
  rw [codes_eq]
  intro c hc
  simp only [codes1, List.mem_cons, List.not_mem_nil, or_false] at hc
  rcases hc with rfl | rfl | rfl | rfl | rfl
  · exact w_c0
  · exact w_c1
  · exact w_c2
  · exact w_c3
  · exact w_c4
set_option maxRecDepth 65536 in
theorem w_t1 : words1.all (fun c => isCode c || c.before args0 about1) = true := by decide +kernel
theorem w_tables : (allAtoms (Jvm.Cond.code x code maxLocals ret :: tables_1)).before args0 about1 = true := by
  rw [allAtoms_all]
  show words1.all (fun c => c.before args0 about1) = true
  refine all_split ?_ w_codes
  rw [w_t1]
set_option maxRecDepth 65536 in
theorem w_case : (Jvm.Cond.and given_1 narrow_1).before args0 about1 = true := by decide +kernel
theorem w_applies : (headSpec (Jvm.Cond.code x code maxLocals ret :: tables_1) room_1).applies x e0.platform about1 = true :=
  (Spec.applies_iff w_frames).mpr ⟨w_running, w_runnable, w_alone, w_named, w_hears, w_ripe, w_room, w_tables⟩
theorem atStart : AtStart classFile x code maxLocals ret World_1 tables_1 room_1 Calls_1 rest_1 Pre_1 launch0 p0 e0 about1 theMethod args0 below0 :=
  ⟨lists_1, trivial, launch0.admits_env _ _ _, launch0.least_env, fairChoices_fair.cas, fairChoices_fair.clock, w_frames, w_args, w_heap, w_applies, trivial, trivial, w_case⟩
end start1
theorem witness_1 : WitnessClaimed_1 := ⟨start1.p0, start1.e0, start1.about1, start1.theMethod, start1.args0, start1.below0, start1.atStart⟩
end Jvm.Pilot.@@N@@
