import JvmDerived
import JvmDerived.Pilot.@@N@@Statement
import JvmDerived.Pilot.@@N@@Code
set_option linter.unusedVariables false
set_option linter.unusedSimpArgs false
namespace Jvm.RoadKit
open Sem ClassFile Op Lib Jvm.Stand Jvm.Free Jvm.LawKit
section New
variable {p : Program} {l : Launch} {e : Env} {R : Room} {s : State} {m : MethodId} {args : Array Value} {below : List Frame} {meth : Method} {c : Code} {T : State} {locs : List Loc} {cells slots : Nat}
theorem retI (X : Stand p l e R s m args below meth c T locs cells slots) (hx : p.tables.exec = Jvm.exec) {pc : Nat} {Ls : Array Slot} {z : Int32} {rest : List Value} (hret : meth.sig.returnType = some .int) (hd : decode c.code pc = .ok (.ireturn, 1)) {fs : List Frame}
    (hl : ∀ (f : JFrame) (acts : List Action), f.method = m → f.locked = none → f.entered = [] → (doReturn e (T.setTop f) acts (some (.int z))).1 = T.setFrames fs) : Steps p.tables e below (T.setTop (mkF m pc Ls (.int z :: rest))) (T.setFrames fs) := by
  have hm' : T.vm.method? m = some meth := X.method'
  have hn : narrow .int (.int z) = .int z := rfl
  show Steps p.tables e below (T.setTop { method := m, pc := pc, locals := Ls, stack := _ :: rest, locked := none }) _
  jvm_step X.here [X.here.top, hx, hd, hm', hret, hn]
  first | (intro acts; rw [hl _ acts rfl rfl rfl]) | rw [hl _ _ rfl rfl rfl]
  exact Steps.refl _
end New
end Jvm.RoadKit
namespace Jvm.Pilot.@@N@@
open Jvm Jvm.ClassFile Sem Op Lib Jvm.Free Jvm.Stand Jvm.LawKit Jvm.RoadKit Bundle Jvm.Pilot.@@N@@.Jvm.D
theorem own_w {a0 : Array Value} {Z : State} (hw : ∀ d ∈ tables_1, d.before a0 Z = true) (i : Nat) {d : Jvm.Cond} (h : tables_1[i]? = some d) : d.before a0 Z = true := hw d (List.mem_of_getElem? h)
/-- from U the run comes to the method's end, and Q holds there -/
def own_Go (tb : Tables) (e : Env) (below : List Frame) (s : State) (C N : Nat) (Q : Option Value → Heap → List Loc → Prop) (U : State) : Prop :=
  ∃ t o, Steps tb e below U t ∧ t.status = .running ∧ Ended t below o ∧ ∃ v L, o = .returned v ∧ Q v t.heap L ∧ FrameEnd s o t L C N
theorem own_step {tb : Tables} {e : Env} {below : List Frame} {s : State} {C N : Nat} {Q : Option Value → Heap → List Loc → Prop} {U U' : State} (h : ∀ t, Steps tb e below U' t → Steps tb e below U t) (k : own_Go tb e below s C N Q U') : own_Go tb e below s C N Q U := by
  obtain ⟨t, o, h1, h2⟩ := k
  exact ⟨t, o, h t h1, h2⟩
theorem own_steps {tb : Tables} {e : Env} {below : List Frame} {s : State} {C N : Nat} {Q : Option Value → Heap → List Loc → Prop} {U U' : State} (h : Steps tb e below U U') (k : own_Go tb e below s C N Q U') : own_Go tb e below s C N Q U := own_step (fun _ q => h.trans q) k
theorem own_out {p : Program} {l : Launch} {e : Env} {R : Room} {s : State} {m : MethodId} {args : Array Value} {below : List Frame} {meth : Method} {c : Code} {T : State} {locs : List Loc} {cells slots : Nat} (X : Stand p l e R s m args below meth c T locs cells slots) {v : Option Value}
    (hlk : meth.locks = false) (hv : meth.sig.returnType = none → v = none) {C N : Nat} {Q : Option Value → Heap → List Loc → Prop} (hQ : Q v T.heap locs) (hC : cells ≤ C) (hN : slots ≤ N) {U : State}
    (k : ∀ fs, (∀ (f : JFrame) (acts : List Action), f.method = m → f.locked = none → f.entered = [] → (doReturn e (T.setTop f) acts v).1 = T.setFrames fs) → Steps p.tables e below U (T.setFrames fs)) : own_Go p.tables e below s C N Q U := by
  obtain ⟨fs, hr, hrun, hended, hW, hsame⟩ := X.leave hv hlk
  exact ⟨_, _, k fs hr, hrun, hended, _, _, rfl, hQ, ⟨_, rfl⟩, hW, hsame.mono hC hN⟩
theorem own_exaP {Z : State} {h : Heap} {a : Addr} {C : String} (E : Exa Z h a C) : ∀ c : Cell, h[a]? = some c → c.vm.isStatics = false := fun c hc => by
  obtain ⟨cell, k, h1, -, -, h4, -⟩ := E
  cases h1.symm.trans hc; exact h4
theorem own_staK {Z : State} {h h' : Heap} {C n d : String} {v : Value} {ws : List Addr} (S : Sta Z h C n d v) (K : Keep h h' ws) (q : ∀ w ∈ ws, ∀ c : Cell, h[w]? = some c → c.vm.isStatics = false) : Sta Z h' C n d v := by
  obtain ⟨cf, i, k, f, st, cell, h1, h2, h3, h4, h5, h6, h7⟩ := S
  exact ⟨cf, i, k, f, st, cell, h1, h2, h3, h4, K.2.1 st cell h5 (fun z => by have := q st z cell h5; rw [h6] at this; cases this), h6, h7⟩
theorem own_anyF {Z : State} {a0 : Array Value} {h : Heap} {a : Addr} {C O n d O' n' d' : String} {v' : Value} {k : Nat} (E : Exa Z h a C) (F : Fld Z h a O' n' d' v') (wi : (Cond.instantiable C k).before a0 Z = true) (L : Laid Z a0 C O n d) : ∃ v, Fld Z h a O n d v :=
  fld_laid E (by obtain ⟨cell, _, _, _, _, h1, _, _, h4, _⟩ := F; exact ⟨cell, h1, h4⟩) wi L
theorem own_nv {meth : Method} {t : FieldType} (h : meth.sig.returnType = some t) {v : Option Value} : meth.sig.returnType = none → v = none := fun q => by rw [h] at q; cases q
theorem pd__J_V : parseMethodDescriptor "(J)V" = some ⟨[.long], none⟩ := by decide +kernel
theorem pd__Ljava_lang_Object__Z : parseMethodDescriptor "(Ljava/lang/Object;)Z" = some ⟨[(.object "java/lang/Object")], some .boolean⟩ := by decide +kernel
theorem pd__J_Ljava_lang_Long_ : parseMethodDescriptor "(J)Ljava/lang/Long;" = some ⟨[.long], some (.object "java/lang/Long")⟩ := by decide +kernel
theorem pd___V : parseMethodDescriptor "()V" = some ⟨[], none⟩ := by decide +kernel

/-- the shared boxes: an array of 256, each place a Long -/
def own_Cache (Z : State) (h : Heap) (ca : Addr) : Prop := ∃ cl : Cell, Arr Z h ca cl (.object "java/lang/Long") ∧ cl.slots.size = 256 ∧ ∀ k, k < 256 → ∃ y : Addr, cl.slots[k]? = some (.ref y) ∧ Exa Z h y "java/lang/Long"
theorem own_Cache.lt {Z : State} {h : Heap} {ca : Addr} (F : own_Cache Z h ca) : ca < h.size := by obtain ⟨cl, A, -⟩ := F; exact A.lt
theorem own_Cache.ext {Z : State} {h h' : Heap} {ca : Addr} (F : own_Cache Z h ca) (E : Ext h h') : own_Cache Z h' ca := by
  obtain ⟨cl, A, S, H⟩ := F
  exact ⟨cl, A.ext E, S, fun k hk => by obtain ⟨y, h1, h2⟩ := H k hk; exact ⟨y, h1, h2.ext E⟩⟩
theorem own_Cache.other {Z : State} {h h' : Heap} {ca a : Addr} {sl : Nat} {v : Value} (F : own_Cache Z h ca) (Wq : Wr h h' a sl v) (q : ca ≠ a) : own_Cache Z h' ca := by
  obtain ⟨cl, A, S, H⟩ := F
  exact ⟨cl, A.other Wq q, S, fun k hk => by obtain ⟨y, h1, h2⟩ := H k hk; exact ⟨y, h1, h2.wr Wq⟩⟩
theorem own_Cache.keep {Z : State} {h h' : Heap} {ca : Addr} {ws : List Addr} (F : own_Cache Z h ca) (K : Keep h h' ws) (q : ca ∉ ws) : own_Cache Z h' ca := by
  obtain ⟨cl, A, S, H⟩ := F
  exact ⟨cl, ⟨K.2.1 ca cl A.1 q, A.2⟩, S, fun k hk => by obtain ⟨y, h1, h2⟩ := H k hk; exact ⟨y, h1, h2.keep K⟩⟩
theorem own_in {q : Int64} (h1 : ¬ q < (-128 : Int64)) (h2 : ¬ (127 : Int64) < q) : ¬ ((q.toInt32 + (128 : Int32)) < 0 ∨ 256 ≤ (q.toInt32 + (128 : Int32)).toNatClampNeg) := by
  have e1 : (-128 : Int64).toInt = -128 := by decide
  have e2 : (127 : Int64).toInt = 127 := by decide
  have e3 : (128 : Int32).toInt = 128 := by decide
  have e0 : (0 : Int32).toInt = 0 := by decide
  rw [Int64.lt_iff_toInt_lt] at h1 h2
  have c1 := c_l2i q; have r1 := rng32 q.toInt32
  have c2 := c_iadd q.toInt32 128; have r2 := rng32 (q.toInt32 + 128)
  rw [Int32.lt_iff_toInt_lt, Int32.toNatClampNeg]
  omega
theorem own_sub0 (vm : Vm) (s t : ClassId) : vm.isSubclassAux 0 s t = false := rfl
theorem own_subS (vm : Vm) (f : Nat) {s t p : ClassId} {k : Class} (hne : s ≠ t) (hk : vm.classes[s]? = some k) (hp : k.super = some p) : vm.isSubclassAux (f + 1) s t = vm.isSubclassAux f p t := by
  show (s == t || match vm.classes[s]? with
      | some k => match k.super with
        | some p => vm.isSubclassAux f p t
        | none => false
      | none => false) = _
  rw [beq_false_of_ne hne, hk]; simp only [hp, Bool.false_or]
theorem own_subE (vm : Vm) (f : Nat) {s t : ClassId} {k : Class} (hne : s ≠ t) (hk : vm.classes[s]? = some k) (hp : k.super = none) : vm.isSubclassAux (f + 1) s t = false := by
  show (s == t || match vm.classes[s]? with
      | some k => match k.super with
        | some p => vm.isSubclassAux f p t
        | none => false
      | none => false) = _
  rw [beq_false_of_ne hne, hk]; simp only [hp, Bool.false_or]
theorem own_asg (vm : Vm) {s t : ClassId} {ks kt : Class} (hne : s ≠ t) (hs : vm.classes[s]? = some ks) (ht : vm.classes[t]? = some kt) (os : ks.kind = .ordinary) (ot : kt.kind = .ordinary) (it : kt.isInterface = false) : vm.assignable s t = vm.isSubclass s t := by
  show (s == t || match vm.classes[s]?, vm.classes[t]? with
      | some ks, some kt =>
        match ks.kind, kt.kind with
        | .array sc _, .array tc _ =>
          if vm.isPrimitive sc || vm.isPrimitive tc then sc == tc else vm.assignableAux 255 sc tc
        | .primitive _, _ | _, .primitive _ => false
        | _, _ => if kt.isInterface then (vm.superinterfaces s).contains t else vm.isSubclass s t
      | _, _ => false) = _
  rw [beq_false_of_ne hne, hs, ht]; simp only [os, ot, it, Bool.false_or]; rfl
theorem own_neC {vm : Vm} {A B : String} {a b : ClassId} (ha : vm.findClass A = some a) (hb : vm.findClass B = some b) (h : A ≠ B) : a ≠ b := fun e => by
  subst e
  obtain ⟨k1, a1, a2⟩ := Vm.findClass_spec ha
  obtain ⟨k2, b1, b2⟩ := Vm.findClass_spec hb
  cases a1.symm.trans b1
  exact h (a2.symm.trans b2)
theorem own_notNS {Z : State} {a0 : Array Value} {h : Heap} {a : Addr} (hw : ∀ d ∈ tables_1, d.before a0 Z = true) (E : Exa Z h a "java/lang/Long") : Ins Z h a "com/example/urd/urd/model/NodeSet" false := by
  obtain ⟨cell, k, h1, h2, h3, h4, -⟩ := E
  obtain ⟨cN, kN, i1, i2, i3, i4, -⟩ := Cond.instantiable_spec (hw _ (List.mem_of_getElem? (i := 1) rfl))
  obtain ⟨p1, k1, kp1, s1, s2, s3, s4, s5, s6, s7⟩ := Cond.superclass_spec h2 (hw _ (List.mem_of_getElem? (i := 31) rfl))
  obtain ⟨p2, k2, kp2, t1, t2, t3, t4, t5, t6, t7⟩ := Cond.superclass_spec s1 (hw _ (List.mem_of_getElem? (i := 32) rfl))
  obtain ⟨c3, k3, u1, u2, u3, u4, u5⟩ := Cond.noSuperclass_spec (hw _ (List.mem_of_getElem? (i := 33) rfl))
  cases t1.symm.trans u1
  simp only [Bool.or_eq_false_iff] at i4
  have n0 := own_neC h2 i1 (by decide)
  have n1 := own_neC s1 i1 (by decide)
  have n2 := own_neC t1 i1 (by decide)
  have ha : Z.vm.assignable cell.cls cN = false := by
    rw [own_asg Z.vm n0 s2 i2 s5 i3 i4.1]
    show Z.vm.isSubclassAux (Z.vm.classes.size + 1) cell.cls cN = false
    rw [own_subS Z.vm _ n0 s2 s4]
    match Z.vm.classes.size with
    | 0 => exact own_sub0 _ _ _
    | 1 => rw [own_subS Z.vm _ n1 t2 t4]; exact own_sub0 _ _ _
    | f + 2 => rw [own_subS Z.vm _ n1 t2 t4]; exact own_subE Z.vm _ n2 u2 u3
  exact ⟨cell, cN, h1, i1, by rw [h4, ha]; rfl⟩
theorem own_cache_start {Z : State} {args : Array Value} {ca : Addr} (ev : (Term.static "java/lang/Long$LongCache" "cache" "[Ljava/lang/Long;").eval args Z none [] Z = some (.ref ca)) (h2 : (Jvm.Cond.arrayOf (Term.static "java/lang/Long$LongCache" "cache" "[Ljava/lang/Long;") (.object "java/lang/Long")).value args Z none Z [] = some true)
    (h4 : (Jvm.Cond.eq (Term.length (Term.static "java/lang/Long$LongCache" "cache" "[Ljava/lang/Long;")) (Term.int 256)).value args Z none Z [] = some true) {F : Jvm.Cond} (h5 : (Jvm.Cond.all (Term.static "java/lang/Long$LongCache" "cache" "[Ljava/lang/Long;") (.and (.exactly (.elem (Term.static "java/lang/Long$LongCache" "cache" "[Ljava/lang/Long;") (.index 0)) "java/lang/Long") F)).value args Z none Z [] = some true) : own_Cache Z Z.heap ca := by
  obtain ⟨c, A⟩ := Arr.start ev h2
  have hat := A.fin (Vm.Alike.refl _)
  have hlen := eqv_i (Term.int_eval (256)) h4
  have h31 := SBG.length_lt ev hat hlen
  have hl := (len_f ev hat h31).symm.trans hlen
  have hsz : c.slots.size = 256 := by
    have e1 : c.slots.size.toInt32 = (256 : Int32) := by injection (Option.some.inj hl)
    have e2 := congrArg Int32.toInt e1
    rw [len_toInt h31] at e2
    have e3 : (256 : Int32).toInt = 256 := by decide
    omega
  refine ⟨c, A, hsz, fun k hk => ?_⟩
  obtain ⟨u1, -⟩ := and_e (Cond.all_elim ev hat h5 k (by rw [hsz]; exact hk))
  obtain ⟨box, eb⟩ := exa_v u1
  have hk1 : (Nat.toInt32 k).toInt = k := len_toInt (by omega)
  have hk2 : (Nat.toInt32 k).toNatClampNeg = k := by rw [Int32.toNatClampNeg, hk1]; rfl
  have nn : ¬ Nat.toInt32 k < 0 := by
    rw [Int32.lt_iff_toInt_lt, hk1]
    have e0 : (0 : Int32).toInt = 0 := by decide
    omega
  have q := (elem_f (a := Term.index 0) (j := Nat.toInt32 k) (args := args) (first := Z) (o := none) (idx := [k]) (s := Z) (t := Term.static "java/lang/Long$LongCache" "cache" "[Ljava/lang/Long;") ev (Term.index_eval k) hat nn).symm.trans eb
  rw [hk2] at q
  exact ⟨box, q, exa_at eb u1⟩

theorem d2_0 : decode jdk_30_method_1_code 0 = .ok (.aload_n 0, 1) := by decide +kernel
theorem d2_1 : decode jdk_30_method_1_code 1 = .ok (.invokespecial 1, 3) := by decide +kernel
theorem d2_4 : decode jdk_30_method_1_code 4 = .ok (.return_, 1) := by decide +kernel
theorem pn_2 : plainName "java/lang/Record" = true := by first | (simp [plainName, overriddenIn]; done) | decide +kernel
theorem ef_2 (m : MethodId) (r0 : Addr) : entryFrame m #[(.ref r0)] 1 = mkF m 0 #[rv r0] [] := by first | (simp [entryFrame, mkF, argsToLocals, Value.category]; done) | rfl
def Q2 (Z : State) (r0 : Addr) (h0 : Heap) (n0 : Nat) (v : Option Value) (h : Heap) (L : List Loc) : Prop := v = none ∧ Fr n0 L ∧ h = h0
set_option maxRecDepth 65536 in
set_option maxHeartbeats 40000000 in
theorem rm2 (l : Launch) (Z : State) (a0 : Array Value) (hw : ∀ d ∈ tables_1, d.before a0 Z = true) (ws : List Jvm.Cond) (r0 : Addr) (h0 : Heap) (n0 : Nat) (Z0 : n0 ≤ h0.size) :
    MetFree l (⟨"java/lang/Record", "<init>", "()V"⟩ : MethodName) (head1 (Jvm.Cond.code (⟨"java/lang/Record", "<init>", "()V"⟩ : MethodName) jdk_30_method_1_code 1 none :: ws) ({ frames := 1, cells := 0, slots := 0, locals := 12 } : Room)) (fun a U => a = #[(.ref r0)] ∧ Z.Warmed39 U.vm ∧ U.heap = h0) (fun _ _ _ _ _ => True) (fun _ U o U' => ∃ v L, o = .returned v ∧ Q2 Z r0 h0 n0 v U'.heap L ∧ FrameEnd U o U' L ({ frames := 1, cells := 0, slots := 0, locals := 12 } : Room).cells ({ frames := 1, cells := 0, slots := 0, locals := 12 } : Room).slots) := by
  refine MetFree.of_bodySF (plainFor_of_name pn_2) hisR ?_
  intro p e s m args below meth c s₁ Bd hml0 hP hK
  obtain ⟨rfl, hZ, hh⟩ := hP
  have hx := Bd.exec
  have hby := Bd.bytes
  have hml : c.maxLocals = 1 := hml0
  have hown : s.vm.findClass "java/lang/Record" = some m.cls := findClass_of_methodNamed Bd.named
  have hnm := (name_of_methodNamed Bd.named Bd.method).1
  have hlk : meth.locks = false := Bd.notSynchronized
  have X0 : Stand p l e ({ frames := 1, cells := 0, slots := 0, locals := 12 } : Room) s m #[(.ref r0)] below meth c s₁ [] 0 0 := Stand.of_body Bd
  have e0 : s₁.heap = h0 := by rw [← hh, Bd.state]; rfl
  have N0 := Fr.nil n0
  have KK0 := Keep.refl h0 []
  show own_Go p.tables e below s 0 0 (Q2 Z r0 h0 n0) (s₁.setTop (entryFrame m #[(.ref r0)] 1))
  rw [ef_2]
  refine own_step (U' := s₁.setTop (mkF m 1 #[rv r0] [(.ref r0)])) (fun t k => XS.aloadN X0.here hx rfl (hb hby d2_0) rfl rfl k) ?_
  obtain ⟨T1, X1, e1, st1⟩ := initO X0 hx hZ hown (own_w hw 11 rfl) (own_w hw 12 rfl) (own_w hw 13 rfl) e0 (g := (mkF m 1 #[rv r0] [(.ref r0)])) rfl (by rw [hml]; rfl) rfl (hb hby d2_1) (by decide) (W := 0) (by show 2 * 0 + _ ≤ _; exact Nat.le_of_eq rfl) (by decide)
  refine own_step (U' := T1.setTop (mkF m 4 #[rv r0] [])) st1 ?_
  exact own_out X1 (v := none) hlk (fun _ => rfl) (by rw [e1]; exact ⟨rfl, N0, rfl⟩) (by decide) (by decide) (fun fs hr => X1.returnOut hx Bd.returns (hb hby d2_4) hr)
theorem d1_0 : decode prog_32_method_1_code 0 = .ok (.aload_n 0, 1) := by decide +kernel
theorem d1_1 : decode prog_32_method_1_code 1 = .ok (.invokespecial 1, 3) := by decide +kernel
theorem d1_4 : decode prog_32_method_1_code 4 = .ok (.aload_n 0, 1) := by decide +kernel
theorem d1_5 : decode prog_32_method_1_code 5 = .ok (.lload_n 1, 1) := by decide +kernel
theorem d1_6 : decode prog_32_method_1_code 6 = .ok (.putfield 7, 3) := by decide +kernel
theorem d1_9 : decode prog_32_method_1_code 9 = .ok (.return_, 1) := by decide +kernel
theorem pn_1 : plainName "com/example/urd/urd/model/NodeSet" = true := by first | (simp [plainName, overriddenIn]; done) | decide +kernel
theorem ef_1 (m : MethodId) (r0 : Addr) (q1 : Int64) : entryFrame m #[(.ref r0), (.long q1)] 3 = mkF m 0 #[rv r0, .val (.long q1), .second] [] := by first | (simp [entryFrame, mkF, argsToLocals, Value.category]; done) | rfl
def Q1 (Z : State) (r0 : Addr) (q1 : Int64) (h0 : Heap) (n0 : Nat) (v : Option Value) (h : Heap) (L : List Loc) : Prop := v = none ∧ Fr n0 L ∧ Keep h0 h [r0] ∧ Exa Z h r0 "com/example/urd/urd/model/NodeSet" ∧ Fld Z h r0 "com/example/urd/urd/model/NodeSet" "bits" "J" (.long q1)
set_option maxRecDepth 65536 in
set_option maxHeartbeats 40000000 in
theorem rm1 (l : Launch) (Z : State) (a0 : Array Value) (hw : ∀ d ∈ tables_1, d.before a0 Z = true) (ws : List Jvm.Cond) (r0 : Addr) (q1 : Int64) (h0 : Heap) (n0 : Nat) (Z0 : n0 ≤ h0.size) (E_r0 : Exa Z h0 r0 "com/example/urd/urd/model/NodeSet") (F_bits_r0 : Fld Z h0 r0 "com/example/urd/urd/model/NodeSet" "bits" "J" (.long (0 : Int64))) (g_r0 : n0 ≤ r0) :
    MetFree l (⟨"com/example/urd/urd/model/NodeSet", "<init>", "(J)V"⟩ : MethodName) (head1 (Jvm.Cond.code (⟨"com/example/urd/urd/model/NodeSet", "<init>", "(J)V"⟩ : MethodName) prog_32_method_1_code 3 none :: ws) ({ frames := 2, cells := 0, slots := 0, locals := 24 } : Room)) (fun a U => a = #[(.ref r0), (.long q1)] ∧ Z.Warmed39 U.vm ∧ U.heap = h0) (fun _ _ _ _ _ => True) (fun _ U o U' => ∃ v L, o = .returned v ∧ Q1 Z r0 q1 h0 n0 v U'.heap L ∧ FrameEnd U o U' L ({ frames := 2, cells := 0, slots := 0, locals := 24 } : Room).cells ({ frames := 2, cells := 0, slots := 0, locals := 24 } : Room).slots) := by
  refine MetFree.of_bodySF (plainFor_of_name pn_1) hisR ?_
  intro p e s m args below meth c s₁ Bd hml0 hP hK
  obtain ⟨rfl, hZ, hh⟩ := hP
  have hx := Bd.exec
  have hby := Bd.bytes
  have hml : c.maxLocals = 3 := hml0
  have hown : s.vm.findClass "com/example/urd/urd/model/NodeSet" = some m.cls := findClass_of_methodNamed Bd.named
  have hnm := (name_of_methodNamed Bd.named Bd.method).1
  have hlk : meth.locks = false := Bd.notSynchronized
  have X0 : Stand p l e ({ frames := 2, cells := 0, slots := 0, locals := 24 } : Room) s m #[(.ref r0), (.long q1)] below meth c s₁ [] 0 0 := Stand.of_body Bd
  have e0 : s₁.heap = h0 := by rw [← hh, Bd.state]; rfl
  have N0 := Fr.nil n0
  have KK0 := Keep.refl h0 [r0]
  show own_Go p.tables e below s 0 0 (Q1 Z r0 q1 h0 n0) (s₁.setTop (entryFrame m #[(.ref r0), (.long q1)] 3))
  rw [ef_1]
  refine own_step (U' := s₁.setTop (mkF m 1 #[rv r0, .val (.long q1), .second] [(.ref r0)])) (fun t k => XS.aloadN X0.here hx rfl (hb hby d1_0) rfl rfl k) ?_
  obtain ⟨_, _, ⟨T1, L1, k1, n1⟩, -, X1, ⟨Lc1, hQ1, l1, y1, z1⟩, st1⟩ := X0.specialBack hx (y := (⟨"java/lang/Record", "<init>", "()V"⟩ : MethodName)) rfl hown (mvT hZ (own_w hw 6 rfl)) (mvT hZ (own_w hw 7 rfl)) (mvT hZ (own_w hw 10 rfl)) (by decide) (backOf (W := 0) (rm2 l Z a0 hw [] r0 h0 n0 Z0) hZ (own_w hw 10 rfl) (own_w hw 9 rfl) (by decide) (by decide)) (g := (mkF m 1 #[rv r0, .val (.long q1), .second] [(.ref r0)])) rfl (by rw [hml]; rfl) (Steps.refl _) (a := r0) (argsL := []) (rest := []) (lenOf pd___V rfl) rfl (by show 2 * 0 + _ ≤ _; exact Nat.le_of_eq rfl) (hb hby d1_1) (fun _ _ => ⟨rfl, e0, (by decide : 0 + 0 ≤ _), (by decide : 0 + 0 ≤ _)⟩)
  dsimp only [Pt.U, Pt.locs, Pt.cells, Pt.slots] at X1 l1 y1 z1 st1 hQ1
  subst l1 y1 z1
  obtain ⟨rfl, N1q, eq1⟩ := hQ1
  have N1 := Fr.app N0 N1q
  refine own_steps (U' := T1.setTop (mkF m 4 #[rv r0, .val (.long q1), .second] [])) st1 ?_
  refine own_step (U' := T1.setTop (mkF m 6 #[rv r0, .val (.long q1), .second] [(.long q1), (.ref r0)])) (fun t k => XS.aloadN X1.here hx rfl (hb hby d1_4) rfl rfl (XS.lloadN X1.here hx rfl (hb hby d1_5) rfl k)) ?_
  obtain ⟨T2, h2, X2, e2, W2, st2⟩ := putF X1 hx hZ hown (host := "") (Or.inl (own_w hw 14 rfl)) Via.refl eq1 F_bits_r0 E_r0 (Or.inr ⟨(own_w hw 15 rfl), rfl, hnm⟩) (own_w hw 1 rfl) (ty := .long) (by decide) rfl rfl (g := (mkF m 6 #[rv r0, .val (.long q1), .second] [(.long q1), (.ref r0)])) rfl rfl (hb hby d1_6)
  have E_r0_2 := E_r0.wr W2
  have F_bits_r0_2 := F_bits_r0.same W2
  have Z2 : n0 ≤ h2.size := Nat.le_trans Z0 (Keep.of_wr W2).1
  have KK2 := KK0.wr W2 (Or.inl (List.mem_of_getElem? (i := 0) rfl))
  have N2 := Fr.snoc X2 N1 g_r0
  refine own_step (U' := T2.setTop (mkF m 9 #[rv r0, .val (.long q1), .second] [])) st2 ?_
  exact own_out X2 (v := none) hlk (fun _ => rfl) (by rw [e2]; exact ⟨rfl, N2, KK2, E_r0_2, F_bits_r0_2⟩) (by decide) (by decide) (fun fs hr => X2.returnOut hx Bd.returns (hb hby d1_9) hr)
theorem d4_0 : decode prog_32_method_19_code 0 = .ok (.aload_n 1, 1) := by decide +kernel
theorem d4_1 : decode prog_32_method_19_code 1 = .ok (.instanceof 8, 3) := by decide +kernel
theorem d4_4 : decode prog_32_method_19_code 4 = .ok (.ifCond .eq 24, 3) := by decide +kernel
theorem d4_7 : decode prog_32_method_19_code 7 = .ok (.aload_n 1, 1) := by decide +kernel
theorem d4_8 : decode prog_32_method_19_code 8 = .ok (.checkcast 8, 3) := by decide +kernel
theorem d4_11 : decode prog_32_method_19_code 11 = .ok (.astore_n 2, 1) := by decide +kernel
theorem d4_12 : decode prog_32_method_19_code 12 = .ok (.aload_n 0, 1) := by decide +kernel
theorem d4_13 : decode prog_32_method_19_code 13 = .ok (.getfield 7, 3) := by decide +kernel
theorem d4_16 : decode prog_32_method_19_code 16 = .ok (.aload_n 2, 1) := by decide +kernel
theorem d4_17 : decode prog_32_method_19_code 17 = .ok (.getfield 7, 3) := by decide +kernel
theorem d4_20 : decode prog_32_method_19_code 20 = .ok (.lcmp, 1) := by decide +kernel
theorem d4_21 : decode prog_32_method_19_code 21 = .ok (.ifCond .ne 7, 3) := by decide +kernel
theorem d4_24 : decode prog_32_method_19_code 24 = .ok (.iconst 1, 1) := by decide +kernel
theorem d4_25 : decode prog_32_method_19_code 25 = .ok (.goto 4, 3) := by decide +kernel
theorem d4_28 : decode prog_32_method_19_code 28 = .ok (.iconst 0, 1) := by decide +kernel
theorem d4_29 : decode prog_32_method_19_code 29 = .ok (.ireturn, 1) := by decide +kernel
theorem pn_4 : plainName "com/example/urd/urd/model/NodeSet" = true := by first | (simp [plainName, overriddenIn]; done) | decide +kernel
theorem ef_4e (m : MethodId) (r0 : Addr) (r1 : Addr) : entryFrame m #[(.ref r0), (.ref r1)] 3 = mkF m 0 #[rv r0, rv r1, .unset] [] := by first | (simp [entryFrame, mkF, argsToLocals, Value.category]; done) | rfl
def F4e (wa : Int64) (wb : Int64) : Int32 :=
  if wa = wb then
    (1 : Int32)
  else
    (0 : Int32)
def Q4e (Z : State) (r0 : Addr) (r1 : Addr) (wa : Int64) (wb : Int64) (h0 : Heap) (n0 : Nat) (v : Option Value) (h : Heap) (L : List Loc) : Prop := v = some (.int (F4e wa wb)) ∧ Fr n0 L ∧ h = h0
set_option maxRecDepth 65536 in
set_option maxHeartbeats 40000000 in
theorem rm4e (l : Launch) (Z : State) (a0 : Array Value) (hw : ∀ d ∈ tables_1, d.before a0 Z = true) (ws : List Jvm.Cond) (r0 : Addr) (r1 : Addr) (wa : Int64) (wb : Int64) (h0 : Heap) (n0 : Nat) (Z0 : n0 ≤ h0.size) (E_r0 : Exa Z h0 r0 "com/example/urd/urd/model/NodeSet") (F_bits_r0 : Fld Z h0 r0 "com/example/urd/urd/model/NodeSet" "bits" "J" (.long wa)) (E_r1 : Exa Z h0 r1 "com/example/urd/urd/model/NodeSet") (F_bits_r1 : Fld Z h0 r1 "com/example/urd/urd/model/NodeSet" "bits" "J" (.long wb)) :
    MetFree l (⟨"com/example/urd/urd/model/NodeSet", "equals", "(Ljava/lang/Object;)Z"⟩ : MethodName) (head1 (Jvm.Cond.code (⟨"com/example/urd/urd/model/NodeSet", "equals", "(Ljava/lang/Object;)Z"⟩ : MethodName) prog_32_method_19_code 3 (some .boolean) :: ws) ({ frames := 0, cells := 0, slots := 0, locals := 0 } : Room)) (fun a U => a = #[(.ref r0), (.ref r1)] ∧ Z.Warmed39 U.vm ∧ U.heap = h0) (fun _ _ _ _ _ => True) (fun _ U o U' => ∃ v L, o = .returned v ∧ Q4e Z r0 r1 wa wb h0 n0 v U'.heap L ∧ FrameEnd U o U' L ({ frames := 0, cells := 0, slots := 0, locals := 0 } : Room).cells ({ frames := 0, cells := 0, slots := 0, locals := 0 } : Room).slots) := by
  refine MetFree.of_bodySF (plainFor_of_name pn_4) hisR ?_
  intro p e s m args below meth c s₁ Bd hml0 hP hK
  obtain ⟨rfl, hZ, hh⟩ := hP
  have hx := Bd.exec
  have hby := Bd.bytes
  have hml : c.maxLocals = 3 := hml0
  have hown : s.vm.findClass "com/example/urd/urd/model/NodeSet" = some m.cls := findClass_of_methodNamed Bd.named
  have hnm := (name_of_methodNamed Bd.named Bd.method).1
  have hlk : meth.locks = false := Bd.notSynchronized
  have X0 : Stand p l e ({ frames := 0, cells := 0, slots := 0, locals := 0 } : Room) s m #[(.ref r0), (.ref r1)] below meth c s₁ [] 0 0 := Stand.of_body Bd
  have e0 : s₁.heap = h0 := by rw [← hh, Bd.state]; rfl
  have N0 := Fr.nil n0
  have KK0 := Keep.refl h0 []
  show own_Go p.tables e below s 0 0 (Q4e Z r0 r1 wa wb h0 n0) (s₁.setTop (entryFrame m #[(.ref r0), (.ref r1)] 3))
  rw [ef_4e]
  refine own_step (U' := s₁.setTop (mkF m 1 #[rv r0, rv r1, .unset] [(.ref r1)])) (fun t k => XS.aloadN X0.here hx rfl (hb hby d4_0) rfl rfl k) ?_
  obtain ⟨T1, X1, e1, st1⟩ := instY X0 hx hZ hown (own_w hw 21 rfl) e0 (Ins.self E_r1) (g := (mkF m 1 #[rv r0, rv r1, .unset] [(.ref r1)])) rfl rfl (hb hby d4_1)
  refine own_step (U' := T1.setTop (mkF m 4 #[rv r0, rv r1, .unset] [(.int (1 : Int32))])) st1 ?_
  refine own_step (U' := T1.setTop (mkF m 8 #[rv r0, rv r1, .unset] [(.ref r1)])) (fun t k => XS.ifNo X1.here hx rfl (hb hby d4_4) rfl (by decide) (XS.aloadN X1.here hx rfl (hb hby d4_7) rfl rfl k)) ?_
  obtain ⟨T2, X2, e2, st2⟩ := castY X1 hx hZ hown (own_w hw 21 rfl) e1 (Ins.self E_r1) (g := (mkF m 8 #[rv r0, rv r1, .unset] [(.ref r1)])) rfl rfl (hb hby d4_8)
  refine own_step (U' := T2.setTop (mkF m 11 #[rv r0, rv r1, .unset] [(.ref r1)])) st2 ?_
  refine own_step (U' := T2.setTop (mkF m 13 #[rv r0, rv r1, rv r1] [(.ref r0)])) (fun t k => XS.astoreN X2.here hx rfl (hb hby d4_11) rfl rfl (l' := #[rv r0, rv r1, rv r1]) rfl (XS.aloadN X2.here hx rfl (hb hby d4_12) rfl rfl k)) ?_
  obtain ⟨T3, X3, e3, st3⟩ := getF X2 hx hZ hown (host := "") (Or.inl (own_w hw 14 rfl)) Via.refl e2 F_bits_r0 (g := (mkF m 13 #[rv r0, rv r1, rv r1] [(.ref r0)])) rfl rfl (hb hby d4_13)
  refine own_step (U' := T3.setTop (mkF m 16 #[rv r0, rv r1, rv r1] [(.long wa)])) st3 ?_
  refine own_step (U' := T3.setTop (mkF m 17 #[rv r0, rv r1, rv r1] [(.ref r1), (.long wa)])) (fun t k => XS.aloadN X3.here hx rfl (hb hby d4_16) rfl rfl k) ?_
  obtain ⟨T4, X4, e4, st4⟩ := getF X3 hx hZ hown (host := "") (Or.inl (own_w hw 14 rfl)) Via.refl e3 F_bits_r1 (g := (mkF m 17 #[rv r0, rv r1, rv r1] [(.ref r1), (.long wa)])) rfl rfl (hb hby d4_17)
  refine own_step (U' := T4.setTop (mkF m 20 #[rv r0, rv r1, rv r1] [(.long wb), (.long wa)])) st4 ?_
  refine own_step (U' := T4.setTop (mkF m 21 #[rv r0, rv r1, rv r1] [(.int (lcmpW wa wb))])) (fun t k => XS.lcmp X4.here hx rfl (hb hby d4_20) rfl k) ?_
  by_cases hc21_5 : wa = wb
  · refine own_step (U' := T4.setTop (mkF m 29 #[rv r0, rv r1, rv r1] [(.int (1 : Int32))])) (fun t k => XS.ifNo X4.here hx rfl (hb hby d4_21) rfl ((if0 _ _).trans (teq ((lw_eq wa wb).mpr hc21_5)).2) (XS.iconst X4.here hx rfl (hb hby d4_24) (XS.goto X4.here hx rfl (pc0 := 25) (pc' := 29) rfl (hb hby d4_25) (by decide) (by decide) k))) ?_
    exact own_out X4 (v := (some (.int (1 : Int32)))) hlk (own_nv Bd.returns) (by rw [e4]; exact ⟨by rw [show (F4e wa wb) = (1 : Int32) from (by simp only [F4e, if_pos hc21_5])], N0, rfl⟩) (by decide) (by decide) (fun fs hr => retN X4 hx (t := .boolean) Bd.returns (by simp) (hb hby d4_29) hr)
  · refine own_step (U' := T4.setTop (mkF m 29 #[rv r0, rv r1, rv r1] [(.int (0 : Int32))])) (fun t k => XS.ifYes X4.here hx rfl (pc0 := 21) (pc' := 28) rfl (hb hby d4_21) rfl ((if0 _ _).trans (feq (mt (lw_eq wa wb).mp hc21_5)).2) (by decide) (by decide) (XS.iconst X4.here hx rfl (hb hby d4_28) k)) ?_
    exact own_out X4 (v := (some (.int (0 : Int32)))) hlk (own_nv Bd.returns) (by rw [e4]; exact ⟨by rw [show (F4e wa wb) = (0 : Int32) from (by simp only [F4e, if_neg hc21_5])], N0, rfl⟩) (by decide) (by decide) (fun fs hr => retN X4 hx (t := .boolean) Bd.returns (by simp) (hb hby d4_29) hr)
theorem ef_4u (m : MethodId) (r0 : Addr) : entryFrame m #[(.ref r0), .null] 3 = mkF m 0 #[rv r0, .val .null, .unset] [] := by first | (simp [entryFrame, mkF, argsToLocals, Value.category]; done) | rfl
def F4u  : Int32 :=
  (0 : Int32)
def Q4u (Z : State) (r0 : Addr) (h0 : Heap) (n0 : Nat) (v : Option Value) (h : Heap) (L : List Loc) : Prop := v = some (.int F4u) ∧ Fr n0 L ∧ h = h0
set_option maxRecDepth 65536 in
set_option maxHeartbeats 40000000 in
theorem rm4u (l : Launch) (Z : State) (a0 : Array Value) (hw : ∀ d ∈ tables_1, d.before a0 Z = true) (ws : List Jvm.Cond) (r0 : Addr) (h0 : Heap) (n0 : Nat) (Z0 : n0 ≤ h0.size) :
    MetFree l (⟨"com/example/urd/urd/model/NodeSet", "equals", "(Ljava/lang/Object;)Z"⟩ : MethodName) (head1 (Jvm.Cond.code (⟨"com/example/urd/urd/model/NodeSet", "equals", "(Ljava/lang/Object;)Z"⟩ : MethodName) prog_32_method_19_code 3 (some .boolean) :: ws) ({ frames := 0, cells := 0, slots := 0, locals := 0 } : Room)) (fun a U => a = #[(.ref r0), .null] ∧ Z.Warmed39 U.vm ∧ U.heap = h0) (fun _ _ _ _ _ => True) (fun _ U o U' => ∃ v L, o = .returned v ∧ Q4u Z r0 h0 n0 v U'.heap L ∧ FrameEnd U o U' L ({ frames := 0, cells := 0, slots := 0, locals := 0 } : Room).cells ({ frames := 0, cells := 0, slots := 0, locals := 0 } : Room).slots) := by
  refine MetFree.of_bodySF (plainFor_of_name pn_4) hisR ?_
  intro p e s m args below meth c s₁ Bd hml0 hP hK
  obtain ⟨rfl, hZ, hh⟩ := hP
  have hx := Bd.exec
  have hby := Bd.bytes
  have hml : c.maxLocals = 3 := hml0
  have hown : s.vm.findClass "com/example/urd/urd/model/NodeSet" = some m.cls := findClass_of_methodNamed Bd.named
  have hnm := (name_of_methodNamed Bd.named Bd.method).1
  have hlk : meth.locks = false := Bd.notSynchronized
  have X0 : Stand p l e ({ frames := 0, cells := 0, slots := 0, locals := 0 } : Room) s m #[(.ref r0), .null] below meth c s₁ [] 0 0 := Stand.of_body Bd
  have e0 : s₁.heap = h0 := by rw [← hh, Bd.state]; rfl
  have N0 := Fr.nil n0
  have KK0 := Keep.refl h0 []
  show own_Go p.tables e below s 0 0 (Q4u Z r0 h0 n0) (s₁.setTop (entryFrame m #[(.ref r0), .null] 3))
  rw [ef_4u]
  refine own_step (U' := s₁.setTop (mkF m 29 #[rv r0, .val .null, .unset] [(.int (0 : Int32))])) (fun t k => XS.aloadN X0.here hx rfl (hb hby d4_0) rfl rfl (X0.instanceofNull hx (g := (mkF m 1 #[rv r0, .val .null, .unset] [.null])) rfl rfl (hb hby d4_1) t (XS.ifYes X0.here hx rfl (pc0 := 4) (pc' := 28) rfl (hb hby d4_4) rfl (by decide) (by decide) (by decide) (XS.iconst X0.here hx rfl (hb hby d4_28) k)))) ?_
  exact own_out X0 (v := (some (.int (0 : Int32)))) hlk (own_nv Bd.returns) (by rw [e0]; exact ⟨by rw [show F4u = (0 : Int32) from (by simp only [F4u])], N0, rfl⟩) (by decide) (by decide) (fun fs hr => retN X0 hx (t := .boolean) Bd.returns (by simp) (hb hby d4_29) hr)
theorem ef_4l (m : MethodId) (r0 : Addr) (r1 : Addr) : entryFrame m #[(.ref r0), (.ref r1)] 3 = mkF m 0 #[rv r0, rv r1, .unset] [] := by first | (simp [entryFrame, mkF, argsToLocals, Value.category]; done) | rfl
def F4l  : Int32 :=
  (0 : Int32)
def Q4l (Z : State) (r0 : Addr) (r1 : Addr) (h0 : Heap) (n0 : Nat) (v : Option Value) (h : Heap) (L : List Loc) : Prop := v = some (.int F4l) ∧ Fr n0 L ∧ h = h0
set_option maxRecDepth 65536 in
set_option maxHeartbeats 40000000 in
theorem rm4l (l : Launch) (Z : State) (a0 : Array Value) (hw : ∀ d ∈ tables_1, d.before a0 Z = true) (ws : List Jvm.Cond) (r0 : Addr) (r1 : Addr) (h0 : Heap) (n0 : Nat) (Z0 : n0 ≤ h0.size) (E_r1 : Exa Z h0 r1 "java/lang/Long") :
    MetFree l (⟨"com/example/urd/urd/model/NodeSet", "equals", "(Ljava/lang/Object;)Z"⟩ : MethodName) (head1 (Jvm.Cond.code (⟨"com/example/urd/urd/model/NodeSet", "equals", "(Ljava/lang/Object;)Z"⟩ : MethodName) prog_32_method_19_code 3 (some .boolean) :: ws) ({ frames := 0, cells := 0, slots := 0, locals := 0 } : Room)) (fun a U => a = #[(.ref r0), (.ref r1)] ∧ Z.Warmed39 U.vm ∧ U.heap = h0) (fun _ _ _ _ _ => True) (fun _ U o U' => ∃ v L, o = .returned v ∧ Q4l Z r0 r1 h0 n0 v U'.heap L ∧ FrameEnd U o U' L ({ frames := 0, cells := 0, slots := 0, locals := 0 } : Room).cells ({ frames := 0, cells := 0, slots := 0, locals := 0 } : Room).slots) := by
  refine MetFree.of_bodySF (plainFor_of_name pn_4) hisR ?_
  intro p e s m args below meth c s₁ Bd hml0 hP hK
  obtain ⟨rfl, hZ, hh⟩ := hP
  have hx := Bd.exec
  have hby := Bd.bytes
  have hml : c.maxLocals = 3 := hml0
  have hown : s.vm.findClass "com/example/urd/urd/model/NodeSet" = some m.cls := findClass_of_methodNamed Bd.named
  have hnm := (name_of_methodNamed Bd.named Bd.method).1
  have hlk : meth.locks = false := Bd.notSynchronized
  have X0 : Stand p l e ({ frames := 0, cells := 0, slots := 0, locals := 0 } : Room) s m #[(.ref r0), (.ref r1)] below meth c s₁ [] 0 0 := Stand.of_body Bd
  have e0 : s₁.heap = h0 := by rw [← hh, Bd.state]; rfl
  have N0 := Fr.nil n0
  have KK0 := Keep.refl h0 []
  show own_Go p.tables e below s 0 0 (Q4l Z r0 r1 h0 n0) (s₁.setTop (entryFrame m #[(.ref r0), (.ref r1)] 3))
  rw [ef_4l]
  refine own_step (U' := s₁.setTop (mkF m 1 #[rv r0, rv r1, .unset] [(.ref r1)])) (fun t k => XS.aloadN X0.here hx rfl (hb hby d4_0) rfl rfl k) ?_
  obtain ⟨T1, X1, e1, st1⟩ := instN X0 hx hZ hown (own_w hw 21 rfl) e0 (by rw [hh]; exact own_notNS hw E_r1) (by rw [hh]; exact E_r1) (g := (mkF m 1 #[rv r0, rv r1, .unset] [(.ref r1)])) rfl rfl (hb hby d4_1)
  refine own_step (U' := T1.setTop (mkF m 4 #[rv r0, rv r1, .unset] [(.int (0 : Int32))])) st1 ?_
  refine own_step (U' := T1.setTop (mkF m 29 #[rv r0, rv r1, .unset] [(.int (0 : Int32))])) (fun t k => XS.ifYes X1.here hx rfl (pc0 := 4) (pc' := 28) rfl (hb hby d4_4) rfl (by decide) (by decide) (by decide) (XS.iconst X1.here hx rfl (hb hby d4_28) k)) ?_
  exact own_out X1 (v := (some (.int (0 : Int32)))) hlk (own_nv Bd.returns) (by rw [e1]; exact ⟨by rw [show F4l = (0 : Int32) from (by simp only [F4l])], N0, rfl⟩) (by decide) (by decide) (fun fs hr => retN X1 hx (t := .boolean) Bd.returns (by simp) (hb hby d4_29) hr)
theorem d7_0 : decode jdk_18_method_1_code 0 = .ok (.aload_n 0, 1) := by decide +kernel
theorem d7_1 : decode jdk_18_method_1_code 1 = .ok (.invokespecial 1, 3) := by decide +kernel
theorem d7_4 : decode jdk_18_method_1_code 4 = .ok (.return_, 1) := by decide +kernel
theorem pn_7 : plainName "java/lang/Number" = true := by first | (simp [plainName, overriddenIn]; done) | decide +kernel
theorem ef_7 (m : MethodId) (r0 : Addr) : entryFrame m #[(.ref r0)] 1 = mkF m 0 #[rv r0] [] := by first | (simp [entryFrame, mkF, argsToLocals, Value.category]; done) | rfl
def Q7 (Z : State) (r0 : Addr) (h0 : Heap) (n0 : Nat) (v : Option Value) (h : Heap) (L : List Loc) : Prop := v = none ∧ Fr n0 L ∧ h = h0
set_option maxRecDepth 65536 in
set_option maxHeartbeats 40000000 in
theorem rm7 (l : Launch) (Z : State) (a0 : Array Value) (hw : ∀ d ∈ tables_1, d.before a0 Z = true) (ws : List Jvm.Cond) (r0 : Addr) (h0 : Heap) (n0 : Nat) (Z0 : n0 ≤ h0.size) :
    MetFree l (⟨"java/lang/Number", "<init>", "()V"⟩ : MethodName) (head1 (Jvm.Cond.code (⟨"java/lang/Number", "<init>", "()V"⟩ : MethodName) jdk_18_method_1_code 1 none :: ws) ({ frames := 1, cells := 0, slots := 0, locals := 12 } : Room)) (fun a U => a = #[(.ref r0)] ∧ Z.Warmed39 U.vm ∧ U.heap = h0) (fun _ _ _ _ _ => True) (fun _ U o U' => ∃ v L, o = .returned v ∧ Q7 Z r0 h0 n0 v U'.heap L ∧ FrameEnd U o U' L ({ frames := 1, cells := 0, slots := 0, locals := 12 } : Room).cells ({ frames := 1, cells := 0, slots := 0, locals := 12 } : Room).slots) := by
  refine MetFree.of_bodySF (plainFor_of_name pn_7) hisR ?_
  intro p e s m args below meth c s₁ Bd hml0 hP hK
  obtain ⟨rfl, hZ, hh⟩ := hP
  have hx := Bd.exec
  have hby := Bd.bytes
  have hml : c.maxLocals = 1 := hml0
  have hown : s.vm.findClass "java/lang/Number" = some m.cls := findClass_of_methodNamed Bd.named
  have hnm := (name_of_methodNamed Bd.named Bd.method).1
  have hlk : meth.locks = false := Bd.notSynchronized
  have X0 : Stand p l e ({ frames := 1, cells := 0, slots := 0, locals := 12 } : Room) s m #[(.ref r0)] below meth c s₁ [] 0 0 := Stand.of_body Bd
  have e0 : s₁.heap = h0 := by rw [← hh, Bd.state]; rfl
  have N0 := Fr.nil n0
  have KK0 := Keep.refl h0 []
  show own_Go p.tables e below s 0 0 (Q7 Z r0 h0 n0) (s₁.setTop (entryFrame m #[(.ref r0)] 1))
  rw [ef_7]
  refine own_step (U' := s₁.setTop (mkF m 1 #[rv r0] [(.ref r0)])) (fun t k => XS.aloadN X0.here hx rfl (hb hby d7_0) rfl rfl k) ?_
  obtain ⟨T1, X1, e1, st1⟩ := initO X0 hx hZ hown (own_w hw 46 rfl) (own_w hw 12 rfl) (own_w hw 13 rfl) e0 (g := (mkF m 1 #[rv r0] [(.ref r0)])) rfl (by rw [hml]; rfl) rfl (hb hby d7_1) (by decide) (W := 0) (by show 2 * 0 + _ ≤ _; exact Nat.le_of_eq rfl) (by decide)
  refine own_step (U' := T1.setTop (mkF m 4 #[rv r0] [])) st1 ?_
  exact own_out X1 (v := none) hlk (fun _ => rfl) (by rw [e1]; exact ⟨rfl, N0, rfl⟩) (by decide) (by decide) (fun fs hr => X1.returnOut hx Bd.returns (hb hby d7_4) hr)
theorem d6_0 : decode jdk_35_method_26_code 0 = .ok (.aload_n 0, 1) := by decide +kernel
theorem d6_1 : decode jdk_35_method_26_code 1 = .ok (.invokespecial 270, 3) := by decide +kernel
theorem d6_4 : decode jdk_35_method_26_code 4 = .ok (.aload_n 0, 1) := by decide +kernel
theorem d6_5 : decode jdk_35_method_26_code 5 = .ok (.lload_n 1, 1) := by decide +kernel
theorem d6_6 : decode jdk_35_method_26_code 6 = .ok (.putfield 273, 3) := by decide +kernel
theorem d6_9 : decode jdk_35_method_26_code 9 = .ok (.return_, 1) := by decide +kernel
theorem pn_6 : plainName "java/lang/Long" = true := by first | (simp [plainName, overriddenIn]; done) | decide +kernel
theorem ef_6 (m : MethodId) (r0 : Addr) (q1 : Int64) : entryFrame m #[(.ref r0), (.long q1)] 3 = mkF m 0 #[rv r0, .val (.long q1), .second] [] := by first | (simp [entryFrame, mkF, argsToLocals, Value.category]; done) | rfl
def Q6 (Z : State) (r0 : Addr) (q1 : Int64) (h0 : Heap) (n0 : Nat) (v : Option Value) (h : Heap) (L : List Loc) : Prop := v = none ∧ Fr n0 L ∧ Keep h0 h [r0] ∧ Exa Z h r0 "java/lang/Long" ∧ Fld Z h r0 "java/lang/Long" "value" "J" (.long q1)
set_option maxRecDepth 65536 in
set_option maxHeartbeats 40000000 in
theorem rm6 (l : Launch) (Z : State) (a0 : Array Value) (hw : ∀ d ∈ tables_1, d.before a0 Z = true) (ws : List Jvm.Cond) (r0 : Addr) (q1 : Int64) (h0 : Heap) (n0 : Nat) (Z0 : n0 ≤ h0.size) (E_r0 : Exa Z h0 r0 "java/lang/Long") (F_value_r0 : Fld Z h0 r0 "java/lang/Long" "value" "J" (.long (0 : Int64))) (g_r0 : n0 ≤ r0) :
    MetFree l (⟨"java/lang/Long", "<init>", "(J)V"⟩ : MethodName) (head1 (Jvm.Cond.code (⟨"java/lang/Long", "<init>", "(J)V"⟩ : MethodName) jdk_35_method_26_code 3 none :: ws) ({ frames := 2, cells := 0, slots := 0, locals := 24 } : Room)) (fun a U => a = #[(.ref r0), (.long q1)] ∧ Z.Warmed39 U.vm ∧ U.heap = h0) (fun _ _ _ _ _ => True) (fun _ U o U' => ∃ v L, o = .returned v ∧ Q6 Z r0 q1 h0 n0 v U'.heap L ∧ FrameEnd U o U' L ({ frames := 2, cells := 0, slots := 0, locals := 24 } : Room).cells ({ frames := 2, cells := 0, slots := 0, locals := 24 } : Room).slots) := by
  refine MetFree.of_bodySF (plainFor_of_name pn_6) hisR ?_
  intro p e s m args below meth c s₁ Bd hml0 hP hK
  obtain ⟨rfl, hZ, hh⟩ := hP
  have hx := Bd.exec
  have hby := Bd.bytes
  have hml : c.maxLocals = 3 := hml0
  have hown : s.vm.findClass "java/lang/Long" = some m.cls := findClass_of_methodNamed Bd.named
  have hnm := (name_of_methodNamed Bd.named Bd.method).1
  have hlk : meth.locks = false := Bd.notSynchronized
  have X0 : Stand p l e ({ frames := 2, cells := 0, slots := 0, locals := 24 } : Room) s m #[(.ref r0), (.long q1)] below meth c s₁ [] 0 0 := Stand.of_body Bd
  have e0 : s₁.heap = h0 := by rw [← hh, Bd.state]; rfl
  have N0 := Fr.nil n0
  have KK0 := Keep.refl h0 [r0]
  show own_Go p.tables e below s 0 0 (Q6 Z r0 q1 h0 n0) (s₁.setTop (entryFrame m #[(.ref r0), (.long q1)] 3))
  rw [ef_6]
  refine own_step (U' := s₁.setTop (mkF m 1 #[rv r0, .val (.long q1), .second] [(.ref r0)])) (fun t k => XS.aloadN X0.here hx rfl (hb hby d6_0) rfl rfl k) ?_
  obtain ⟨_, _, ⟨T1, L1, k1, n1⟩, -, X1, ⟨Lc1, hQ1, l1, y1, z1⟩, st1⟩ := X0.specialBack hx (y := (⟨"java/lang/Number", "<init>", "()V"⟩ : MethodName)) rfl hown (mvT hZ (own_w hw 40 rfl)) (mvT hZ (own_w hw 41 rfl)) (mvT hZ (own_w hw 45 rfl)) (by decide) (backOf (W := 0) (rm7 l Z a0 hw [] r0 h0 n0 Z0) hZ (own_w hw 45 rfl) (own_w hw 44 rfl) (by decide) (by decide)) (g := (mkF m 1 #[rv r0, .val (.long q1), .second] [(.ref r0)])) rfl (by rw [hml]; rfl) (Steps.refl _) (a := r0) (argsL := []) (rest := []) (lenOf pd___V rfl) rfl (by show 2 * 0 + _ ≤ _; exact Nat.le_of_eq rfl) (hb hby d6_1) (fun _ _ => ⟨rfl, e0, (by decide : 0 + 0 ≤ _), (by decide : 0 + 0 ≤ _)⟩)
  dsimp only [Pt.U, Pt.locs, Pt.cells, Pt.slots] at X1 l1 y1 z1 st1 hQ1
  subst l1 y1 z1
  obtain ⟨rfl, N1q, eq1⟩ := hQ1
  have N1 := Fr.app N0 N1q
  refine own_steps (U' := T1.setTop (mkF m 4 #[rv r0, .val (.long q1), .second] [])) st1 ?_
  refine own_step (U' := T1.setTop (mkF m 6 #[rv r0, .val (.long q1), .second] [(.long q1), (.ref r0)])) (fun t k => XS.aloadN X1.here hx rfl (hb hby d6_4) rfl rfl (XS.lloadN X1.here hx rfl (hb hby d6_5) rfl k)) ?_
  obtain ⟨T2, h2, X2, e2, W2, st2⟩ := putF X1 hx hZ hown (host := "") (Or.inl (own_w hw 47 rfl)) Via.refl eq1 F_value_r0 E_r0 (Or.inr ⟨(own_w hw 48 rfl), rfl, hnm⟩) (own_w hw 35 rfl) (ty := .long) (by decide) rfl rfl (g := (mkF m 6 #[rv r0, .val (.long q1), .second] [(.long q1), (.ref r0)])) rfl rfl (hb hby d6_6)
  have E_r0_2 := E_r0.wr W2
  have F_value_r0_2 := F_value_r0.same W2
  have Z2 : n0 ≤ h2.size := Nat.le_trans Z0 (Keep.of_wr W2).1
  have KK2 := KK0.wr W2 (Or.inl (List.mem_of_getElem? (i := 0) rfl))
  have N2 := Fr.snoc X2 N1 g_r0
  refine own_step (U' := T2.setTop (mkF m 9 #[rv r0, .val (.long q1), .second] [])) st2 ?_
  exact own_out X2 (v := none) hlk (fun _ => rfl) (by rw [e2]; exact ⟨rfl, N2, KK2, E_r0_2, F_value_r0_2⟩) (by decide) (by decide) (fun fs hr => X2.returnOut hx Bd.returns (hb hby d6_9) hr)
theorem d5_0 : decode jdk_35_method_24_code 0 = .ok (.sipush 128, 3) := by decide +kernel
theorem d5_3 : decode jdk_35_method_24_code 3 = .ok (.istore_n 2, 1) := by decide +kernel
theorem d5_4 : decode jdk_35_method_24_code 4 = .ok (.lload_n 0, 1) := by decide +kernel
theorem d5_5 : decode jdk_35_method_24_code 5 = .ok (.ldc2_w 230, 3) := by decide +kernel
theorem d5_8 : decode jdk_35_method_24_code 8 = .ok (.lcmp, 1) := by decide +kernel
theorem d5_9 : decode jdk_35_method_24_code 9 = .ok (.ifCond .lt 22, 3) := by decide +kernel
theorem d5_12 : decode jdk_35_method_24_code 12 = .ok (.lload_n 0, 1) := by decide +kernel
theorem d5_13 : decode jdk_35_method_24_code 13 = .ok (.ldc2_w 232, 3) := by decide +kernel
theorem d5_16 : decode jdk_35_method_24_code 16 = .ok (.lcmp, 1) := by decide +kernel
theorem d5_17 : decode jdk_35_method_24_code 17 = .ok (.ifCond .gt 14, 3) := by decide +kernel
theorem d5_20 : decode jdk_35_method_24_code 20 = .ok (.getstatic 234, 3) := by decide +kernel
theorem d5_23 : decode jdk_35_method_24_code 23 = .ok (.lload_n 0, 1) := by decide +kernel
theorem d5_24 : decode jdk_35_method_24_code 24 = .ok (.l2i, 1) := by decide +kernel
theorem d5_25 : decode jdk_35_method_24_code 25 = .ok (.sipush 128, 3) := by decide +kernel
theorem d5_28 : decode jdk_35_method_24_code 28 = .ok (.iadd, 1) := by decide +kernel
theorem d5_29 : decode jdk_35_method_24_code 29 = .ok (.aaload, 1) := by decide +kernel
theorem d5_30 : decode jdk_35_method_24_code 30 = .ok (.areturn, 1) := by decide +kernel
theorem d5_31 : decode jdk_35_method_24_code 31 = .ok (.new 1, 3) := by decide +kernel
theorem d5_34 : decode jdk_35_method_24_code 34 = .ok (.dup, 1) := by decide +kernel
theorem d5_35 : decode jdk_35_method_24_code 35 = .ok (.lload_n 0, 1) := by decide +kernel
theorem d5_36 : decode jdk_35_method_24_code 36 = .ok (.invokespecial 240, 3) := by decide +kernel
theorem d5_39 : decode jdk_35_method_24_code 39 = .ok (.areturn, 1) := by decide +kernel
theorem pn_5 : plainName "java/lang/Long" = true := by first | (simp [plainName, overriddenIn]; done) | decide +kernel
theorem ef_5 (m : MethodId) (q0 : Int64) : entryFrame m #[(.long q0)] 3 = mkF m 0 #[.val (.long q0), .second, .unset] [] := by first | (simp [entryFrame, mkF, argsToLocals, Value.category]; done) | rfl
def Q5 (Z : State) (q0 : Int64) (ca : Addr) (h0 : Heap) (n0 : Nat) (v : Option Value) (h : Heap) (L : List Loc) : Prop := ∃ o : Addr, v = some (.ref o) ∧ Fr n0 L ∧ Keep h0 h [] ∧ Exa Z h o "java/lang/Long"
set_option maxRecDepth 65536 in
set_option maxHeartbeats 40000000 in
theorem rm5 (l : Launch) (Z : State) (a0 : Array Value) (hw : ∀ d ∈ tables_1, d.before a0 Z = true) (ws : List Jvm.Cond) (q0 : Int64) (ca : Addr) (h0 : Heap) (n0 : Nat) (Z0 : n0 ≤ h0.size) (S_cache : Sta Z h0 "java/lang/Long$LongCache" "cache" "[Ljava/lang/Long;" (.ref ca)) (C_ca : own_Cache Z h0 ca) :
    MetFree l (⟨"java/lang/Long", "valueOf", "(J)Ljava/lang/Long;"⟩ : MethodName) (head1 (Jvm.Cond.code (⟨"java/lang/Long", "valueOf", "(J)Ljava/lang/Long;"⟩ : MethodName) jdk_35_method_24_code 3 (some (.object "java/lang/Long")) :: ws) ({ frames := 3, cells := 1, slots := 1, locals := 39 } : Room)) (fun a U => a = #[(.long q0)] ∧ Z.Warmed39 U.vm ∧ U.heap = h0) (fun _ _ _ _ _ => True) (fun _ U o U' => ∃ v L, o = .returned v ∧ Q5 Z q0 ca h0 n0 v U'.heap L ∧ FrameEnd U o U' L ({ frames := 3, cells := 1, slots := 1, locals := 39 } : Room).cells ({ frames := 3, cells := 1, slots := 1, locals := 39 } : Room).slots) := by
  refine MetFree.of_bodySF (plainFor_of_name pn_5) hisR ?_
  intro p e s m args below meth c s₁ Bd hml0 hP hK
  obtain ⟨rfl, hZ, hh⟩ := hP
  have hx := Bd.exec
  have hby := Bd.bytes
  have hml : c.maxLocals = 3 := hml0
  have hown : s.vm.findClass "java/lang/Long" = some m.cls := findClass_of_methodNamed Bd.named
  have hnm := (name_of_methodNamed Bd.named Bd.method).1
  have hlk : meth.locks = false := Bd.notSynchronized
  have X0 : Stand p l e ({ frames := 3, cells := 1, slots := 1, locals := 39 } : Room) s m #[(.long q0)] below meth c s₁ [] 0 0 := Stand.of_body Bd
  have e0 : s₁.heap = h0 := by rw [← hh, Bd.state]; rfl
  have N0 := Fr.nil n0
  have KK0 := Keep.refl h0 []
  show own_Go p.tables e below s 1 1 (Q5 Z q0 ca h0 n0) (s₁.setTop (entryFrame m #[(.long q0)] 3))
  rw [ef_5]
  refine own_step (U' := s₁.setTop (mkF m 9 #[.val (.long q0), .second, iv (128 : Int32)] [(.int (lcmpW q0 (-128 : Int64)))])) (fun t k => XS.sipush X0.here hx rfl (hb hby d5_0) (XS.istoreN X0.here hx rfl (hb hby d5_3) rfl (l' := #[.val (.long q0), .second, iv (128 : Int32)]) rfl (XS.lloadN X0.here hx rfl (hb hby d5_4) rfl (X0.ldc2Long hx hown (mvT hZ (own_w hw 27 rfl)) (g := (mkF m 5 #[.val (.long q0), .second, iv (128 : Int32)] [(.long q0)])) rfl (hb hby d5_5) t (XS.lcmp X0.here hx rfl (hb hby d5_8) rfl k))))) ?_
  by_cases hc9_1 : q0 < (-128 : Int64)
  · refine own_step (U' := s₁.setTop (mkF m 31 #[.val (.long q0), .second, iv (128 : Int32)] [])) (fun t k => XS.ifYes X0.here hx rfl (pc0 := 9) (pc' := 31) rfl (hb hby d5_9) rfl ((if0 _ _).trans (tlt ((lw_lt q0 (-128 : Int64)).mpr hc9_1)).1) (by decide) (by decide) k) ?_
    obtain ⟨T2, h2, X2, e2, E2, A2, D2, -, st2⟩ := newO X0 hx hZ hown (own_w hw 34 rfl) (own_w hw 35 rfl) (own_w hw 25 rfl) e0 (g := (mkF m 31 #[.val (.long q0), .second, iv (128 : Int32)] [])) rfl (hb hby d5_31) (by decide) (by decide)
    obtain ⟨b2, g2⟩ : ∃ z, z = h0.size := ⟨_, rfl⟩
    have ne_ca_b2 : ca ≠ b2 := Nat.ne_of_lt (Nat.lt_of_lt_of_le C_ca.lt (Nat.le_of_eq g2.symm))
    have ge_b2 : n0 ≤ b2 := Nat.le_trans Z0 (Nat.le_of_eq g2.symm)
    have sz_b2 : h0.size ≤ b2 := Nat.le_trans KK0.1 (Nat.le_of_eq g2.symm)
    rw [← g2] at A2 D2 st2
    have C_ca_2 := C_ca.ext E2
    have S_cache_2 := S_cache.ext E2
    have F_value_b2 : Fld Z h2 b2 "java/lang/Long" "value" "J" (.long (0 : Int64)) := D2 (Or.inr (own_w hw 48 rfl)) (ty := .long) (by decide)
    have Z2 : n0 ≤ h2.size := Nat.le_trans Z0 E2.1
    have KK2 := KK0.ext E2
    refine own_step (U' := T2.setTop (mkF m 34 #[.val (.long q0), .second, iv (128 : Int32)] [(.ref b2)])) st2 ?_
    refine own_step (U' := T2.setTop (mkF m 36 #[.val (.long q0), .second, iv (128 : Int32)] [(.long q0), (.ref b2), (.ref b2)])) (fun t k => XS.dup X2.here hx rfl (hb hby d5_34) rfl rfl (XS.lloadN X2.here hx rfl (hb hby d5_35) rfl k)) ?_
    obtain ⟨_, _, ⟨T3, L3, k3, n3⟩, -, X3, ⟨Lc3, hQ3, l3, y3, z3⟩, st3⟩ := X2.specialBack hx (y := (⟨"java/lang/Long", "<init>", "(J)V"⟩ : MethodName)) rfl hown (mvT hZ (own_w hw 36 rfl)) (mvT hZ (own_w hw 37 rfl)) (mvT hZ (own_w hw 39 rfl)) (by decide) (backOf (W := 1) (rm6 l Z a0 hw [] b2 q0 h2 n0 Z2 A2 F_value_b2 ge_b2) hZ (own_w hw 39 rfl) (own_w hw 25 rfl) (by decide) (by decide)) (g := (mkF m 36 #[.val (.long q0), .second, iv (128 : Int32)] [(.long q0), (.ref b2), (.ref b2)])) rfl (by rw [hml]; rfl) (Steps.refl _) (a := b2) (argsL := [(.long q0)]) (rest := [(.ref b2)]) (lenOf pd__J_V rfl) rfl (by show 2 * 0 + _ ≤ _; exact Nat.le_of_eq rfl) (hb hby d5_36) (fun _ _ => ⟨rfl, e2, (by decide : 1 + 0 ≤ _), (by decide : 1 + 0 ≤ _)⟩)
    dsimp only [Pt.U, Pt.locs, Pt.cells, Pt.slots] at X3 l3 y3 z3 st3 hQ3
    subst l3 y3 z3
    obtain ⟨rfl, N3q, K3q, Ea3_b2, Fa3_value_b2⟩ := hQ3
    have N3 := Fr.app N0 N3q
    have C_ca_3 := C_ca_2.keep K3q (ninS ne_ca_b2 nin0)
    have S_cache_3 := own_staK S_cache_2 K3q (allS (own_exaP A2) all0)
    have A2_3 := A2.keep K3q
    have Z3 : n0 ≤ T3.heap.size := Nat.le_trans Z2 K3q.1
    have KK3 := KK2.trans K3q (allS (Or.inr sz_b2) all0)
    refine own_steps (U' := T3.setTop (mkF m 39 #[.val (.long q0), .second, iv (128 : Int32)] [(.ref b2)])) st3 ?_
    exact own_out X3 (v := (some (.ref b2))) hlk (own_nv Bd.returns) (by exact ⟨b2, rfl, N3, KK3, Ea3_b2⟩) (by decide) (by decide) (fun fs hr => X3.areturnOut hx rfl Bd.returns rfl (hb hby d5_39) hr)
  · refine own_step (U' := s₁.setTop (mkF m 17 #[.val (.long q0), .second, iv (128 : Int32)] [(.int (lcmpW q0 (127 : Int64)))])) (fun t k => XS.ifNo X0.here hx rfl (hb hby d5_9) rfl ((if0 _ _).trans (flt (mt (lw_lt q0 (-128 : Int64)).mp hc9_1)).1) (XS.lloadN X0.here hx rfl (hb hby d5_12) rfl (X0.ldc2Long hx hown (mvT hZ (own_w hw 28 rfl)) (g := (mkF m 13 #[.val (.long q0), .second, iv (128 : Int32)] [(.long q0)])) rfl (hb hby d5_13) t (XS.lcmp X0.here hx rfl (hb hby d5_16) rfl k)))) ?_
    by_cases hc17_4 : (127 : Int64) < q0
    · refine own_step (U' := s₁.setTop (mkF m 31 #[.val (.long q0), .second, iv (128 : Int32)] [])) (fun t k => XS.ifYes X0.here hx rfl (pc0 := 17) (pc' := 31) rfl (hb hby d5_17) rfl ((if0 _ _).trans (tlt ((lw_gt q0 (127 : Int64)).mpr hc17_4)).2.2.1) (by decide) (by decide) k) ?_
      obtain ⟨T5, h5, X5, e5, E5, A5, D5, -, st5⟩ := newO X0 hx hZ hown (own_w hw 34 rfl) (own_w hw 35 rfl) (own_w hw 25 rfl) e0 (g := (mkF m 31 #[.val (.long q0), .second, iv (128 : Int32)] [])) rfl (hb hby d5_31) (by decide) (by decide)
      obtain ⟨b5, g5⟩ : ∃ z, z = h0.size := ⟨_, rfl⟩
      have ne_ca_b5 : ca ≠ b5 := Nat.ne_of_lt (Nat.lt_of_lt_of_le C_ca.lt (Nat.le_of_eq g5.symm))
      have ge_b5 : n0 ≤ b5 := Nat.le_trans Z0 (Nat.le_of_eq g5.symm)
      have sz_b5 : h0.size ≤ b5 := Nat.le_trans KK0.1 (Nat.le_of_eq g5.symm)
      rw [← g5] at A5 D5 st5
      have C_ca_5 := C_ca.ext E5
      have S_cache_5 := S_cache.ext E5
      have F_value_b5 : Fld Z h5 b5 "java/lang/Long" "value" "J" (.long (0 : Int64)) := D5 (Or.inr (own_w hw 48 rfl)) (ty := .long) (by decide)
      have Z5 : n0 ≤ h5.size := Nat.le_trans Z0 E5.1
      have KK5 := KK0.ext E5
      refine own_step (U' := T5.setTop (mkF m 34 #[.val (.long q0), .second, iv (128 : Int32)] [(.ref b5)])) st5 ?_
      refine own_step (U' := T5.setTop (mkF m 36 #[.val (.long q0), .second, iv (128 : Int32)] [(.long q0), (.ref b5), (.ref b5)])) (fun t k => XS.dup X5.here hx rfl (hb hby d5_34) rfl rfl (XS.lloadN X5.here hx rfl (hb hby d5_35) rfl k)) ?_
      obtain ⟨_, _, ⟨T6, L6, k6, n6⟩, -, X6, ⟨Lc6, hQ6, l6, y6, z6⟩, st6⟩ := X5.specialBack hx (y := (⟨"java/lang/Long", "<init>", "(J)V"⟩ : MethodName)) rfl hown (mvT hZ (own_w hw 36 rfl)) (mvT hZ (own_w hw 37 rfl)) (mvT hZ (own_w hw 39 rfl)) (by decide) (backOf (W := 1) (rm6 l Z a0 hw [] b5 q0 h5 n0 Z5 A5 F_value_b5 ge_b5) hZ (own_w hw 39 rfl) (own_w hw 25 rfl) (by decide) (by decide)) (g := (mkF m 36 #[.val (.long q0), .second, iv (128 : Int32)] [(.long q0), (.ref b5), (.ref b5)])) rfl (by rw [hml]; rfl) (Steps.refl _) (a := b5) (argsL := [(.long q0)]) (rest := [(.ref b5)]) (lenOf pd__J_V rfl) rfl (by show 2 * 0 + _ ≤ _; exact Nat.le_of_eq rfl) (hb hby d5_36) (fun _ _ => ⟨rfl, e5, (by decide : 1 + 0 ≤ _), (by decide : 1 + 0 ≤ _)⟩)
      dsimp only [Pt.U, Pt.locs, Pt.cells, Pt.slots] at X6 l6 y6 z6 st6 hQ6
      subst l6 y6 z6
      obtain ⟨rfl, N6q, K6q, Ea6_b5, Fa6_value_b5⟩ := hQ6
      have N6 := Fr.app N0 N6q
      have C_ca_6 := C_ca_5.keep K6q (ninS ne_ca_b5 nin0)
      have S_cache_6 := own_staK S_cache_5 K6q (allS (own_exaP A5) all0)
      have A5_6 := A5.keep K6q
      have Z6 : n0 ≤ T6.heap.size := Nat.le_trans Z5 K6q.1
      have KK6 := KK5.trans K6q (allS (Or.inr sz_b5) all0)
      refine own_steps (U' := T6.setTop (mkF m 39 #[.val (.long q0), .second, iv (128 : Int32)] [(.ref b5)])) st6 ?_
      exact own_out X6 (v := (some (.ref b5))) hlk (own_nv Bd.returns) (by exact ⟨b5, rfl, N6, KK6, Ea6_b5⟩) (by decide) (by decide) (fun fs hr => X6.areturnOut hx rfl Bd.returns rfl (hb hby d5_39) hr)
    · refine own_step (U' := s₁.setTop (mkF m 20 #[.val (.long q0), .second, iv (128 : Int32)] [])) (fun t k => XS.ifNo X0.here hx rfl (hb hby d5_17) rfl ((if0 _ _).trans (flt (mt (lw_gt q0 (127 : Int64)).mp hc17_4)).2.2.1) k) ?_
      obtain ⟨T7, X7, e7, st7⟩ := getS2 X0 hx hZ hown (host := "") (Or.inl (own_w hw 29 rfl)) Via.refl e0 S_cache (g := (mkF m 20 #[.val (.long q0), .second, iv (128 : Int32)] [])) rfl (hb hby d5_20)
      refine own_step (U' := T7.setTop (mkF m 23 #[.val (.long q0), .second, iv (128 : Int32)] [(.ref ca)])) st7 ?_
      refine own_step (U' := T7.setTop (mkF m 29 #[.val (.long q0), .second, iv (128 : Int32)] [(.int ((q0.toInt32) + (128 : Int32))), (.ref ca)])) (fun t k => XS.lloadN X7.here hx rfl (hb hby d5_23) rfl (XS.l2i X7.here hx rfl (hb hby d5_24) rfl (XS.sipush X7.here hx rfl (hb hby d5_25) (XS.iadd X7.here hx rfl (hb hby d5_28) rfl k)))) ?_
      obtain ⟨cl8, Ar8, aS8, aE8⟩ := C_ca
      have hin8 : ¬ (((q0.toInt32) + (128 : Int32)) < 0 ∨ cl8.slots.size ≤ (((q0.toInt32) + (128 : Int32))).toNatClampNeg) := by rw [aS8]; exact own_in hc9_1 hc17_4
      obtain ⟨y8, hat8, Ey8⟩ := aE8 (((q0.toInt32) + (128 : Int32))).toNatClampNeg (by have := Nat.lt_of_not_le (fun q => hin8 (Or.inr q)); rw [aS8] at this; exact this)
      refine own_step (U' := T7.setTop (mkF m 30 #[.val (.long q0), .second, iv (128 : Int32)] [(.ref y8)])) (fun t k => X7.aaload hx (j := ((q0.toInt32) + (128 : Int32))) (v := (.ref y8)) (by rw [e7]; exact Ar8.1) (State.isArrayOf_alike hZ.alike Ar8.2.1) rfl Ar8.2.2 hin8 hat8 (g := (mkF m 29 #[.val (.long q0), .second, iv (128 : Int32)] [(.int ((q0.toInt32) + (128 : Int32))), (.ref ca)])) rfl rfl (hb hby d5_29) t k) ?_
      exact own_out X7 (v := (some (.ref y8))) hlk (own_nv Bd.returns) (by rw [e7]; exact ⟨y8, rfl, N0, KK0, Ey8⟩) (by decide) (by decide) (fun fs hr => X7.areturnOut hx rfl Bd.returns rfl (hb hby d5_30) hr)

theorem own_1 {a c : Int64} {v : Int32} (h : v = (if a = c then (1 : Int32) else (0 : Int32))) : F4e a c = v := by subst h; rfl
theorem own_2 (a c : Int64) : F4e c a = F4e a c := by
  simp only [F4e]
  by_cases h : a = c
  · subst h; rfl
  · rw [if_neg h, if_neg (Ne.symm h)]
theorem own_3 (a : Int64) : ¬ F4e a a = (0 : Int32) := by
  simp only [F4e, if_pos]; decide

theorem pn_0 : plainName "com/example/urd/urd/model/NodeSetEqualsPinLaw" = true := by first | (simp [plainName, overriddenIn]; done) | decide +kernel
theorem ef_0 (m : MethodId) (q0 : Int64) (q1 : Int64) (p2 : Int32) : entryFrame m #[(.long q0), (.long q1), (.int p2)] maxLocals = mkF m 0 #[.val (.long q0), .second, .val (.long q1), .second, iv p2, .unset, .unset, .unset, .unset, .unset, .unset, .unset, .unset, .unset, .unset, .unset, .unset] [] := by first | (simp [entryFrame, mkF, argsToLocals, Value.category, maxLocals]; done) | rfl
def Q0 (Z : State) (q0 : Int64) (q1 : Int64) (p2 : Int32) (ca : Addr) (h0 : Heap) (n0 : Nat) (v : Option Value) (h : Heap) (L : List Loc) : Prop := v = some (.int 1) ∧ Fr n0 L
set_option maxRecDepth 65536 in
set_option maxHeartbeats 40000000 in
theorem rm0 (l : Launch) (Z : State) (a0 : Array Value) (hw : ∀ d ∈ tables_1, d.before a0 Z = true) (ws : List Jvm.Cond) (q0 : Int64) (q1 : Int64) (p2 : Int32) (ca : Addr) (h0 : Heap) (n0 : Nat) (Z0 : n0 ≤ h0.size) (S_cache : Sta Z h0 "java/lang/Long$LongCache" "cache" "[Ljava/lang/Long;" (.ref ca)) (C_ca : own_Cache Z h0 ca) :
    MetFree l x (head1 (Jvm.Cond.code x code maxLocals ret :: ws) room_1) (fun a U => a = #[(.long q0), (.long q1), (.int p2)] ∧ Z.Warmed39 U.vm ∧ U.heap = h0) (fun _ _ _ _ _ => True) (fun _ U o U' => ∃ v L, o = .returned v ∧ Q0 Z q0 q1 p2 ca h0 n0 v U'.heap L ∧ FrameEnd U o U' L 16 128) := by
  refine MetFree.of_bodySF (plainFor_of_name pn_0) hisR ?_
  intro p e s m args below meth c s₁ Bd hml0 hP hK
  obtain ⟨rfl, hZ, hh⟩ := hP
  have hx := Bd.exec
  have hby := Bd.bytes
  have hml : c.maxLocals = 17 := hml0
  have hown : s.vm.findClass "com/example/urd/urd/model/NodeSetEqualsPinLaw" = some m.cls := findClass_of_methodNamed Bd.named
  have hnm := (name_of_methodNamed Bd.named Bd.method).1
  have hlk : meth.locks = false := Bd.notSynchronized
  have X0 : Stand p l e room_1 s m #[(.long q0), (.long q1), (.int p2)] below meth c s₁ [] 0 0 := Stand.of_body Bd
  have e0 : s₁.heap = h0 := by rw [← hh, Bd.state]; rfl
  have N0 := Fr.nil n0
  have KK0 := Keep.refl h0 []
  show own_Go p.tables e below s 16 128 (Q0 Z q0 q1 p2 ca h0 n0) (s₁.setTop (entryFrame m #[(.long q0), (.long q1), (.int p2)] maxLocals))
  rw [ef_0]
  refine own_step (U' := s₁.setTop (mkF m 8 #[.val (.long q0), .second, .val (.long q1), .second, iv p2, iv (p2 &&& (3 : Int32)), .unset, .unset, .unset, .unset, .unset, .unset, .unset, .unset, .unset, .unset, .unset] [(.int (p2 &&& (3 : Int32)))])) (fun t k => XS.iload X0.here hx rfl (hb hby at_0) rfl (XS.iconst X0.here hx rfl (hb hby at_2) (XS.iand X0.here hx rfl (hb hby at_3) rfl (XS.istore X0.here hx rfl (hb hby at_4) rfl (l' := #[.val (.long q0), .second, .val (.long q1), .second, iv p2, iv (p2 &&& (3 : Int32)), .unset, .unset, .unset, .unset, .unset, .unset, .unset, .unset, .unset, .unset, .unset]) rfl (XS.iload X0.here hx rfl (hb hby at_6) rfl k))))) ?_
  obtain ⟨v42_3, hv42_3⟩ : ∃ v : Int64, v = (if (p2 &&& (3 : Int32)) = (0 : Int32) then q1 else (if (p2 &&& (3 : Int32)) = (1 : Int32) then q0 else (q0 ^^^ ((1 : Int64) <<< ((((p2.toUInt32 >>> ((2 : Int32) &&& 31).toUInt32).toInt32) &&& (63 : Int32)) &&& 0x3f).toInt64)))) := ⟨_, rfl⟩
  have K42_4 : ∀ (T' : State) (locs' : List Loc) (X' : Stand p l e room_1 s m #[(.long q0), (.long q1), (.int p2)] below meth c T' locs' 0 0) (N' : Fr n0 locs') (e' : T'.heap = h0), own_Go p.tables e below s 16 128 (Q0 Z q0 q1 p2 ca h0 n0) (T'.setTop (mkF m 42 #[.val (.long q0), .second, .val (.long q1), .second, iv p2, iv (p2 &&& (3 : Int32)), .val (.long v42_3), .second, .unset, .unset, .unset, .unset, .unset, .unset, .unset, .unset, .unset] [])) := by
    intro T4 L4 X4 N4 e4
    obtain ⟨T5, h5, X5, e5, E5, A5, D5, -, st5⟩ := newO X4 hx hZ hown (own_w hw 0 rfl) (own_w hw 1 rfl) (own_w hw 2 rfl) e4 (g := (mkF m 42 #[.val (.long q0), .second, .val (.long q1), .second, iv p2, iv (p2 &&& (3 : Int32)), .val (.long v42_3), .second, .unset, .unset, .unset, .unset, .unset, .unset, .unset, .unset, .unset] [])) rfl (hb hby at_42) (by decide) (by decide)
    obtain ⟨b5, g5⟩ : ∃ z, z = h0.size := ⟨_, rfl⟩
    have ne_ca_b5 : ca ≠ b5 := Nat.ne_of_lt (Nat.lt_of_lt_of_le C_ca.lt (Nat.le_of_eq g5.symm))
    have ge_b5 : n0 ≤ b5 := Nat.le_trans Z0 (Nat.le_of_eq g5.symm)
    have sz_b5 : h0.size ≤ b5 := Nat.le_trans KK0.1 (Nat.le_of_eq g5.symm)
    rw [← g5] at A5 D5 st5
    have S_cache_5 := S_cache.ext E5
    have C_ca_5 := C_ca.ext E5
    have F_bits_b5 : Fld Z h5 b5 "com/example/urd/urd/model/NodeSet" "bits" "J" (.long (0 : Int64)) := D5 (Or.inr (own_w hw 15 rfl)) (ty := .long) (by decide)
    have Z5 : n0 ≤ h5.size := Nat.le_trans Z0 E5.1
    have KK5 := KK0.ext E5
    refine own_step (U' := T5.setTop (mkF m 45 #[.val (.long q0), .second, .val (.long q1), .second, iv p2, iv (p2 &&& (3 : Int32)), .val (.long v42_3), .second, .unset, .unset, .unset, .unset, .unset, .unset, .unset, .unset, .unset] [(.ref b5)])) st5 ?_
    refine own_step (U' := T5.setTop (mkF m 47 #[.val (.long q0), .second, .val (.long q1), .second, iv p2, iv (p2 &&& (3 : Int32)), .val (.long v42_3), .second, .unset, .unset, .unset, .unset, .unset, .unset, .unset, .unset, .unset] [(.long q0), (.ref b5), (.ref b5)])) (fun t k => XS.dup X5.here hx rfl (hb hby at_45) rfl rfl (XS.lloadN X5.here hx rfl (hb hby at_46) rfl k)) ?_
    obtain ⟨_, _, ⟨T6, L6, k6, n6⟩, -, X6, ⟨Lc6, hQ6, l6, y6, z6⟩, st6⟩ := X5.specialBack hx (y := (⟨"com/example/urd/urd/model/NodeSet", "<init>", "(J)V"⟩ : MethodName)) rfl hown (mvT hZ (own_w hw 3 rfl)) (mvT hZ (own_w hw 4 rfl)) (mvT hZ (own_w hw 5 rfl)) (by decide) (backOf (W := 1) (rm1 l Z a0 hw [] b5 q0 h5 n0 Z5 A5 F_bits_b5 ge_b5) hZ (own_w hw 5 rfl) (own_w hw 2 rfl) (by decide) (by decide)) (g := (mkF m 47 #[.val (.long q0), .second, .val (.long q1), .second, iv p2, iv (p2 &&& (3 : Int32)), .val (.long v42_3), .second, .unset, .unset, .unset, .unset, .unset, .unset, .unset, .unset, .unset] [(.long q0), (.ref b5), (.ref b5)])) rfl (by rw [hml]; rfl) (Steps.refl _) (a := b5) (argsL := [(.long q0)]) (rest := [(.ref b5)]) (lenOf pd__J_V rfl) rfl (by show 2 * 0 + _ ≤ _; exact Nat.le_of_eq rfl) (hb hby at_47) (fun _ _ => ⟨rfl, e5, (by decide : 1 + 0 ≤ _), (by decide : 1 + 0 ≤ _)⟩)
    dsimp only [Pt.U, Pt.locs, Pt.cells, Pt.slots] at X6 l6 y6 z6 st6 hQ6
    subst l6 y6 z6
    obtain ⟨rfl, N6q, K6q, Ea6_b5, Fa6_bits_b5⟩ := hQ6
    have N6 := Fr.app N4 N6q
    have S_cache_6 := own_staK S_cache_5 K6q (allS (own_exaP A5) all0)
    have C_ca_6 := C_ca_5.keep K6q (ninS ne_ca_b5 nin0)
    have A5_6 := A5.keep K6q
    have Z6 : n0 ≤ T6.heap.size := Nat.le_trans Z5 K6q.1
    have KK6 := KK5.trans K6q (allS (Or.inr sz_b5) all0)
    refine own_steps (U' := T6.setTop (mkF m 50 #[.val (.long q0), .second, .val (.long q1), .second, iv p2, iv (p2 &&& (3 : Int32)), .val (.long v42_3), .second, .unset, .unset, .unset, .unset, .unset, .unset, .unset, .unset, .unset] [(.ref b5)])) st6 ?_
    refine own_step (U' := T6.setTop (mkF m 52 #[.val (.long q0), .second, .val (.long q1), .second, iv p2, iv (p2 &&& (3 : Int32)), .val (.long v42_3), .second, rv b5, .unset, .unset, .unset, .unset, .unset, .unset, .unset, .unset] [])) (fun t k => XS.astore X6.here hx rfl (hb hby at_50) rfl rfl (l' := #[.val (.long q0), .second, .val (.long q1), .second, iv p2, iv (p2 &&& (3 : Int32)), .val (.long v42_3), .second, rv b5, .unset, .unset, .unset, .unset, .unset, .unset, .unset, .unset]) rfl k) ?_
    obtain ⟨T7, h7, X7, e7, E7, A7, D7, -, st7⟩ := newO X6 hx hZ hown (own_w hw 0 rfl) (own_w hw 1 rfl) (own_w hw 2 rfl) rfl (g := (mkF m 52 #[.val (.long q0), .second, .val (.long q1), .second, iv p2, iv (p2 &&& (3 : Int32)), .val (.long v42_3), .second, rv b5, .unset, .unset, .unset, .unset, .unset, .unset, .unset, .unset] [])) rfl (hb hby at_52) (by decide) (by decide)
    obtain ⟨b7, g7⟩ : ∃ z, z = T6.heap.size := ⟨_, rfl⟩
    have ne_ca_b7 : ca ≠ b7 := Nat.ne_of_lt (Nat.lt_of_lt_of_le C_ca_6.lt (Nat.le_of_eq g7.symm))
    have ne_b5_b7 : b5 ≠ b7 := Nat.ne_of_lt (Nat.lt_of_lt_of_le Ea6_b5.lt (Nat.le_of_eq g7.symm))
    have ge_b7 : n0 ≤ b7 := Nat.le_trans Z6 (Nat.le_of_eq g7.symm)
    have sz_b7 : h0.size ≤ b7 := Nat.le_trans KK6.1 (Nat.le_of_eq g7.symm)
    rw [← g7] at A7 D7 st7
    have S_cache_7 := S_cache_6.ext E7
    have C_ca_7 := C_ca_6.ext E7
    have Ea6_b5_7 := Ea6_b5.ext E7
    have Fa6_bits_b5_7 := Fa6_bits_b5.ext E7
    have F_bits_b7 : Fld Z h7 b7 "com/example/urd/urd/model/NodeSet" "bits" "J" (.long (0 : Int64)) := D7 (Or.inr (own_w hw 15 rfl)) (ty := .long) (by decide)
    have Z7 : n0 ≤ h7.size := Nat.le_trans Z6 E7.1
    have KK7 := KK6.ext E7
    refine own_step (U' := T7.setTop (mkF m 55 #[.val (.long q0), .second, .val (.long q1), .second, iv p2, iv (p2 &&& (3 : Int32)), .val (.long v42_3), .second, rv b5, .unset, .unset, .unset, .unset, .unset, .unset, .unset, .unset] [(.ref b7)])) st7 ?_
    refine own_step (U' := T7.setTop (mkF m 58 #[.val (.long q0), .second, .val (.long q1), .second, iv p2, iv (p2 &&& (3 : Int32)), .val (.long v42_3), .second, rv b5, .unset, .unset, .unset, .unset, .unset, .unset, .unset, .unset] [(.long v42_3), (.ref b7), (.ref b7)])) (fun t k => XS.dup X7.here hx rfl (hb hby at_55) rfl rfl (XS.lload X7.here hx rfl (hb hby at_56) rfl k)) ?_
    obtain ⟨_, _, ⟨T8, L8, k8, n8⟩, -, X8, ⟨Lc8, hQ8, l8, y8, z8⟩, st8⟩ := X7.specialBack hx (y := (⟨"com/example/urd/urd/model/NodeSet", "<init>", "(J)V"⟩ : MethodName)) rfl hown (mvT hZ (own_w hw 3 rfl)) (mvT hZ (own_w hw 4 rfl)) (mvT hZ (own_w hw 5 rfl)) (by decide) (backOf (W := 1) (rm1 l Z a0 hw [] b7 v42_3 h7 n0 Z7 A7 F_bits_b7 ge_b7) hZ (own_w hw 5 rfl) (own_w hw 2 rfl) (by decide) (by decide)) (g := (mkF m 58 #[.val (.long q0), .second, .val (.long q1), .second, iv p2, iv (p2 &&& (3 : Int32)), .val (.long v42_3), .second, rv b5, .unset, .unset, .unset, .unset, .unset, .unset, .unset, .unset] [(.long v42_3), (.ref b7), (.ref b7)])) rfl (by rw [hml]; rfl) (Steps.refl _) (a := b7) (argsL := [(.long v42_3)]) (rest := [(.ref b7)]) (lenOf pd__J_V rfl) rfl (by show 2 * 0 + _ ≤ _; exact Nat.le_of_eq rfl) (hb hby at_58) (fun _ _ => ⟨rfl, e7, (by decide : 2 + 0 ≤ _), (by decide : 2 + 0 ≤ _)⟩)
    dsimp only [Pt.U, Pt.locs, Pt.cells, Pt.slots] at X8 l8 y8 z8 st8 hQ8
    subst l8 y8 z8
    obtain ⟨rfl, N8q, K8q, Ea8_b7, Fa8_bits_b7⟩ := hQ8
    have N8 := Fr.app N6 N8q
    have S_cache_8 := own_staK S_cache_7 K8q (allS (own_exaP A7) all0)
    have C_ca_8 := C_ca_7.keep K8q (ninS ne_ca_b7 nin0)
    have Ea6_b5_8 := Ea6_b5_7.keep K8q
    have Fa6_bits_b5_8 := Fa6_bits_b5_7.keep K8q (ninS ne_b5_b7 nin0)
    have A7_8 := A7.keep K8q
    have Z8 : n0 ≤ T8.heap.size := Nat.le_trans Z7 K8q.1
    have KK8 := KK7.trans K8q (allS (Or.inr sz_b7) all0)
    refine own_steps (U' := T8.setTop (mkF m 61 #[.val (.long q0), .second, .val (.long q1), .second, iv p2, iv (p2 &&& (3 : Int32)), .val (.long v42_3), .second, rv b5, .unset, .unset, .unset, .unset, .unset, .unset, .unset, .unset] [(.ref b7)])) st8 ?_
    refine own_step (U' := T8.setTop (mkF m 63 #[.val (.long q0), .second, .val (.long q1), .second, iv p2, iv (p2 &&& (3 : Int32)), .val (.long v42_3), .second, rv b5, rv b7, .unset, .unset, .unset, .unset, .unset, .unset, .unset] [])) (fun t k => XS.astore X8.here hx rfl (hb hby at_61) rfl rfl (l' := #[.val (.long q0), .second, .val (.long q1), .second, iv p2, iv (p2 &&& (3 : Int32)), .val (.long v42_3), .second, rv b5, rv b7, .unset, .unset, .unset, .unset, .unset, .unset, .unset]) rfl k) ?_
    obtain ⟨T9, h9, X9, e9, E9, A9, D9, -, st9⟩ := newO X8 hx hZ hown (own_w hw 0 rfl) (own_w hw 1 rfl) (own_w hw 2 rfl) rfl (g := (mkF m 63 #[.val (.long q0), .second, .val (.long q1), .second, iv p2, iv (p2 &&& (3 : Int32)), .val (.long v42_3), .second, rv b5, rv b7, .unset, .unset, .unset, .unset, .unset, .unset, .unset] [])) rfl (hb hby at_63) (by decide) (by decide)
    obtain ⟨b9, g9⟩ : ∃ z, z = T8.heap.size := ⟨_, rfl⟩
    have ne_ca_b9 : ca ≠ b9 := Nat.ne_of_lt (Nat.lt_of_lt_of_le C_ca_8.lt (Nat.le_of_eq g9.symm))
    have ne_b5_b9 : b5 ≠ b9 := Nat.ne_of_lt (Nat.lt_of_lt_of_le Ea6_b5_8.lt (Nat.le_of_eq g9.symm))
    have ne_b7_b9 : b7 ≠ b9 := Nat.ne_of_lt (Nat.lt_of_lt_of_le Ea8_b7.lt (Nat.le_of_eq g9.symm))
    have ge_b9 : n0 ≤ b9 := Nat.le_trans Z8 (Nat.le_of_eq g9.symm)
    have sz_b9 : h0.size ≤ b9 := Nat.le_trans KK8.1 (Nat.le_of_eq g9.symm)
    rw [← g9] at A9 D9 st9
    have S_cache_9 := S_cache_8.ext E9
    have C_ca_9 := C_ca_8.ext E9
    have Ea6_b5_9 := Ea6_b5_8.ext E9
    have Fa6_bits_b5_9 := Fa6_bits_b5_8.ext E9
    have Ea8_b7_9 := Ea8_b7.ext E9
    have Fa8_bits_b7_9 := Fa8_bits_b7.ext E9
    have F_bits_b9 : Fld Z h9 b9 "com/example/urd/urd/model/NodeSet" "bits" "J" (.long (0 : Int64)) := D9 (Or.inr (own_w hw 15 rfl)) (ty := .long) (by decide)
    have Z9 : n0 ≤ h9.size := Nat.le_trans Z8 E9.1
    have KK9 := KK8.ext E9
    refine own_step (U' := T9.setTop (mkF m 66 #[.val (.long q0), .second, .val (.long q1), .second, iv p2, iv (p2 &&& (3 : Int32)), .val (.long v42_3), .second, rv b5, rv b7, .unset, .unset, .unset, .unset, .unset, .unset, .unset] [(.ref b9)])) st9 ?_
    refine own_step (U' := T9.setTop (mkF m 68 #[.val (.long q0), .second, .val (.long q1), .second, iv p2, iv (p2 &&& (3 : Int32)), .val (.long v42_3), .second, rv b5, rv b7, .unset, .unset, .unset, .unset, .unset, .unset, .unset] [(.long q0), (.ref b9), (.ref b9)])) (fun t k => XS.dup X9.here hx rfl (hb hby at_66) rfl rfl (XS.lloadN X9.here hx rfl (hb hby at_67) rfl k)) ?_
    obtain ⟨_, _, ⟨T10, L10, k10, n10⟩, -, X10, ⟨Lc10, hQ10, l10, y10, z10⟩, st10⟩ := X9.specialBack hx (y := (⟨"com/example/urd/urd/model/NodeSet", "<init>", "(J)V"⟩ : MethodName)) rfl hown (mvT hZ (own_w hw 3 rfl)) (mvT hZ (own_w hw 4 rfl)) (mvT hZ (own_w hw 5 rfl)) (by decide) (backOf (W := 1) (rm1 l Z a0 hw [] b9 q0 h9 n0 Z9 A9 F_bits_b9 ge_b9) hZ (own_w hw 5 rfl) (own_w hw 2 rfl) (by decide) (by decide)) (g := (mkF m 68 #[.val (.long q0), .second, .val (.long q1), .second, iv p2, iv (p2 &&& (3 : Int32)), .val (.long v42_3), .second, rv b5, rv b7, .unset, .unset, .unset, .unset, .unset, .unset, .unset] [(.long q0), (.ref b9), (.ref b9)])) rfl (by rw [hml]; rfl) (Steps.refl _) (a := b9) (argsL := [(.long q0)]) (rest := [(.ref b9)]) (lenOf pd__J_V rfl) rfl (by show 2 * 0 + _ ≤ _; exact Nat.le_of_eq rfl) (hb hby at_68) (fun _ _ => ⟨rfl, e9, (by decide : 3 + 0 ≤ _), (by decide : 3 + 0 ≤ _)⟩)
    dsimp only [Pt.U, Pt.locs, Pt.cells, Pt.slots] at X10 l10 y10 z10 st10 hQ10
    subst l10 y10 z10
    obtain ⟨rfl, N10q, K10q, Ea10_b9, Fa10_bits_b9⟩ := hQ10
    have N10 := Fr.app N8 N10q
    have S_cache_10 := own_staK S_cache_9 K10q (allS (own_exaP A9) all0)
    have C_ca_10 := C_ca_9.keep K10q (ninS ne_ca_b9 nin0)
    have Ea6_b5_10 := Ea6_b5_9.keep K10q
    have Fa6_bits_b5_10 := Fa6_bits_b5_9.keep K10q (ninS ne_b5_b9 nin0)
    have Ea8_b7_10 := Ea8_b7_9.keep K10q
    have Fa8_bits_b7_10 := Fa8_bits_b7_9.keep K10q (ninS ne_b7_b9 nin0)
    have A9_10 := A9.keep K10q
    have Z10 : n0 ≤ T10.heap.size := Nat.le_trans Z9 K10q.1
    have KK10 := KK9.trans K10q (allS (Or.inr sz_b9) all0)
    refine own_steps (U' := T10.setTop (mkF m 71 #[.val (.long q0), .second, .val (.long q1), .second, iv p2, iv (p2 &&& (3 : Int32)), .val (.long v42_3), .second, rv b5, rv b7, .unset, .unset, .unset, .unset, .unset, .unset, .unset] [(.ref b9)])) st10 ?_
    refine own_step (U' := T10.setTop (mkF m 77 #[.val (.long q0), .second, .val (.long q1), .second, iv p2, iv (p2 &&& (3 : Int32)), .val (.long v42_3), .second, rv b5, rv b7, rv b9, .unset, .unset, .unset, .unset, .unset, .unset] [(.ref b7), (.ref b5)])) (fun t k => XS.astore X10.here hx rfl (hb hby at_71) rfl rfl (l' := #[.val (.long q0), .second, .val (.long q1), .second, iv p2, iv (p2 &&& (3 : Int32)), .val (.long v42_3), .second, rv b5, rv b7, rv b9, .unset, .unset, .unset, .unset, .unset, .unset]) rfl (XS.aload X10.here hx rfl (hb hby at_73) rfl rfl (XS.aload X10.here hx rfl (hb hby at_75) rfl rfl k))) ?_
    obtain ⟨cq11, kq11, qa11, qb11, qc11⟩ := isOf hZ rfl Ea6_b5_10
    obtain ⟨_, _, ⟨T11, L11, k11, n11⟩, -, X11, ⟨Lc11, hQ11, l11, y11, z11⟩, st11⟩ := X10.virtualBack hx (y := (⟨"com/example/urd/urd/model/NodeSet", "equals", "(Ljava/lang/Object;)Z"⟩ : MethodName)) (z := (⟨"com/example/urd/urd/model/NodeSet", "equals", "(Ljava/lang/Object;)Z"⟩ : MethodName)) hown (mvT hZ (own_w hw 16 rfl)) (mvT hZ (own_w hw 17 rfl)) (notFace_of_selects (args := #[]) (mvT hZ (own_w hw 19 rfl))) (mvT hZ (own_w hw 19 rfl)) (mvT hZ (own_w hw 18 rfl)) (by decide) (backOf (W := 0) (rm4e l Z a0 hw [] b5 b7 q0 v42_3 T10.heap n0 Z10 Ea6_b5_10 Fa6_bits_b5_10 Ea8_b7_10 Fa8_bits_b7_10) hZ (own_w hw 20 rfl) (own_w hw 2 rfl) (by decide) (by decide)) qa11 qc11 (g := (mkF m 77 #[.val (.long q0), .second, .val (.long q1), .second, iv p2, iv (p2 &&& (3 : Int32)), .val (.long v42_3), .second, rv b5, rv b7, rv b9, .unset, .unset, .unset, .unset, .unset, .unset] [(.ref b7), (.ref b5)])) rfl (by rw [hml]; rfl) (Steps.refl _) (argsL := [(.ref b7)]) (rest := []) (lenOf pd__Ljava_lang_Object__Z rfl) rfl (by show 2 * 0 + _ ≤ _; exact Nat.le_of_eq rfl) (hb hby at_77) (fun _ _ => ⟨rfl, rfl, (by decide : 3 + 0 ≤ _), (by decide : 3 + 0 ≤ _)⟩)
    dsimp only [Pt.U, Pt.locs, Pt.cells, Pt.slots] at X11 l11 y11 z11 st11 hQ11
    subst l11 y11 z11
    obtain ⟨rfl, N11q, eq11⟩ := hQ11
    have N11 := Fr.app N10 N11q
    refine own_steps (U' := T11.setTop (mkF m 80 #[.val (.long q0), .second, .val (.long q1), .second, iv p2, iv (p2 &&& (3 : Int32)), .val (.long v42_3), .second, rv b5, rv b7, rv b9, .unset, .unset, .unset, .unset, .unset, .unset] [(.int (F4e q0 v42_3))])) st11 ?_
    refine own_step (U' := T11.setTop (mkF m 86 #[.val (.long q0), .second, .val (.long q1), .second, iv p2, iv (p2 &&& (3 : Int32)), .val (.long v42_3), .second, rv b5, rv b7, rv b9, iv (F4e q0 v42_3), .unset, .unset, .unset, .unset, .unset] [(.ref b5), (.ref b7)])) (fun t k => XS.istore X11.here hx rfl (hb hby at_80) rfl (l' := #[.val (.long q0), .second, .val (.long q1), .second, iv p2, iv (p2 &&& (3 : Int32)), .val (.long v42_3), .second, rv b5, rv b7, rv b9, iv (F4e q0 v42_3), .unset, .unset, .unset, .unset, .unset]) rfl (XS.aload X11.here hx rfl (hb hby at_82) rfl rfl (XS.aload X11.here hx rfl (hb hby at_84) rfl rfl k))) ?_
    obtain ⟨cq12, kq12, qa12, qb12, qc12⟩ := isOf hZ eq11 Ea8_b7_10
    obtain ⟨_, _, ⟨T12, L12, k12, n12⟩, -, X12, ⟨Lc12, hQ12, l12, y12, z12⟩, st12⟩ := X11.virtualBack hx (y := (⟨"com/example/urd/urd/model/NodeSet", "equals", "(Ljava/lang/Object;)Z"⟩ : MethodName)) (z := (⟨"com/example/urd/urd/model/NodeSet", "equals", "(Ljava/lang/Object;)Z"⟩ : MethodName)) hown (mvT hZ (own_w hw 16 rfl)) (mvT hZ (own_w hw 17 rfl)) (notFace_of_selects (args := #[]) (mvT hZ (own_w hw 19 rfl))) (mvT hZ (own_w hw 19 rfl)) (mvT hZ (own_w hw 18 rfl)) (by decide) (backOf (W := 0) (rm4e l Z a0 hw [] b7 b5 v42_3 q0 T10.heap n0 Z10 Ea8_b7_10 Fa8_bits_b7_10 Ea6_b5_10 Fa6_bits_b5_10) hZ (own_w hw 20 rfl) (own_w hw 2 rfl) (by decide) (by decide)) qa12 qc12 (g := (mkF m 86 #[.val (.long q0), .second, .val (.long q1), .second, iv p2, iv (p2 &&& (3 : Int32)), .val (.long v42_3), .second, rv b5, rv b7, rv b9, iv (F4e q0 v42_3), .unset, .unset, .unset, .unset, .unset] [(.ref b5), (.ref b7)])) rfl (by rw [hml]; rfl) (Steps.refl _) (argsL := [(.ref b5)]) (rest := []) (lenOf pd__Ljava_lang_Object__Z rfl) rfl (by show 2 * 0 + _ ≤ _; exact Nat.le_of_eq rfl) (hb hby at_86) (fun _ _ => ⟨rfl, eq11, (by decide : 3 + 0 ≤ _), (by decide : 3 + 0 ≤ _)⟩)
    dsimp only [Pt.U, Pt.locs, Pt.cells, Pt.slots] at X12 l12 y12 z12 st12 hQ12
    subst l12 y12 z12
    obtain ⟨rfl, N12q, eq12⟩ := hQ12
    have N12 := Fr.app N11 N12q
    refine own_steps (U' := T12.setTop (mkF m 89 #[.val (.long q0), .second, .val (.long q1), .second, iv p2, iv (p2 &&& (3 : Int32)), .val (.long v42_3), .second, rv b5, rv b7, rv b9, iv (F4e q0 v42_3), .unset, .unset, .unset, .unset, .unset] [(.int (F4e v42_3 q0))])) st12 ?_
    refine own_step (U' := T12.setTop (mkF m 95 #[.val (.long q0), .second, .val (.long q1), .second, iv p2, iv (p2 &&& (3 : Int32)), .val (.long v42_3), .second, rv b5, rv b7, rv b9, iv (F4e q0 v42_3), iv (F4e v42_3 q0), .unset, .unset, .unset, .unset] [(.ref b9), (.ref b5)])) (fun t k => XS.istore X12.here hx rfl (hb hby at_89) rfl (l' := #[.val (.long q0), .second, .val (.long q1), .second, iv p2, iv (p2 &&& (3 : Int32)), .val (.long v42_3), .second, rv b5, rv b7, rv b9, iv (F4e q0 v42_3), iv (F4e v42_3 q0), .unset, .unset, .unset, .unset]) rfl (XS.aload X12.here hx rfl (hb hby at_91) rfl rfl (XS.aload X12.here hx rfl (hb hby at_93) rfl rfl k))) ?_
    obtain ⟨cq13, kq13, qa13, qb13, qc13⟩ := isOf hZ eq12 Ea6_b5_10
    obtain ⟨_, _, ⟨T13, L13, k13, n13⟩, -, X13, ⟨Lc13, hQ13, l13, y13, z13⟩, st13⟩ := X12.virtualBack hx (y := (⟨"com/example/urd/urd/model/NodeSet", "equals", "(Ljava/lang/Object;)Z"⟩ : MethodName)) (z := (⟨"com/example/urd/urd/model/NodeSet", "equals", "(Ljava/lang/Object;)Z"⟩ : MethodName)) hown (mvT hZ (own_w hw 16 rfl)) (mvT hZ (own_w hw 17 rfl)) (notFace_of_selects (args := #[]) (mvT hZ (own_w hw 19 rfl))) (mvT hZ (own_w hw 19 rfl)) (mvT hZ (own_w hw 18 rfl)) (by decide) (backOf (W := 0) (rm4e l Z a0 hw [] b5 b9 q0 q0 T10.heap n0 Z10 Ea6_b5_10 Fa6_bits_b5_10 Ea10_b9 Fa10_bits_b9) hZ (own_w hw 20 rfl) (own_w hw 2 rfl) (by decide) (by decide)) qa13 qc13 (g := (mkF m 95 #[.val (.long q0), .second, .val (.long q1), .second, iv p2, iv (p2 &&& (3 : Int32)), .val (.long v42_3), .second, rv b5, rv b7, rv b9, iv (F4e q0 v42_3), iv (F4e v42_3 q0), .unset, .unset, .unset, .unset] [(.ref b9), (.ref b5)])) rfl (by rw [hml]; rfl) (Steps.refl _) (argsL := [(.ref b9)]) (rest := []) (lenOf pd__Ljava_lang_Object__Z rfl) rfl (by show 2 * 0 + _ ≤ _; exact Nat.le_of_eq rfl) (hb hby at_95) (fun _ _ => ⟨rfl, eq12, (by decide : 3 + 0 ≤ _), (by decide : 3 + 0 ≤ _)⟩)
    dsimp only [Pt.U, Pt.locs, Pt.cells, Pt.slots] at X13 l13 y13 z13 st13 hQ13
    subst l13 y13 z13
    obtain ⟨rfl, N13q, eq13⟩ := hQ13
    have N13 := Fr.app N12 N13q
    refine own_steps (U' := T13.setTop (mkF m 98 #[.val (.long q0), .second, .val (.long q1), .second, iv p2, iv (p2 &&& (3 : Int32)), .val (.long v42_3), .second, rv b5, rv b7, rv b9, iv (F4e q0 v42_3), iv (F4e v42_3 q0), .unset, .unset, .unset, .unset] [(.int (F4e q0 q0))])) st13 ?_
    refine own_step (U' := T13.setTop (mkF m 104 #[.val (.long q0), .second, .val (.long q1), .second, iv p2, iv (p2 &&& (3 : Int32)), .val (.long v42_3), .second, rv b5, rv b7, rv b9, iv (F4e q0 v42_3), iv (F4e v42_3 q0), iv (F4e q0 q0), .unset, .unset, .unset] [(.ref b5), (.ref b5)])) (fun t k => XS.istore X13.here hx rfl (hb hby at_98) rfl (l' := #[.val (.long q0), .second, .val (.long q1), .second, iv p2, iv (p2 &&& (3 : Int32)), .val (.long v42_3), .second, rv b5, rv b7, rv b9, iv (F4e q0 v42_3), iv (F4e v42_3 q0), iv (F4e q0 q0), .unset, .unset, .unset]) rfl (XS.aload X13.here hx rfl (hb hby at_100) rfl rfl (XS.aload X13.here hx rfl (hb hby at_102) rfl rfl k))) ?_
    obtain ⟨cq14, kq14, qa14, qb14, qc14⟩ := isOf hZ eq13 Ea6_b5_10
    obtain ⟨_, _, ⟨T14, L14, k14, n14⟩, -, X14, ⟨Lc14, hQ14, l14, y14, z14⟩, st14⟩ := X13.virtualBack hx (y := (⟨"com/example/urd/urd/model/NodeSet", "equals", "(Ljava/lang/Object;)Z"⟩ : MethodName)) (z := (⟨"com/example/urd/urd/model/NodeSet", "equals", "(Ljava/lang/Object;)Z"⟩ : MethodName)) hown (mvT hZ (own_w hw 16 rfl)) (mvT hZ (own_w hw 17 rfl)) (notFace_of_selects (args := #[]) (mvT hZ (own_w hw 19 rfl))) (mvT hZ (own_w hw 19 rfl)) (mvT hZ (own_w hw 18 rfl)) (by decide) (backOf (W := 0) (rm4e l Z a0 hw [] b5 b5 q0 q0 T10.heap n0 Z10 Ea6_b5_10 Fa6_bits_b5_10 Ea6_b5_10 Fa6_bits_b5_10) hZ (own_w hw 20 rfl) (own_w hw 2 rfl) (by decide) (by decide)) qa14 qc14 (g := (mkF m 104 #[.val (.long q0), .second, .val (.long q1), .second, iv p2, iv (p2 &&& (3 : Int32)), .val (.long v42_3), .second, rv b5, rv b7, rv b9, iv (F4e q0 v42_3), iv (F4e v42_3 q0), iv (F4e q0 q0), .unset, .unset, .unset] [(.ref b5), (.ref b5)])) rfl (by rw [hml]; rfl) (Steps.refl _) (argsL := [(.ref b5)]) (rest := []) (lenOf pd__Ljava_lang_Object__Z rfl) rfl (by show 2 * 0 + _ ≤ _; exact Nat.le_of_eq rfl) (hb hby at_104) (fun _ _ => ⟨rfl, eq13, (by decide : 3 + 0 ≤ _), (by decide : 3 + 0 ≤ _)⟩)
    dsimp only [Pt.U, Pt.locs, Pt.cells, Pt.slots] at X14 l14 y14 z14 st14 hQ14
    subst l14 y14 z14
    obtain ⟨rfl, N14q, eq14⟩ := hQ14
    have N14 := Fr.app N13 N14q
    refine own_steps (U' := T14.setTop (mkF m 107 #[.val (.long q0), .second, .val (.long q1), .second, iv p2, iv (p2 &&& (3 : Int32)), .val (.long v42_3), .second, rv b5, rv b7, rv b9, iv (F4e q0 v42_3), iv (F4e v42_3 q0), iv (F4e q0 q0), .unset, .unset, .unset] [(.int (F4e q0 q0))])) st14 ?_
    refine own_step (U' := T14.setTop (mkF m 112 #[.val (.long q0), .second, .val (.long q1), .second, iv p2, iv (p2 &&& (3 : Int32)), .val (.long v42_3), .second, rv b5, rv b7, rv b9, iv (F4e q0 v42_3), iv (F4e v42_3 q0), iv (F4e q0 q0), iv (F4e q0 q0), .unset, .unset] [.null, (.ref b5)])) (fun t k => XS.istore X14.here hx rfl (hb hby at_107) rfl (l' := #[.val (.long q0), .second, .val (.long q1), .second, iv p2, iv (p2 &&& (3 : Int32)), .val (.long v42_3), .second, rv b5, rv b7, rv b9, iv (F4e q0 v42_3), iv (F4e v42_3 q0), iv (F4e q0 q0), iv (F4e q0 q0), .unset, .unset]) rfl (XS.aload X14.here hx rfl (hb hby at_109) rfl rfl (XS.aconstNull X14.here hx rfl (hb hby at_111) k))) ?_
    obtain ⟨cq15, kq15, qa15, qb15, qc15⟩ := isOf hZ eq14 Ea6_b5_10
    obtain ⟨_, _, ⟨T15, L15, k15, n15⟩, -, X15, ⟨Lc15, hQ15, l15, y15, z15⟩, st15⟩ := X14.virtualBack hx (y := (⟨"com/example/urd/urd/model/NodeSet", "equals", "(Ljava/lang/Object;)Z"⟩ : MethodName)) (z := (⟨"com/example/urd/urd/model/NodeSet", "equals", "(Ljava/lang/Object;)Z"⟩ : MethodName)) hown (mvT hZ (own_w hw 16 rfl)) (mvT hZ (own_w hw 17 rfl)) (notFace_of_selects (args := #[]) (mvT hZ (own_w hw 19 rfl))) (mvT hZ (own_w hw 19 rfl)) (mvT hZ (own_w hw 18 rfl)) (by decide) (backOf (W := 0) (rm4u l Z a0 hw [] b5 T10.heap n0 Z10) hZ (own_w hw 20 rfl) (own_w hw 2 rfl) (by decide) (by decide)) qa15 qc15 (g := (mkF m 112 #[.val (.long q0), .second, .val (.long q1), .second, iv p2, iv (p2 &&& (3 : Int32)), .val (.long v42_3), .second, rv b5, rv b7, rv b9, iv (F4e q0 v42_3), iv (F4e v42_3 q0), iv (F4e q0 q0), iv (F4e q0 q0), .unset, .unset] [.null, (.ref b5)])) rfl (by rw [hml]; rfl) (Steps.refl _) (argsL := [.null]) (rest := []) (lenOf pd__Ljava_lang_Object__Z rfl) rfl (by show 2 * 0 + _ ≤ _; exact Nat.le_of_eq rfl) (hb hby at_112) (fun _ _ => ⟨rfl, eq14, (by decide : 3 + 0 ≤ _), (by decide : 3 + 0 ≤ _)⟩)
    dsimp only [Pt.U, Pt.locs, Pt.cells, Pt.slots] at X15 l15 y15 z15 st15 hQ15
    subst l15 y15 z15
    obtain ⟨rfl, N15q, eq15⟩ := hQ15
    have N15 := Fr.app N14 N15q
    refine own_steps (U' := T15.setTop (mkF m 115 #[.val (.long q0), .second, .val (.long q1), .second, iv p2, iv (p2 &&& (3 : Int32)), .val (.long v42_3), .second, rv b5, rv b7, rv b9, iv (F4e q0 v42_3), iv (F4e v42_3 q0), iv (F4e q0 q0), iv (F4e q0 q0), .unset, .unset] [(.int F4u)])) st15 ?_
    refine own_step (U' := T15.setTop (mkF m 120 #[.val (.long q0), .second, .val (.long q1), .second, iv p2, iv (p2 &&& (3 : Int32)), .val (.long v42_3), .second, rv b5, rv b7, rv b9, iv (F4e q0 v42_3), iv (F4e v42_3 q0), iv (F4e q0 q0), iv (F4e q0 q0), iv F4u, .unset] [(.long q0), (.ref b5)])) (fun t k => XS.istore X15.here hx rfl (hb hby at_115) rfl (l' := #[.val (.long q0), .second, .val (.long q1), .second, iv p2, iv (p2 &&& (3 : Int32)), .val (.long v42_3), .second, rv b5, rv b7, rv b9, iv (F4e q0 v42_3), iv (F4e v42_3 q0), iv (F4e q0 q0), iv (F4e q0 q0), iv F4u, .unset]) rfl (XS.aload X15.here hx rfl (hb hby at_117) rfl rfl (XS.lloadN X15.here hx rfl (hb hby at_119) rfl k))) ?_
    obtain ⟨_, _, ⟨T16, L16, k16, n16⟩, -, X16, ⟨Lc16, hQ16, l16, y16, z16⟩, st16⟩ := Jvm.LawKit.callS X15 hx (y := (⟨"java/lang/Long", "valueOf", "(J)Ljava/lang/Long;"⟩ : MethodName)) hown (mvT hZ (own_w hw 23 rfl)) (mvT hZ (own_w hw 24 rfl)) (mvT hZ (own_w hw 25 rfl)) (mvT hZ (own_w hw 26 rfl)) (by decide) (backOf (W := 1) (rm5 l Z a0 hw [] q0 ca T10.heap n0 Z10 S_cache_10 C_ca_10) hZ (own_w hw 26 rfl) (own_w hw 25 rfl) (by decide) (by decide)) (g := (mkF m 120 #[.val (.long q0), .second, .val (.long q1), .second, iv p2, iv (p2 &&& (3 : Int32)), .val (.long v42_3), .second, rv b5, rv b7, rv b9, iv (F4e q0 v42_3), iv (F4e v42_3 q0), iv (F4e q0 q0), iv (F4e q0 q0), iv F4u, .unset] [(.long q0), (.ref b5)])) rfl (by rw [hml]; rfl) (argsL := [(.long q0)]) (rest := [(.ref b5)]) (lenOf pd__J_Ljava_lang_Long_ rfl) rfl (by show 2 * 0 + _ ≤ _; exact Nat.le_of_eq rfl) (hb hby at_120) (fun _ _ => ⟨rfl, eq15, (by decide : 3 + 1 ≤ _), (by decide : 3 + 1 ≤ _)⟩)
    dsimp only [Pt.U, Pt.locs, Pt.cells, Pt.slots] at X16 l16 y16 z16 st16 hQ16
    subst l16 y16 z16
    obtain ⟨m16, rfl, N16q, K16q, Ea16⟩ := hQ16
    have N16 := Fr.app N15 N16q
    have S_cache_16 := own_staK S_cache_10 K16q all0
    have C_ca_16 := C_ca_10.keep K16q nin0
    have Ea6_b5_16 := Ea6_b5_10.keep K16q
    have Fa6_bits_b5_16 := Fa6_bits_b5_10.keep K16q nin0
    have Ea8_b7_16 := Ea8_b7_10.keep K16q
    have Fa8_bits_b7_16 := Fa8_bits_b7_10.keep K16q nin0
    have Ea10_b9_16 := Ea10_b9.keep K16q
    have Fa10_bits_b9_16 := Fa10_bits_b9.keep K16q nin0
    have Z16 : n0 ≤ T16.heap.size := Nat.le_trans Z10 K16q.1
    have KK16 := KK10.trans K16q all0
    refine own_step (U' := T16.setTop (mkF m 123 #[.val (.long q0), .second, .val (.long q1), .second, iv p2, iv (p2 &&& (3 : Int32)), .val (.long v42_3), .second, rv b5, rv b7, rv b9, iv (F4e q0 v42_3), iv (F4e v42_3 q0), iv (F4e q0 q0), iv (F4e q0 q0), iv F4u, .unset] [(.ref m16), (.ref b5)])) st16 ?_
    obtain ⟨cq17, kq17, qa17, qb17, qc17⟩ := isOf hZ rfl Ea6_b5_16
    obtain ⟨_, _, ⟨T17, L17, k17, n17⟩, -, X17, ⟨Lc17, hQ17, l17, y17, z17⟩, st17⟩ := X16.virtualBack hx (y := (⟨"com/example/urd/urd/model/NodeSet", "equals", "(Ljava/lang/Object;)Z"⟩ : MethodName)) (z := (⟨"com/example/urd/urd/model/NodeSet", "equals", "(Ljava/lang/Object;)Z"⟩ : MethodName)) hown (mvT hZ (own_w hw 16 rfl)) (mvT hZ (own_w hw 17 rfl)) (notFace_of_selects (args := #[]) (mvT hZ (own_w hw 19 rfl))) (mvT hZ (own_w hw 19 rfl)) (mvT hZ (own_w hw 18 rfl)) (by decide) (backOf (W := 0) (rm4l l Z a0 hw [] b5 m16 T16.heap n0 Z16 Ea16) hZ (own_w hw 20 rfl) (own_w hw 2 rfl) (by decide) (by decide)) qa17 qc17 (g := (mkF m 123 #[.val (.long q0), .second, .val (.long q1), .second, iv p2, iv (p2 &&& (3 : Int32)), .val (.long v42_3), .second, rv b5, rv b7, rv b9, iv (F4e q0 v42_3), iv (F4e v42_3 q0), iv (F4e q0 q0), iv (F4e q0 q0), iv F4u, .unset] [(.ref m16), (.ref b5)])) rfl (by rw [hml]; rfl) (Steps.refl _) (argsL := [(.ref m16)]) (rest := []) (lenOf pd__Ljava_lang_Object__Z rfl) rfl (by show 2 * 0 + _ ≤ _; exact Nat.le_of_eq rfl) (hb hby at_123) (fun _ _ => ⟨rfl, rfl, (by decide : 4 + 0 ≤ _), (by decide : 4 + 0 ≤ _)⟩)
    dsimp only [Pt.U, Pt.locs, Pt.cells, Pt.slots] at X17 l17 y17 z17 st17 hQ17
    subst l17 y17 z17
    obtain ⟨rfl, N17q, eq17⟩ := hQ17
    have N17 := Fr.app N16 N17q
    refine own_steps (U' := T17.setTop (mkF m 126 #[.val (.long q0), .second, .val (.long q1), .second, iv p2, iv (p2 &&& (3 : Int32)), .val (.long v42_3), .second, rv b5, rv b7, rv b9, iv (F4e q0 v42_3), iv (F4e v42_3 q0), iv (F4e q0 q0), iv (F4e q0 q0), iv F4u, .unset] [(.int F4l)])) st17 ?_
    refine own_step (U' := T17.setTop (mkF m 134 #[.val (.long q0), .second, .val (.long q1), .second, iv p2, iv (p2 &&& (3 : Int32)), .val (.long v42_3), .second, rv b5, rv b7, rv b9, iv (F4e q0 v42_3), iv (F4e v42_3 q0), iv (F4e q0 q0), iv (F4e q0 q0), iv F4u, iv F4l] [(.int (lcmpW q0 v42_3)), (.int (F4e q0 v42_3))])) (fun t k => XS.istore X17.here hx rfl (hb hby at_126) rfl (l' := #[.val (.long q0), .second, .val (.long q1), .second, iv p2, iv (p2 &&& (3 : Int32)), .val (.long v42_3), .second, rv b5, rv b7, rv b9, iv (F4e q0 v42_3), iv (F4e v42_3 q0), iv (F4e q0 q0), iv (F4e q0 q0), iv F4u, iv F4l]) rfl (XS.iload X17.here hx rfl (hb hby at_128) rfl (XS.lloadN X17.here hx rfl (hb hby at_130) rfl (XS.lload X17.here hx rfl (hb hby at_131) rfl (XS.lcmp X17.here hx rfl (hb hby at_133) rfl k))))) ?_
    obtain ⟨v142_19, hv142_19⟩ : ∃ v : Int32, v = (if q0 = v42_3 then (1 : Int32) else (0 : Int32)) := ⟨_, rfl⟩
    have K142_20 : ∀ (T' : State) (locs' : List Loc) (X' : Stand p l e room_1 s m #[(.long q0), (.long q1), (.int p2)] below meth c T' locs' 4 4) (N' : Fr n0 locs') (e' : T'.heap = T16.heap), own_Go p.tables e below s 16 128 (Q0 Z q0 q1 p2 ca h0 n0) (T'.setTop (mkF m 142 #[.val (.long q0), .second, .val (.long q1), .second, iv p2, iv (p2 &&& (3 : Int32)), .val (.long v42_3), .second, rv b5, rv b7, rv b9, iv (F4e q0 v42_3), iv (F4e v42_3 q0), iv (F4e q0 q0), iv (F4e q0 q0), iv F4u, iv F4l] [(.int v142_19), (.int (F4e q0 v42_3))])) := by
      intro T20 L20 X20 N20 e20
      refine own_step (U' := T20.setTop (mkF m 162 #[.val (.long q0), .second, .val (.long q1), .second, iv p2, iv (p2 &&& (3 : Int32)), .val (.long v42_3), .second, rv b5, rv b7, rv b9, iv (F4e q0 v42_3), iv (F4e v42_3 q0), iv (F4e q0 q0), iv (F4e q0 q0), iv F4u, iv F4l] [])) (fun t k => XS.icmpNo X20.here hx rfl (hb hby at_142) rfl (teq (own_1 hv142_19)).2 (XS.iload X20.here hx rfl (hb hby at_145) rfl (XS.iload X20.here hx rfl (hb hby at_147) rfl (XS.icmpNo X20.here hx rfl (hb hby at_149) rfl (teq (own_2 _ _)).2 (XS.iload X20.here hx rfl (hb hby at_152) rfl (XS.ifNo X20.here hx rfl (hb hby at_154) rfl ((if0 _ _).trans (feq (own_3 _)).1) (XS.iload X20.here hx rfl (hb hby at_157) rfl (XS.ifNo X20.here hx rfl (hb hby at_159) rfl ((if0 _ _).trans (feq (own_3 _)).1) k)))))))) ?_
      refine own_step (U' := T20.setTop (mkF m 177 #[.val (.long q0), .second, .val (.long q1), .second, iv p2, iv (p2 &&& (3 : Int32)), .val (.long v42_3), .second, rv b5, rv b7, rv b9, iv (F4e q0 v42_3), iv (F4e v42_3 q0), iv (F4e q0 q0), iv (F4e q0 q0), iv F4u, iv F4l] [(.int (1 : Int32))])) (fun t k => XS.iload X20.here hx rfl (hb hby at_162) rfl (XS.ifNo X20.here hx rfl (hb hby at_164) rfl ((if0 _ _).trans (teq rfl).2) (XS.iload X20.here hx rfl (hb hby at_167) rfl (XS.ifNo X20.here hx rfl (hb hby at_169) rfl ((if0 _ _).trans (teq rfl).2) (XS.iconst X20.here hx rfl (hb hby at_172) (XS.goto X20.here hx rfl (pc0 := 173) (pc' := 177) rfl (hb hby at_173) (by decide) (by decide) k)))))) ?_
      exact own_out X20 (v := (some (.int (1 : Int32)))) hlk (own_nv Bd.returns) (by rw [e20]; exact ⟨rfl, N20⟩) (by decide) (by decide) (fun fs hr => retN X20 hx (t := .boolean) Bd.returns (by simp) (hb hby at_177) hr)
    by_cases hc134_21 : q0 = v42_3
    · refine own_step (U' := T17.setTop (mkF m 142 #[.val (.long q0), .second, .val (.long q1), .second, iv p2, iv (p2 &&& (3 : Int32)), .val (.long v42_3), .second, rv b5, rv b7, rv b9, iv (F4e q0 v42_3), iv (F4e v42_3 q0), iv (F4e q0 q0), iv (F4e q0 q0), iv F4u, iv F4l] [(.int (1 : Int32)), (.int (F4e q0 v42_3))])) (fun t k => XS.ifNo X17.here hx rfl (hb hby at_134) rfl ((if0 _ _).trans (teq ((lw_eq q0 v42_3).mpr hc134_21)).2) (XS.iconst X17.here hx rfl (hb hby at_137) (XS.goto X17.here hx rfl (pc0 := 138) (pc' := 142) rfl (hb hby at_138) (by decide) (by decide) k))) ?_
      have q_v142_19 : v142_19 = (1 : Int32) := by rw [hv142_19, if_pos hc134_21]
      rw [q_v142_19] at K142_20
      exact K142_20 _ _ X17 N17 eq17
    · refine own_step (U' := T17.setTop (mkF m 142 #[.val (.long q0), .second, .val (.long q1), .second, iv p2, iv (p2 &&& (3 : Int32)), .val (.long v42_3), .second, rv b5, rv b7, rv b9, iv (F4e q0 v42_3), iv (F4e v42_3 q0), iv (F4e q0 q0), iv (F4e q0 q0), iv F4u, iv F4l] [(.int (0 : Int32)), (.int (F4e q0 v42_3))])) (fun t k => XS.ifYes X17.here hx rfl (pc0 := 134) (pc' := 141) rfl (hb hby at_134) rfl ((if0 _ _).trans (feq (mt (lw_eq q0 v42_3).mp hc134_21)).2) (by decide) (by decide) (XS.iconst X17.here hx rfl (hb hby at_141) k)) ?_
      have q_v142_19 : v142_19 = (0 : Int32) := by rw [hv142_19, if_neg hc134_21]
      rw [q_v142_19] at K142_20
      exact K142_20 _ _ X17 N17 eq17
  by_cases hc8_22 : (p2 &&& (3 : Int32)) = (0 : Int32)
  · refine own_step (U' := s₁.setTop (mkF m 42 #[.val (.long q0), .second, .val (.long q1), .second, iv p2, iv (p2 &&& (3 : Int32)), .val (.long q1), .second, .unset, .unset, .unset, .unset, .unset, .unset, .unset, .unset, .unset] [])) (fun t k => XS.ifNo X0.here hx rfl (hb hby at_8) rfl ((if0 _ _).trans (teq hc8_22).2) (XS.lloadN X0.here hx rfl (hb hby at_11) rfl (XS.lstore X0.here hx rfl (hb hby at_12) rfl (l' := #[.val (.long q0), .second, .val (.long q1), .second, iv p2, iv (p2 &&& (3 : Int32)), .val (.long q1), .second, .unset, .unset, .unset, .unset, .unset, .unset, .unset, .unset, .unset]) rfl (XS.goto X0.here hx rfl (pc0 := 14) (pc' := 42) rfl (hb hby at_14) (by decide) (by decide) k)))) ?_
    have q_v42_3 : v42_3 = q1 := by rw [hv42_3, if_pos hc8_22]
    rw [q_v42_3] at K42_4
    exact K42_4 _ _ X0 N0 e0
  · refine own_step (U' := s₁.setTop (mkF m 20 #[.val (.long q0), .second, .val (.long q1), .second, iv p2, iv (p2 &&& (3 : Int32)), .unset, .unset, .unset, .unset, .unset, .unset, .unset, .unset, .unset, .unset, .unset] [(.int (1 : Int32)), (.int (p2 &&& (3 : Int32)))])) (fun t k => XS.ifYes X0.here hx rfl (pc0 := 8) (pc' := 17) rfl (hb hby at_8) rfl ((if0 _ _).trans (feq hc8_22).2) (by decide) (by decide) (XS.iload X0.here hx rfl (hb hby at_17) rfl (XS.iconst X0.here hx rfl (hb hby at_19) k))) ?_
    by_cases hc20_23 : (p2 &&& (3 : Int32)) = (1 : Int32)
    · refine own_step (U' := s₁.setTop (mkF m 42 #[.val (.long q0), .second, .val (.long q1), .second, iv p2, iv (p2 &&& (3 : Int32)), .val (.long q0), .second, .unset, .unset, .unset, .unset, .unset, .unset, .unset, .unset, .unset] [])) (fun t k => XS.icmpNo X0.here hx rfl (hb hby at_20) rfl (teq hc20_23).2 (XS.lloadN X0.here hx rfl (hb hby at_23) rfl (XS.lstore X0.here hx rfl (hb hby at_24) rfl (l' := #[.val (.long q0), .second, .val (.long q1), .second, iv p2, iv (p2 &&& (3 : Int32)), .val (.long q0), .second, .unset, .unset, .unset, .unset, .unset, .unset, .unset, .unset, .unset]) rfl (XS.goto X0.here hx rfl (pc0 := 26) (pc' := 42) rfl (hb hby at_26) (by decide) (by decide) k)))) ?_
      have q_v42_3 : v42_3 = q0 := by rw [hv42_3, if_neg hc8_22, if_pos hc20_23]
      rw [q_v42_3] at K42_4
      exact K42_4 _ _ X0 N0 e0
    · refine own_step (U' := s₁.setTop (mkF m 38 #[.val (.long q0), .second, .val (.long q1), .second, iv p2, iv (p2 &&& (3 : Int32)), .unset, .unset, .unset, .unset, .unset, .unset, .unset, .unset, .unset, .unset, .unset] [(.int (((p2.toUInt32 >>> ((2 : Int32) &&& 31).toUInt32).toInt32) &&& (63 : Int32))), (.long (1 : Int64)), (.long q0)])) (fun t k => XS.icmpYes X0.here hx rfl (pc0 := 20) (pc' := 29) rfl (hb hby at_20) rfl (feq hc20_23).2 (by decide) (by decide) (XS.lloadN X0.here hx rfl (hb hby at_29) rfl (XS.lconst X0.here hx rfl (hb hby at_30) (XS.iload X0.here hx rfl (hb hby at_31) rfl (XS.iconst X0.here hx rfl (hb hby at_33) (XS.iushr X0.here hx rfl (hb hby at_34) rfl (XS.bipush X0.here hx rfl (hb hby at_35) (XS.iand X0.here hx rfl (hb hby at_37) rfl k)))))))) ?_
      refine own_step (U' := s₁.setTop (mkF m 42 #[.val (.long q0), .second, .val (.long q1), .second, iv p2, iv (p2 &&& (3 : Int32)), .val (.long (q0 ^^^ ((1 : Int64) <<< ((((p2.toUInt32 >>> ((2 : Int32) &&& 31).toUInt32).toInt32) &&& (63 : Int32)) &&& 0x3f).toInt64))), .second, .unset, .unset, .unset, .unset, .unset, .unset, .unset, .unset, .unset] [])) (fun t k => XS.lshl X0.here hx rfl (hb hby at_38) rfl (XS.lxor X0.here hx rfl (hb hby at_39) rfl (XS.lstore X0.here hx rfl (hb hby at_40) rfl (l' := #[.val (.long q0), .second, .val (.long q1), .second, iv p2, iv (p2 &&& (3 : Int32)), .val (.long (q0 ^^^ ((1 : Int64) <<< ((((p2.toUInt32 >>> ((2 : Int32) &&& 31).toUInt32).toInt32) &&& (63 : Int32)) &&& 0x3f).toInt64))), .second, .unset, .unset, .unset, .unset, .unset, .unset, .unset, .unset, .unset]) rfl k))) ?_
      have q_v42_3 : v42_3 = (q0 ^^^ ((1 : Int64) <<< ((((p2.toUInt32 >>> ((2 : Int32) &&& 31).toUInt32).toInt32) &&& (63 : Int32)) &&& 0x3f).toInt64)) := by rw [hv42_3, if_neg hc8_22, if_neg hc20_23]
      rw [q_v42_3] at K42_4
      exact K42_4 _ _ X0 N0 e0
set_option maxRecDepth 65536 in
set_option maxHeartbeats 40000000 in
theorem comes_1 {Post : Tables → Env → Array Value → State → Outcome → State → Prop} (hpost : ∀ tb e args s v u, (limb_1_1.after args s (.returned v) u = true ∧ limb_1_2.after args s (.returned v) u = true ∧ True) → FrameEnd s (.returned v) u (Jvm.fieldLocs frame_1_writes args s ++ Jvm.arrayLocs frame_1_arrays args s ++ Jvm.staticLocs frame_1_statics s) 16 128 → Post tb e args s (.returned v) u) :
    ArmFor flags0 classFile x code maxLocals ret World_1 tables_1 room_1 Calls_1 rest_1 Pre_1 Post := by
  intro l hfl _ _ p e ha hc hk s m args below hf hA hF happ hP
  obtain ⟨hcalls, hrest, hpre⟩ := hP
  obtain ⟨-, -, -, hnamed, -, -, -, hat⟩ := (Spec.applies_iff hf).mp happ
  obtain ⟨hg, hn⟩ := and_e (Cond.before_iff.mp (show (Jvm.Cond.and given_1 narrow_1).before args s = true from hpre))
  obtain ⟨gc, gr0⟩ := and_e hg
  obtain ⟨ga0, gr1⟩ := and_e gr0
  obtain ⟨ga1, gr2⟩ := and_e gr1
  obtain ⟨w0, w1, w2, rfl⟩ : ∃ w0 w1 w2 : Value, args = #[w0, w1, w2] := by
    have hs : args.size = 3 := by simpa [Cond.value, given_1] using gc
    obtain ⟨L⟩ := args
    match L, hs with
    | [w0, w1, w2], _ => exact ⟨w0, w1, w2, rfl⟩
  have hw := fun d (hd : d ∈ tables_1) => atoms_spec (ws := Jvm.Cond.code x code maxLocals ret :: tables_1) hat d (List.mem_cons_of_mem _ hd)
  have hfit : Fit s := fun {y c} hc i hi => by
    obtain ⟨ha, rfl⟩ := Array.getElem?_eq_some_iff.mp hc
    have q := List.all_eq_true.mp ((Array.all_eq_true_iff_forall_mem.mp hF) _ (Array.getElem_mem ha)) i (List.mem_range.mpr hi)
    simpa [Array.getElem?_eq_getElem hi] using q
  obtain ⟨hsets, hown0⟩ := atoms_of _ (rest_1_c_eq ▸ (show rest_1_c.before _ s = true from hrest))
  have hr0 := Cond.before_iff.mp hown0
  obtain ⟨i0, ei0⟩ := isL_v ga0
  obtain rfl : w0 = (.long i0) := Option.some.inj ei0
  obtain ⟨i1, ei1⟩ := isL_v ga1
  obtain rfl : w1 = (.long i1) := Option.some.inj ei1
  obtain ⟨i2, ei2⟩ := is_v gr2
  obtain rfl : w2 = (.int i2) := Option.some.inj ei2
  obtain ⟨ca, evC⟩ := arr_v (Cond.before_iff.mp (hsets _ (List.mem_of_getElem? (i := 2) rfl)))
  have S1 := Sta.start evC (Or.inl (hsets _ (List.mem_of_getElem? (i := 1) rfl)))
  have C1 : own_Cache s s.heap ca := own_cache_start evC (Cond.before_iff.mp (hsets _ (List.mem_of_getElem? (i := 2) rfl))) (Cond.before_iff.mp (hsets _ (List.mem_of_getElem? (i := 4) rfl))) (Cond.before_iff.mp (hsets _ (List.mem_of_getElem? (i := 5) rfl)))
  obtain ⟨n, o, h1, h2, h3, _, L, rfl, ⟨rfl, N⟩, hq⟩ := rm0 l s _ hw tables_1 i0 i1 i2 ca s.heap s.heap.size (Nat.le_refl _) S1 C1 p e ha hc hk s m _ below hf ((Spec.applies_iff_loose hf).mp happ).1 ⟨rfl, State.Warmed39.refl s, rfl⟩ trivial
  refine ⟨n, _, h1, h2, h3, hpost _ _ _ _ _ _ ⟨Cond.after_iff.mpr rfl, Cond.after_iff.mpr (eq_i res_at (Term.int_eval (1)) rfl), trivial⟩ ⟨hq.1, hq.2.1, (hq.2.2.sift fun y hy => Or.inr (N y hy)).mono (by decide) (by decide)⟩⟩
theorem main_1_1 : Claimed_1_1 := comes_1 fun _ _ _ _ _ _ h hF => ⟨h.1, hF⟩
theorem main_1_2 : Claimed_1_2 := comes_1 fun _ _ _ _ _ _ h hF => ⟨h.2.1, hF⟩
end Jvm.Pilot.@@N@@
namespace Jvm.Pilot.@@N@@
open Jvm Jvm.ClassFile Sem Op Lib Jvm.Free Jvm.Stand Jvm.Pilot.@@N@@.Jvm.D
/-! MADE BY PROGRAM (witnessworld.py) out of the Statement's table words and the real class files: 17 classes; the members and pool entries that the words name. The judged class is class 1, her method 1. -/
namespace start1
open Jvm.ClassFile
def u (s : String) : CpInfo := .utf8 (stringToUtf16 s)
/-- a pool by its gaps: so many unusable entries, then the entry; so many at the end -/
def gap : Nat → List CpInfo → List CpInfo
  | 0, r => r
  | n + 1, r => .unusable :: gap n r
def poolList (es : List (Nat × CpInfo)) (last : Nat) : List CpInfo := es.foldr (fun e r => gap e.1 (e.2 :: r)) (gap last [])
def pool (es : List (Nat × CpInfo)) (last : Nat) : Array CpInfo := ⟨poolList es last⟩
def fileOf (pool : Array CpInfo) (this : Nat) (attrs : Array Attribute := #[]) (ms : Array MethodInfo := #[]) (fl : Nat := 33) (sup : Nat := 0) (ifs : Array Nat := #[]) (fds : Array FieldInfo := #[]) : ClassFile where
  minorVersion := 0
  majorVersion := 65
  constantPool := pool
  accessFlags := fl
  thisClass := this
  superClass := sup
  interfaces := ifs
  fields := fds
  methods := ms
  attributes := attrs
def plain (name : String) (sup : Option ClassId) : Class where
  name := name
  kind := .ordinary
  loader := none
  accessFlags := 33
  super := sup
  interfaces := #[]
  cf := none
  fields := #[]
  methods := #[]
  instanceTypes := #[]
  staticTypes := #[]
  resolved := #[]
  callSites := []
  init := .initialized
  statics := none
  mirror := none

def pool0 : Array CpInfo := pool [(5, u "<init>"), (0, u "()V"), (1, .class_ 10), (1, u "java/lang/Object")] 113

def k0c0 : Code := { maxStack := 0, maxLocals := 1, code := object_method_1_code, exceptionTable := #[], attributes := #[] }
def k0m0 : Method := { name := "<init>", desc := "()V", sig := { parameters := [], returnType := none }, accessFlags := 1, code := some k0c0 }
/-- java/lang/Object -/
def k0 : Class := { plain "java/lang/Object" none with
  accessFlags := 33
  interfaces := #[]
  cf := some (fileOf pool0 8 #[] #[{ accessFlags := 1, nameIndex := 5, descriptorIndex := 6, attributes := #[] }] 33 0 #[] #[])
  fields := #[]
  methods := #[k0m0]
  instanceTypes := #[]
  staticTypes := #[]
  resolved := Array.replicate 124 none
  statics := none }

def pool1 : Array CpInfo := pool [(2, .class_ 4), (1, u "java/lang/Object"), (0, u "<init>"), (0, u "()V"), (0, .class_ 8), (0, u "com/example/urd/urd/model/NodeSet"), (0, .methodref 7 10), (0, .nameAndType 5 11), (0, u "(J)V"), (0, .methodref 7 13), (0, .nameAndType 14 15), (0, u "equals"), (0, u "(Ljava/lang/Object;)Z"), (0, .methodref 17 18), (0, .class_ 19), (0, .nameAndType 20 21), (0, u "java/lang/Long"), (0, u "valueOf"), (0, u "(J)Ljava/lang/Long;"), (0, .class_ 23), (0, u "com/example/urd/urd/model/NodeSetEqualsPinLaw"), (2, u "law"), (0, u "(JJI)Z")] 3

def k1m0 : Method := { name := "<init>", desc := "()V", sig := { parameters := [], returnType := none }, accessFlags := 1, code := none }
def k1c1 : Code := { maxStack := 6, maxLocals := 17, code := code, exceptionTable := #[], attributes := #[] }
def k1m1 : Method := { name := "law", desc := "(JJI)Z", sig := { parameters := [.long, .long, .int], returnType := some .boolean }, accessFlags := 9, code := some k1c1 }
/-- com/example/urd/urd/model/NodeSetEqualsPinLaw -/
def k1 : Class := { plain "com/example/urd/urd/model/NodeSetEqualsPinLaw" (some 0) with
  accessFlags := 49
  interfaces := #[]
  cf := some (fileOf pool1 22 #[] #[{ accessFlags := 1, nameIndex := 5, descriptorIndex := 6, attributes := #[] }, { accessFlags := 9, nameIndex := 26, descriptorIndex := 27, attributes := #[] }] 49 2 #[] #[])
  fields := #[]
  methods := #[k1m0, k1m1]
  instanceTypes := #[]
  staticTypes := #[]
  resolved := Array.replicate 31 none
  statics := none }

def pool2 : Array CpInfo := pool [(1, .methodref 2 3), (0, .class_ 4), (0, .nameAndType 5 6), (0, u "java/lang/Object"), (0, u "<init>"), (0, u "()V"), (0, .class_ 8), (0, u "java/lang/Record")] 13

def k2c0 : Code := { maxStack := 1, maxLocals := 1, code := jdk_30_method_1_code, exceptionTable := #[], attributes := #[] }
def k2m0 : Method := { name := "<init>", desc := "()V", sig := { parameters := [], returnType := none }, accessFlags := 4, code := some k2c0 }
/-- java/lang/Record -/
def k2 : Class := { plain "java/lang/Record" (some 0) with
  accessFlags := 1057
  interfaces := #[]
  cf := some (fileOf pool2 7 #[] #[{ accessFlags := 4, nameIndex := 5, descriptorIndex := 6, attributes := #[] }] 1057 2 #[] #[])
  fields := #[]
  methods := #[k2m0]
  instanceTypes := #[]
  staticTypes := #[]
  resolved := Array.replicate 22 none
  statics := none }

def pool3 : Array CpInfo := pool [(1, .methodref 2 3), (0, .class_ 4), (0, .nameAndType 5 6), (0, u "java/lang/Record"), (0, u "<init>"), (0, u "()V"), (0, .fieldref 8 9), (0, .class_ 10), (0, .nameAndType 11 12), (0, u "com/example/urd/urd/model/NodeSet"), (0, u "bits"), (0, u "J"), (2, u "EMPTY"), (0, u "Lcom/example/urd/urd/model/NodeSet;"), (13, u "(J)V"), (11, u "equals"), (0, u "(Ljava/lang/Object;)Z"), (88, .class_ 133), (0, u "com/example/urd/urd/model/NodeSet$SubsetIterator"), (1, u "MAX_NODES"), (0, u "I")] 77

def k3c0 : Code := { maxStack := 3, maxLocals := 3, code := prog_32_method_1_code, exceptionTable := #[], attributes := #[] }
def k3m0 : Method := { name := "<init>", desc := "(J)V", sig := { parameters := [.long], returnType := none }, accessFlags := 1, code := some k3c0 }
def k3c1 : Code := { maxStack := 4, maxLocals := 3, code := prog_32_method_19_code, exceptionTable := #[], attributes := #[] }
def k3m1 : Method := { name := "equals", desc := "(Ljava/lang/Object;)Z", sig := { parameters := [(.object "java/lang/Object")], returnType := some .boolean }, accessFlags := 1, code := some k3c1 }
/-- com/example/urd/urd/model/NodeSet -/
def k3 : Class := { plain "com/example/urd/urd/model/NodeSet" (some 2) with
  accessFlags := 49
  interfaces := #[]
  cf := some (fileOf pool3 8 #[.nestMembers #[132]] #[{ accessFlags := 1, nameIndex := 5, descriptorIndex := 30, attributes := #[] }, { accessFlags := 1, nameIndex := 42, descriptorIndex := 43, attributes := #[] }] 49 2 #[] #[{ accessFlags := 18, nameIndex := 11, descriptorIndex := 12, attributes := #[] }, { accessFlags := 25, nameIndex := 135, descriptorIndex := 136, attributes := #[] }, { accessFlags := 26, nameIndex := 15, descriptorIndex := 16, attributes := #[] }])
  fields := #[{ name := "bits", type := .long, accessFlags := 18, slot := 0, constantValue := 0 }, { name := "MAX_NODES", type := .int, accessFlags := 25, slot := 0, constantValue := 0 }, { name := "EMPTY", type := (.object "com/example/urd/urd/model/NodeSet"), accessFlags := 26, slot := 1, constantValue := 0 }]
  methods := #[k3m0, k3m1]
  instanceTypes := #[.long]
  staticTypes := #[.int, (.object "com/example/urd/urd/model/NodeSet")]
  resolved := Array.replicate 214 none
  statics := none }

def pool4 : Array CpInfo := pool [(1, .class_ 2), (0, u "java/io/Serializable"), (0, .class_ 4), (0, u "java/lang/Object")] 2

/-- java/io/Serializable -/
def k4 : Class := { plain "java/io/Serializable" (some 0) with
  accessFlags := 1537
  interfaces := #[]
  cf := some (fileOf pool4 1 #[] #[] 1537 3 #[] #[])
  fields := #[]
  methods := #[]
  instanceTypes := #[]
  staticTypes := #[]
  resolved := Array.replicate 7 none
  statics := none }

def pool5 : Array CpInfo := pool [(1, .methodref 2 3), (0, .class_ 4), (0, .nameAndType 5 6), (0, u "java/lang/Object"), (0, u "<init>"), (0, u "()V"), (1, .class_ 10), (1, u "java/lang/Number"), (2, .class_ 14), (0, u "java/io/Serializable"), (0, u "serialVersionUID"), (0, u "J")] 20

def k5c0 : Code := { maxStack := 1, maxLocals := 1, code := jdk_18_method_1_code, exceptionTable := #[], attributes := #[] }
def k5m0 : Method := { name := "<init>", desc := "()V", sig := { parameters := [], returnType := none }, accessFlags := 1, code := some k5c0 }
/-- java/lang/Number -/
def k5 : Class := { plain "java/lang/Number" (some 0) with
  accessFlags := 1057
  interfaces := #[4]
  cf := some (fileOf pool5 8 #[] #[{ accessFlags := 1, nameIndex := 5, descriptorIndex := 6, attributes := #[] }] 1057 2 #[13] #[{ accessFlags := 26, nameIndex := 15, descriptorIndex := 16, attributes := #[] }])
  fields := #[{ name := "serialVersionUID", type := .long, accessFlags := 26, slot := 0, constantValue := 0 }]
  methods := #[k5m0]
  instanceTypes := #[]
  staticTypes := #[.long]
  resolved := Array.replicate 37 none
  statics := none }

def pool6 : Array CpInfo := pool [(1, .class_ 2), (0, u "java/lang/Comparable"), (0, .class_ 4), (0, u "java/lang/Object")] 7

/-- java/lang/Comparable -/
def k6 : Class := { plain "java/lang/Comparable" (some 0) with
  accessFlags := 1537
  interfaces := #[]
  cf := some (fileOf pool6 1 #[] #[] 1537 3 #[] #[])
  fields := #[]
  methods := #[]
  instanceTypes := #[]
  staticTypes := #[]
  resolved := Array.replicate 12 none
  statics := none }

def pool7 : Array CpInfo := pool [(1, .class_ 2), (0, u "java/lang/constant/Constable"), (0, .class_ 4), (0, u "java/lang/Object")] 6

/-- java/lang/constant/Constable -/
def k7 : Class := { plain "java/lang/constant/Constable" (some 0) with
  accessFlags := 1537
  interfaces := #[]
  cf := some (fileOf pool7 1 #[] #[] 1537 3 #[] #[])
  fields := #[]
  methods := #[]
  instanceTypes := #[]
  staticTypes := #[]
  resolved := Array.replicate 11 none
  statics := none }

def pool8 : Array CpInfo := pool [(1, .class_ 2), (0, u "java/lang/constant/ConstantDesc"), (0, .class_ 4), (0, u "java/lang/Object")] 32

/-- java/lang/constant/ConstantDesc -/
def k8 : Class := { plain "java/lang/constant/ConstantDesc" (some 0) with
  accessFlags := 1537
  interfaces := #[]
  cf := some (fileOf pool8 1 #[] #[] 1537 3 #[] #[])
  fields := #[]
  methods := #[]
  instanceTypes := #[]
  staticTypes := #[]
  resolved := Array.replicate 37 none
  statics := none }

def pool9 : Array CpInfo := pool [(1, .class_ 2), (0, u "java/lang/Long"), (55, .nameAndType 59 60), (0, u "<init>"), (0, u "()V"), (24, u "valueOf"), (143, u "(J)Ljava/lang/Long;"), (0, .long 18446744073709551488), (1, .long 127), (1, .fieldref 235 236), (0, .class_ 237), (0, .nameAndType 238 239), (0, u "java/lang/Long$LongCache"), (0, u "cache"), (0, u "[Ljava/lang/Long;"), (0, .methodref 1 241), (0, .nameAndType 59 242), (0, u "(J)V"), (27, .methodref 271 58), (0, .class_ 272), (0, u "java/lang/Number"), (0, .fieldref 1 274), (0, .nameAndType 275 276), (0, u "value"), (0, u "J"), (84, u "TYPE"), (0, u "Ljava/lang/Class;"), (0, .class_ 364), (0, u "java/lang/Comparable"), (0, .class_ 366), (0, u "java/lang/constant/Constable"), (0, .class_ 368), (0, u "java/lang/constant/ConstantDesc"), (0, u "MIN_VALUE"), (1, u "MAX_VALUE"), (4, u "SIZE"), (0, u "I"), (1, u "BYTES"), (1, u "serialVersionUID")] 142

def k9c0 : Code := { maxStack := 4, maxLocals := 3, code := jdk_35_method_24_code, exceptionTable := #[], attributes := #[] }
def k9m0 : Method := { name := "valueOf", desc := "(J)Ljava/lang/Long;", sig := { parameters := [.long], returnType := some (.object "java/lang/Long") }, accessFlags := 9, code := some k9c0 }
def k9c1 : Code := { maxStack := 3, maxLocals := 3, code := jdk_35_method_26_code, exceptionTable := #[], attributes := #[] }
def k9m1 : Method := { name := "<init>", desc := "(J)V", sig := { parameters := [.long], returnType := none }, accessFlags := 1, code := some k9c1 }
/-- java/lang/Long -/
def k9 : Class := { plain "java/lang/Long" (some 5) with
  accessFlags := 49
  interfaces := #[6, 7, 8]
  cf := some (fileOf pool9 1 #[.nestMembers #[235]] #[{ accessFlags := 9, nameIndex := 85, descriptorIndex := 229, attributes := #[] }, { accessFlags := 1, nameIndex := 59, descriptorIndex := 242, attributes := #[] }] 49 271 #[363, 365, 367] #[{ accessFlags := 25, nameIndex := 369, descriptorIndex := 276, attributes := #[] }, { accessFlags := 25, nameIndex := 371, descriptorIndex := 276, attributes := #[] }, { accessFlags := 25, nameIndex := 361, descriptorIndex := 362, attributes := #[] }, { accessFlags := 18, nameIndex := 275, descriptorIndex := 276, attributes := #[] }, { accessFlags := 25, nameIndex := 376, descriptorIndex := 377, attributes := #[] }, { accessFlags := 25, nameIndex := 379, descriptorIndex := 377, attributes := #[] }, { accessFlags := 26, nameIndex := 381, descriptorIndex := 276, attributes := #[] }])
  fields := #[{ name := "MIN_VALUE", type := .long, accessFlags := 25, slot := 0, constantValue := 0 }, { name := "MAX_VALUE", type := .long, accessFlags := 25, slot := 1, constantValue := 0 }, { name := "TYPE", type := (.object "java/lang/Class"), accessFlags := 25, slot := 2, constantValue := 0 }, { name := "value", type := .long, accessFlags := 18, slot := 0, constantValue := 0 }, { name := "SIZE", type := .int, accessFlags := 25, slot := 3, constantValue := 0 }, { name := "BYTES", type := .int, accessFlags := 25, slot := 4, constantValue := 0 }, { name := "serialVersionUID", type := .long, accessFlags := 26, slot := 5, constantValue := 0 }]
  methods := #[k9m0, k9m1]
  instanceTypes := #[.long]
  staticTypes := #[.long, .long, (.object "java/lang/Class"), .int, .int, .long]
  resolved := Array.replicate 524 none
  statics := none }

def pool10 : Array CpInfo := pool [(2, .class_ 4), (1, u "java/lang/Object"), (0, u "<init>"), (0, u "()V"), (0, .class_ 8), (0, u "java/lang/Long"), (7, .class_ 18), (1, u "java/lang/Long$LongCache"), (0, u "$assertionsDisabled"), (0, u "Z"), (8, u "archivedCache"), (0, u "[Ljava/lang/Long;"), (7, u "cache")] 24

def k10m0 : Method := { name := "<init>", desc := "()V", sig := { parameters := [], returnType := none }, accessFlags := 2, code := none }
/-- java/lang/Long$LongCache -/
def k10 : Class := { plain "java/lang/Long$LongCache" (some 0) with
  accessFlags := 48
  interfaces := #[]
  cf := some (fileOf pool10 16 #[.nestHost 7] #[{ accessFlags := 2, nameIndex := 5, descriptorIndex := 6, attributes := #[] }] 48 2 #[] #[{ accessFlags := 24, nameIndex := 38, descriptorIndex := 30, attributes := #[] }, { accessFlags := 8, nameIndex := 29, descriptorIndex := 30, attributes := #[] }, { accessFlags := 4120, nameIndex := 19, descriptorIndex := 20, attributes := #[] }])
  fields := #[{ name := "cache", type := (.array (.object "java/lang/Long")), accessFlags := 24, slot := 0, constantValue := 0 }, { name := "archivedCache", type := (.array (.object "java/lang/Long")), accessFlags := 8, slot := 1, constantValue := 0 }, { name := "$assertionsDisabled", type := .boolean, accessFlags := 4120, slot := 2, constantValue := 0 }]
  methods := #[k10m0]
  instanceTypes := #[]
  staticTypes := #[(.array (.object "java/lang/Long")), (.array (.object "java/lang/Long")), .boolean]
  resolved := Array.replicate 63 none
  statics := some 0 }

def pool11 : Array CpInfo := pool [(1, u "java/lang/Cloneable"), (0, .class_ 1), (0, u "java/lang/Object"), (0, .class_ 3)] 3

/-- java/lang/Cloneable -/
def k11 : Class := { plain "java/lang/Cloneable" (some 0) with
  accessFlags := 1537
  interfaces := #[]
  cf := some (fileOf pool11 2 #[] #[] 1537 4 #[] #[])
  fields := #[]
  methods := #[]
  instanceTypes := #[]
  staticTypes := #[]
  resolved := Array.replicate 8 none
  statics := none }

/-- the primitive byte -/
def k12 : Class := { plain "byte" none with kind := .primitive 'B', accessFlags := 0x411 }
/-- [B -/
def k13 : Class := { plain "[B" (some 0) with kind := .array 12 .byte, interfaces := #[11, 4], accessFlags := 1041 }

/-- the primitive int -/
def k14 : Class := { plain "int" none with kind := .primitive 'I', accessFlags := 0x411 }
/-- [I -/
def k15 : Class := { plain "[I" (some 0) with kind := .array 14 .int, interfaces := #[11, 4], accessFlags := 1041 }

/-- [Ljava/lang/Long; -/
def k16 : Class := { plain "[Ljava/lang/Long;" (some 0) with kind := .array 9 (.object "java/lang/Long"), interfaces := #[11, 4], accessFlags := 1041 }

def heap : Heap := #[{ cls := 10, slots := #[.ref 1, .null, .int 0], vm := .statics 10 },
  { cls := 16, slots := #[.ref 2, .ref 3, .ref 4, .ref 5, .ref 6, .ref 7, .ref 8, .ref 9, .ref 10, .ref 11, .ref 12, .ref 13, .ref 14, .ref 15, .ref 16, .ref 17, .ref 18, .ref 19, .ref 20, .ref 21, .ref 22, .ref 23, .ref 24, .ref 25, .ref 26, .ref 27, .ref 28, .ref 29, .ref 30, .ref 31, .ref 32, .ref 33, .ref 34, .ref 35, .ref 36, .ref 37, .ref 38, .ref 39, .ref 40, .ref 41, .ref 42, .ref 43, .ref 44, .ref 45, .ref 46, .ref 47, .ref 48, .ref 49, .ref 50, .ref 51, .ref 52, .ref 53, .ref 54, .ref 55, .ref 56, .ref 57, .ref 58, .ref 59, .ref 60, .ref 61, .ref 62, .ref 63, .ref 64, .ref 65, .ref 66, .ref 67, .ref 68, .ref 69, .ref 70, .ref 71, .ref 72, .ref 73, .ref 74, .ref 75, .ref 76, .ref 77, .ref 78, .ref 79, .ref 80, .ref 81, .ref 82, .ref 83, .ref 84, .ref 85, .ref 86, .ref 87, .ref 88, .ref 89, .ref 90, .ref 91, .ref 92, .ref 93, .ref 94, .ref 95, .ref 96, .ref 97, .ref 98, .ref 99, .ref 100, .ref 101, .ref 102, .ref 103, .ref 104, .ref 105, .ref 106, .ref 107, .ref 108, .ref 109, .ref 110, .ref 111, .ref 112, .ref 113, .ref 114, .ref 115, .ref 116, .ref 117, .ref 118, .ref 119, .ref 120, .ref 121, .ref 122, .ref 123, .ref 124, .ref 125, .ref 126, .ref 127, .ref 128, .ref 129, .ref 130, .ref 131, .ref 132, .ref 133, .ref 134, .ref 135, .ref 136, .ref 137, .ref 138, .ref 139, .ref 140, .ref 141, .ref 142, .ref 143, .ref 144, .ref 145, .ref 146, .ref 147, .ref 148, .ref 149, .ref 150, .ref 151, .ref 152, .ref 153, .ref 154, .ref 155, .ref 156, .ref 157, .ref 158, .ref 159, .ref 160, .ref 161, .ref 162, .ref 163, .ref 164, .ref 165, .ref 166, .ref 167, .ref 168, .ref 169, .ref 170, .ref 171, .ref 172, .ref 173, .ref 174, .ref 175, .ref 176, .ref 177, .ref 178, .ref 179, .ref 180, .ref 181, .ref 182, .ref 183, .ref 184, .ref 185, .ref 186, .ref 187, .ref 188, .ref 189, .ref 190, .ref 191, .ref 192, .ref 193, .ref 194, .ref 195, .ref 196, .ref 197, .ref 198, .ref 199, .ref 200, .ref 201, .ref 202, .ref 203, .ref 204, .ref 205, .ref 206, .ref 207, .ref 208, .ref 209, .ref 210, .ref 211, .ref 212, .ref 213, .ref 214, .ref 215, .ref 216, .ref 217, .ref 218, .ref 219, .ref 220, .ref 221, .ref 222, .ref 223, .ref 224, .ref 225, .ref 226, .ref 227, .ref 228, .ref 229, .ref 230, .ref 231, .ref 232, .ref 233, .ref 234, .ref 235, .ref 236, .ref 237, .ref 238, .ref 239, .ref 240, .ref 241, .ref 242, .ref 243, .ref 244, .ref 245, .ref 246, .ref 247, .ref 248, .ref 249, .ref 250, .ref 251, .ref 252, .ref 253, .ref 254, .ref 255, .ref 256, .ref 257], vm := .none },
  { cls := 9, slots := #[.long (-128)], vm := .none },
  { cls := 9, slots := #[.long (-127)], vm := .none },
  { cls := 9, slots := #[.long (-126)], vm := .none },
  { cls := 9, slots := #[.long (-125)], vm := .none },
  { cls := 9, slots := #[.long (-124)], vm := .none },
  { cls := 9, slots := #[.long (-123)], vm := .none },
  { cls := 9, slots := #[.long (-122)], vm := .none },
  { cls := 9, slots := #[.long (-121)], vm := .none },
  { cls := 9, slots := #[.long (-120)], vm := .none },
  { cls := 9, slots := #[.long (-119)], vm := .none },
  { cls := 9, slots := #[.long (-118)], vm := .none },
  { cls := 9, slots := #[.long (-117)], vm := .none },
  { cls := 9, slots := #[.long (-116)], vm := .none },
  { cls := 9, slots := #[.long (-115)], vm := .none },
  { cls := 9, slots := #[.long (-114)], vm := .none },
  { cls := 9, slots := #[.long (-113)], vm := .none },
  { cls := 9, slots := #[.long (-112)], vm := .none },
  { cls := 9, slots := #[.long (-111)], vm := .none },
  { cls := 9, slots := #[.long (-110)], vm := .none },
  { cls := 9, slots := #[.long (-109)], vm := .none },
  { cls := 9, slots := #[.long (-108)], vm := .none },
  { cls := 9, slots := #[.long (-107)], vm := .none },
  { cls := 9, slots := #[.long (-106)], vm := .none },
  { cls := 9, slots := #[.long (-105)], vm := .none },
  { cls := 9, slots := #[.long (-104)], vm := .none },
  { cls := 9, slots := #[.long (-103)], vm := .none },
  { cls := 9, slots := #[.long (-102)], vm := .none },
  { cls := 9, slots := #[.long (-101)], vm := .none },
  { cls := 9, slots := #[.long (-100)], vm := .none },
  { cls := 9, slots := #[.long (-99)], vm := .none },
  { cls := 9, slots := #[.long (-98)], vm := .none },
  { cls := 9, slots := #[.long (-97)], vm := .none },
  { cls := 9, slots := #[.long (-96)], vm := .none },
  { cls := 9, slots := #[.long (-95)], vm := .none },
  { cls := 9, slots := #[.long (-94)], vm := .none },
  { cls := 9, slots := #[.long (-93)], vm := .none },
  { cls := 9, slots := #[.long (-92)], vm := .none },
  { cls := 9, slots := #[.long (-91)], vm := .none },
  { cls := 9, slots := #[.long (-90)], vm := .none },
  { cls := 9, slots := #[.long (-89)], vm := .none },
  { cls := 9, slots := #[.long (-88)], vm := .none },
  { cls := 9, slots := #[.long (-87)], vm := .none },
  { cls := 9, slots := #[.long (-86)], vm := .none },
  { cls := 9, slots := #[.long (-85)], vm := .none },
  { cls := 9, slots := #[.long (-84)], vm := .none },
  { cls := 9, slots := #[.long (-83)], vm := .none },
  { cls := 9, slots := #[.long (-82)], vm := .none },
  { cls := 9, slots := #[.long (-81)], vm := .none },
  { cls := 9, slots := #[.long (-80)], vm := .none },
  { cls := 9, slots := #[.long (-79)], vm := .none },
  { cls := 9, slots := #[.long (-78)], vm := .none },
  { cls := 9, slots := #[.long (-77)], vm := .none },
  { cls := 9, slots := #[.long (-76)], vm := .none },
  { cls := 9, slots := #[.long (-75)], vm := .none },
  { cls := 9, slots := #[.long (-74)], vm := .none },
  { cls := 9, slots := #[.long (-73)], vm := .none },
  { cls := 9, slots := #[.long (-72)], vm := .none },
  { cls := 9, slots := #[.long (-71)], vm := .none },
  { cls := 9, slots := #[.long (-70)], vm := .none },
  { cls := 9, slots := #[.long (-69)], vm := .none },
  { cls := 9, slots := #[.long (-68)], vm := .none },
  { cls := 9, slots := #[.long (-67)], vm := .none },
  { cls := 9, slots := #[.long (-66)], vm := .none },
  { cls := 9, slots := #[.long (-65)], vm := .none },
  { cls := 9, slots := #[.long (-64)], vm := .none },
  { cls := 9, slots := #[.long (-63)], vm := .none },
  { cls := 9, slots := #[.long (-62)], vm := .none },
  { cls := 9, slots := #[.long (-61)], vm := .none },
  { cls := 9, slots := #[.long (-60)], vm := .none },
  { cls := 9, slots := #[.long (-59)], vm := .none },
  { cls := 9, slots := #[.long (-58)], vm := .none },
  { cls := 9, slots := #[.long (-57)], vm := .none },
  { cls := 9, slots := #[.long (-56)], vm := .none },
  { cls := 9, slots := #[.long (-55)], vm := .none },
  { cls := 9, slots := #[.long (-54)], vm := .none },
  { cls := 9, slots := #[.long (-53)], vm := .none },
  { cls := 9, slots := #[.long (-52)], vm := .none },
  { cls := 9, slots := #[.long (-51)], vm := .none },
  { cls := 9, slots := #[.long (-50)], vm := .none },
  { cls := 9, slots := #[.long (-49)], vm := .none },
  { cls := 9, slots := #[.long (-48)], vm := .none },
  { cls := 9, slots := #[.long (-47)], vm := .none },
  { cls := 9, slots := #[.long (-46)], vm := .none },
  { cls := 9, slots := #[.long (-45)], vm := .none },
  { cls := 9, slots := #[.long (-44)], vm := .none },
  { cls := 9, slots := #[.long (-43)], vm := .none },
  { cls := 9, slots := #[.long (-42)], vm := .none },
  { cls := 9, slots := #[.long (-41)], vm := .none },
  { cls := 9, slots := #[.long (-40)], vm := .none },
  { cls := 9, slots := #[.long (-39)], vm := .none },
  { cls := 9, slots := #[.long (-38)], vm := .none },
  { cls := 9, slots := #[.long (-37)], vm := .none },
  { cls := 9, slots := #[.long (-36)], vm := .none },
  { cls := 9, slots := #[.long (-35)], vm := .none },
  { cls := 9, slots := #[.long (-34)], vm := .none },
  { cls := 9, slots := #[.long (-33)], vm := .none },
  { cls := 9, slots := #[.long (-32)], vm := .none },
  { cls := 9, slots := #[.long (-31)], vm := .none },
  { cls := 9, slots := #[.long (-30)], vm := .none },
  { cls := 9, slots := #[.long (-29)], vm := .none },
  { cls := 9, slots := #[.long (-28)], vm := .none },
  { cls := 9, slots := #[.long (-27)], vm := .none },
  { cls := 9, slots := #[.long (-26)], vm := .none },
  { cls := 9, slots := #[.long (-25)], vm := .none },
  { cls := 9, slots := #[.long (-24)], vm := .none },
  { cls := 9, slots := #[.long (-23)], vm := .none },
  { cls := 9, slots := #[.long (-22)], vm := .none },
  { cls := 9, slots := #[.long (-21)], vm := .none },
  { cls := 9, slots := #[.long (-20)], vm := .none },
  { cls := 9, slots := #[.long (-19)], vm := .none },
  { cls := 9, slots := #[.long (-18)], vm := .none },
  { cls := 9, slots := #[.long (-17)], vm := .none },
  { cls := 9, slots := #[.long (-16)], vm := .none },
  { cls := 9, slots := #[.long (-15)], vm := .none },
  { cls := 9, slots := #[.long (-14)], vm := .none },
  { cls := 9, slots := #[.long (-13)], vm := .none },
  { cls := 9, slots := #[.long (-12)], vm := .none },
  { cls := 9, slots := #[.long (-11)], vm := .none },
  { cls := 9, slots := #[.long (-10)], vm := .none },
  { cls := 9, slots := #[.long (-9)], vm := .none },
  { cls := 9, slots := #[.long (-8)], vm := .none },
  { cls := 9, slots := #[.long (-7)], vm := .none },
  { cls := 9, slots := #[.long (-6)], vm := .none },
  { cls := 9, slots := #[.long (-5)], vm := .none },
  { cls := 9, slots := #[.long (-4)], vm := .none },
  { cls := 9, slots := #[.long (-3)], vm := .none },
  { cls := 9, slots := #[.long (-2)], vm := .none },
  { cls := 9, slots := #[.long (-1)], vm := .none },
  { cls := 9, slots := #[.long 0], vm := .none },
  { cls := 9, slots := #[.long 1], vm := .none },
  { cls := 9, slots := #[.long 2], vm := .none },
  { cls := 9, slots := #[.long 3], vm := .none },
  { cls := 9, slots := #[.long 4], vm := .none },
  { cls := 9, slots := #[.long 5], vm := .none },
  { cls := 9, slots := #[.long 6], vm := .none },
  { cls := 9, slots := #[.long 7], vm := .none },
  { cls := 9, slots := #[.long 8], vm := .none },
  { cls := 9, slots := #[.long 9], vm := .none },
  { cls := 9, slots := #[.long 10], vm := .none },
  { cls := 9, slots := #[.long 11], vm := .none },
  { cls := 9, slots := #[.long 12], vm := .none },
  { cls := 9, slots := #[.long 13], vm := .none },
  { cls := 9, slots := #[.long 14], vm := .none },
  { cls := 9, slots := #[.long 15], vm := .none },
  { cls := 9, slots := #[.long 16], vm := .none },
  { cls := 9, slots := #[.long 17], vm := .none },
  { cls := 9, slots := #[.long 18], vm := .none },
  { cls := 9, slots := #[.long 19], vm := .none },
  { cls := 9, slots := #[.long 20], vm := .none },
  { cls := 9, slots := #[.long 21], vm := .none },
  { cls := 9, slots := #[.long 22], vm := .none },
  { cls := 9, slots := #[.long 23], vm := .none },
  { cls := 9, slots := #[.long 24], vm := .none },
  { cls := 9, slots := #[.long 25], vm := .none },
  { cls := 9, slots := #[.long 26], vm := .none },
  { cls := 9, slots := #[.long 27], vm := .none },
  { cls := 9, slots := #[.long 28], vm := .none },
  { cls := 9, slots := #[.long 29], vm := .none },
  { cls := 9, slots := #[.long 30], vm := .none },
  { cls := 9, slots := #[.long 31], vm := .none },
  { cls := 9, slots := #[.long 32], vm := .none },
  { cls := 9, slots := #[.long 33], vm := .none },
  { cls := 9, slots := #[.long 34], vm := .none },
  { cls := 9, slots := #[.long 35], vm := .none },
  { cls := 9, slots := #[.long 36], vm := .none },
  { cls := 9, slots := #[.long 37], vm := .none },
  { cls := 9, slots := #[.long 38], vm := .none },
  { cls := 9, slots := #[.long 39], vm := .none },
  { cls := 9, slots := #[.long 40], vm := .none },
  { cls := 9, slots := #[.long 41], vm := .none },
  { cls := 9, slots := #[.long 42], vm := .none },
  { cls := 9, slots := #[.long 43], vm := .none },
  { cls := 9, slots := #[.long 44], vm := .none },
  { cls := 9, slots := #[.long 45], vm := .none },
  { cls := 9, slots := #[.long 46], vm := .none },
  { cls := 9, slots := #[.long 47], vm := .none },
  { cls := 9, slots := #[.long 48], vm := .none },
  { cls := 9, slots := #[.long 49], vm := .none },
  { cls := 9, slots := #[.long 50], vm := .none },
  { cls := 9, slots := #[.long 51], vm := .none },
  { cls := 9, slots := #[.long 52], vm := .none },
  { cls := 9, slots := #[.long 53], vm := .none },
  { cls := 9, slots := #[.long 54], vm := .none },
  { cls := 9, slots := #[.long 55], vm := .none },
  { cls := 9, slots := #[.long 56], vm := .none },
  { cls := 9, slots := #[.long 57], vm := .none },
  { cls := 9, slots := #[.long 58], vm := .none },
  { cls := 9, slots := #[.long 59], vm := .none },
  { cls := 9, slots := #[.long 60], vm := .none },
  { cls := 9, slots := #[.long 61], vm := .none },
  { cls := 9, slots := #[.long 62], vm := .none },
  { cls := 9, slots := #[.long 63], vm := .none },
  { cls := 9, slots := #[.long 64], vm := .none },
  { cls := 9, slots := #[.long 65], vm := .none },
  { cls := 9, slots := #[.long 66], vm := .none },
  { cls := 9, slots := #[.long 67], vm := .none },
  { cls := 9, slots := #[.long 68], vm := .none },
  { cls := 9, slots := #[.long 69], vm := .none },
  { cls := 9, slots := #[.long 70], vm := .none },
  { cls := 9, slots := #[.long 71], vm := .none },
  { cls := 9, slots := #[.long 72], vm := .none },
  { cls := 9, slots := #[.long 73], vm := .none },
  { cls := 9, slots := #[.long 74], vm := .none },
  { cls := 9, slots := #[.long 75], vm := .none },
  { cls := 9, slots := #[.long 76], vm := .none },
  { cls := 9, slots := #[.long 77], vm := .none },
  { cls := 9, slots := #[.long 78], vm := .none },
  { cls := 9, slots := #[.long 79], vm := .none },
  { cls := 9, slots := #[.long 80], vm := .none },
  { cls := 9, slots := #[.long 81], vm := .none },
  { cls := 9, slots := #[.long 82], vm := .none },
  { cls := 9, slots := #[.long 83], vm := .none },
  { cls := 9, slots := #[.long 84], vm := .none },
  { cls := 9, slots := #[.long 85], vm := .none },
  { cls := 9, slots := #[.long 86], vm := .none },
  { cls := 9, slots := #[.long 87], vm := .none },
  { cls := 9, slots := #[.long 88], vm := .none },
  { cls := 9, slots := #[.long 89], vm := .none },
  { cls := 9, slots := #[.long 90], vm := .none },
  { cls := 9, slots := #[.long 91], vm := .none },
  { cls := 9, slots := #[.long 92], vm := .none },
  { cls := 9, slots := #[.long 93], vm := .none },
  { cls := 9, slots := #[.long 94], vm := .none },
  { cls := 9, slots := #[.long 95], vm := .none },
  { cls := 9, slots := #[.long 96], vm := .none },
  { cls := 9, slots := #[.long 97], vm := .none },
  { cls := 9, slots := #[.long 98], vm := .none },
  { cls := 9, slots := #[.long 99], vm := .none },
  { cls := 9, slots := #[.long 100], vm := .none },
  { cls := 9, slots := #[.long 101], vm := .none },
  { cls := 9, slots := #[.long 102], vm := .none },
  { cls := 9, slots := #[.long 103], vm := .none },
  { cls := 9, slots := #[.long 104], vm := .none },
  { cls := 9, slots := #[.long 105], vm := .none },
  { cls := 9, slots := #[.long 106], vm := .none },
  { cls := 9, slots := #[.long 107], vm := .none },
  { cls := 9, slots := #[.long 108], vm := .none },
  { cls := 9, slots := #[.long 109], vm := .none },
  { cls := 9, slots := #[.long 110], vm := .none },
  { cls := 9, slots := #[.long 111], vm := .none },
  { cls := 9, slots := #[.long 112], vm := .none },
  { cls := 9, slots := #[.long 113], vm := .none },
  { cls := 9, slots := #[.long 114], vm := .none },
  { cls := 9, slots := #[.long 115], vm := .none },
  { cls := 9, slots := #[.long 116], vm := .none },
  { cls := 9, slots := #[.long 117], vm := .none },
  { cls := 9, slots := #[.long 118], vm := .none },
  { cls := 9, slots := #[.long 119], vm := .none },
  { cls := 9, slots := #[.long 120], vm := .none },
  { cls := 9, slots := #[.long 121], vm := .none },
  { cls := 9, slots := #[.long 122], vm := .none },
  { cls := 9, slots := #[.long 123], vm := .none },
  { cls := 9, slots := #[.long 124], vm := .none },
  { cls := 9, slots := #[.long 125], vm := .none },
  { cls := 9, slots := #[.long 126], vm := .none },
  { cls := 9, slots := #[.long 127], vm := .none }]
def classes : Array Class := #[k0, k1, k2, k3, k4, k5, k6, k7, k8, k9, k10, k11, k12, k13, k14, k15, k16]
def interned : List (Array UInt16 × Addr) := []
def slotsUsed : Nat := 515
def theMethod : MethodId := ⟨1, 1⟩
def args0 : Array Value := #[.long 5, .long 6, .int 7]
def aboutOver (below : List Frame) : State where
  vm := { classes := classes, interned := interned.toArray }
  heap := heap
  slotsUsed := slotsUsed
  threads := #[{ frames := .invoking theMethod args0 :: below }]
def below0 : List Frame := [.native { method := ⟨0, 0⟩, args := #[] }]
def about1 : State := aboutOver below0
def p0 : Program := .bare "" "" ""
def e0 : Env := launch0.env 0 0 0
theorem w_frames : about1.frames = Frame.invoking theMethod args0 :: below0 := rfl
set_option maxRecDepth 65536 in
theorem w_args : argsFit about1.vm theMethod args0 = true := by decide +kernel
set_option maxRecDepth 65536 in
theorem w_heap : heapFits about1 = true := by decide +kernel
set_option maxRecDepth 65536 in
theorem w_runnable : about1.curStatus? = some .runnable := by decide +kernel
set_option maxRecDepth 65536 in
theorem w_alone : about1.alone = true := by decide +kernel
set_option maxRecDepth 65536 in
theorem w_named : about1.methodNamed? x = some theMethod := by decide +kernel
set_option maxRecDepth 65536 in
theorem w_hears : about1.hears theMethod below0 = true := by decide +kernel
set_option maxRecDepth 65536 in
theorem w_ripe : about1.ripe theMethod args0 below0 = true := by decide +kernel
theorem w_running : about1.status = .running := rfl
set_option maxRecDepth 65536 in
theorem w_room : about1.hasRoom e0.platform room_1 = true :=
  launch0.hasRoom_least _ room_1 (by decide +kernel) (by decide +kernel) (by decide +kernel) (by decide +kernel) (by decide +kernel) (by decide +kernel)
theorem allAtoms_all (ts : List Jvm.Cond) (a : Array Jvm.Value) (st : Jvm.State) : (allAtoms ts).before a st = ts.all (fun c => c.before a st) := by
  induction ts with
  | nil => rfl
  | cons c t ih =>
    show (Jvm.Cond.and c (allAtoms t)).before a st = _
    rw [Jvm.Cond.before_and, ih, List.all_cons]
def words1 : List Jvm.Cond := Jvm.Cond.code x code maxLocals ret :: tables_1
/-- a 'code' word, met by the world's own term for the bytes: nothing is compared byte by byte -/
theorem code_word {y : MethodName} {bytes : ByteArray} {mx : Nat} {rt : Option FieldType} {a : Array Value} {s : State} {m : MethodId} {meth : Method} {c : Code} (h1 : s.methodNamed? y = some m) (h2 : s.vm.method? m = some meth) (h3 : meth.code = some c) (h4 : c.code = bytes)
    (h5 : (c.maxLocals == mx && c.exceptionTable.isEmpty && decide (c.maxStack ≤ mostOperands) && decide (meth.sig.returnType = rt) && !meth.locks && decide (parseMethodDescriptor y.desc = some meth.sig)) = true) : (Jvm.Cond.code y bytes mx rt).before a s = true := by
  simp only [Bool.and_eq_true, beq_iff_eq, Bool.not_eq_true', decide_eq_true_eq] at h5
  obtain ⟨⟨⟨⟨⟨g1, g2⟩, g3⟩, g4⟩, g5⟩, g6⟩ := h5
  simp [Cond.before, Cond.holds, Cond.value, h1, h2, h3, h4, g1, g2, g3, g4, g5, g6]
def isCode : Jvm.Cond → Bool
  | .code _ _ _ _ => true
  | _ => false
theorem all_split {L : List Jvm.Cond} {P : Jvm.Cond → Bool} (h1 : L.all (fun c => isCode c || P c) = true) (h2 : ∀ c ∈ L.filter isCode, P c = true) : L.all P = true := by
  refine List.all_eq_true.mpr fun c hc => ?_
  have h := List.all_eq_true.mp h1 c hc
  rcases Bool.eq_false_or_eq_true (isCode c) with hi | hi
  · exact h2 c (List.mem_filter.mpr ⟨hc, hi⟩)
  · simpa [hi] using h
set_option maxRecDepth 65536 in
theorem w_c0 : (Jvm.Cond.code x code maxLocals ret).before args0 about1 = true := code_word (m := ⟨1, 1⟩) (meth := k1m1) (c := k1c1) (by decide +kernel) rfl rfl rfl (by decide +kernel)
set_option maxRecDepth 65536 in
theorem w_c1 : (Jvm.Cond.code ({ cls := "com/example/urd/urd/model/NodeSet", name := "<init>", desc := "(J)V" } : Jvm.MethodName) prog_32_method_1_code (3 : Nat) (Option.none : Option Jvm.ClassFile.FieldType)).before args0 about1 = true := code_word (m := ⟨3, 0⟩) (meth := k3m0) (c := k3c0) (by decide +kernel) rfl rfl rfl (by decide +kernel)
set_option maxRecDepth 65536 in
theorem w_c2 : (Jvm.Cond.code ({ cls := "java/lang/Record", name := "<init>", desc := "()V" } : Jvm.MethodName) jdk_30_method_1_code (1 : Nat) (Option.none : Option Jvm.ClassFile.FieldType)).before args0 about1 = true := code_word (m := ⟨2, 0⟩) (meth := k2m0) (c := k2c0) (by decide +kernel) rfl rfl rfl (by decide +kernel)
set_option maxRecDepth 65536 in
theorem w_c3 : (Jvm.Cond.code ({ cls := "java/lang/Object", name := "<init>", desc := "()V" } : Jvm.MethodName) object_method_1_code (1 : Nat) (Option.none : Option Jvm.ClassFile.FieldType)).before args0 about1 = true := code_word (m := ⟨0, 0⟩) (meth := k0m0) (c := k0c0) (by decide +kernel) rfl rfl rfl (by decide +kernel)
set_option maxRecDepth 65536 in
theorem w_c4 : (Jvm.Cond.code ({ cls := "com/example/urd/urd/model/NodeSet", name := "equals", desc := "(Ljava/lang/Object;)Z" } : Jvm.MethodName) prog_32_method_19_code (3 : Nat) (Option.some Jvm.ClassFile.FieldType.boolean)).before args0 about1 = true := code_word (m := ⟨3, 1⟩) (meth := k3m1) (c := k3c1) (by decide +kernel) rfl rfl rfl (by decide +kernel)
set_option maxRecDepth 65536 in
theorem w_c5 : (Jvm.Cond.code ({ cls := "java/lang/Long", name := "valueOf", desc := "(J)Ljava/lang/Long;" } : Jvm.MethodName) jdk_35_method_24_code (3 : Nat) (Option.some (Jvm.ClassFile.FieldType.object "java/lang/Long"))).before args0 about1 = true := code_word (m := ⟨9, 0⟩) (meth := k9m0) (c := k9c0) (by decide +kernel) rfl rfl rfl (by decide +kernel)
set_option maxRecDepth 65536 in
theorem w_c6 : (Jvm.Cond.code ({ cls := "java/lang/Long", name := "<init>", desc := "(J)V" } : Jvm.MethodName) jdk_35_method_26_code (3 : Nat) (Option.none : Option Jvm.ClassFile.FieldType)).before args0 about1 = true := code_word (m := ⟨9, 1⟩) (meth := k9m1) (c := k9c1) (by decide +kernel) rfl rfl rfl (by decide +kernel)
set_option maxRecDepth 65536 in
theorem w_c7 : (Jvm.Cond.code ({ cls := "java/lang/Number", name := "<init>", desc := "()V" } : Jvm.MethodName) jdk_18_method_1_code (1 : Nat) (Option.none : Option Jvm.ClassFile.FieldType)).before args0 about1 = true := code_word (m := ⟨5, 0⟩) (meth := k5m0) (c := k5c0) (by decide +kernel) rfl rfl rfl (by decide +kernel)
def codes1 : List Jvm.Cond := [Jvm.Cond.code x code maxLocals ret, Jvm.Cond.code ({ cls := "com/example/urd/urd/model/NodeSet", name := "<init>", desc := "(J)V" } : Jvm.MethodName) prog_32_method_1_code (3 : Nat) (Option.none : Option Jvm.ClassFile.FieldType), Jvm.Cond.code ({ cls := "java/lang/Record", name := "<init>", desc := "()V" } : Jvm.MethodName) jdk_30_method_1_code (1 : Nat) (Option.none : Option Jvm.ClassFile.FieldType), Jvm.Cond.code ({ cls := "java/lang/Object", name := "<init>", desc := "()V" } : Jvm.MethodName) object_method_1_code (1 : Nat) (Option.none : Option Jvm.ClassFile.FieldType), Jvm.Cond.code ({ cls := "com/example/urd/urd/model/NodeSet", name := "equals", desc := "(Ljava/lang/Object;)Z" } : Jvm.MethodName) prog_32_method_19_code (3 : Nat) (Option.some Jvm.ClassFile.FieldType.boolean), Jvm.Cond.code ({ cls := "java/lang/Long", name := "valueOf", desc := "(J)Ljava/lang/Long;" } : Jvm.MethodName) jdk_35_method_24_code (3 : Nat) (Option.some (Jvm.ClassFile.FieldType.object "java/lang/Long")), Jvm.Cond.code ({ cls := "java/lang/Long", name := "<init>", desc := "(J)V" } : Jvm.MethodName) jdk_35_method_26_code (3 : Nat) (Option.none : Option Jvm.ClassFile.FieldType), Jvm.Cond.code ({ cls := "java/lang/Number", name := "<init>", desc := "()V" } : Jvm.MethodName) jdk_18_method_1_code (1 : Nat) (Option.none : Option Jvm.ClassFile.FieldType)]
set_option maxRecDepth 65536 in
theorem codes_eq : words1.filter isCode = codes1 := rfl
theorem w_codes : ∀ c ∈ words1.filter isCode, c.before args0 about1 = true := by
  rw [codes_eq]
  intro c hc
  simp only [codes1, List.mem_cons, List.not_mem_nil, or_false] at hc
  rcases hc with rfl | rfl | rfl | rfl | rfl | rfl | rfl | rfl
  · exact w_c0
  · exact w_c1
  · exact w_c2
  · exact w_c3
  · exact w_c4
  · exact w_c5
  · exact w_c6
  · exact w_c7
set_option maxRecDepth 65536 in
theorem w_t1 : (words1.take 24).all (fun c => isCode c || c.before args0 about1) = true := by decide +kernel
set_option maxRecDepth 65536 in
theorem w_t2 : ((words1.drop 24).take 24).all (fun c => isCode c || c.before args0 about1) = true := by decide +kernel
set_option maxRecDepth 65536 in
theorem w_t3 : ((words1.drop 24).drop 24).all (fun c => isCode c || c.before args0 about1) = true := by decide +kernel
theorem w_tables : (allAtoms (Jvm.Cond.code x code maxLocals ret :: tables_1)).before args0 about1 = true := by
  rw [allAtoms_all]
  show words1.all (fun c => c.before args0 about1) = true
  refine all_split ?_ w_codes
  rw [← List.take_append_drop 24 words1, List.all_append, w_t1, ← List.take_append_drop 24 (words1.drop 24), List.all_append, w_t2, w_t3]
  rfl
set_option maxRecDepth 65536 in
theorem w_rest : rest_1_c.before args0 about1 = true := by decide +kernel
set_option maxRecDepth 65536 in
theorem w_case : (Jvm.Cond.and given_1 narrow_1).before args0 about1 = true := by decide +kernel
theorem w_applies : (headSpec (Jvm.Cond.code x code maxLocals ret :: tables_1) room_1).applies x e0.platform about1 = true :=
  (Spec.applies_iff w_frames).mpr ⟨w_running, w_runnable, w_alone, w_named, w_hears, w_ripe, w_room, w_tables⟩
theorem atStart : AtStart classFile x code maxLocals ret World_1 tables_1 room_1 Calls_1 rest_1 Pre_1 launch0 p0 e0 about1 theMethod args0 below0 :=
  ⟨lists_1, trivial, launch0.admits_env _ _ _, launch0.least_env, fairChoices_fair.cas, fairChoices_fair.clock, w_frames, w_args, w_heap, w_applies, trivial, w_rest, w_case⟩
end start1
theorem witness_1 : WitnessClaimed_1 := ⟨start1.p0, start1.e0, start1.about1, start1.theMethod, start1.args0, start1.below0, start1.atStart⟩
end Jvm.Pilot.@@N@@
