import JvmDerived
import JvmDerived.Pilot.@@N@@Statement
import JvmDerived.Pilot.@@N@@Code
set_option linter.unusedVariables false
set_option linter.unusedSimpArgs false
namespace Jvm.RoadKit
open Sem ClassFile Op Lib Jvm.Stand Jvm.Free Jvm.LawKit
section New
variable {p : Program} {l : Launch} {e : Env} {R : Room} {s : State} {m : MethodId} {args : Array Value} {below : List Frame} {meth : Method} {c : Code} {T : State} {locs : List Loc} {cells slots : Nat}
theorem retI (X : Stand p l e R s m args below meth c T locs cells slots) (hx : p.tables.exec = Jvm.exec) {pc : Nat} {Ls : Array Slot} {z : Int32} {rest : List Value} (hret : meth.sig.returnType = some .int) (hd : decode c.code pc = .ok (.ireturn, 1)) {fs : List Frame}
    (hl : ∀ (f : JFrame) (acts : List Action), f.method = m → f.locked = none → f.entered = [] → (doReturn e (T.setTop f) acts (some (.int z))).1 = T.setFrames fs) : Steps p.tables e below (T.setTop (mkF m pc Ls (.int z :: rest))) (T.setFrames fs) := by
  have hm' : T.vm.method? m = some meth := X.method'
  have hn : narrow .int (.int z) = .int z := rfl
  show Steps p.tables e below (T.setTop { method := m, pc := pc, locals := Ls, stack := _ :: rest, locked := none }) _
  jvm_step X.here [X.here.top, hx, hd, hm', hret, hn]
  first | (intro acts; rw [hl _ acts rfl rfl rfl]) | rw [hl _ _ rfl rfl rfl]
  exact Steps.refl _
end New
end Jvm.RoadKit
namespace Jvm.Pilot.@@N@@
open Jvm Jvm.ClassFile Sem Op Lib Jvm.Free Jvm.Stand Jvm.LawKit Jvm.RoadKit Bundle Jvm.Pilot.@@N@@.Jvm.D
theorem own_w {a0 : Array Value} {Z : State} (hw : ∀ d ∈ tables_1, d.before a0 Z = true) (i : Nat) {d : Jvm.Cond} (h : tables_1[i]? = some d) : d.before a0 Z = true := hw d (List.mem_of_getElem? h)
/-- from U the run comes to the method's end, and Q holds there -/
def own_Go (tb : Tables) (e : Env) (below : List Frame) (s : State) (C N : Nat) (Q : Option Value → Heap → List Loc → Prop) (U : State) : Prop :=
  ∃ t o, Steps tb e below U t ∧ t.status = .running ∧ Ended t below o ∧ ∃ v L, o = .returned v ∧ Q v t.heap L ∧ FrameEnd s o t L C N
theorem own_step {tb : Tables} {e : Env} {below : List Frame} {s : State} {C N : Nat} {Q : Option Value → Heap → List Loc → Prop} {U U' : State} (h : ∀ t, Steps tb e below U' t → Steps tb e below U t) (k : own_Go tb e below s C N Q U') : own_Go tb e below s C N Q U := by
  obtain ⟨t, o, h1, h2⟩ := k
  exact ⟨t, o, h t h1, h2⟩
theorem own_steps {tb : Tables} {e : Env} {below : List Frame} {s : State} {C N : Nat} {Q : Option Value → Heap → List Loc → Prop} {U U' : State} (h : Steps tb e below U U') (k : own_Go tb e below s C N Q U') : own_Go tb e below s C N Q U := own_step (fun _ q => h.trans q) k
theorem own_out {p : Program} {l : Launch} {e : Env} {R : Room} {s : State} {m : MethodId} {args : Array Value} {below : List Frame} {meth : Method} {c : Code} {T : State} {locs : List Loc} {cells slots : Nat} (X : Stand p l e R s m args below meth c T locs cells slots) {v : Option Value}
    (hlk : meth.locks = false) (hv : meth.sig.returnType = none → v = none) {C N : Nat} {Q : Option Value → Heap → List Loc → Prop} (hQ : Q v T.heap locs) (hC : cells ≤ C) (hN : slots ≤ N) {U : State}
    (k : ∀ fs, (∀ (f : JFrame) (acts : List Action), f.method = m → f.locked = none → f.entered = [] → (doReturn e (T.setTop f) acts v).1 = T.setFrames fs) → Steps p.tables e below U (T.setFrames fs)) : own_Go p.tables e below s C N Q U := by
  obtain ⟨fs, hr, hrun, hended, hW, hsame⟩ := X.leave hv hlk
  exact ⟨_, _, k fs hr, hrun, hended, _, _, rfl, hQ, ⟨_, rfl⟩, hW, hsame.mono hC hN⟩
theorem own_exaP {Z : State} {h : Heap} {a : Addr} {C : String} (E : Exa Z h a C) : ∀ c : Cell, h[a]? = some c → c.vm.isStatics = false := fun c hc => by
  obtain ⟨cell, k, h1, -, -, h4, -⟩ := E
  cases h1.symm.trans hc; exact h4
theorem own_staK {Z : State} {h h' : Heap} {C n d : String} {v : Value} {ws : List Addr} (S : Sta Z h C n d v) (K : Keep h h' ws) (q : ∀ w ∈ ws, ∀ c : Cell, h[w]? = some c → c.vm.isStatics = false) : Sta Z h' C n d v := by
  obtain ⟨cf, i, k, f, st, cell, h1, h2, h3, h4, h5, h6, h7⟩ := S
  exact ⟨cf, i, k, f, st, cell, h1, h2, h3, h4, K.2.1 st cell h5 (fun z => by have := q st z cell h5; rw [h6] at this; cases this), h6, h7⟩
theorem own_anyF {Z : State} {a0 : Array Value} {h : Heap} {a : Addr} {C O n d O' n' d' : String} {v' : Value} {k : Nat} (E : Exa Z h a C) (F : Fld Z h a O' n' d' v') (wi : (Cond.instantiable C k).before a0 Z = true) (L : Laid Z a0 C O n d) : ∃ v, Fld Z h a O n d v :=
  fld_laid E (by obtain ⟨cell, _, _, _, _, h1, _, _, h4, _⟩ := F; exact ⟨cell, h1, h4⟩) wi L
theorem own_nv {meth : Method} {t : FieldType} (h : meth.sig.returnType = some t) {v : Option Value} : meth.sig.returnType = none → v = none := fun q => by rw [h] at q; cases q
theorem pd__JI_I : parseMethodDescriptor "(JI)I" = some ⟨[.long, .int], some .int⟩ := by decide +kernel
theorem pd__JJ_J : parseMethodDescriptor "(JJ)J" = some ⟨[.long, .long], some .long⟩ := by decide +kernel
theorem pd__I_V : parseMethodDescriptor "(I)V" = some ⟨[.int], none⟩ := by decide +kernel
theorem d3_0 : decode jdk_29_method_70_code 0 = .ok (.lload_n 0, 1) := by decide +kernel
theorem d3_1 : decode jdk_29_method_70_code 1 = .ok (.lload_n 2, 1) := by decide +kernel
theorem d3_2 : decode jdk_29_method_70_code 2 = .ok (.lcmp, 1) := by decide +kernel
theorem d3_3 : decode jdk_29_method_70_code 3 = .ok (.ifCond .gt 7, 3) := by decide +kernel
theorem d3_6 : decode jdk_29_method_70_code 6 = .ok (.lload_n 0, 1) := by decide +kernel
theorem d3_7 : decode jdk_29_method_70_code 7 = .ok (.goto 4, 3) := by decide +kernel
theorem d3_10 : decode jdk_29_method_70_code 10 = .ok (.lload_n 2, 1) := by decide +kernel
theorem d3_11 : decode jdk_29_method_70_code 11 = .ok (.lreturn, 1) := by decide +kernel
theorem ef_3 (m : MethodId) (q0 : Int64) (q1 : Int64) : entryFrame m #[(.long q0), (.long q1)] 4 = mkF m 0 #[.val (.long q0), .second, .val (.long q1), .second] [] := by first | (simp [entryFrame, mkF, argsToLocals, Value.category]; done) | rfl
def F3 (q0 : Int64) (q1 : Int64) : Int64 :=
  if q1 < q0 then
    q1
  else
    q0
def Q3 (Z : State) (q0 : Int64) (q1 : Int64) (h0 : Heap) (n0 : Nat) (v : Option Value) (h : Heap) (L : List Loc) : Prop := v = some (.long (F3 q0 q1)) ∧ Fr n0 L ∧ h = h0
set_option maxRecDepth 65536 in
set_option maxHeartbeats 40000000 in
theorem rm3 (l : Launch) (Z : State) (a0 : Array Value) (hw : ∀ d ∈ tables_1, d.before a0 Z = true) (ws : List Jvm.Cond) (q0 : Int64) (q1 : Int64) (h0 : Heap) (n0 : Nat) (Z0 : n0 ≤ h0.size) :
    MetFree l (⟨"java/lang/Math", "min", "(JJ)J"⟩ : MethodName) (head1 (Jvm.Cond.code (⟨"java/lang/Math", "min", "(JJ)J"⟩ : MethodName) jdk_29_method_70_code 4 (some .long) :: ws) ({ frames := 0, cells := 0, slots := 0, locals := 0 } : Room)) (fun a U => a = #[(.long q0), (.long q1)] ∧ Z.Warmed39 U.vm ∧ U.heap = h0) (fun _ _ _ _ _ => True) (fun _ U o U' => ∃ v L, o = .returned v ∧ Q3 Z q0 q1 h0 n0 v U'.heap L ∧ FrameEnd U o U' L ({ frames := 0, cells := 0, slots := 0, locals := 0 } : Room).cells ({ frames := 0, cells := 0, slots := 0, locals := 0 } : Room).slots) := by
  refine MetFree.of_bodySF (Jvm.Free.JP.mathPlain rfl (by decide +kernel)) hisR ?_
  intro p e s m args below meth c s₁ Bd hml0 hP hK
  obtain ⟨rfl, hZ, hh⟩ := hP
  have hx := Bd.exec
  have hby := Bd.bytes
  have hml : c.maxLocals = 4 := hml0
  have hown : s.vm.findClass "java/lang/Math" = some m.cls := findClass_of_methodNamed Bd.named
  have hnm := (name_of_methodNamed Bd.named Bd.method).1
  have hlk : meth.locks = false := Bd.notSynchronized
  have X0 : Stand p l e ({ frames := 0, cells := 0, slots := 0, locals := 0 } : Room) s m #[(.long q0), (.long q1)] below meth c s₁ [] 0 0 := Stand.of_body Bd
  have e0 : s₁.heap = h0 := by rw [← hh, Bd.state]; rfl
  have N0 := Fr.nil n0
  have KK0 := Keep.refl h0 []
  show own_Go p.tables e below s 0 0 (Q3 Z q0 q1 h0 n0) (s₁.setTop (entryFrame m #[(.long q0), (.long q1)] 4))
  rw [ef_3]
  refine own_step (U' := s₁.setTop (mkF m 3 #[.val (.long q0), .second, .val (.long q1), .second] [(.int (lcmpW q0 q1))])) (fun t k => XS.lloadN X0.here hx rfl (hb hby d3_0) rfl (XS.lloadN X0.here hx rfl (hb hby d3_1) rfl (XS.lcmp X0.here hx rfl (hb hby d3_2) rfl k))) ?_
  by_cases hc3_1 : q1 < q0
  · refine own_step (U' := s₁.setTop (mkF m 11 #[.val (.long q0), .second, .val (.long q1), .second] [(.long q1)])) (fun t k => XS.ifYes X0.here hx rfl (pc0 := 3) (pc' := 10) rfl (hb hby d3_3) rfl ((if0 _ _).trans (tlt ((lw_gt q0 q1).mpr hc3_1)).2.2.1) (by decide) (by decide) (XS.lloadN X0.here hx rfl (hb hby d3_10) rfl k)) ?_
    exact own_out X0 (v := (some (.long q1))) hlk (own_nv Bd.returns) (by rw [e0]; exact ⟨by rw [show (F3 q0 q1) = q1 from (by simp only [F3, if_pos hc3_1])], N0, rfl⟩) (by decide) (by decide) (fun fs hr => X0.lreturnOut hx Bd.returns (hb hby d3_11) hr)
  · refine own_step (U' := s₁.setTop (mkF m 11 #[.val (.long q0), .second, .val (.long q1), .second] [(.long q0)])) (fun t k => XS.ifNo X0.here hx rfl (hb hby d3_3) rfl ((if0 _ _).trans (flt (mt (lw_gt q0 q1).mp hc3_1)).2.2.1) (XS.lloadN X0.here hx rfl (hb hby d3_6) rfl (XS.goto X0.here hx rfl (pc0 := 7) (pc' := 11) rfl (hb hby d3_7) (by decide) (by decide) k))) ?_
    exact own_out X0 (v := (some (.long q0))) hlk (own_nv Bd.returns) (by rw [e0]; exact ⟨by rw [show (F3 q0 q1) = q0 from (by simp only [F3, if_neg hc3_1])], N0, rfl⟩) (by decide) (by decide) (fun fs hr => X0.lreturnOut hx Bd.returns (hb hby d3_11) hr)
theorem d2_0 : decode prog_4_method_8_code 0 = .ok (.iload_n 0, 1) := by decide +kernel
theorem d2_1 : decode prog_4_method_8_code 1 = .ok (.iconst 1, 1) := by decide +kernel
theorem d2_2 : decode prog_4_method_8_code 2 = .ok (.if_icmp .ge 17, 3) := by decide +kernel
theorem d2_19 : decode prog_4_method_8_code 19 = .ok (.return_, 1) := by decide +kernel
theorem pn_2 : plainName "com/example/which_bucket/whichbucket/WhichBucket" = true := by first | (simp [plainName, overriddenIn]; done) | decide +kernel
theorem ef_2 (m : MethodId) (p0 : Int32) : entryFrame m #[(.int p0)] 1 = mkF m 0 #[iv p0] [] := by first | (simp [entryFrame, mkF, argsToLocals, Value.category]; done) | rfl
def Q2 (Z : State) (p0 : Int32) (h0 : Heap) (n0 : Nat) (v : Option Value) (h : Heap) (L : List Loc) : Prop := v = none ∧ Fr n0 L ∧ h = h0
set_option maxRecDepth 65536 in
set_option maxHeartbeats 40000000 in
theorem rm2 (l : Launch) (Z : State) (a0 : Array Value) (hw : ∀ d ∈ tables_1, d.before a0 Z = true) (ws : List Jvm.Cond) (p0 : Int32) (h0 : Heap) (n0 : Nat) (Z0 : n0 ≤ h0.size) (hge : ¬ p0 < (1 : Int32)) :
    MetFree l (⟨"com/example/which_bucket/whichbucket/WhichBucket", "requireBucketCount", "(I)V"⟩ : MethodName) (head1 (Jvm.Cond.code (⟨"com/example/which_bucket/whichbucket/WhichBucket", "requireBucketCount", "(I)V"⟩ : MethodName) prog_4_method_8_code 1 none :: ws) ({ frames := 0, cells := 0, slots := 0, locals := 0 } : Room)) (fun a U => a = #[(.int p0)] ∧ Z.Warmed39 U.vm ∧ U.heap = h0) (fun _ _ _ _ _ => True) (fun _ U o U' => ∃ v L, o = .returned v ∧ Q2 Z p0 h0 n0 v U'.heap L ∧ FrameEnd U o U' L ({ frames := 0, cells := 0, slots := 0, locals := 0 } : Room).cells ({ frames := 0, cells := 0, slots := 0, locals := 0 } : Room).slots) := by
  refine MetFree.of_bodySF (plainFor_of_name pn_2) hisR ?_
  intro p e s m args below meth c s₁ Bd hml0 hP hK
  obtain ⟨rfl, hZ, hh⟩ := hP
  have hx := Bd.exec
  have hby := Bd.bytes
  have hml : c.maxLocals = 1 := hml0
  have hown : s.vm.findClass "com/example/which_bucket/whichbucket/WhichBucket" = some m.cls := findClass_of_methodNamed Bd.named
  have hnm := (name_of_methodNamed Bd.named Bd.method).1
  have hlk : meth.locks = false := Bd.notSynchronized
  have X0 : Stand p l e ({ frames := 0, cells := 0, slots := 0, locals := 0 } : Room) s m #[(.int p0)] below meth c s₁ [] 0 0 := Stand.of_body Bd
  have e0 : s₁.heap = h0 := by rw [← hh, Bd.state]; rfl
  have N0 := Fr.nil n0
  have KK0 := Keep.refl h0 []
  show own_Go p.tables e below s 0 0 (Q2 Z p0 h0 n0) (s₁.setTop (entryFrame m #[(.int p0)] 1))
  rw [ef_2]
  refine own_step (U' := s₁.setTop (mkF m 19 #[iv p0] [])) (fun t k => XS.iloadN X0.here hx rfl (hb hby d2_0) rfl (XS.iconst X0.here hx rfl (hb hby d2_1) (XS.icmpYes X0.here hx rfl (pc0 := 2) (pc' := 19) rfl (hb hby d2_2) rfl (flt hge).2.1 (by decide) (by decide) k))) ?_
  exact own_out X0 (v := none) hlk (fun _ => rfl) (by rw [e0]; exact ⟨rfl, N0, rfl⟩) (by decide) (by decide) (fun fs hr => X0.returnOut hx Bd.returns (hb hby d2_19) hr)
section OwnFP
open Jvm.FP.Core (Datum fits Fmt b64 val64 nearest roundRatio roundAt quantum settle bound leading unitsNum unitsDen Below truncate signed Whole)
theorem own_pw2 (a b : Nat) : 2 ^ (a + b) = 2 ^ a * 2 ^ b := Nat.pow_add 2 a b
def own_atL (M : Nat) : Datum → Prop
  | .nan => False
  | .inf s => s = false
  | .fin s c q => s = false ∧ M * 2 ^ (-q).toNat ≤ c * 2 ^ q.toNat
theorem own_pw {X Y a a' b d d' b' : Nat} (h : X * 2 ^ a ≤ Y * 2 ^ a') (k : b + d + a' = a + d' + b') : X * 2 ^ (b + d) ≤ Y * 2 ^ (d' + b') := by
  apply Nat.le_of_mul_le_mul_right (c := 2 ^ a') _ (Nat.two_pow_pos _)
  calc X * 2 ^ (b + d) * 2 ^ a' = X * 2 ^ a * 2 ^ (d' + b') := by
        rw [Nat.mul_assoc, ← own_pw2, Nat.mul_assoc, ← own_pw2, show b + d + a' = a + (d' + b') by omega]
    _ ≤ Y * 2 ^ a' * 2 ^ (d' + b') := Nat.mul_le_mul_right _ h
    _ = Y * 2 ^ (d' + b') * 2 ^ a' := by rw [Nat.mul_assoc, Nat.mul_comm (2 ^ a'), ← Nat.mul_assoc]
theorem own_rr_ge {A B : Nat} {e : Int} {M : Nat} (hA : 0 < A) (hB : 0 < B) (hM : M ≤ 9007199254740992) (h : M * B * 2 ^ (-e).toNat ≤ A * 2 ^ e.toNat) : own_atL M (roundRatio b64 false A B e) := by
  have hqm : b64.qmin = -1074 := by decide
  have hp : b64.p = 53 := rfl
  have h53 : (2 : Nat) ^ 53 = 9007199254740992 := by decide
  have h52 : (2 : Nat) ^ 52 = 4503599627370496 := by decide
  have ht : b64.tails = 4503599627370496 := by decide
  unfold roundRatio; rw [if_neg (by omega)]
  unfold roundAt
  have hle := FP.Core.nearest_units_le (f := b64) hA hB e
  have hnb := FP.Core.quantum_not_below (f := b64) hA hB e
  generalize quantum b64 A B e = q at hle hnb ⊢
  have hc : M * 2 ^ (-q).toNat ≤ nearest (unitsNum A e q) (unitsDen B e q) * 2 ^ q.toNat := by
    by_cases hq : q ≤ 0
    · rw [show q.toNat = 0 by omega, Nat.pow_zero, Nat.mul_one]
      apply FP.Core.nearest_ge (FP.Core.unitsDen_pos hB e q)
      unfold unitsNum unitsDen
      have g := own_pw (b := (-q).toNat) (d := (q - e).toNat) (d' := (e - q).toNat) (b' := 0) h (by omega)
      calc M * 2 ^ (-q).toNat * (B * 2 ^ (q - e).toNat) = M * B * 2 ^ ((-q).toNat + (q - e).toNat) := by rw [own_pw2]; ac_rfl
        _ ≤ A * 2 ^ ((e - q).toNat + 0) := g
        _ = _ := by rw [Nat.add_zero]
    · rcases hnb with hnb | hnb
      · omega
      · rw [show ((b64.p : Int) - 1) = ((52 : Nat) : Int) by decide, ← FP.Core.units_below] at hnb
        have h1 := FP.Core.nearest_ge (FP.Core.unitsDen_pos hB e q) (Nat.le_of_not_lt hnb)
        rw [show (-q).toNat = 0 by omega, Nat.pow_zero, Nat.mul_one]
        obtain ⟨k, hk⟩ : ∃ k, q.toNat = k + 1 := ⟨q.toNat - 1, by omega⟩
        rw [hk, Nat.pow_succ]
        have hpos := Nat.two_pow_pos k
        have : 2 ^ 52 * 2 ≤ nearest (unitsNum A e q) (unitsDen B e q) * (2 ^ k * 2) := Nat.mul_le_mul h1 (by omega)
        omega
  generalize nearest (unitsNum A e q) (unitsDen B e q) = c at hle hc
  unfold settle
  rw [hp] at hle ⊢
  by_cases h1 : c < 2 ^ 53
  · rw [if_pos h1]; unfold bound
    split
    · exact ⟨rfl, hc⟩
    · exact rfl
  · rw [if_neg h1]; unfold bound
    have hce : c = 9007199254740992 := by omega
    split
    · refine ⟨rfl, ?_⟩
      rw [hce] at hc; rw [ht]
      by_cases hq : 0 ≤ q
      · rw [show (-q).toNat = 0 by omega] at hc
        rw [show (-(q + 1)).toNat = 0 by omega, show (q + 1).toNat = q.toNat + 1 by omega, Nat.pow_succ]
        omega
      · rw [show q.toNat = 0 by omega, show (-q).toNat = (-(q + 1)).toNat + 1 by omega, Nat.pow_succ] at hc
        rw [show (q + 1).toNat = 0 by omega]
        generalize 2 ^ (-(q + 1)).toNat = y at hc ⊢
        rw [← Nat.mul_assoc] at hc
        omega
    · exact rfl
theorem own_q31 {x : Nat} (h1 : 1 ≤ x) (h2 : x ≤ 2147483648) : ∃ c q, roundRatio b64 false 2147483648 x 0 = .fin false c q ∧ truncate false c q = ((2147483648 / x : Nat) : Int) := by
  have hqm : b64.qmin = -1074 := by decide
  have hqx : b64.qmax = 971 := by decide
  have hp : b64.p = 53 := rfl
  have h53 : (2 : Nat) ^ 53 = 9007199254740992 := by decide
  have h52 : (2 : Nat) ^ 52 = 4503599627370496 := by decide
  have ht : b64.tails = 4503599627370496 := by decide
  have hA : 0 < 2147483648 := by decide
  have hB : 0 < x := h1
  obtain ⟨l1, l2⟩ := FP.Core.leading_spec hA hB
  have hle := FP.Core.nearest_units_le (f := b64) hA hB 0
  unfold roundRatio; rw [if_neg (by decide)]
  unfold roundAt
  have hQ : quantum b64 2147483648 x 0 = leading 2147483648 x - 52 := by
    unfold quantum
    have k0 : 0 ≤ leading 2147483648 x := by
      refine Int.not_lt.mp fun hk => ?_
      unfold Below at l2
      rw [show (leading 2147483648 x + 1).toNat = 0 by omega] at l2
      have := Nat.two_pow_pos (-(leading 2147483648 x + 1)).toNat
      omega
    rw [hqm, hp]; omega
  rw [hQ] at hle ⊢
  generalize leading 2147483648 x = k at l1 l2 hle hQ ⊢
  have k0 : 0 ≤ k := by
    refine Int.not_lt.mp fun hk => ?_
    unfold Below at l2
    rw [show (k + 1).toNat = 0 by omega] at l2
    have := Nat.two_pow_pos (-(k + 1)).toNat
    omega
  unfold Below at l1
  rw [show (-k).toNat = 0 by omega, Nat.pow_zero, Nat.mul_one] at l1
  have l1 := Nat.le_of_not_lt l1
  obtain ⟨n, hn⟩ : ∃ n : Nat, k = (n : Int) := ⟨k.toNat, by omega⟩
  subst hn
  rw [show ((n : Int)).toNat = n by omega] at l1
  have hn31 : n ≤ 31 := by
    refine Nat.le_of_not_lt fun hh => ?_
    have e1 : 2 ^ 32 ≤ 2 ^ n := Nat.pow_le_pow_right (by decide) (by omega)
    have e2 : 1 * 2 ^ n ≤ x * 2 ^ n := Nat.mul_le_mul_right _ h1
    omega
  unfold unitsNum unitsDen at hle ⊢
  rw [show ((0 : Int) - ((n : Int) - 52)).toNat = 52 - n by omega, show ((n : Int) - 52 - 0).toNat = 0 by omega, Nat.pow_zero, Nat.mul_one] at hle ⊢
  have hP : 2 ^ (52 - n) * 2 ^ n = 4503599627370496 := by rw [← own_pw2, show 52 - n + n = 52 by omega]
  have hxP : x < 2 ^ (52 - n) := by
    apply Nat.lt_of_mul_lt_mul_right (a := 2 ^ n)
    omega
  obtain ⟨P, hPe⟩ : ∃ P, P = 2 ^ (52 - n) := ⟨_, rfl⟩
  rw [← hPe] at hle hP hxP ⊢
  have hnear := (FP.Core.nearest_spec (2147483648 * P) x hB).2.1
  have hM1 : 2147483648 / x * x ≤ 2147483648 := Nat.div_mul_le_self _ _
  have hM2 : 2147483648 < (2147483648 / x + 1) * x := by
    have := Nat.lt_mul_div_succ 2147483648 hB
    rw [Nat.mul_comm]; exact this
  generalize 2147483648 / x = M at hM1 hM2 ⊢
  have hlo : M * P ≤ nearest (2147483648 * P) x := by
    apply FP.Core.nearest_ge hB
    calc M * P * x = M * x * P := by ac_rfl
      _ ≤ 2147483648 * P := Nat.mul_le_mul_right _ hM1
  generalize nearest (2147483648 * P) x = c at hle hnear hlo ⊢
  have hhi : c < (M + 1) * P := by
    refine Nat.lt_of_not_le fun hh => ?_
    have e1 : (M + 1) * P * x ≤ c * x := Nat.mul_le_mul_right _ hh
    have e2 : (2147483648 + 1) * P ≤ (M + 1) * x * P := Nat.mul_le_mul_right _ hM2
    have e3 : (M + 1) * P * x = (M + 1) * x * P := by ac_rfl
    have e4 : 2 * c * x = 2 * (c * x) := by rw [Nat.mul_assoc]
    omega
  have hPpos : 0 < P := by omega
  have hdiv : c / P = M := by
    apply Nat.div_eq_of_lt_le
    · exact hlo
    · exact hhi
  unfold settle
  rw [hp] at hle ⊢
  by_cases hc : c < 2 ^ 53
  · rw [if_pos hc]; unfold bound; rw [if_pos (by omega)]
    refine ⟨c, _, rfl, ?_⟩
    unfold truncate signed
    rw [show ((n : Int) - 52).toNat = 0 by omega, show (-((n : Int) - 52)).toNat = 52 - n by omega, ← hPe, Nat.pow_zero, Nat.mul_one, hdiv]; rfl
  · rw [if_neg hc]; unfold bound; rw [if_pos (by omega)]
    have hce : c = 9007199254740992 := by omega
    refine ⟨_, _, rfl, ?_⟩
    unfold truncate signed
    rw [show ((n : Int) - 52 + 1).toNat = 0 by omega, show (-((n : Int) - 52 + 1)).toNat = 51 - n by omega, Nat.pow_zero, Nat.mul_one, ht]
    rw [show 52 - n = (51 - n) + 1 by omega, Nat.pow_succ] at hPe
    rw [hce, hPe, show 9007199254740992 = 4503599627370496 * 2 by decide, Nat.mul_div_mul_right _ _ (by decide : 0 < 2)] at hdiv
    rw [hdiv]; rfl
theorem own_fin {v : Int64} (h1 : 1 ≤ v.toInt) (h2 : v.toInt ≤ 2147483648) : ∃ c q, val64 (FP.l2d v) = .fin false c q ∧ c * 2 ^ q.toNat = v.toInt.toNat * 2 ^ (-q).toNat ∧ 0 < c := by
  have W := FP.Core.l2d_int (a := v) (by have : (2 : Nat) ^ 53 = 9007199254740992 := by decide
                                         omega)
  unfold FP.Core.DInt at W
  show ∃ c q, val64 (FP.Core.l2d v) = .fin false c q ∧ c * 2 ^ q.toNat = v.toInt.toNat * 2 ^ (-q).toNat ∧ 0 < c
  generalize val64 (FP.Core.l2d v) = d at W ⊢
  cases d with
  | nan => exact W.elim
  | inf s => exact W.elim
  | fin s c q =>
    have hs := FP.Core.whole_sign W (by omega)
    have hz := FP.Core.whole_zero W
    have hs' : s = false := by rw [hs]; exact decide_eq_false (by omega)
    subst hs'
    refine ⟨c, q, rfl, ?_, ?_⟩
    · have e : ((c * 2 ^ q.toNat : Nat) : Int) = v.toInt * ((2 ^ (-q).toNat : Nat) : Int) := W
      have e2 : v.toInt = ((v.toInt.toNat : Nat) : Int) := by omega
      rw [e2, ← Int.natCast_mul] at e
      exact Int.ofNat.inj e
    · refine Nat.pos_of_ne_zero fun h0 => ?_
      have := hz.mp h0; omega
theorem own_div {v : Int64} (h1 : 1 ≤ v.toInt) (h2 : v.toInt ≤ 2147483648) : ∃ c q, val64 (FP.ddiv 4746794007248502784 (FP.l2d v)) = .fin false c q ∧ truncate false c q = ((2147483648 / v.toInt.toNat : Nat) : Int) := by
  obtain ⟨d, r, hv, he, hd⟩ := own_fin h1 h2
  have hq := own_q31 (x := v.toInt.toNat) (by omega) (by omega)
  have hc : val64 4746794007248502784 = .fin false 4503599627370496 (-21) := by decide +kernel
  show ∃ c q, val64 (FP.Core.ddiv 4746794007248502784 (FP.l2d v)) = .fin false c q ∧ _
  rw [FP.Core.val64_ddiv, hc, hv]
  unfold FP.Core.quotient
  simp only []
  rw [if_neg (by omega)]
  have hx0 : 0 < v.toInt.toNat := by omega
  rw [show (false != false) = false from rfl, FP.Core.roundRatio_congr (A' := 2147483648) (B' := v.toInt.toNat) (e' := 0) hd hx0 ?_]
  · exact hq
  · generalize v.toInt.toNat = x at he
    apply Nat.eq_of_mul_eq_mul_right (Nat.two_pow_pos (-r).toNat)
    have e52 : (4503599627370496 : Nat) = 2 ^ 52 := by decide
    have e31 : (2147483648 : Nat) = 2 ^ 31 := by decide
    calc 4503599627370496 * x * 2 ^ (-21 - r - 0).toNat * 2 ^ (-r).toNat = 2 ^ 52 * 2 ^ (-21 - r - 0).toNat * (x * 2 ^ (-r).toNat) := by rw [e52]; ac_rfl
      _ = 2 ^ 52 * 2 ^ (-21 - r - 0).toNat * (d * 2 ^ r.toNat) := by rw [he]
      _ = d * 2 ^ (52 + (-21 - r - 0).toNat + r.toNat) := by rw [own_pw2, own_pw2]; ac_rfl
      _ = d * 2 ^ (31 + (0 - (-21 - r)).toNat + (-r).toNat) := by rw [show 52 + (-21 - r - 0).toNat + r.toNat = 31 + (0 - (-21 - r)).toNat + (-r).toNat by omega]
      _ = 2147483648 * d * 2 ^ (0 - (-21 - r)).toNat * 2 ^ (-r).toNat := by rw [e31, own_pw2, own_pw2]; ac_rfl
theorem own_toL {d : Datum} {z : Int} (h : FP.Core.toInt (-2 ^ 63) (2 ^ 63 - 1) d = z) (h1 : 0 ≤ z) (h2 : z ≤ 9223372036854775807) : (FP.Core.toL d).toInt = z := by
  unfold FP.Core.toL; rw [h]
  exact Int64.toInt_ofInt_of_le (by omega) (by omega)
theorem own_first1 {v : Int64} (h1 : 1 ≤ v.toInt) (h2 : v.toInt ≤ 2147483648) : (FP.d2l (FP.dmul (FP.l2d 1) (FP.ddiv 4746794007248502784 (FP.l2d v)))).toInt = ((2147483648 / v.toInt.toNat : Nat) : Int) := by
  obtain ⟨c, q, hv, ht⟩ := own_div h1 h2
  have e1 : FP.Core.l2d 1 = FP.Core.dconst1 := by decide +kernel
  show (FP.Core.d2l (FP.Core.dmul (FP.Core.l2d 1) (FP.ddiv 4746794007248502784 (FP.l2d v)))).toInt = _
  rw [e1, FP.Core.dmul_comm, FP.Core.dmul_one (by rw [hv]; exact fun h => by cases h)]
  show (FP.Core.toL (val64 (FP.ddiv 4746794007248502784 (FP.l2d v)))).toInt = _
  have hb : 2147483648 / v.toInt.toNat ≤ 2147483648 := Nat.div_le_self _ _
  generalize 2147483648 / v.toInt.toNat = M at hb ht
  apply own_toL
  · rw [hv]; show max (-2 ^ 63) (min (2 ^ 63 - 1) (truncate false c q)) = _; rw [ht]; omega
  · omega
  · omega
theorem own_prod {b v : Int64} (b1 : 1 ≤ b.toInt) (b2 : b.toInt ≤ 2147483648) (h1 : 1 ≤ v.toInt) (h2 : v.toInt ≤ 2147483648) : own_atL b.toInt.toNat (val64 (FP.dmul (FP.l2d b) (FP.ddiv 4746794007248502784 (FP.l2d v)))) := by
  obtain ⟨c2, q2, hv, ht⟩ := own_div h1 h2
  obtain ⟨c1, q1, hb, he, hc1⟩ := own_fin b1 b2
  have hge : 2 ^ (-q2).toNat ≤ c2 * 2 ^ q2.toNat := by
    have hM : 1 ≤ 2147483648 / v.toInt.toNat := (Nat.le_div_iff_mul_le (by omega)).mpr (by omega)
    unfold truncate signed at ht
    have ht' : c2 * 2 ^ q2.toNat / 2 ^ (-q2).toNat = 2147483648 / v.toInt.toNat := Int.ofNat.inj ht
    rw [← ht'] at hM
    have := (Nat.le_div_iff_mul_le (Nat.two_pow_pos _)).mp hM
    omega
  have hc2 : 0 < c2 := by
    refine Nat.pos_of_ne_zero fun h0 => ?_
    rw [h0, Nat.zero_mul] at hge
    have := Nat.two_pow_pos (-q2).toNat; omega
  have hval : val64 (FP.dmul (FP.l2d b) (FP.ddiv 4746794007248502784 (FP.l2d v))) = roundRatio b64 false (c1 * c2) 1 (q1 + q2) := by
    show val64 (FP.Core.dmul (FP.l2d b) (FP.ddiv 4746794007248502784 (FP.l2d v))) = _
    rw [FP.Core.val64_dmul, hv, hb]; rfl
  have hL : own_atL b.toInt.toNat (roundRatio b64 false (c1 * c2) 1 (q1 + q2)) := by
    apply own_rr_ge (Nat.mul_pos hc1 hc2) (by decide) (by omega)
    generalize b.toInt.toNat = x at he
    rw [Nat.mul_one]
    apply Nat.le_of_mul_le_mul_right (c := 2 ^ ((-q1).toNat + (-q2).toNat)) _ (Nat.two_pow_pos _)
    calc x * 2 ^ (-(q1 + q2)).toNat * 2 ^ ((-q1).toNat + (-q2).toNat) = x * 2 ^ (-q1).toNat * 2 ^ (-(q1 + q2)).toNat * 2 ^ (-q2).toNat := by rw [own_pw2]; ac_rfl
      _ = c1 * 2 ^ q1.toNat * 2 ^ (-(q1 + q2)).toNat * 2 ^ (-q2).toNat := by rw [he]
      _ ≤ c1 * 2 ^ q1.toNat * 2 ^ (-(q1 + q2)).toNat * (c2 * 2 ^ q2.toNat) := Nat.mul_le_mul_left _ hge
      _ = c1 * c2 * 2 ^ (q1.toNat + (-(q1 + q2)).toNat + q2.toNat) := by rw [own_pw2, own_pw2]; ac_rfl
      _ = c1 * c2 * 2 ^ ((q1 + q2).toNat + ((-q1).toNat + (-q2).toNat)) := by rw [show q1.toNat + (-(q1 + q2)).toNat + q2.toNat = (q1 + q2).toNat + ((-q1).toNat + (-q2).toNat) by omega]
      _ = c1 * c2 * 2 ^ (q1 + q2).toNat * 2 ^ ((-q1).toNat + (-q2).toNat) := by rw [own_pw2 (q1 + q2).toNat]; ac_rfl
  rw [hval]; exact hL
theorem own_notnan {b v : Int64} (b1 : 1 ≤ b.toInt) (b2 : b.toInt ≤ 2147483648) (h1 : 1 ≤ v.toInt) (h2 : v.toInt ≤ 2147483648) : val64 (FP.dmul (FP.l2d b) (FP.ddiv 4746794007248502784 (FP.l2d v))) ≠ .nan := fun h => by
  have g := own_prod b1 b2 h1 h2
  rw [h] at g; exact g
theorem own_step1 {b v : Int64} (b1 : 1 ≤ b.toInt) (b2 : b.toInt ≤ 2147483648) (h1 : 1 ≤ v.toInt) (h2 : v.toInt ≤ 2147483648) : b.toInt ≤ (FP.d2l (FP.dmul (FP.l2d b) (FP.ddiv 4746794007248502784 (FP.l2d v)))).toInt := by
  have hL := own_prod b1 b2 h1 h2
  show b.toInt ≤ (FP.Core.toL (val64 (FP.dmul (FP.l2d b) (FP.ddiv 4746794007248502784 (FP.l2d v))))).toInt
  generalize val64 (FP.dmul (FP.l2d b) (FP.ddiv 4746794007248502784 (FP.l2d v))) = d at hL ⊢
  have key : b.toInt ≤ FP.Core.toInt (-2 ^ 63) (2 ^ 63 - 1) d ∧ FP.Core.toInt (-2 ^ 63) (2 ^ 63 - 1) d ≤ 9223372036854775807 := by
    cases d with
    | nan => exact hL.elim
    | inf s => 
      have hs : s = false := hL
      subst hs
      show b.toInt ≤ (2 ^ 63 - 1 : Int) ∧ (2 ^ 63 - 1 : Int) ≤ 9223372036854775807
      omega
    | fin s c q =>
      obtain ⟨hs, hL⟩ := hL
      subst hs
      have e : (truncate false c q) = ((c * 2 ^ q.toNat / 2 ^ (-q).toNat : Nat) : Int) := rfl
      have hM := (Nat.le_div_iff_mul_le (Nat.two_pow_pos _)).mpr hL
      show b.toInt ≤ max (-2 ^ 63) (min (2 ^ 63 - 1) (truncate false c q)) ∧ max (-2 ^ 63) (min (2 ^ 63 - 1) (truncate false c q)) ≤ 9223372036854775807
      rw [e]; omega
  rw [own_toL rfl (by omega) key.2]; exact key.1
end OwnFP

def own_st (q : Int64) : Nat → Int64
  | 0 => q
  | i + 1 => ((own_st q i * (2862933555777941757 : Int64)) + (1 : Int64))
def own_xx (s : Int64) : Int64 := (((s.toUInt64 >>> ((33 : Int32) &&& 0x3f).toInt64.toUInt64).toInt64) + (1 : Int64))
def own_nx (q : Int64) : Nat → Int64
  | 0 => (0 : Int64)
  | i + 1 => (FP.d2l (FP.dmul (FP.l2d ((own_nx q i) + (1 : Int64))) (FP.ddiv (4746794007248502784 : UInt64) (FP.l2d (own_xx (own_st q (i + 1)))))))
def own_JH (q : Int64) (n : Int32) (bk : Int64) : Prop := ∃ i, bk = own_nx q i ∧ (∀ k, k ≤ i → 0 ≤ (own_nx q k).toInt ∧ (own_nx q k).toInt < n.toInt) ∧ n.toInt ≤ (own_nx q (i + 1)).toInt
def own_Iv (q : Int64) (n : Int32) (i : Nat) (bk : Int64) : Prop := (∀ k, k < i → 0 ≤ (own_nx q k).toInt ∧ (own_nx q k).toInt < n.toInt) ∧ (i ≠ 0 → bk = own_nx q (i - 1))
theorem own_ge1 {n : Int32} (h : 1 ≤ n.toInt) : ¬ n < (1 : Int32) := by
  rw [Int32.lt_iff_toInt_lt, show (1 : Int32).toInt = 1 from rfl]; omega
theorem own_xr {s x : Int64} (h : x = (((s.toUInt64 >>> ((33 : Int32) &&& 0x3f).toInt64.toUInt64).toInt64) + (1 : Int64))) : 1 ≤ x.toInt ∧ x.toInt ≤ 2147483648 := by
  have a := c_lushr s 33 33 (by decide) (by decide)
  have b := c_ladd ((s.toUInt64 >>> ((33 : Int32) &&& 0x3f).toInt64.toUInt64).toInt64) 1
  rw [← h, show (1 : Int64).toInt = 1 from rfl, a] at b
  have r := rng64 x
  have e : ((2 ^ 33 : Nat) : Int) = 8589934592 := by decide
  rw [e] at b
  omega
theorem own_nb {x : Int64} (h0 : 0 ≤ x.toInt) (h : x.toInt < 2147483648) : (x + (1 : Int64)).toInt = x.toInt + 1 := by
  have b := c_ladd x 1
  rw [show (1 : Int64).toInt = 1 from rfl] at b
  have r := rng64 (x + 1)
  omega
theorem own_lt64 {x : Int64} {n : Int32} : x < n.toInt64 ↔ x.toInt < n.toInt := by rw [Int64.lt_iff_toInt_lt, c_i2l]
theorem own_n31 (n : Int32) : n.toInt < 2147483648 := (rng32 n).2
theorem own_br {q : Int64} {n : Int32} {i : Nat} (h0 : 0 ≤ (own_nx q i).toInt) (h : (own_nx q i) < n.toInt64) : 1 ≤ ((own_nx q i) + (1 : Int64)).toInt ∧ ((own_nx q i) + (1 : Int64)).toInt ≤ 2147483648 := by
  have a := own_lt64.mp h; have c := own_n31 n
  rw [own_nb h0 (by omega)]; omega
theorem own_noN {x : UInt64} (h : FP.Core.val64 x ≠ .nan) : Jvm.Free.Fl.NoNaN64 x := Jvm.Free.Fl.noNaN64_no.mpr (decide_eq_false h)
theorem own_nnd {v : Int64} (h1 : 1 ≤ v.toInt) (h2 : v.toInt ≤ 2147483648) : Jvm.Free.Fl.NoNaN64 (FP.ddiv (4746794007248502784 : UInt64) (FP.l2d v)) := by
  obtain ⟨c, q, hv, _⟩ := own_div h1 h2
  exact own_noN (by rw [hv]; exact fun h => by cases h)
theorem own_nnm {b v : Int64} (b1 : 1 ≤ b.toInt) (b2 : b.toInt ≤ 2147483648) (h1 : 1 ≤ v.toInt) (h2 : v.toInt ≤ 2147483648) : Jvm.Free.Fl.NoNaN64 (FP.dmul (FP.l2d b) (FP.ddiv (4746794007248502784 : UInt64) (FP.l2d v))) :=
  own_noN (own_notnan b1 b2 h1 h2)
theorem own_mono {q : Int64} {i : Nat} (h0 : 0 ≤ (own_nx q i).toInt) (h : (own_nx q i).toInt < 2147483648) : (own_nx q i).toInt + 1 ≤ (own_nx q (i + 1)).toInt := by
  have e := own_nb h0 h
  have r := own_xr (s := own_st q (i + 1)) rfl
  have g := own_step1 (b := (own_nx q i) + (1 : Int64)) (v := own_xx (own_st q (i + 1))) (by omega) (by omega) r.1 r.2
  rw [e] at g; exact g
theorem own_iv0 (q : Int64) (n : Int32) (bk : Int64) : own_Iv q n 0 bk := ⟨fun k h => absurd h (Nat.not_lt_zero k), fun h => absurd rfl h⟩
theorem own_z (q : Int64) : (own_nx q 0).toInt = 0 := rfl
theorem own_f0 (q : Int64) {n : Int32} (h : 1 ≤ n.toInt) : n.toInt ≤ (own_nx q 0).toInt + (n.toInt.toNat : Int) := by rw [own_z]; omega
theorem own_i0 {q : Int64} {n : Int32} {i : Nat} (h0 : 0 ≤ (own_nx q i).toInt) (h : (own_nx q i) < n.toInt64) : 0 ≤ (own_nx q (i + 1)).toInt := by
  have a := own_lt64.mp h; have c := own_n31 n
  have g := own_mono h0 (by omega); omega
theorem own_ivn {q bk : Int64} {n : Int32} {i : Nat} (h0 : 0 ≤ (own_nx q i).toInt) (hiv : own_Iv q n i bk) (h : (own_nx q i) < n.toInt64) : own_Iv q n (i + 1) (own_nx q i) := by
  refine ⟨fun k hk => ?_, fun _ => rfl⟩
  by_cases hki : k = i
  · subst hki; exact ⟨h0, own_lt64.mp h⟩
  · exact hiv.1 k (by omega)
theorem own_fn {q : Int64} {n : Int32} {i f : Nat} (h0 : 0 ≤ (own_nx q i).toInt) (h : (own_nx q i) < n.toInt64) (hf : n.toInt ≤ (own_nx q i).toInt + ((f + 1 : Nat) : Int)) : n.toInt ≤ (own_nx q (i + 1)).toInt + (f : Int) := by
  have a := own_lt64.mp h; have c := own_n31 n
  have g := own_mono h0 (by omega); omega
theorem own_done {q : Int64} {n : Int32} {i : Nat} (hf : n.toInt ≤ (own_nx q i).toInt + ((0 : Nat) : Int)) : ¬ (own_nx q i) < n.toInt64 := fun h => by
  have a := own_lt64.mp h; omega
theorem own_exit {q bk : Int64} {n : Int32} {i : Nat} (hn : 1 ≤ n.toInt) (hiv : own_Iv q n i bk) (h : ¬ (own_nx q i) < n.toInt64) : own_JH q n bk := by
  have a := mt own_lt64.mpr h
  obtain ⟨h1, h2⟩ := hiv
  cases i with
  | zero => rw [own_z] at a; omega
  | succ k => exact ⟨k, h2 (by omega), fun j hj => h1 j (by omega), by omega⟩
/-- what a call answers, as an index into the chain -/
theorem own_Je {q : Int64} {n r : Int32} (J : ∃ bk : Int64, r = bk.toInt32 ∧ own_JH q n bk) : ∃ i, r.toInt = (own_nx q i).toInt ∧ (∀ k, k ≤ i → 0 ≤ (own_nx q k).toInt ∧ (own_nx q k).toInt < n.toInt) ∧ n.toInt ≤ (own_nx q (i + 1)).toInt := by
  obtain ⟨bk, rfl, i, rfl, h1, h2⟩ := J
  refine ⟨i, ?_, h1, h2⟩
  have a := c_l2i (own_nx q i); have r := rng32 (own_nx q i).toInt32; have c := own_n31 n; have d := h1 i (Nat.le_refl i)
  omega
theorem own_ge0 {q : Int64} {n r : Int32} (hn : 1 ≤ n.toInt) (J : ∃ bk : Int64, r = bk.toInt32 ∧ own_JH q n bk) : ¬ r < (0 : Int32) := by
  obtain ⟨i, e, h, _⟩ := own_Je J
  have d := h i (Nat.le_refl i)
  rw [Int32.lt_iff_toInt_lt, show (0 : Int32).toInt = 0 from rfl]; omega
theorem own_ltn {q : Int64} {n r : Int32} (hn : 1 ≤ n.toInt) (J : ∃ bk : Int64, r = bk.toInt32 ∧ own_JH q n bk) : r < n := by
  obtain ⟨i, e, h, _⟩ := own_Je J
  have d := h i (Nat.le_refl i)
  rw [Int32.lt_iff_toInt_lt]; omega
theorem own_hn {p nn : Int32} (h : nn = (((p &&& (2147483647 : Int32)) % (2147483646 : Int32)) + (1 : Int32))) : 1 ≤ nn.toInt ∧ nn.toInt ≤ 2147483646 := by
  have m := c_mask p 2147483647 31 (by decide) (by decide)
  have q := (c_irem (p &&& 2147483647) 2147483646 2147483646 (by decide)).1 (by omega)
  have a := c_iadd ((p &&& (2147483647 : Int32)) % (2147483646 : Int32)) 1
  rw [← h, show (1 : Int32).toInt = 1 from rfl, q] at a
  have r := rng32 nn
  omega
theorem own_n1 {p nn : Int32} (h : nn = (((p &&& (2147483647 : Int32)) % (2147483646 : Int32)) + (1 : Int32))) : (nn + (1 : Int32)).toInt = nn.toInt + 1 := by
  have b := own_hn h
  have a := c_iadd nn 1
  rw [show (1 : Int32).toInt = 1 from rfl] at a
  have r := rng32 (nn + 1)
  omega
theorem own_hn2 {p nn : Int32} (h : nn = (((p &&& (2147483647 : Int32)) % (2147483646 : Int32)) + (1 : Int32))) : 1 ≤ (nn + (1 : Int32)).toInt := by
  rw [own_n1 h]; have := own_hn h; omega
theorem own_len {q : Int64} {p nn r : Int32} (h : nn = (((p &&& (2147483647 : Int32)) % (2147483646 : Int32)) + (1 : Int32))) (J : ∃ bk : Int64, r = bk.toInt32 ∧ own_JH q (nn + (1 : Int32)) bk) : ¬ nn < r := by
  have a := own_ltn (own_hn2 h) J
  rw [Int32.lt_iff_toInt_lt, own_n1 h] at a
  rw [Int32.lt_iff_toInt_lt]; omega
theorem own_ab {q : Int64} {p nn ra rb : Int32} (h : nn = (((p &&& (2147483647 : Int32)) % (2147483646 : Int32)) + (1 : Int32))) (Ja : ∃ bk : Int64, ra = bk.toInt32 ∧ own_JH q nn bk) (Jb : ∃ bk : Int64, rb = bk.toInt32 ∧ own_JH q (nn + (1 : Int32)) bk) (hne : ¬ rb = ra) : rb = nn := by
  obtain ⟨i, ea, ha, la⟩ := own_Je Ja
  obtain ⟨j, eb, hb, lb⟩ := own_Je Jb
  rw [own_n1 h] at hb lb
  have hnb := own_hn h
  have hij : i ≤ j := by
    refine Nat.le_of_not_lt fun hlt => ?_
    have := ha (j + 1) hlt; omega
  have hij2 : i ≠ j := fun e => by subst e; exact hne (Int32.toInt_inj.mp (by omega))
  have h1 := hb (i + 1) (by omega)
  have hj : j = i + 1 := by
    refine Nat.le_antisymm (Nat.le_of_not_lt fun hlt => ?_) (by omega)
    have h2 := hb (i + 1 + 1) (by omega)
    have h3 := own_mono (q := q) (i := i + 1) h1.1 (by omega)
    omega
  subst hj
  exact Int32.toInt_inj.mp (by omega)
theorem own_xnz {s x : Int64} (h : x = (((s.toUInt64 >>> ((33 : Int32) &&& 0x3f).toInt64.toUInt64).toInt64) + (1 : Int64))) : x ≠ 0 := fun e => by
  have r := own_xr h
  rw [e, show (0 : Int64).toInt = 0 from rfl] at r; omega
theorem own_fi {q s1 xx fi : Int64} (hs1 : s1 = ((q * (2862933555777941757 : Int64)) + (1 : Int64))) (hxx : xx = (((s1.toUInt64 >>> ((33 : Int32) &&& 0x3f).toInt64.toUInt64).toInt64) + (1 : Int64))) (hfi : fi = ((2147483648 : Int64) / xx)) : fi.toInt = (own_nx q 1).toInt ∧ 1 ≤ fi.toInt ∧ fi.toInt ≤ 2147483648 := by
  have r := own_xr hxx
  have hm1 : xx ≠ -1 := fun e => by rw [e, show (-1 : Int64).toInt = -1 from by decide] at r; omega
  have d := (c_ldiv 2147483648 xx xx.toInt rfl hm1).1 (by decide)
  rw [← hfi, show (2147483648 : Int64).toInt = 2147483648 from by decide] at d
  have f := own_first1 r.1 r.2
  have e1 : own_nx q 1 = FP.d2l (FP.dmul (FP.l2d 1) (FP.ddiv 4746794007248502784 (FP.l2d xx))) := by
    rw [hxx, hs1]; rfl
  rw [e1, f, d]
  obtain ⟨n, hn⟩ : ∃ n : Nat, xx.toInt = (n : Int) := ⟨xx.toInt.toNat, by omega⟩
  rw [hn] at r ⊢
  rw [show ((n : Int)).toNat = n by omega]
  have h1 : 1 ≤ 2147483648 / n := (Nat.le_div_iff_mul_le (by omega)).mpr (by omega)
  have h2 : 2147483648 / n ≤ 2147483648 := Nat.div_le_self _ _
  have h3 : ((2147483648 / n : Nat) : Int) = (2147483648 : Int) / (n : Int) := rfl
  rw [← h3]
  generalize 2147483648 / n = M at h1 h2
  refine ⟨rfl, by omega, by omega⟩
/-- the chain's members behind the first are at least the first -/
theorem own_up {q : Int64} {n : Int32} {i : Nat} (h : ∀ k, k ≤ i + 1 → 0 ≤ (own_nx q k).toInt ∧ (own_nx q k).toInt < n.toInt) : (own_nx q 1).toInt ≤ (own_nx q (i + 1)).toInt := by
  induction i with
  | zero => exact Int.le_refl _
  | succ j ih =>
    have a := ih (fun k hk => h k (by omega))
    have b := h (j + 1) (by omega)
    have c := own_n31 n
    have d := own_mono (q := q) (i := j + 1) b.1 (by omega)
    omega
theorem own_0 {r : Int32} : r = (0 : Int32) ↔ r.toInt = 0 := ⟨fun h => by rw [h]; rfl, fun h => Int32.toInt_inj.mp h⟩
section OwnLaw
variable {q s1 xx fi : Int64} {p nn ra rc rd af : Int32}
theorem own_f1 (h : nn = (((p &&& (2147483647 : Int32)) % (2147483646 : Int32)) + (1 : Int32))) (hs1 : s1 = ((q * (2862933555777941757 : Int64)) + (1 : Int64))) (hxx : xx = (((s1.toUInt64 >>> ((33 : Int32) &&& 0x3f).toInt64.toUInt64).toInt64) + (1 : Int64))) (hfi : fi = ((2147483648 : Int64) / xx)) (Ja : ∃ bk : Int64, ra = bk.toInt32 ∧ own_JH q nn bk) (h0 : ra = (0 : Int32)) : ¬ fi < nn.toInt64 := by
  obtain ⟨i, ea, ha, la⟩ := own_Je Ja
  have F := own_fi hs1 hxx hfi
  rw [own_lt64]
  rw [own_0] at h0
  cases i with
  | zero => rw [Nat.zero_add] at la; omega
  | succ k => have := own_up ha; omega
theorem own_f2 (h : nn = (((p &&& (2147483647 : Int32)) % (2147483646 : Int32)) + (1 : Int32))) (hs1 : s1 = ((q * (2862933555777941757 : Int64)) + (1 : Int64))) (hxx : xx = (((s1.toUInt64 >>> ((33 : Int32) &&& 0x3f).toInt64.toUInt64).toInt64) + (1 : Int64))) (hfi : fi = ((2147483648 : Int64) / xx)) (Ja : ∃ bk : Int64, ra = bk.toInt32 ∧ own_JH q nn bk) (h0 : ¬ ra = (0 : Int32)) : fi < nn.toInt64 := by
  obtain ⟨i, ea, ha, la⟩ := own_Je Ja
  have F := own_fi hs1 hxx hfi
  rw [own_lt64]
  rw [own_0] at h0
  cases i with
  | zero => rw [own_z] at ea; omega
  | succ k => have := ha 1 (by omega); omega
theorem own_f3 (h : nn = (((p &&& (2147483647 : Int32)) % (2147483646 : Int32)) + (1 : Int32))) (hs1 : s1 = ((q * (2862933555777941757 : Int64)) + (1 : Int64))) (hxx : xx = (((s1.toUInt64 >>> ((33 : Int32) &&& 0x3f).toInt64.toUInt64).toInt64) + (1 : Int64))) (hfi : fi = ((2147483648 : Int64) / xx)) (Ja : ∃ bk : Int64, ra = bk.toInt32 ∧ own_JH q nn bk) (h0 : ¬ ra = (0 : Int32)) : ¬ ra.toInt64 < fi := by
  obtain ⟨i, ea, ha, la⟩ := own_Je Ja
  have F := own_fi hs1 hxx hfi
  rw [Int64.lt_iff_toInt_lt, c_i2l]
  rw [own_0] at h0
  cases i with
  | zero => rw [own_z] at ea; omega
  | succ k => have := own_up ha; omega
theorem own_af (hs1 : s1 = ((q * (2862933555777941757 : Int64)) + (1 : Int64))) (hxx : xx = (((s1.toUInt64 >>> ((33 : Int32) &&& 0x3f).toInt64.toUInt64).toInt64) + (1 : Int64))) (hfi : fi = ((2147483648 : Int64) / xx)) (haf : af = ((F3 fi (2147483647 : Int64)).toInt32)) : 1 ≤ af.toInt ∧ af.toInt ≤ fi.toInt := by
  have F := own_fi hs1 hxx hfi
  have a := c_l2i (F3 fi (2147483647 : Int64))
  rw [← haf] at a
  have r := rng32 af
  have e : (F3 fi (2147483647 : Int64)).toInt = fi.toInt ∧ fi.toInt ≤ 2147483647 ∨ (F3 fi (2147483647 : Int64)).toInt = 2147483647 ∧ 2147483647 < fi.toInt := by
    by_cases hc : (2147483647 : Int64) < fi
    · right
      have hc' := Int64.lt_iff_toInt_lt.mp hc
      rw [show (2147483647 : Int64).toInt = 2147483647 from by decide] at hc'
      exact ⟨by simp only [F3, if_pos hc]; decide, hc'⟩
    · left
      have hc' := mt Int64.lt_iff_toInt_lt.mpr hc
      rw [show (2147483647 : Int64).toInt = 2147483647 from by decide] at hc'
      exact ⟨by simp only [F3, if_neg hc], by omega⟩
  omega
theorem own_haf (hs1 : s1 = ((q * (2862933555777941757 : Int64)) + (1 : Int64))) (hxx : xx = (((s1.toUInt64 >>> ((33 : Int32) &&& 0x3f).toInt64.toUInt64).toInt64) + (1 : Int64))) (hfi : fi = ((2147483648 : Int64) / xx)) (haf : af = ((F3 fi (2147483647 : Int64)).toInt32)) : 1 ≤ af.toInt := (own_af hs1 hxx hfi haf).1
theorem own_d0 (hs1 : s1 = ((q * (2862933555777941757 : Int64)) + (1 : Int64))) (hxx : xx = (((s1.toUInt64 >>> ((33 : Int32) &&& 0x3f).toInt64.toUInt64).toInt64) + (1 : Int64))) (hfi : fi = ((2147483648 : Int64) / xx)) (haf : af = ((F3 fi (2147483647 : Int64)).toInt32)) (J : ∃ bk : Int64, rc = bk.toInt32 ∧ own_JH q af bk) : rc = (0 : Int32) := by
  obtain ⟨i, ea, ha, la⟩ := own_Je J
  have F := own_fi hs1 hxx hfi
  have A := own_af hs1 hxx hfi haf
  rw [own_0]
  cases i with
  | zero => rw [own_z] at ea; exact ea
  | succ k => have := ha 1 (by omega); omega
theorem own_fe (h1 : 1 ≤ fi.toInt) (h : fi < (2147483647 : Int64)) : ((fi.toInt32) + (1 : Int32)).toInt = fi.toInt + 1 := by
  have hc' := Int64.lt_iff_toInt_lt.mp h
  rw [show (2147483647 : Int64).toInt = 2147483647 from by decide] at hc'
  have a := c_l2i fi; have r := rng32 fi.toInt32
  have b := c_iadd fi.toInt32 1
  rw [show (1 : Int32).toInt = 1 from rfl] at b
  have r2 := rng32 (fi.toInt32 + 1)
  omega
theorem own_hfi (hs1 : s1 = ((q * (2862933555777941757 : Int64)) + (1 : Int64))) (hxx : xx = (((s1.toUInt64 >>> ((33 : Int32) &&& 0x3f).toInt64.toUInt64).toInt64) + (1 : Int64))) (hfi : fi = ((2147483648 : Int64) / xx)) (h : fi < (2147483647 : Int64)) : 1 ≤ ((fi.toInt32) + (1 : Int32)).toInt := by
  have F := own_fi hs1 hxx hfi
  rw [own_fe F.2.1 h]; omega
theorem own_e0 (hs1 : s1 = ((q * (2862933555777941757 : Int64)) + (1 : Int64))) (hxx : xx = (((s1.toUInt64 >>> ((33 : Int32) &&& 0x3f).toInt64.toUInt64).toInt64) + (1 : Int64))) (hfi : fi = ((2147483648 : Int64) / xx)) (h : fi < (2147483647 : Int64)) (J : ∃ bk : Int64, rd = bk.toInt32 ∧ own_JH q ((fi.toInt32) + (1 : Int32)) bk) : rd.toInt64 = fi := by
  obtain ⟨i, ea, ha, la⟩ := own_Je J
  have F := own_fi hs1 hxx hfi
  have hc' := Int64.lt_iff_toInt_lt.mp h
  rw [show (2147483647 : Int64).toInt = 2147483647 from by decide] at hc'
  rw [own_fe F.2.1 h] at ha la
  apply Int64.toInt_inj.mp
  rw [c_i2l]
  cases i with
  | zero =>
    have fin : ∀ A B f : Int, f + 1 ≤ A → f = A → B = f := by intros; omega
    exact fin _ _ _ la F.1
  | succ k =>
    cases k with
    | zero => exact ea.trans F.1.symm
    | succ k =>
      have h1 := ha 1 (by omega)
      have h2 := ha (1 + 1) (by omega)
      have h3 := own_mono (q := q) (i := 1) h1.1 (Int.lt_trans h1.2 (Int.lt_of_lt_of_le (Int.add_lt_add_right hc' 1) (by decide)))
      have fin : ∀ A B f : Int, A < f + 1 → B < f + 1 → A + 1 ≤ B → f = A → False := by intros; omega
      exact (fin _ _ _ h1.2 h2.2 h3 F.1).elim
end OwnLaw

theorem d1_0 : decode prog_4_method_7_code 0 = .ok (.iload_n 2, 1) := by decide +kernel
theorem d1_1 : decode prog_4_method_7_code 1 = .ok (.invokestatic 7, 3) := by decide +kernel
theorem d1_4 : decode prog_4_method_7_code 4 = .ok (.lload_n 0, 1) := by decide +kernel
theorem d1_5 : decode prog_4_method_7_code 5 = .ok (.lstore_n 3, 1) := by decide +kernel
theorem d1_6 : decode prog_4_method_7_code 6 = .ok (.lconst 0, 1) := by decide +kernel
theorem d1_7 : decode prog_4_method_7_code 7 = .ok (.lstore 5, 2) := by decide +kernel
theorem d1_9 : decode prog_4_method_7_code 9 = .ok (.lconst 0, 1) := by decide +kernel
theorem d1_10 : decode prog_4_method_7_code 10 = .ok (.lstore 7, 2) := by decide +kernel
theorem d1_12 : decode prog_4_method_7_code 12 = .ok (.lload 7, 2) := by decide +kernel
theorem d1_14 : decode prog_4_method_7_code 14 = .ok (.iload_n 2, 1) := by decide +kernel
theorem d1_15 : decode prog_4_method_7_code 15 = .ok (.i2l, 1) := by decide +kernel
theorem d1_16 : decode prog_4_method_7_code 16 = .ok (.lcmp, 1) := by decide +kernel
theorem d1_17 : decode prog_4_method_7_code 17 = .ok (.ifCond .ge 42, 3) := by decide +kernel
theorem d1_20 : decode prog_4_method_7_code 20 = .ok (.lload 7, 2) := by decide +kernel
theorem d1_22 : decode prog_4_method_7_code 22 = .ok (.lstore 5, 2) := by decide +kernel
theorem d1_24 : decode prog_4_method_7_code 24 = .ok (.lload_n 3, 1) := by decide +kernel
theorem d1_25 : decode prog_4_method_7_code 25 = .ok (.ldc2_w 71, 3) := by decide +kernel
theorem d1_28 : decode prog_4_method_7_code 28 = .ok (.lmul, 1) := by decide +kernel
theorem d1_29 : decode prog_4_method_7_code 29 = .ok (.lconst 1, 1) := by decide +kernel
theorem d1_30 : decode prog_4_method_7_code 30 = .ok (.ladd, 1) := by decide +kernel
theorem d1_31 : decode prog_4_method_7_code 31 = .ok (.lstore_n 3, 1) := by decide +kernel
theorem d1_32 : decode prog_4_method_7_code 32 = .ok (.lload_n 3, 1) := by decide +kernel
theorem d1_33 : decode prog_4_method_7_code 33 = .ok (.bipush 33, 2) := by decide +kernel
theorem d1_35 : decode prog_4_method_7_code 35 = .ok (.lushr, 1) := by decide +kernel
theorem d1_36 : decode prog_4_method_7_code 36 = .ok (.lconst 1, 1) := by decide +kernel
theorem d1_37 : decode prog_4_method_7_code 37 = .ok (.ladd, 1) := by decide +kernel
theorem d1_38 : decode prog_4_method_7_code 38 = .ok (.lstore 9, 2) := by decide +kernel
theorem d1_40 : decode prog_4_method_7_code 40 = .ok (.lload 5, 2) := by decide +kernel
theorem d1_42 : decode prog_4_method_7_code 42 = .ok (.lconst 1, 1) := by decide +kernel
theorem d1_43 : decode prog_4_method_7_code 43 = .ok (.ladd, 1) := by decide +kernel
theorem d1_44 : decode prog_4_method_7_code 44 = .ok (.l2d, 1) := by decide +kernel
theorem d1_45 : decode prog_4_method_7_code 45 = .ok (.ldc2_w 73, 3) := by decide +kernel
theorem d1_48 : decode prog_4_method_7_code 48 = .ok (.lload 9, 2) := by decide +kernel
theorem d1_50 : decode prog_4_method_7_code 50 = .ok (.l2d, 1) := by decide +kernel
theorem d1_51 : decode prog_4_method_7_code 51 = .ok (.ddiv, 1) := by decide +kernel
theorem d1_52 : decode prog_4_method_7_code 52 = .ok (.dmul, 1) := by decide +kernel
theorem d1_53 : decode prog_4_method_7_code 53 = .ok (.d2l, 1) := by decide +kernel
theorem d1_54 : decode prog_4_method_7_code 54 = .ok (.lstore 7, 2) := by decide +kernel
theorem d1_56 : decode prog_4_method_7_code 56 = .ok (.goto (-44), 3) := by decide +kernel
theorem d1_59 : decode prog_4_method_7_code 59 = .ok (.lload 5, 2) := by decide +kernel
theorem d1_61 : decode prog_4_method_7_code 61 = .ok (.l2i, 1) := by decide +kernel
theorem d1_62 : decode prog_4_method_7_code 62 = .ok (.ireturn, 1) := by decide +kernel
set_option maxRecDepth 65536 in
set_option maxHeartbeats 40000000 in
theorem own_loop {p : Program} {l : Launch} {e : Env} {s : State} {m : MethodId} {below : List Frame} {meth : Method} {c : Code} {Z : State} {a0 : Array Value} {h0 : Heap} {n0 : Nat} {Q : Option Value → Heap → List Loc → Prop} {q0 : Int64} {p1 : Int32}
    (hx : p.tables.exec = Jvm.exec) (hZ : Z.Warmed39 s.vm) (hw : ∀ d ∈ tables_1, d.before a0 Z = true) (hby : c.code = prog_4_method_7_code) (hml : c.maxLocals = 11) (hown : s.vm.findClass "com/example/which_bucket/whichbucket/WhichBucket" = some m.cls) (Z0 : n0 ≤ h0.size) (hn1 : 1 ≤ p1.toInt)
    (KX : ∀ (T' : State) (locs' : List Loc) (X' : Stand p l e ({ frames := 1, cells := 0, slots := 0, locals := 12 } : Room) s m #[(.long q0), (.int p1)] below meth c T' locs' 0 0) (N' : Fr n0 locs') (e' : T'.heap = h0) (sx bk nx : Int64) (sl9 sl10 : Slot) (hex : own_JH q0 p1 bk), own_Go p.tables e below s 0 0 Q (T'.setTop (mkF m 59 #[.val (.long q0), .second, iv p1, .val (.long sx), .second, .val (.long bk), .second, .val (.long nx), .second, sl9, sl10] []))) (f : Nat) :
    ∀ (i : Nat) (T : State) (locs : List Loc) (X : Stand p l e ({ frames := 1, cells := 0, slots := 0, locals := 12 } : Room) s m #[(.long q0), (.int p1)] below meth c T locs 0 0) (NN : Fr n0 locs) (eT : T.heap = h0) (bk : Int64) (sl9 sl10 : Slot), (sl9 = .unset ∧ sl10 = .unset) ∨ (∃ y : Int64, sl9 = .val (.long y) ∧ sl10 = .second) → 0 ≤ (own_nx q0 i).toInt → own_Iv q0 p1 i bk → p1.toInt ≤ (own_nx q0 i).toInt + (f : Int) → own_Go p.tables e below s 0 0 Q (T.setTop (mkF m 12 #[.val (.long q0), .second, iv p1, .val (.long (own_st q0 i)), .second, .val (.long bk), .second, .val (.long (own_nx q0 i)), .second, sl9, sl10] [])) := by
  induction f with
  | zero =>
      intro i T locs X NN eT bk sl9 sl10 hsl h0i hiv hf
      refine own_step (U' := T.setTop (mkF m 59 #[.val (.long q0), .second, iv p1, .val (.long (own_st q0 i)), .second, .val (.long bk), .second, .val (.long (own_nx q0 i)), .second, sl9, sl10] [])) (fun t k => XS.lload X.here hx rfl (hb hby d1_12) rfl (XS.iloadN X.here hx rfl (hb hby d1_14) rfl (XS.i2l X.here hx rfl (hb hby d1_15) rfl (XS.lcmp X.here hx rfl (hb hby d1_16) rfl (XS.ifYes X.here hx rfl (pc0 := 17) (pc' := 59) rfl (hb hby d1_17) rfl ((if0 _ _).trans (flt (mt (lw_lt (own_nx q0 i) (p1.toInt64)).mp (own_done hf))).2.1) (by decide) (by decide) k))))) ?_
      exact KX _ _ X NN eT _ _ _ _ _ (own_exit hn1 hiv (own_done hf))
  | succ f ih =>
      intro i T locs X NN eT bk sl9 sl10 hsl h0i hiv hf
      refine own_step (U' := T.setTop (mkF m 17 #[.val (.long q0), .second, iv p1, .val (.long (own_st q0 i)), .second, .val (.long bk), .second, .val (.long (own_nx q0 i)), .second, sl9, sl10] [(.int (lcmpW (own_nx q0 i) (p1.toInt64)))])) (fun t k => XS.lload X.here hx rfl (hb hby d1_12) rfl (XS.iloadN X.here hx rfl (hb hby d1_14) rfl (XS.i2l X.here hx rfl (hb hby d1_15) rfl (XS.lcmp X.here hx rfl (hb hby d1_16) rfl k)))) ?_
      by_cases hc17_1 : (own_nx q0 i) < (p1.toInt64)
      · refine own_step (U' := T.setTop (mkF m 31 #[.val (.long q0), .second, iv p1, .val (.long (own_st q0 i)), .second, .val (.long (own_nx q0 i)), .second, .val (.long (own_nx q0 i)), .second, sl9, sl10] [(.long (((own_st q0 i) * (2862933555777941757 : Int64)) + (1 : Int64)))])) (fun t k => XS.ifNo X.here hx rfl (hb hby d1_17) rfl ((if0 _ _).trans (tlt ((lw_lt (own_nx q0 i) (p1.toInt64)).mpr hc17_1)).2.1) (XS.lload X.here hx rfl (hb hby d1_20) rfl (XS.lstore X.here hx rfl (hb hby d1_22) rfl (l' := #[.val (.long q0), .second, iv p1, .val (.long (own_st q0 i)), .second, .val (.long (own_nx q0 i)), .second, .val (.long (own_nx q0 i)), .second, sl9, sl10]) rfl (XS.lloadN X.here hx rfl (hb hby d1_24) rfl (X.ldc2Long hx hown (mvT hZ (own_w hw 11 rfl)) (g := (mkF m 25 #[.val (.long q0), .second, iv p1, .val (.long (own_st q0 i)), .second, .val (.long (own_nx q0 i)), .second, .val (.long (own_nx q0 i)), .second, sl9, sl10] [(.long (own_st q0 i))])) rfl (hb hby d1_25) t (XS.lmul X.here hx rfl (hb hby d1_28) rfl (XS.lconst X.here hx rfl (hb hby d1_29) (XS.ladd X.here hx rfl (hb hby d1_30) rfl k)))))))) ?_
        obtain ⟨sx, hsx⟩ : ∃ v : Int64, v = (((own_st q0 i) * (2862933555777941757 : Int64)) + (1 : Int64)) := ⟨_, rfl⟩
        rw [← hsx]
        refine own_step (U' := T.setTop (mkF m 38 #[.val (.long q0), .second, iv p1, .val (.long sx), .second, .val (.long (own_nx q0 i)), .second, .val (.long (own_nx q0 i)), .second, sl9, sl10] [(.long (((sx.toUInt64 >>> ((33 : Int32) &&& 0x3f).toInt64.toUInt64).toInt64) + (1 : Int64)))])) (fun t k => XS.lstoreN X.here hx rfl (hb hby d1_31) rfl (l' := #[.val (.long q0), .second, iv p1, .val (.long sx), .second, .val (.long (own_nx q0 i)), .second, .val (.long (own_nx q0 i)), .second, sl9, sl10]) rfl (XS.lloadN X.here hx rfl (hb hby d1_32) rfl (XS.bipush X.here hx rfl (hb hby d1_33) (XS.lushr X.here hx rfl (hb hby d1_35) rfl (XS.lconst X.here hx rfl (hb hby d1_36) (XS.ladd X.here hx rfl (hb hby d1_37) rfl k)))))) ?_
        obtain ⟨xx, hxx⟩ : ∃ v : Int64, v = (((sx.toUInt64 >>> ((33 : Int32) &&& 0x3f).toInt64.toUInt64).toInt64) + (1 : Int64)) := ⟨_, rfl⟩
        rw [← hxx]
        refine own_step (U' := T.setTop (mkF m 51 #[.val (.long q0), .second, iv p1, .val (.long sx), .second, .val (.long (own_nx q0 i)), .second, .val (.long (own_nx q0 i)), .second, .val (.long xx), .second] [(.double (FP.l2d xx)), (.double (4746794007248502784 : UInt64)), (.double (FP.l2d ((own_nx q0 i) + (1 : Int64))))])) (fun t k => XS.lstore X.here hx rfl (hb hby d1_38) rfl (l' := #[.val (.long q0), .second, iv p1, .val (.long sx), .second, .val (.long (own_nx q0 i)), .second, .val (.long (own_nx q0 i)), .second, .val (.long xx), .second]) (by rcases hsl with ⟨rfl, rfl⟩ | ⟨y, rfl, rfl⟩ <;> rfl) (XS.lload X.here hx rfl (hb hby d1_40) rfl (XS.lconst X.here hx rfl (hb hby d1_42) (XS.ladd X.here hx rfl (hb hby d1_43) rfl (XS.l2dS X.here hx rfl (hb hby d1_44) rfl rfl (X.ldc2DoubleC hx hown (mvT hZ (own_w hw 12 rfl)) (g := (mkF m 45 #[.val (.long q0), .second, iv p1, .val (.long sx), .second, .val (.long (own_nx q0 i)), .second, .val (.long (own_nx q0 i)), .second, .val (.long xx), .second] [(.double (FP.l2d ((own_nx q0 i) + (1 : Int64))))])) rfl (hb hby d1_45) t (XS.lload X.here hx rfl (hb hby d1_48) rfl (XS.l2dS X.here hx rfl (hb hby d1_50) rfl rfl k)))))))) ?_
        have hxr := own_xr hxx
        have hbr := own_br h0i hc17_1
        refine own_step (U' := T.setTop (mkF m 54 #[.val (.long q0), .second, iv p1, .val (.long sx), .second, .val (.long (own_nx q0 i)), .second, .val (.long (own_nx q0 i)), .second, .val (.long xx), .second] [(.long (FP.d2l (FP.dmul (FP.l2d ((own_nx q0 i) + (1 : Int64))) (FP.ddiv (4746794007248502784 : UInt64) (FP.l2d xx)))))])) (fun t k => XS.ddivS X.here hx rfl (hb hby d1_51) rfl (own_nnd hxr.1 hxr.2) rfl (XS.dmulS X.here hx rfl (hb hby d1_52) rfl (own_nnm hbr.1 hbr.2 hxr.1 hxr.2) rfl (XS.d2lS X.here hx rfl (hb hby d1_53) rfl rfl k))) ?_
        obtain ⟨nz, hnz⟩ : ∃ v : Int64, v = (FP.d2l (FP.dmul (FP.l2d ((own_nx q0 i) + (1 : Int64))) (FP.ddiv (4746794007248502784 : UInt64) (FP.l2d xx)))) := ⟨_, rfl⟩
        rw [← hnz]
        refine own_step (U' := T.setTop (mkF m 12 #[.val (.long q0), .second, iv p1, .val (.long sx), .second, .val (.long (own_nx q0 i)), .second, .val (.long nz), .second, .val (.long xx), .second] [])) (fun t k => XS.lstore X.here hx rfl (hb hby d1_54) rfl (l' := #[.val (.long q0), .second, iv p1, .val (.long sx), .second, .val (.long (own_nx q0 i)), .second, .val (.long nz), .second, .val (.long xx), .second]) rfl (XS.goto X.here hx rfl (pc0 := 56) (pc' := 12) rfl (hb hby d1_56) (by decide) (by decide) k)) ?_
        obtain rfl : sx = own_st q0 (i + 1) := hsx
        obtain rfl : xx = own_xx (own_st q0 (i + 1)) := hxx
        obtain rfl : nz = own_nx q0 (i + 1) := hnz
        exact ih (i + 1) _ _ X NN eT _ _ _ (Or.inr ⟨_, rfl, rfl⟩) (own_i0 h0i hc17_1) (own_ivn h0i hiv hc17_1) (own_fn h0i hc17_1 hf)
      · refine own_step (U' := T.setTop (mkF m 59 #[.val (.long q0), .second, iv p1, .val (.long (own_st q0 i)), .second, .val (.long bk), .second, .val (.long (own_nx q0 i)), .second, sl9, sl10] [])) (fun t k => XS.ifYes X.here hx rfl (pc0 := 17) (pc' := 59) rfl (hb hby d1_17) rfl ((if0 _ _).trans (flt (mt (lw_lt (own_nx q0 i) (p1.toInt64)).mp hc17_1)).2.1) (by decide) (by decide) k) ?_
        exact KX _ _ X NN eT _ _ _ _ _ (own_exit hn1 hiv hc17_1)
theorem pn_1 : plainName "com/example/which_bucket/whichbucket/WhichBucket" = true := by first | (simp [plainName, overriddenIn]; done) | decide +kernel
theorem ef_1 (m : MethodId) (q0 : Int64) (p1 : Int32) : entryFrame m #[(.long q0), (.int p1)] 11 = mkF m 0 #[.val (.long q0), .second, iv p1, .unset, .unset, .unset, .unset, .unset, .unset, .unset, .unset] [] := by first | (simp [entryFrame, mkF, argsToLocals, Value.category]; done) | rfl
def Q1 (Z : State) (q0 : Int64) (p1 : Int32) (h0 : Heap) (n0 : Nat) (v : Option Value) (h : Heap) (L : List Loc) : Prop := ∃ r : Int32, v = some (.int r) ∧ (∃ bk : Int64, r = bk.toInt32 ∧ own_JH q0 p1 bk) ∧ Fr n0 L ∧ h = h0
set_option maxRecDepth 65536 in
set_option maxHeartbeats 40000000 in
theorem rm1 (l : Launch) (Z : State) (a0 : Array Value) (hw : ∀ d ∈ tables_1, d.before a0 Z = true) (ws : List Jvm.Cond) (q0 : Int64) (p1 : Int32) (h0 : Heap) (n0 : Nat) (Z0 : n0 ≤ h0.size) (hn1 : 1 ≤ p1.toInt) :
    MetFree l (⟨"com/example/which_bucket/whichbucket/WhichBucket", "jumpHash", "(JI)I"⟩ : MethodName) (head1 (Jvm.Cond.code (⟨"com/example/which_bucket/whichbucket/WhichBucket", "jumpHash", "(JI)I"⟩ : MethodName) prog_4_method_7_code 11 (some .int) :: ws) ({ frames := 1, cells := 0, slots := 0, locals := 12 } : Room)) (fun a U => a = #[(.long q0), (.int p1)] ∧ Z.Warmed39 U.vm ∧ U.heap = h0) (fun _ _ _ _ _ => True) (fun _ U o U' => ∃ v L, o = .returned v ∧ Q1 Z q0 p1 h0 n0 v U'.heap L ∧ FrameEnd U o U' L ({ frames := 1, cells := 0, slots := 0, locals := 12 } : Room).cells ({ frames := 1, cells := 0, slots := 0, locals := 12 } : Room).slots) := by
  refine MetFree.of_bodySF (plainFor_of_name pn_1) hisR ?_
  intro p e s m args below meth c s₁ Bd hml0 hP hK
  obtain ⟨rfl, hZ, hh⟩ := hP
  have hx := Bd.exec
  have hby := Bd.bytes
  have hml : c.maxLocals = 11 := hml0
  have hown : s.vm.findClass "com/example/which_bucket/whichbucket/WhichBucket" = some m.cls := findClass_of_methodNamed Bd.named
  have hnm := (name_of_methodNamed Bd.named Bd.method).1
  have hlk : meth.locks = false := Bd.notSynchronized
  have X0 : Stand p l e ({ frames := 1, cells := 0, slots := 0, locals := 12 } : Room) s m #[(.long q0), (.int p1)] below meth c s₁ [] 0 0 := Stand.of_body Bd
  have e0 : s₁.heap = h0 := by rw [← hh, Bd.state]; rfl
  have N0 := Fr.nil n0
  have KK0 := Keep.refl h0 []
  show own_Go p.tables e below s 0 0 (Q1 Z q0 p1 h0 n0) (s₁.setTop (entryFrame m #[(.long q0), (.int p1)] 11))
  rw [ef_1]
  refine own_step (U' := s₁.setTop (mkF m 1 #[.val (.long q0), .second, iv p1, .unset, .unset, .unset, .unset, .unset, .unset, .unset, .unset] [(.int p1)])) (fun t k => XS.iloadN X0.here hx rfl (hb hby d1_0) rfl k) ?_
  obtain ⟨_, _, ⟨T1, L1, k1, n1⟩, -, X1, ⟨Lc1, hQ1, l1, y1, z1⟩, st1⟩ := Jvm.LawKit.callS X0 hx (y := (⟨"com/example/which_bucket/whichbucket/WhichBucket", "requireBucketCount", "(I)V"⟩ : MethodName)) hown (mvT hZ (own_w hw 8 rfl)) (mvT hZ (own_w hw 9 rfl)) (mvT hZ (own_w hw 6 rfl)) (mvT hZ (own_w hw 10 rfl)) (by decide) (backOf (W := 0) (rm2 l Z a0 hw [] p1 h0 n0 Z0 (own_ge1 hn1)) hZ (own_w hw 10 rfl) (own_w hw 6 rfl) (by decide) (by decide)) (g := (mkF m 1 #[.val (.long q0), .second, iv p1, .unset, .unset, .unset, .unset, .unset, .unset, .unset, .unset] [(.int p1)])) rfl (by rw [hml]; rfl) (argsL := [(.int p1)]) (rest := []) (lenOf pd__I_V rfl) rfl (by show 2 * 0 + _ ≤ _; exact Nat.le_of_eq rfl) (hb hby d1_1) (fun _ _ => ⟨rfl, e0, (by decide : 0 + 0 ≤ _), (by decide : 0 + 0 ≤ _)⟩)
  dsimp only [Pt.U, Pt.locs, Pt.cells, Pt.slots] at X1 l1 y1 z1 st1 hQ1
  subst l1 y1 z1
  obtain ⟨rfl, N1q, eq1⟩ := hQ1
  have N1 := Fr.app N0 N1q
  refine own_step (U' := T1.setTop (mkF m 4 #[.val (.long q0), .second, iv p1, .unset, .unset, .unset, .unset, .unset, .unset, .unset, .unset] [])) st1 ?_
  refine own_step (U' := T1.setTop (mkF m 12 #[.val (.long q0), .second, iv p1, .val (.long q0), .second, .val (.long (0 : Int64)), .second, .val (.long (0 : Int64)), .second, .unset, .unset] [])) (fun t k => XS.lloadN X1.here hx rfl (hb hby d1_4) rfl (XS.lstoreN X1.here hx rfl (hb hby d1_5) rfl (l' := #[.val (.long q0), .second, iv p1, .val (.long q0), .second, .unset, .unset, .unset, .unset, .unset, .unset]) rfl (XS.lconst X1.here hx rfl (hb hby d1_6) (XS.lstore X1.here hx rfl (hb hby d1_7) rfl (l' := #[.val (.long q0), .second, iv p1, .val (.long q0), .second, .val (.long (0 : Int64)), .second, .unset, .unset, .unset, .unset]) rfl (XS.lconst X1.here hx rfl (hb hby d1_9) (XS.lstore X1.here hx rfl (hb hby d1_10) rfl (l' := #[.val (.long q0), .second, iv p1, .val (.long q0), .second, .val (.long (0 : Int64)), .second, .val (.long (0 : Int64)), .second, .unset, .unset]) rfl k)))))) ?_
  have KX : ∀ (T' : State) (locs' : List Loc) (X' : Stand p l e ({ frames := 1, cells := 0, slots := 0, locals := 12 } : Room) s m #[(.long q0), (.int p1)] below meth c T' locs' 0 0) (N' : Fr n0 locs') (e' : T'.heap = h0) (sx bk nx : Int64) (sl9 sl10 : Slot) (hex : own_JH q0 p1 bk), own_Go p.tables e below s 0 0 (Q1 Z q0 p1 h0 n0) (T'.setTop (mkF m 59 #[.val (.long q0), .second, iv p1, .val (.long sx), .second, .val (.long bk), .second, .val (.long nx), .second, sl9, sl10] [])) := by
    intro T2 L2 X2 N2 e2 sx bk nx sl9 sl10 hex
    refine own_step (U' := T2.setTop (mkF m 62 #[.val (.long q0), .second, iv p1, .val (.long sx), .second, .val (.long bk), .second, .val (.long nx), .second, sl9, sl10] [(.int (bk.toInt32))])) (fun t k => XS.lload X2.here hx rfl (hb hby d1_59) rfl (XS.l2i X2.here hx rfl (hb hby d1_61) rfl k)) ?_
    exact own_out X2 (v := (some (.int (bk.toInt32)))) hlk (own_nv Bd.returns) (by rw [e2]; exact ⟨_, rfl, ⟨bk, rfl, hex⟩, N2, rfl⟩) (by decide) (by decide) (fun fs hr => retI X2 hx Bd.returns (hb hby d1_62) hr)
  exact own_loop hx hZ hw hby hml hown Z0 hn1 KX p1.toInt.toNat 0 _ _ X1 N1 eq1 _ _ _ (Or.inl ⟨rfl, rfl⟩) (by show (0 : Int) ≤ (0 : Int64).toInt; decide) (own_iv0 q0 p1 _) (own_f0 q0 hn1)
theorem pn_0 : plainName "com/example/which_bucket/whichbucket/WhichBucketJumpHashPinLaw" = true := by first | (simp [plainName, overriddenIn]; done) | decide +kernel
theorem ef_0 (m : MethodId) (q0 : Int64) (p1 : Int32) : entryFrame m #[(.long q0), (.int p1)] maxLocals = mkF m 0 #[.val (.long q0), .second, iv p1, .unset, .unset, .unset, .unset, .unset, .unset, .unset, .unset, .unset, .unset, .unset, .unset, .unset] [] := by first | (simp [entryFrame, mkF, argsToLocals, Value.category, maxLocals]; done) | rfl
def Q0 (Z : State) (q0 : Int64) (p1 : Int32) (h0 : Heap) (n0 : Nat) (v : Option Value) (h : Heap) (L : List Loc) : Prop := v = some (.int 1) ∧ Fr n0 L
set_option maxRecDepth 65536 in
set_option maxHeartbeats 40000000 in
theorem rm0 (l : Launch) (Z : State) (a0 : Array Value) (hw : ∀ d ∈ tables_1, d.before a0 Z = true) (ws : List Jvm.Cond) (q0 : Int64) (p1 : Int32) (h0 : Heap) (n0 : Nat) (Z0 : n0 ≤ h0.size) :
    MetFree l x (head1 (Jvm.Cond.code x code maxLocals ret :: ws) room_1) (fun a U => a = #[(.long q0), (.int p1)] ∧ Z.Warmed39 U.vm ∧ U.heap = h0) (fun _ _ _ _ _ => True) (fun _ U o U' => ∃ v L, o = .returned v ∧ Q0 Z q0 p1 h0 n0 v U'.heap L ∧ FrameEnd U o U' L 0 0) := by
  refine MetFree.of_bodySF (plainFor_of_name pn_0) hisR ?_
  intro p e s m args below meth c s₁ Bd hml0 hP hK
  obtain ⟨rfl, hZ, hh⟩ := hP
  have hx := Bd.exec
  have hby := Bd.bytes
  have hml : c.maxLocals = 16 := hml0
  have hown : s.vm.findClass "com/example/which_bucket/whichbucket/WhichBucketJumpHashPinLaw" = some m.cls := findClass_of_methodNamed Bd.named
  have hnm := (name_of_methodNamed Bd.named Bd.method).1
  have hlk : meth.locks = false := Bd.notSynchronized
  have X0 : Stand p l e room_1 s m #[(.long q0), (.int p1)] below meth c s₁ [] 0 0 := Stand.of_body Bd
  have e0 : s₁.heap = h0 := by rw [← hh, Bd.state]; rfl
  have N0 := Fr.nil n0
  have KK0 := Keep.refl h0 []
  show own_Go p.tables e below s 0 0 (Q0 Z q0 p1 h0 n0) (s₁.setTop (entryFrame m #[(.long q0), (.int p1)] maxLocals))
  rw [ef_0]
  refine own_step (U' := s₁.setTop (mkF m 9 #[.val (.long q0), .second, iv p1, .unset, .unset, .unset, .unset, .unset, .unset, .unset, .unset, .unset, .unset, .unset, .unset, .unset] [(.int (((p1 &&& (2147483647 : Int32)) % (2147483646 : Int32)) + (1 : Int32)))])) (fun t k => XS.iloadN X0.here hx rfl (hb hby at_0) rfl (X0.ldcInt hx hown (mvT hZ (own_w hw 0 rfl)) (g := (mkF m 1 #[.val (.long q0), .second, iv p1, .unset, .unset, .unset, .unset, .unset, .unset, .unset, .unset, .unset, .unset, .unset, .unset, .unset] [(.int p1)])) rfl (hb hby at_1) t (XS.iand X0.here hx rfl (hb hby at_3) rfl (X0.ldcInt hx hown (mvT hZ (own_w hw 1 rfl)) (g := (mkF m 4 #[.val (.long q0), .second, iv p1, .unset, .unset, .unset, .unset, .unset, .unset, .unset, .unset, .unset, .unset, .unset, .unset, .unset] [(.int (p1 &&& (2147483647 : Int32)))])) rfl (hb hby at_4) t (iremM X0 hx rfl (hb hby at_6) rfl (by decide) (XS.iconst X0.here hx rfl (hb hby at_7) (XS.iadd X0.here hx rfl (hb hby at_8) rfl k))))))) ?_
  obtain ⟨nn, hnn⟩ : ∃ v : Int32, v = (((p1 &&& (2147483647 : Int32)) % (2147483646 : Int32)) + (1 : Int32)) := ⟨_, rfl⟩
  rw [← hnn]
  refine own_step (U' := s₁.setTop (mkF m 17 #[.val (.long q0), .second, iv p1, iv nn, .unset, .unset, .unset, .unset, .unset, .unset, .unset, .unset, .unset, .unset, .unset, .unset] [(.long ((q0 * (2862933555777941757 : Int64)) + (1 : Int64)))])) (fun t k => XS.istoreN X0.here hx rfl (hb hby at_9) rfl (l' := #[.val (.long q0), .second, iv p1, iv nn, .unset, .unset, .unset, .unset, .unset, .unset, .unset, .unset, .unset, .unset, .unset, .unset]) rfl (XS.lloadN X0.here hx rfl (hb hby at_10) rfl (X0.ldc2Long hx hown (mvT hZ (own_w hw 2 rfl)) (g := (mkF m 11 #[.val (.long q0), .second, iv p1, iv nn, .unset, .unset, .unset, .unset, .unset, .unset, .unset, .unset, .unset, .unset, .unset, .unset] [(.long q0)])) rfl (hb hby at_11) t (XS.lmul X0.here hx rfl (hb hby at_14) rfl (XS.lconst X0.here hx rfl (hb hby at_15) (XS.ladd X0.here hx rfl (hb hby at_16) rfl k)))))) ?_
  obtain ⟨s1, hs1⟩ : ∃ v : Int64, v = ((q0 * (2862933555777941757 : Int64)) + (1 : Int64)) := ⟨_, rfl⟩
  rw [← hs1]
  refine own_step (U' := s₁.setTop (mkF m 26 #[.val (.long q0), .second, iv p1, iv nn, .val (.long s1), .second, .unset, .unset, .unset, .unset, .unset, .unset, .unset, .unset, .unset, .unset] [(.long (((s1.toUInt64 >>> ((33 : Int32) &&& 0x3f).toInt64.toUInt64).toInt64) + (1 : Int64)))])) (fun t k => XS.lstore X0.here hx rfl (hb hby at_17) rfl (l' := #[.val (.long q0), .second, iv p1, iv nn, .val (.long s1), .second, .unset, .unset, .unset, .unset, .unset, .unset, .unset, .unset, .unset, .unset]) rfl (XS.lload X0.here hx rfl (hb hby at_19) rfl (XS.bipush X0.here hx rfl (hb hby at_21) (XS.lushr X0.here hx rfl (hb hby at_23) rfl (XS.lconst X0.here hx rfl (hb hby at_24) (XS.ladd X0.here hx rfl (hb hby at_25) rfl k)))))) ?_
  obtain ⟨xx, hxx⟩ : ∃ v : Int64, v = (((s1.toUInt64 >>> ((33 : Int32) &&& 0x3f).toInt64.toUInt64).toInt64) + (1 : Int64)) := ⟨_, rfl⟩
  rw [← hxx]
  refine own_step (U' := s₁.setTop (mkF m 34 #[.val (.long q0), .second, iv p1, iv nn, .val (.long s1), .second, .val (.long xx), .second, .unset, .unset, .unset, .unset, .unset, .unset, .unset, .unset] [(.long ((2147483648 : Int64) / xx))])) (fun t k => XS.lstore X0.here hx rfl (hb hby at_26) rfl (l' := #[.val (.long q0), .second, iv p1, iv nn, .val (.long s1), .second, .val (.long xx), .second, .unset, .unset, .unset, .unset, .unset, .unset, .unset, .unset]) rfl (X0.ldc2Long hx hown (mvT hZ (own_w hw 3 rfl)) (g := (mkF m 28 #[.val (.long q0), .second, iv p1, iv nn, .val (.long s1), .second, .val (.long xx), .second, .unset, .unset, .unset, .unset, .unset, .unset, .unset, .unset] [])) rfl (hb hby at_28) t (XS.lload X0.here hx rfl (hb hby at_31) rfl (XS.ldiv X0.here hx rfl (hb hby at_33) rfl (own_xnz hxx) k)))) ?_
  obtain ⟨fi, hfi⟩ : ∃ v : Int64, v = ((2147483648 : Int64) / xx) := ⟨_, rfl⟩
  rw [← hfi]
  refine own_step (U' := s₁.setTop (mkF m 38 #[.val (.long q0), .second, iv p1, iv nn, .val (.long s1), .second, .val (.long xx), .second, .val (.long fi), .second, .unset, .unset, .unset, .unset, .unset, .unset] [(.int nn), (.long q0)])) (fun t k => XS.lstore X0.here hx rfl (hb hby at_34) rfl (l' := #[.val (.long q0), .second, iv p1, iv nn, .val (.long s1), .second, .val (.long xx), .second, .val (.long fi), .second, .unset, .unset, .unset, .unset, .unset, .unset]) rfl (XS.lloadN X0.here hx rfl (hb hby at_36) rfl (XS.iloadN X0.here hx rfl (hb hby at_37) rfl k))) ?_
  obtain ⟨_, _, ⟨T1, L1, k1, n1⟩, -, X1, ⟨Lc1, hQ1, l1, y1, z1⟩, st1⟩ := Jvm.LawKit.callS X0 hx (y := (⟨"com/example/which_bucket/whichbucket/WhichBucket", "jumpHash", "(JI)I"⟩ : MethodName)) hown (mvT hZ (own_w hw 4 rfl)) (mvT hZ (own_w hw 5 rfl)) (mvT hZ (own_w hw 6 rfl)) (mvT hZ (own_w hw 7 rfl)) (by decide) (backOf (W := 0) (rm1 l Z a0 hw [] q0 nn h0 n0 Z0 (own_hn hnn).1) hZ (own_w hw 7 rfl) (own_w hw 6 rfl) (by decide) (by decide)) (g := (mkF m 38 #[.val (.long q0), .second, iv p1, iv nn, .val (.long s1), .second, .val (.long xx), .second, .val (.long fi), .second, .unset, .unset, .unset, .unset, .unset, .unset] [(.int nn), (.long q0)])) rfl (by rw [hml]; rfl) (argsL := [(.long q0), (.int nn)]) (rest := []) (lenOf pd__JI_I rfl) rfl (by show 2 * 0 + _ ≤ _; exact Nat.le_of_eq rfl) (hb hby at_38) (fun _ _ => ⟨rfl, e0, (by decide : 0 + 0 ≤ _), (by decide : 0 + 0 ≤ _)⟩)
  dsimp only [Pt.U, Pt.locs, Pt.cells, Pt.slots] at X1 l1 y1 z1 st1 hQ1
  subst l1 y1 z1
  obtain ⟨ra, rfl, Jra, N1q, eq1⟩ := hQ1
  have N1 := Fr.app N0 N1q
  refine own_step (U' := T1.setTop (mkF m 41 #[.val (.long q0), .second, iv p1, iv nn, .val (.long s1), .second, .val (.long xx), .second, .val (.long fi), .second, .unset, .unset, .unset, .unset, .unset, .unset] [(.int ra)])) st1 ?_
  refine own_step (U' := T1.setTop (mkF m 47 #[.val (.long q0), .second, iv p1, iv nn, .val (.long s1), .second, .val (.long xx), .second, .val (.long fi), .second, iv ra, .unset, .unset, .unset, .unset, .unset] [(.int (nn + (1 : Int32))), (.long q0)])) (fun t k => XS.istore X1.here hx rfl (hb hby at_41) rfl (l' := #[.val (.long q0), .second, iv p1, iv nn, .val (.long s1), .second, .val (.long xx), .second, .val (.long fi), .second, iv ra, .unset, .unset, .unset, .unset, .unset]) rfl (XS.lloadN X1.here hx rfl (hb hby at_43) rfl (XS.iloadN X1.here hx rfl (hb hby at_44) rfl (XS.iconst X1.here hx rfl (hb hby at_45) (XS.iadd X1.here hx rfl (hb hby at_46) rfl k))))) ?_
  obtain ⟨_, _, ⟨T2, L2, k2, n2⟩, -, X2, ⟨Lc2, hQ2, l2, y2, z2⟩, st2⟩ := Jvm.LawKit.callS X1 hx (y := (⟨"com/example/which_bucket/whichbucket/WhichBucket", "jumpHash", "(JI)I"⟩ : MethodName)) hown (mvT hZ (own_w hw 4 rfl)) (mvT hZ (own_w hw 5 rfl)) (mvT hZ (own_w hw 6 rfl)) (mvT hZ (own_w hw 7 rfl)) (by decide) (backOf (W := 0) (rm1 l Z a0 hw [] q0 (nn + (1 : Int32)) h0 n0 Z0 (own_hn2 hnn)) hZ (own_w hw 7 rfl) (own_w hw 6 rfl) (by decide) (by decide)) (g := (mkF m 47 #[.val (.long q0), .second, iv p1, iv nn, .val (.long s1), .second, .val (.long xx), .second, .val (.long fi), .second, iv ra, .unset, .unset, .unset, .unset, .unset] [(.int (nn + (1 : Int32))), (.long q0)])) rfl (by rw [hml]; rfl) (argsL := [(.long q0), (.int (nn + (1 : Int32)))]) (rest := []) (lenOf pd__JI_I rfl) rfl (by show 2 * 0 + _ ≤ _; exact Nat.le_of_eq rfl) (hb hby at_47) (fun _ _ => ⟨rfl, eq1, (by decide : 0 + 0 ≤ _), (by decide : 0 + 0 ≤ _)⟩)
  dsimp only [Pt.U, Pt.locs, Pt.cells, Pt.slots] at X2 l2 y2 z2 st2 hQ2
  subst l2 y2 z2
  obtain ⟨rb, rfl, Jrb, N2q, eq2⟩ := hQ2
  have N2 := Fr.app N1 N2q
  refine own_step (U' := T2.setTop (mkF m 50 #[.val (.long q0), .second, iv p1, iv nn, .val (.long s1), .second, .val (.long xx), .second, .val (.long fi), .second, iv ra, .unset, .unset, .unset, .unset, .unset] [(.int rb)])) st2 ?_
  refine own_step (U' := T2.setTop (mkF m 67 #[.val (.long q0), .second, iv p1, iv nn, .val (.long s1), .second, .val (.long xx), .second, .val (.long fi), .second, iv ra, iv rb, iv (1 : Int32), .unset, .unset, .unset] [(.int ra)])) (fun t k => XS.istore X2.here hx rfl (hb hby at_50) rfl (l' := #[.val (.long q0), .second, iv p1, iv nn, .val (.long s1), .second, .val (.long xx), .second, .val (.long fi), .second, iv ra, iv rb, .unset, .unset, .unset, .unset]) rfl (XS.iconst X2.here hx rfl (hb hby at_52) (XS.istore X2.here hx rfl (hb hby at_53) rfl (l' := #[.val (.long q0), .second, iv p1, iv nn, .val (.long s1), .second, .val (.long xx), .second, .val (.long fi), .second, iv ra, iv rb, iv (1 : Int32), .unset, .unset, .unset]) rfl (XS.iload X2.here hx rfl (hb hby at_55) rfl (XS.ifNo X2.here hx rfl (hb hby at_57) rfl (by decide) (XS.iload X2.here hx rfl (hb hby at_60) rfl (XS.ifNo X2.here hx rfl (hb hby at_62) rfl ((if0 _ _).trans (flt (own_ge0 (own_hn hnn).1 Jra)).1) (XS.iload X2.here hx rfl (hb hby at_65) rfl k)))))))) ?_
  refine own_step (U' := T2.setTop (mkF m 85 #[.val (.long q0), .second, iv p1, iv nn, .val (.long s1), .second, .val (.long xx), .second, .val (.long fi), .second, iv ra, iv rb, iv (1 : Int32), .unset, .unset, .unset] [(.int rb)])) (fun t k => XS.iloadN X2.here hx rfl (hb hby at_67) rfl (XS.icmpNo X2.here hx rfl (hb hby at_68) rfl (tlt (own_ltn (own_hn hnn).1 Jra)).2.1 (XS.iconst X2.here hx rfl (hb hby at_71) (XS.goto X2.here hx rfl (pc0 := 72) (pc' := 76) rfl (hb hby at_72) (by decide) (by decide) (XS.istore X2.here hx rfl (hb hby at_76) rfl (l' := #[.val (.long q0), .second, iv p1, iv nn, .val (.long s1), .second, .val (.long xx), .second, .val (.long fi), .second, iv ra, iv rb, iv (1 : Int32), .unset, .unset, .unset]) rfl (XS.iload X2.here hx rfl (hb hby at_78) rfl (XS.ifNo X2.here hx rfl (hb hby at_80) rfl (by decide) (XS.iload X2.here hx rfl (hb hby at_83) rfl k)))))))) ?_
  refine own_step (U' := T2.setTop (mkF m 103 #[.val (.long q0), .second, iv p1, iv nn, .val (.long s1), .second, .val (.long xx), .second, .val (.long fi), .second, iv ra, iv rb, iv (1 : Int32), .unset, .unset, .unset] [(.int (1 : Int32))])) (fun t k => XS.ifNo X2.here hx rfl (hb hby at_85) rfl ((if0 _ _).trans (flt (own_ge0 (own_hn2 hnn) Jrb)).1) (XS.iload X2.here hx rfl (hb hby at_88) rfl (XS.iloadN X2.here hx rfl (hb hby at_90) rfl (XS.icmpNo X2.here hx rfl (hb hby at_91) rfl (flt (own_len hnn Jrb)).2.2.1 (XS.iconst X2.here hx rfl (hb hby at_94) (XS.goto X2.here hx rfl (pc0 := 95) (pc' := 99) rfl (hb hby at_95) (by decide) (by decide) (XS.istore X2.here hx rfl (hb hby at_99) rfl (l' := #[.val (.long q0), .second, iv p1, iv nn, .val (.long s1), .second, .val (.long xx), .second, .val (.long fi), .second, iv ra, iv rb, iv (1 : Int32), .unset, .unset, .unset]) rfl (XS.iload X2.here hx rfl (hb hby at_101) rfl k)))))))) ?_
  refine own_step (U' := T2.setTop (mkF m 110 #[.val (.long q0), .second, iv p1, iv nn, .val (.long s1), .second, .val (.long xx), .second, .val (.long fi), .second, iv ra, iv rb, iv (1 : Int32), .unset, .unset, .unset] [(.int ra), (.int rb)])) (fun t k => XS.ifNo X2.here hx rfl (hb hby at_103) rfl (by decide) (XS.iload X2.here hx rfl (hb hby at_106) rfl (XS.iload X2.here hx rfl (hb hby at_108) rfl k))) ?_
  have K124_4 : ∀ (T' : State) (locs' : List Loc) (X' : Stand p l e room_1 s m #[(.long q0), (.int p1)] below meth c T' locs' 0 0) (N' : Fr n0 locs') (e' : T'.heap = h0), own_Go p.tables e below s 0 0 (Q0 Z q0 p1 h0 n0) (T'.setTop (mkF m 124 #[.val (.long q0), .second, iv p1, iv nn, .val (.long s1), .second, .val (.long xx), .second, .val (.long fi), .second, iv ra, iv rb, iv (1 : Int32), .unset, .unset, .unset] [(.int (1 : Int32))])) := by
    intro T4 L4 X4 N4 e4
    refine own_step (U' := T4.setTop (mkF m 133 #[.val (.long q0), .second, iv p1, iv nn, .val (.long s1), .second, .val (.long xx), .second, .val (.long fi), .second, iv ra, iv rb, iv (1 : Int32), .unset, .unset, .unset] [(.int ra)])) (fun t k => XS.istore X4.here hx rfl (hb hby at_124) rfl (l' := #[.val (.long q0), .second, iv p1, iv nn, .val (.long s1), .second, .val (.long xx), .second, .val (.long fi), .second, iv ra, iv rb, iv (1 : Int32), .unset, .unset, .unset]) rfl (XS.iload X4.here hx rfl (hb hby at_126) rfl (XS.ifNo X4.here hx rfl (hb hby at_128) rfl (by decide) (XS.iload X4.here hx rfl (hb hby at_131) rfl k)))) ?_
    by_cases hc133_5 : ra = (0 : Int32)
    · refine own_step (U' := T4.setTop (mkF m 149 #[.val (.long q0), .second, iv p1, iv nn, .val (.long s1), .second, .val (.long xx), .second, .val (.long fi), .second, iv ra, iv rb, iv (1 : Int32), .unset, .unset, .unset] [(.int (1 : Int32))])) (fun t k => XS.ifNo X4.here hx rfl (hb hby at_133) rfl ((if0 _ _).trans (teq hc133_5).2) (XS.iconst X4.here hx rfl (hb hby at_136) (XS.goto X4.here hx rfl (pc0 := 137) (pc' := 141) rfl (hb hby at_137) (by decide) (by decide) (XS.lload X4.here hx rfl (hb hby at_141) rfl (XS.iloadN X4.here hx rfl (hb hby at_143) rfl (XS.i2l X4.here hx rfl (hb hby at_144) rfl (XS.lcmp X4.here hx rfl (hb hby at_145) rfl (XS.ifNo X4.here hx rfl (hb hby at_146) rfl ((if0 _ _).trans (flt (mt (lw_lt fi (nn.toInt64)).mp (own_f1 hnn hs1 hxx hfi Jra hc133_5))).1) k)))))))) ?_
      refine own_step (U' := T4.setTop (mkF m 169 #[.val (.long q0), .second, iv p1, iv nn, .val (.long s1), .second, .val (.long xx), .second, .val (.long fi), .second, iv ra, iv rb, iv (1 : Int32), .unset, .unset, .unset] [])) (fun t k => XS.iconst X4.here hx rfl (hb hby at_149) (XS.goto X4.here hx rfl (pc0 := 150) (pc' := 154) rfl (hb hby at_150) (by decide) (by decide) (XS.icmpNo X4.here hx rfl (hb hby at_154) rfl (by decide) (XS.iconst X4.here hx rfl (hb hby at_157) (XS.goto X4.here hx rfl (pc0 := 158) (pc' := 162) rfl (hb hby at_158) (by decide) (by decide) (XS.istore X4.here hx rfl (hb hby at_162) rfl (l' := #[.val (.long q0), .second, iv p1, iv nn, .val (.long s1), .second, .val (.long xx), .second, .val (.long fi), .second, iv ra, iv rb, iv (1 : Int32), .unset, .unset, .unset]) rfl (XS.iload X4.here hx rfl (hb hby at_164) rfl (XS.ifNo X4.here hx rfl (hb hby at_166) rfl (by decide) k)))))))) ?_
      refine own_step (U' := T4.setTop (mkF m 195 #[.val (.long q0), .second, iv p1, iv nn, .val (.long s1), .second, .val (.long xx), .second, .val (.long fi), .second, iv ra, iv rb, iv (1 : Int32), .unset, .unset, .unset] [(.long (2147483647 : Int64)), (.long fi)])) (fun t k => XS.iload X4.here hx rfl (hb hby at_169) rfl (XS.ifYes X4.here hx rfl (pc0 := 171) (pc' := 183) rfl (hb hby at_171) rfl ((if0 _ _).trans (teq hc133_5).1) (by decide) (by decide) (XS.iconst X4.here hx rfl (hb hby at_183) (XS.goto X4.here hx rfl (pc0 := 184) (pc' := 188) rfl (hb hby at_184) (by decide) (by decide) (XS.istore X4.here hx rfl (hb hby at_188) rfl (l' := #[.val (.long q0), .second, iv p1, iv nn, .val (.long s1), .second, .val (.long xx), .second, .val (.long fi), .second, iv ra, iv rb, iv (1 : Int32), .unset, .unset, .unset]) rfl (XS.lload X4.here hx rfl (hb hby at_190) rfl (X4.ldc2Long hx hown (mvT hZ (own_w hw 13 rfl)) (g := (mkF m 192 #[.val (.long q0), .second, iv p1, iv nn, .val (.long s1), .second, .val (.long xx), .second, .val (.long fi), .second, iv ra, iv rb, iv (1 : Int32), .unset, .unset, .unset] [(.long fi)])) rfl (hb hby at_192) t k))))))) ?_
      obtain ⟨_, _, ⟨T6, L6, k6, n6⟩, -, X6, ⟨Lc6, hQ6, l6, y6, z6⟩, st6⟩ := Jvm.LawKit.callS X4 hx (y := (⟨"java/lang/Math", "min", "(JJ)J"⟩ : MethodName)) hown (mvT hZ (own_w hw 14 rfl)) (mvT hZ (own_w hw 15 rfl)) (mvT hZ (own_w hw 16 rfl)) (mvT hZ (own_w hw 17 rfl)) (by decide) (backOf (W := 0) (rm3 l Z a0 hw [] fi (2147483647 : Int64) h0 n0 Z0) hZ (own_w hw 17 rfl) (own_w hw 16 rfl) (by decide) (by decide)) (g := (mkF m 195 #[.val (.long q0), .second, iv p1, iv nn, .val (.long s1), .second, .val (.long xx), .second, .val (.long fi), .second, iv ra, iv rb, iv (1 : Int32), .unset, .unset, .unset] [(.long (2147483647 : Int64)), (.long fi)])) rfl (by rw [hml]; rfl) (argsL := [(.long fi), (.long (2147483647 : Int64))]) (rest := []) (lenOf pd__JJ_J rfl) rfl (by show 2 * 0 + _ ≤ _; exact Nat.le_of_eq rfl) (hb hby at_195) (fun _ _ => ⟨rfl, e4, (by decide : 0 + 0 ≤ _), (by decide : 0 + 0 ≤ _)⟩)
      dsimp only [Pt.U, Pt.locs, Pt.cells, Pt.slots] at X6 l6 y6 z6 st6 hQ6
      subst l6 y6 z6
      obtain ⟨rfl, N6q, eq6⟩ := hQ6
      have N6 := Fr.app N4 N6q
      refine own_step (U' := T6.setTop (mkF m 198 #[.val (.long q0), .second, iv p1, iv nn, .val (.long s1), .second, .val (.long xx), .second, .val (.long fi), .second, iv ra, iv rb, iv (1 : Int32), .unset, .unset, .unset] [(.long (F3 fi (2147483647 : Int64)))])) st6 ?_
      refine own_step (U' := T6.setTop (mkF m 199 #[.val (.long q0), .second, iv p1, iv nn, .val (.long s1), .second, .val (.long xx), .second, .val (.long fi), .second, iv ra, iv rb, iv (1 : Int32), .unset, .unset, .unset] [(.int ((F3 fi (2147483647 : Int64)).toInt32))])) (fun t k => XS.l2i X6.here hx rfl (hb hby at_198) rfl k) ?_
      obtain ⟨af, haf⟩ : ∃ v : Int32, v = ((F3 fi (2147483647 : Int64)).toInt32) := ⟨_, rfl⟩
      rw [← haf]
      refine own_step (U' := T6.setTop (mkF m 204 #[.val (.long q0), .second, iv p1, iv nn, .val (.long s1), .second, .val (.long xx), .second, .val (.long fi), .second, iv ra, iv rb, iv (1 : Int32), iv af, .unset, .unset] [(.int af), (.long q0)])) (fun t k => XS.istore X6.here hx rfl (hb hby at_199) rfl (l' := #[.val (.long q0), .second, iv p1, iv nn, .val (.long s1), .second, .val (.long xx), .second, .val (.long fi), .second, iv ra, iv rb, iv (1 : Int32), iv af, .unset, .unset]) rfl (XS.lloadN X6.here hx rfl (hb hby at_201) rfl (XS.iload X6.here hx rfl (hb hby at_202) rfl k))) ?_
      obtain ⟨_, _, ⟨T7, L7, k7, n7⟩, -, X7, ⟨Lc7, hQ7, l7, y7, z7⟩, st7⟩ := Jvm.LawKit.callS X6 hx (y := (⟨"com/example/which_bucket/whichbucket/WhichBucket", "jumpHash", "(JI)I"⟩ : MethodName)) hown (mvT hZ (own_w hw 4 rfl)) (mvT hZ (own_w hw 5 rfl)) (mvT hZ (own_w hw 6 rfl)) (mvT hZ (own_w hw 7 rfl)) (by decide) (backOf (W := 0) (rm1 l Z a0 hw [] q0 af h0 n0 Z0 (own_haf hs1 hxx hfi haf)) hZ (own_w hw 7 rfl) (own_w hw 6 rfl) (by decide) (by decide)) (g := (mkF m 204 #[.val (.long q0), .second, iv p1, iv nn, .val (.long s1), .second, .val (.long xx), .second, .val (.long fi), .second, iv ra, iv rb, iv (1 : Int32), iv af, .unset, .unset] [(.int af), (.long q0)])) rfl (by rw [hml]; rfl) (argsL := [(.long q0), (.int af)]) (rest := []) (lenOf pd__JI_I rfl) rfl (by show 2 * 0 + _ ≤ _; exact Nat.le_of_eq rfl) (hb hby at_204) (fun _ _ => ⟨rfl, eq6, (by decide : 0 + 0 ≤ _), (by decide : 0 + 0 ≤ _)⟩)
      dsimp only [Pt.U, Pt.locs, Pt.cells, Pt.slots] at X7 l7 y7 z7 st7 hQ7
      subst l7 y7 z7
      obtain ⟨rc, rfl, Jrc, N7q, eq7⟩ := hQ7
      have N7 := Fr.app N6 N7q
      refine own_step (U' := T7.setTop (mkF m 207 #[.val (.long q0), .second, iv p1, iv nn, .val (.long s1), .second, .val (.long xx), .second, .val (.long fi), .second, iv ra, iv rb, iv (1 : Int32), iv af, .unset, .unset] [(.int rc)])) st7 ?_
      refine own_step (U' := T7.setTop (mkF m 226 #[.val (.long q0), .second, iv p1, iv nn, .val (.long s1), .second, .val (.long xx), .second, .val (.long fi), .second, iv ra, iv rb, iv (1 : Int32), iv af, iv rc, .unset] [])) (fun t k => XS.istore X7.here hx rfl (hb hby at_207) rfl (l' := #[.val (.long q0), .second, iv p1, iv nn, .val (.long s1), .second, .val (.long xx), .second, .val (.long fi), .second, iv ra, iv rb, iv (1 : Int32), iv af, iv rc, .unset]) rfl (XS.iload X7.here hx rfl (hb hby at_209) rfl (XS.ifNo X7.here hx rfl (hb hby at_211) rfl (by decide) (XS.iload X7.here hx rfl (hb hby at_214) rfl (XS.ifNo X7.here hx rfl (hb hby at_216) rfl ((if0 _ _).trans (teq (own_d0 hs1 hxx hfi haf Jrc)).2) (XS.iconst X7.here hx rfl (hb hby at_219) (XS.goto X7.here hx rfl (pc0 := 220) (pc' := 224) rfl (hb hby at_220) (by decide) (by decide) (XS.istore X7.here hx rfl (hb hby at_224) rfl (l' := #[.val (.long q0), .second, iv p1, iv nn, .val (.long s1), .second, .val (.long xx), .second, .val (.long fi), .second, iv ra, iv rb, iv (1 : Int32), iv af, iv rc, .unset]) rfl k)))))))) ?_
      refine own_step (U' := T7.setTop (mkF m 232 #[.val (.long q0), .second, iv p1, iv nn, .val (.long s1), .second, .val (.long xx), .second, .val (.long fi), .second, iv ra, iv rb, iv (1 : Int32), iv af, iv rc, .unset] [(.int (lcmpW fi (2147483647 : Int64)))])) (fun t k => XS.lload X7.here hx rfl (hb hby at_226) rfl (X7.ldc2Long hx hown (mvT hZ (own_w hw 13 rfl)) (g := (mkF m 228 #[.val (.long q0), .second, iv p1, iv nn, .val (.long s1), .second, .val (.long xx), .second, .val (.long fi), .second, iv ra, iv rb, iv (1 : Int32), iv af, iv rc, .unset] [(.long fi)])) rfl (hb hby at_228) t (XS.lcmp X7.here hx rfl (hb hby at_231) rfl k))) ?_
      by_cases hc232_8 : fi < (2147483647 : Int64)
      · refine own_step (U' := T7.setTop (mkF m 241 #[.val (.long q0), .second, iv p1, iv nn, .val (.long s1), .second, .val (.long xx), .second, .val (.long fi), .second, iv ra, iv rb, iv (1 : Int32), iv af, iv rc, .unset] [(.int ((fi.toInt32) + (1 : Int32))), (.long q0)])) (fun t k => XS.ifNo X7.here hx rfl (hb hby at_232) rfl ((if0 _ _).trans (tlt ((lw_lt fi (2147483647 : Int64)).mpr hc232_8)).2.1) (XS.lloadN X7.here hx rfl (hb hby at_235) rfl (XS.lload X7.here hx rfl (hb hby at_236) rfl (XS.l2i X7.here hx rfl (hb hby at_238) rfl (XS.iconst X7.here hx rfl (hb hby at_239) (XS.iadd X7.here hx rfl (hb hby at_240) rfl k)))))) ?_
        obtain ⟨_, _, ⟨T9, L9, k9, n9⟩, -, X9, ⟨Lc9, hQ9, l9, y9, z9⟩, st9⟩ := Jvm.LawKit.callS X7 hx (y := (⟨"com/example/which_bucket/whichbucket/WhichBucket", "jumpHash", "(JI)I"⟩ : MethodName)) hown (mvT hZ (own_w hw 4 rfl)) (mvT hZ (own_w hw 5 rfl)) (mvT hZ (own_w hw 6 rfl)) (mvT hZ (own_w hw 7 rfl)) (by decide) (backOf (W := 0) (rm1 l Z a0 hw [] q0 ((fi.toInt32) + (1 : Int32)) h0 n0 Z0 (own_hfi hs1 hxx hfi hc232_8)) hZ (own_w hw 7 rfl) (own_w hw 6 rfl) (by decide) (by decide)) (g := (mkF m 241 #[.val (.long q0), .second, iv p1, iv nn, .val (.long s1), .second, .val (.long xx), .second, .val (.long fi), .second, iv ra, iv rb, iv (1 : Int32), iv af, iv rc, .unset] [(.int ((fi.toInt32) + (1 : Int32))), (.long q0)])) rfl (by rw [hml]; rfl) (argsL := [(.long q0), (.int ((fi.toInt32) + (1 : Int32)))]) (rest := []) (lenOf pd__JI_I rfl) rfl (by show 2 * 0 + _ ≤ _; exact Nat.le_of_eq rfl) (hb hby at_241) (fun _ _ => ⟨rfl, eq7, (by decide : 0 + 0 ≤ _), (by decide : 0 + 0 ≤ _)⟩)
        dsimp only [Pt.U, Pt.locs, Pt.cells, Pt.slots] at X9 l9 y9 z9 st9 hQ9
        subst l9 y9 z9
        obtain ⟨rd, rfl, Jrd, N9q, eq9⟩ := hQ9
        have N9 := Fr.app N7 N9q
        refine own_step (U' := T9.setTop (mkF m 244 #[.val (.long q0), .second, iv p1, iv nn, .val (.long s1), .second, .val (.long xx), .second, .val (.long fi), .second, iv ra, iv rb, iv (1 : Int32), iv af, iv rc, .unset] [(.int rd)])) st9 ?_
        refine own_step (U' := T9.setTop (mkF m 260 #[.val (.long q0), .second, iv p1, iv nn, .val (.long s1), .second, .val (.long xx), .second, .val (.long fi), .second, iv ra, iv rb, iv (1 : Int32), iv af, iv rc, iv rd] [])) (fun t k => XS.istore X9.here hx rfl (hb hby at_244) rfl (l' := #[.val (.long q0), .second, iv p1, iv nn, .val (.long s1), .second, .val (.long xx), .second, .val (.long fi), .second, iv ra, iv rb, iv (1 : Int32), iv af, iv rc, iv rd]) rfl (XS.iload X9.here hx rfl (hb hby at_246) rfl (XS.ifNo X9.here hx rfl (hb hby at_248) rfl (by decide) (XS.iload X9.here hx rfl (hb hby at_251) rfl (XS.i2l X9.here hx rfl (hb hby at_253) rfl (XS.lload X9.here hx rfl (hb hby at_254) rfl (XS.lcmp X9.here hx rfl (hb hby at_256) rfl (XS.ifNo X9.here hx rfl (hb hby at_257) rfl ((if0 _ _).trans (teq ((lw_eq (rd.toInt64) fi).mpr (own_e0 hs1 hxx hfi hc232_8 Jrd))).2) k)))))))) ?_
        refine own_step (U' := T9.setTop (mkF m 269 #[.val (.long q0), .second, iv p1, iv nn, .val (.long s1), .second, .val (.long xx), .second, .val (.long fi), .second, iv ra, iv rb, iv (1 : Int32), iv af, iv rc, iv rd] [(.int (1 : Int32))])) (fun t k => XS.iconst X9.here hx rfl (hb hby at_260) (XS.goto X9.here hx rfl (pc0 := 261) (pc' := 265) rfl (hb hby at_261) (by decide) (by decide) (XS.istore X9.here hx rfl (hb hby at_265) rfl (l' := #[.val (.long q0), .second, iv p1, iv nn, .val (.long s1), .second, .val (.long xx), .second, .val (.long fi), .second, iv ra, iv rb, iv (1 : Int32), iv af, iv rc, iv rd]) rfl (XS.iload X9.here hx rfl (hb hby at_267) rfl k)))) ?_
        exact own_out X9 (v := (some (.int (1 : Int32)))) hlk (own_nv Bd.returns) (by rw [eq9]; exact ⟨rfl, N9⟩) (by decide) (by decide) (fun fs hr => retN X9 hx (t := .boolean) Bd.returns (by simp) (hb hby at_269) hr)
      · refine own_step (U' := T7.setTop (mkF m 269 #[.val (.long q0), .second, iv p1, iv nn, .val (.long s1), .second, .val (.long xx), .second, .val (.long fi), .second, iv ra, iv rb, iv (1 : Int32), iv af, iv rc, .unset] [(.int (1 : Int32))])) (fun t k => XS.ifYes X7.here hx rfl (pc0 := 232) (pc' := 267) rfl (hb hby at_232) rfl ((if0 _ _).trans (flt (mt (lw_lt fi (2147483647 : Int64)).mp hc232_8)).2.1) (by decide) (by decide) (XS.iload X7.here hx rfl (hb hby at_267) rfl k)) ?_
        exact own_out X7 (v := (some (.int (1 : Int32)))) hlk (own_nv Bd.returns) (by rw [eq7]; exact ⟨rfl, N7⟩) (by decide) (by decide) (fun fs hr => retN X7 hx (t := .boolean) Bd.returns (by simp) (hb hby at_269) hr)
    · refine own_step (U' := T4.setTop (mkF m 154 #[.val (.long q0), .second, iv p1, iv nn, .val (.long s1), .second, .val (.long xx), .second, .val (.long fi), .second, iv ra, iv rb, iv (1 : Int32), .unset, .unset, .unset] [(.int (0 : Int32)), (.int (0 : Int32))])) (fun t k => XS.ifYes X4.here hx rfl (pc0 := 133) (pc' := 140) rfl (hb hby at_133) rfl ((if0 _ _).trans (feq hc133_5).2) (by decide) (by decide) (XS.iconst X4.here hx rfl (hb hby at_140) (XS.lload X4.here hx rfl (hb hby at_141) rfl (XS.iloadN X4.here hx rfl (hb hby at_143) rfl (XS.i2l X4.here hx rfl (hb hby at_144) rfl (XS.lcmp X4.here hx rfl (hb hby at_145) rfl (XS.ifYes X4.here hx rfl (pc0 := 146) (pc' := 153) rfl (hb hby at_146) rfl ((if0 _ _).trans (tlt ((lw_lt fi (nn.toInt64)).mpr (own_f2 hnn hs1 hxx hfi Jra hc133_5))).1) (by decide) (by decide) (XS.iconst X4.here hx rfl (hb hby at_153) k)))))))) ?_
      refine own_step (U' := T4.setTop (mkF m 174 #[.val (.long q0), .second, iv p1, iv nn, .val (.long s1), .second, .val (.long xx), .second, .val (.long fi), .second, iv ra, iv rb, iv (1 : Int32), .unset, .unset, .unset] [])) (fun t k => XS.icmpNo X4.here hx rfl (hb hby at_154) rfl (by decide) (XS.iconst X4.here hx rfl (hb hby at_157) (XS.goto X4.here hx rfl (pc0 := 158) (pc' := 162) rfl (hb hby at_158) (by decide) (by decide) (XS.istore X4.here hx rfl (hb hby at_162) rfl (l' := #[.val (.long q0), .second, iv p1, iv nn, .val (.long s1), .second, .val (.long xx), .second, .val (.long fi), .second, iv ra, iv rb, iv (1 : Int32), .unset, .unset, .unset]) rfl (XS.iload X4.here hx rfl (hb hby at_164) rfl (XS.ifNo X4.here hx rfl (hb hby at_166) rfl (by decide) (XS.iload X4.here hx rfl (hb hby at_169) rfl (XS.ifNo X4.here hx rfl (hb hby at_171) rfl ((if0 _ _).trans (feq hc133_5).1) k)))))))) ?_
      refine own_step (U' := T4.setTop (mkF m 190 #[.val (.long q0), .second, iv p1, iv nn, .val (.long s1), .second, .val (.long xx), .second, .val (.long fi), .second, iv ra, iv rb, iv (1 : Int32), .unset, .unset, .unset] [])) (fun t k => XS.iload X4.here hx rfl (hb hby at_174) rfl (XS.i2l X4.here hx rfl (hb hby at_176) rfl (XS.lload X4.here hx rfl (hb hby at_177) rfl (XS.lcmp X4.here hx rfl (hb hby at_179) rfl (XS.ifNo X4.here hx rfl (hb hby at_180) rfl ((if0 _ _).trans (flt (mt (lw_lt (ra.toInt64) fi).mp (own_f3 hnn hs1 hxx hfi Jra hc133_5))).1) (XS.iconst X4.here hx rfl (hb hby at_183) (XS.goto X4.here hx rfl (pc0 := 184) (pc' := 188) rfl (hb hby at_184) (by decide) (by decide) (XS.istore X4.here hx rfl (hb hby at_188) rfl (l' := #[.val (.long q0), .second, iv p1, iv nn, .val (.long s1), .second, .val (.long xx), .second, .val (.long fi), .second, iv ra, iv rb, iv (1 : Int32), .unset, .unset, .unset]) rfl k)))))))) ?_
      refine own_step (U' := T4.setTop (mkF m 195 #[.val (.long q0), .second, iv p1, iv nn, .val (.long s1), .second, .val (.long xx), .second, .val (.long fi), .second, iv ra, iv rb, iv (1 : Int32), .unset, .unset, .unset] [(.long (2147483647 : Int64)), (.long fi)])) (fun t k => XS.lload X4.here hx rfl (hb hby at_190) rfl (X4.ldc2Long hx hown (mvT hZ (own_w hw 13 rfl)) (g := (mkF m 192 #[.val (.long q0), .second, iv p1, iv nn, .val (.long s1), .second, .val (.long xx), .second, .val (.long fi), .second, iv ra, iv rb, iv (1 : Int32), .unset, .unset, .unset] [(.long fi)])) rfl (hb hby at_192) t k)) ?_
      obtain ⟨_, _, ⟨T10, L10, k10, n10⟩, -, X10, ⟨Lc10, hQ10, l10, y10, z10⟩, st10⟩ := Jvm.LawKit.callS X4 hx (y := (⟨"java/lang/Math", "min", "(JJ)J"⟩ : MethodName)) hown (mvT hZ (own_w hw 14 rfl)) (mvT hZ (own_w hw 15 rfl)) (mvT hZ (own_w hw 16 rfl)) (mvT hZ (own_w hw 17 rfl)) (by decide) (backOf (W := 0) (rm3 l Z a0 hw [] fi (2147483647 : Int64) h0 n0 Z0) hZ (own_w hw 17 rfl) (own_w hw 16 rfl) (by decide) (by decide)) (g := (mkF m 195 #[.val (.long q0), .second, iv p1, iv nn, .val (.long s1), .second, .val (.long xx), .second, .val (.long fi), .second, iv ra, iv rb, iv (1 : Int32), .unset, .unset, .unset] [(.long (2147483647 : Int64)), (.long fi)])) rfl (by rw [hml]; rfl) (argsL := [(.long fi), (.long (2147483647 : Int64))]) (rest := []) (lenOf pd__JJ_J rfl) rfl (by show 2 * 0 + _ ≤ _; exact Nat.le_of_eq rfl) (hb hby at_195) (fun _ _ => ⟨rfl, e4, (by decide : 0 + 0 ≤ _), (by decide : 0 + 0 ≤ _)⟩)
      dsimp only [Pt.U, Pt.locs, Pt.cells, Pt.slots] at X10 l10 y10 z10 st10 hQ10
      subst l10 y10 z10
      obtain ⟨rfl, N10q, eq10⟩ := hQ10
      have N10 := Fr.app N4 N10q
      refine own_step (U' := T10.setTop (mkF m 198 #[.val (.long q0), .second, iv p1, iv nn, .val (.long s1), .second, .val (.long xx), .second, .val (.long fi), .second, iv ra, iv rb, iv (1 : Int32), .unset, .unset, .unset] [(.long (F3 fi (2147483647 : Int64)))])) st10 ?_
      refine own_step (U' := T10.setTop (mkF m 199 #[.val (.long q0), .second, iv p1, iv nn, .val (.long s1), .second, .val (.long xx), .second, .val (.long fi), .second, iv ra, iv rb, iv (1 : Int32), .unset, .unset, .unset] [(.int ((F3 fi (2147483647 : Int64)).toInt32))])) (fun t k => XS.l2i X10.here hx rfl (hb hby at_198) rfl k) ?_
      obtain ⟨af, haf⟩ : ∃ v : Int32, v = ((F3 fi (2147483647 : Int64)).toInt32) := ⟨_, rfl⟩
      rw [← haf]
      refine own_step (U' := T10.setTop (mkF m 204 #[.val (.long q0), .second, iv p1, iv nn, .val (.long s1), .second, .val (.long xx), .second, .val (.long fi), .second, iv ra, iv rb, iv (1 : Int32), iv af, .unset, .unset] [(.int af), (.long q0)])) (fun t k => XS.istore X10.here hx rfl (hb hby at_199) rfl (l' := #[.val (.long q0), .second, iv p1, iv nn, .val (.long s1), .second, .val (.long xx), .second, .val (.long fi), .second, iv ra, iv rb, iv (1 : Int32), iv af, .unset, .unset]) rfl (XS.lloadN X10.here hx rfl (hb hby at_201) rfl (XS.iload X10.here hx rfl (hb hby at_202) rfl k))) ?_
      obtain ⟨_, _, ⟨T11, L11, k11, n11⟩, -, X11, ⟨Lc11, hQ11, l11, y11, z11⟩, st11⟩ := Jvm.LawKit.callS X10 hx (y := (⟨"com/example/which_bucket/whichbucket/WhichBucket", "jumpHash", "(JI)I"⟩ : MethodName)) hown (mvT hZ (own_w hw 4 rfl)) (mvT hZ (own_w hw 5 rfl)) (mvT hZ (own_w hw 6 rfl)) (mvT hZ (own_w hw 7 rfl)) (by decide) (backOf (W := 0) (rm1 l Z a0 hw [] q0 af h0 n0 Z0 (own_haf hs1 hxx hfi haf)) hZ (own_w hw 7 rfl) (own_w hw 6 rfl) (by decide) (by decide)) (g := (mkF m 204 #[.val (.long q0), .second, iv p1, iv nn, .val (.long s1), .second, .val (.long xx), .second, .val (.long fi), .second, iv ra, iv rb, iv (1 : Int32), iv af, .unset, .unset] [(.int af), (.long q0)])) rfl (by rw [hml]; rfl) (argsL := [(.long q0), (.int af)]) (rest := []) (lenOf pd__JI_I rfl) rfl (by show 2 * 0 + _ ≤ _; exact Nat.le_of_eq rfl) (hb hby at_204) (fun _ _ => ⟨rfl, eq10, (by decide : 0 + 0 ≤ _), (by decide : 0 + 0 ≤ _)⟩)
      dsimp only [Pt.U, Pt.locs, Pt.cells, Pt.slots] at X11 l11 y11 z11 st11 hQ11
      subst l11 y11 z11
      obtain ⟨rc, rfl, Jrc, N11q, eq11⟩ := hQ11
      have N11 := Fr.app N10 N11q
      refine own_step (U' := T11.setTop (mkF m 207 #[.val (.long q0), .second, iv p1, iv nn, .val (.long s1), .second, .val (.long xx), .second, .val (.long fi), .second, iv ra, iv rb, iv (1 : Int32), iv af, .unset, .unset] [(.int rc)])) st11 ?_
      refine own_step (U' := T11.setTop (mkF m 226 #[.val (.long q0), .second, iv p1, iv nn, .val (.long s1), .second, .val (.long xx), .second, .val (.long fi), .second, iv ra, iv rb, iv (1 : Int32), iv af, iv rc, .unset] [])) (fun t k => XS.istore X11.here hx rfl (hb hby at_207) rfl (l' := #[.val (.long q0), .second, iv p1, iv nn, .val (.long s1), .second, .val (.long xx), .second, .val (.long fi), .second, iv ra, iv rb, iv (1 : Int32), iv af, iv rc, .unset]) rfl (XS.iload X11.here hx rfl (hb hby at_209) rfl (XS.ifNo X11.here hx rfl (hb hby at_211) rfl (by decide) (XS.iload X11.here hx rfl (hb hby at_214) rfl (XS.ifNo X11.here hx rfl (hb hby at_216) rfl ((if0 _ _).trans (teq (own_d0 hs1 hxx hfi haf Jrc)).2) (XS.iconst X11.here hx rfl (hb hby at_219) (XS.goto X11.here hx rfl (pc0 := 220) (pc' := 224) rfl (hb hby at_220) (by decide) (by decide) (XS.istore X11.here hx rfl (hb hby at_224) rfl (l' := #[.val (.long q0), .second, iv p1, iv nn, .val (.long s1), .second, .val (.long xx), .second, .val (.long fi), .second, iv ra, iv rb, iv (1 : Int32), iv af, iv rc, .unset]) rfl k)))))))) ?_
      refine own_step (U' := T11.setTop (mkF m 232 #[.val (.long q0), .second, iv p1, iv nn, .val (.long s1), .second, .val (.long xx), .second, .val (.long fi), .second, iv ra, iv rb, iv (1 : Int32), iv af, iv rc, .unset] [(.int (lcmpW fi (2147483647 : Int64)))])) (fun t k => XS.lload X11.here hx rfl (hb hby at_226) rfl (X11.ldc2Long hx hown (mvT hZ (own_w hw 13 rfl)) (g := (mkF m 228 #[.val (.long q0), .second, iv p1, iv nn, .val (.long s1), .second, .val (.long xx), .second, .val (.long fi), .second, iv ra, iv rb, iv (1 : Int32), iv af, iv rc, .unset] [(.long fi)])) rfl (hb hby at_228) t (XS.lcmp X11.here hx rfl (hb hby at_231) rfl k))) ?_
      by_cases hc232_12 : fi < (2147483647 : Int64)
      · refine own_step (U' := T11.setTop (mkF m 241 #[.val (.long q0), .second, iv p1, iv nn, .val (.long s1), .second, .val (.long xx), .second, .val (.long fi), .second, iv ra, iv rb, iv (1 : Int32), iv af, iv rc, .unset] [(.int ((fi.toInt32) + (1 : Int32))), (.long q0)])) (fun t k => XS.ifNo X11.here hx rfl (hb hby at_232) rfl ((if0 _ _).trans (tlt ((lw_lt fi (2147483647 : Int64)).mpr hc232_12)).2.1) (XS.lloadN X11.here hx rfl (hb hby at_235) rfl (XS.lload X11.here hx rfl (hb hby at_236) rfl (XS.l2i X11.here hx rfl (hb hby at_238) rfl (XS.iconst X11.here hx rfl (hb hby at_239) (XS.iadd X11.here hx rfl (hb hby at_240) rfl k)))))) ?_
        obtain ⟨_, _, ⟨T13, L13, k13, n13⟩, -, X13, ⟨Lc13, hQ13, l13, y13, z13⟩, st13⟩ := Jvm.LawKit.callS X11 hx (y := (⟨"com/example/which_bucket/whichbucket/WhichBucket", "jumpHash", "(JI)I"⟩ : MethodName)) hown (mvT hZ (own_w hw 4 rfl)) (mvT hZ (own_w hw 5 rfl)) (mvT hZ (own_w hw 6 rfl)) (mvT hZ (own_w hw 7 rfl)) (by decide) (backOf (W := 0) (rm1 l Z a0 hw [] q0 ((fi.toInt32) + (1 : Int32)) h0 n0 Z0 (own_hfi hs1 hxx hfi hc232_12)) hZ (own_w hw 7 rfl) (own_w hw 6 rfl) (by decide) (by decide)) (g := (mkF m 241 #[.val (.long q0), .second, iv p1, iv nn, .val (.long s1), .second, .val (.long xx), .second, .val (.long fi), .second, iv ra, iv rb, iv (1 : Int32), iv af, iv rc, .unset] [(.int ((fi.toInt32) + (1 : Int32))), (.long q0)])) rfl (by rw [hml]; rfl) (argsL := [(.long q0), (.int ((fi.toInt32) + (1 : Int32)))]) (rest := []) (lenOf pd__JI_I rfl) rfl (by show 2 * 0 + _ ≤ _; exact Nat.le_of_eq rfl) (hb hby at_241) (fun _ _ => ⟨rfl, eq11, (by decide : 0 + 0 ≤ _), (by decide : 0 + 0 ≤ _)⟩)
        dsimp only [Pt.U, Pt.locs, Pt.cells, Pt.slots] at X13 l13 y13 z13 st13 hQ13
        subst l13 y13 z13
        obtain ⟨rd, rfl, Jrd, N13q, eq13⟩ := hQ13
        have N13 := Fr.app N11 N13q
        refine own_step (U' := T13.setTop (mkF m 244 #[.val (.long q0), .second, iv p1, iv nn, .val (.long s1), .second, .val (.long xx), .second, .val (.long fi), .second, iv ra, iv rb, iv (1 : Int32), iv af, iv rc, .unset] [(.int rd)])) st13 ?_
        refine own_step (U' := T13.setTop (mkF m 260 #[.val (.long q0), .second, iv p1, iv nn, .val (.long s1), .second, .val (.long xx), .second, .val (.long fi), .second, iv ra, iv rb, iv (1 : Int32), iv af, iv rc, iv rd] [])) (fun t k => XS.istore X13.here hx rfl (hb hby at_244) rfl (l' := #[.val (.long q0), .second, iv p1, iv nn, .val (.long s1), .second, .val (.long xx), .second, .val (.long fi), .second, iv ra, iv rb, iv (1 : Int32), iv af, iv rc, iv rd]) rfl (XS.iload X13.here hx rfl (hb hby at_246) rfl (XS.ifNo X13.here hx rfl (hb hby at_248) rfl (by decide) (XS.iload X13.here hx rfl (hb hby at_251) rfl (XS.i2l X13.here hx rfl (hb hby at_253) rfl (XS.lload X13.here hx rfl (hb hby at_254) rfl (XS.lcmp X13.here hx rfl (hb hby at_256) rfl (XS.ifNo X13.here hx rfl (hb hby at_257) rfl ((if0 _ _).trans (teq ((lw_eq (rd.toInt64) fi).mpr (own_e0 hs1 hxx hfi hc232_12 Jrd))).2) k)))))))) ?_
        refine own_step (U' := T13.setTop (mkF m 269 #[.val (.long q0), .second, iv p1, iv nn, .val (.long s1), .second, .val (.long xx), .second, .val (.long fi), .second, iv ra, iv rb, iv (1 : Int32), iv af, iv rc, iv rd] [(.int (1 : Int32))])) (fun t k => XS.iconst X13.here hx rfl (hb hby at_260) (XS.goto X13.here hx rfl (pc0 := 261) (pc' := 265) rfl (hb hby at_261) (by decide) (by decide) (XS.istore X13.here hx rfl (hb hby at_265) rfl (l' := #[.val (.long q0), .second, iv p1, iv nn, .val (.long s1), .second, .val (.long xx), .second, .val (.long fi), .second, iv ra, iv rb, iv (1 : Int32), iv af, iv rc, iv rd]) rfl (XS.iload X13.here hx rfl (hb hby at_267) rfl k)))) ?_
        exact own_out X13 (v := (some (.int (1 : Int32)))) hlk (own_nv Bd.returns) (by rw [eq13]; exact ⟨rfl, N13⟩) (by decide) (by decide) (fun fs hr => retN X13 hx (t := .boolean) Bd.returns (by simp) (hb hby at_269) hr)
      · refine own_step (U' := T11.setTop (mkF m 269 #[.val (.long q0), .second, iv p1, iv nn, .val (.long s1), .second, .val (.long xx), .second, .val (.long fi), .second, iv ra, iv rb, iv (1 : Int32), iv af, iv rc, .unset] [(.int (1 : Int32))])) (fun t k => XS.ifYes X11.here hx rfl (pc0 := 232) (pc' := 267) rfl (hb hby at_232) rfl ((if0 _ _).trans (flt (mt (lw_lt fi (2147483647 : Int64)).mp hc232_12)).2.1) (by decide) (by decide) (XS.iload X11.here hx rfl (hb hby at_267) rfl k)) ?_
        exact own_out X11 (v := (some (.int (1 : Int32)))) hlk (own_nv Bd.returns) (by rw [eq11]; exact ⟨rfl, N11⟩) (by decide) (by decide) (fun fs hr => retN X11 hx (t := .boolean) Bd.returns (by simp) (hb hby at_269) hr)
  by_cases hc110_14 : rb = ra
  · refine own_step (U' := T2.setTop (mkF m 124 #[.val (.long q0), .second, iv p1, iv nn, .val (.long s1), .second, .val (.long xx), .second, .val (.long fi), .second, iv ra, iv rb, iv (1 : Int32), .unset, .unset, .unset] [(.int (1 : Int32))])) (fun t k => XS.icmpYes X2.here hx rfl (pc0 := 110) (pc' := 119) rfl (hb hby at_110) rfl (teq hc110_14).1 (by decide) (by decide) (XS.iconst X2.here hx rfl (hb hby at_119) (XS.goto X2.here hx rfl (pc0 := 120) (pc' := 124) rfl (hb hby at_120) (by decide) (by decide) k))) ?_
    exact K124_4 _ _ X2 N2 eq2
  · refine own_step (U' := T2.setTop (mkF m 124 #[.val (.long q0), .second, iv p1, iv nn, .val (.long s1), .second, .val (.long xx), .second, .val (.long fi), .second, iv ra, iv rb, iv (1 : Int32), .unset, .unset, .unset] [(.int (1 : Int32))])) (fun t k => XS.icmpNo X2.here hx rfl (hb hby at_110) rfl (feq hc110_14).1 (XS.iload X2.here hx rfl (hb hby at_113) rfl (XS.iloadN X2.here hx rfl (hb hby at_115) rfl (XS.icmpNo X2.here hx rfl (hb hby at_116) rfl (teq (own_ab hnn Jra Jrb hc110_14)).2 (XS.iconst X2.here hx rfl (hb hby at_119) (XS.goto X2.here hx rfl (pc0 := 120) (pc' := 124) rfl (hb hby at_120) (by decide) (by decide) k)))))) ?_
    exact K124_4 _ _ X2 N2 eq2
set_option maxRecDepth 65536 in
set_option maxHeartbeats 40000000 in
theorem comes_1 {Post : Tables → Env → Array Value → State → Outcome → State → Prop} (hpost : ∀ tb e args s v u, (limb_1_1.after args s (.returned v) u = true ∧ limb_1_2.after args s (.returned v) u = true ∧ True) → FrameEnd s (.returned v) u (Jvm.fieldLocs frame_1_writes args s ++ Jvm.arrayLocs frame_1_arrays args s ++ Jvm.staticLocs frame_1_statics s) 0 0 → Post tb e args s (.returned v) u) :
    ArmFor flags0 classFile x code maxLocals ret World_1 tables_1 room_1 Calls_1 rest_1 Pre_1 Post := by
  intro l hfl _ _ p e ha hc hk s m args below hf hA hF happ hP
  obtain ⟨hcalls, hrest, hpre⟩ := hP
  obtain ⟨-, -, -, hnamed, -, -, -, hat⟩ := (Spec.applies_iff hf).mp happ
  obtain ⟨hg, hn⟩ := and_e (Cond.before_iff.mp (show (Jvm.Cond.and given_1 narrow_1).before args s = true from hpre))
  obtain ⟨gc, gr0⟩ := and_e hg
  obtain ⟨ga0, gr1⟩ := and_e gr0
  obtain ⟨w0, w1, rfl⟩ : ∃ w0 w1 : Value, args = #[w0, w1] := by
    have hs : args.size = 2 := by simpa [Cond.value, given_1] using gc
    obtain ⟨L⟩ := args
    match L, hs with
    | [w0, w1], _ => exact ⟨w0, w1, rfl⟩
  have hw := fun d (hd : d ∈ tables_1) => atoms_spec (ws := Jvm.Cond.code x code maxLocals ret :: tables_1) hat d (List.mem_cons_of_mem _ hd)
  have hfit : Fit s := fun {y c} hc i hi => by
    obtain ⟨ha, rfl⟩ := Array.getElem?_eq_some_iff.mp hc
    have q := List.all_eq_true.mp ((Array.all_eq_true_iff_forall_mem.mp hF) _ (Array.getElem_mem ha)) i (List.mem_range.mpr hi)
    simpa [Array.getElem?_eq_getElem hi] using q
  obtain ⟨i0, ei0⟩ := isL_v ga0
  obtain rfl : w0 = (.long i0) := Option.some.inj ei0
  obtain ⟨i1, ei1⟩ := is_v gr1
  obtain rfl : w1 = (.int i1) := Option.some.inj ei1
  obtain ⟨n, o, h1, h2, h3, _, L, rfl, ⟨rfl, N⟩, hq⟩ := rm0 l s _ hw tables_1 i0 i1  s.heap s.heap.size (Nat.le_refl _)  p e ha hc hk s m _ below hf ((Spec.applies_iff_loose hf).mp happ).1 ⟨rfl, State.Warmed39.refl s, rfl⟩ trivial
  refine ⟨n, _, h1, h2, h3, hpost _ _ _ _ _ _ ⟨Cond.after_iff.mpr rfl, Cond.after_iff.mpr (eq_i res_at (Term.int_eval (1)) rfl), trivial⟩ ⟨hq.1, hq.2.1, (hq.2.2.sift fun y hy => Or.inr (N y hy)).mono (by decide) (by decide)⟩⟩
theorem main_1_1 : Claimed_1_1 := comes_1 fun _ _ _ _ _ _ h hF => ⟨h.1, hF⟩
theorem main_1_2 : Claimed_1_2 := comes_1 fun _ _ _ _ _ _ h hF => ⟨h.2.1, hF⟩
end Jvm.Pilot.@@N@@
namespace Jvm.Pilot.@@N@@
open Jvm Jvm.ClassFile Sem Op Lib Jvm.Free Jvm.Stand Jvm.Pilot.@@N@@.Jvm.D
/-! MADE BY PROGRAM (witnessworld.py) out of the Statement's table words and the real class files: 10 classes; the members and pool entries that the words name. The judged class is class 1, her method 1. -/
namespace start1
open Jvm.ClassFile
def u (s : String) : CpInfo := .utf8 (stringToUtf16 s)
/-- a pool by its gaps: so many unusable entries, then the entry; so many at the end -/
def gap : Nat → List CpInfo → List CpInfo
  | 0, r => r
  | n + 1, r => .unusable :: gap n r
def poolList (es : List (Nat × CpInfo)) (last : Nat) : List CpInfo := es.foldr (fun e r => gap e.1 (e.2 :: r)) (gap last [])
def pool (es : List (Nat × CpInfo)) (last : Nat) : Array CpInfo := ⟨poolList es last⟩
def fileOf (pool : Array CpInfo) (this : Nat) (attrs : Array Attribute := #[]) (ms : Array MethodInfo := #[]) (fl : Nat := 33) (sup : Nat := 0) (ifs : Array Nat := #[]) (fds : Array FieldInfo := #[]) : ClassFile where
  minorVersion := 0
  majorVersion := 65
  constantPool := pool
  accessFlags := fl
  thisClass := this
  superClass := sup
  interfaces := ifs
  fields := fds
  methods := ms
  attributes := attrs
def plain (name : String) (sup : Option ClassId) : Class where
  name := name
  kind := .ordinary
  loader := none
  accessFlags := 33
  super := sup
  interfaces := #[]
  cf := none
  fields := #[]
  methods := #[]
  instanceTypes := #[]
  staticTypes := #[]
  resolved := #[]
  callSites := []
  init := .initialized
  statics := none
  mirror := none

def pool0 : Array CpInfo := pool [(5, u "<init>"), (0, u "()V"), (1, .class_ 10), (1, u "java/lang/Object")] 113

def k0m0 : Method := { name := "<init>", desc := "()V", sig := { parameters := [], returnType := none }, accessFlags := 1, code := none }
/-- java/lang/Object -/
def k0 : Class := { plain "java/lang/Object" none with
  accessFlags := 33
  interfaces := #[]
  cf := some (fileOf pool0 8 #[] #[{ accessFlags := 1, nameIndex := 5, descriptorIndex := 6, attributes := #[] }] 33 0 #[] #[])
  fields := #[]
  methods := #[k0m0]
  instanceTypes := #[]
  staticTypes := #[]
  resolved := Array.replicate 124 none
  statics := none }

def pool1 : Array CpInfo := pool [(2, .class_ 4), (1, u "java/lang/Object"), (0, u "<init>"), (0, u "()V"), (0, .integer 2147483647), (0, .integer 2147483646), (0, .long 2862933555777941757), (1, .long 2147483648), (1, .methodref 14 15), (0, .class_ 16), (0, .nameAndType 17 18), (0, u "com/example/which_bucket/whichbucket/WhichBucket"), (0, u "jumpHash"), (0, u "(JI)I"), (2, .long 2147483647), (1, .methodref 24 25), (0, .class_ 26), (0, .nameAndType 27 28), (0, u "java/lang/Math"), (0, u "min"), (0, u "(JJ)J"), (0, .class_ 30), (0, u "com/example/which_bucket/whichbucket/WhichBucketJumpHashPinLaw"), (2, u "law"), (0, u "(JI)Z")] 3

def k1m0 : Method := { name := "<init>", desc := "()V", sig := { parameters := [], returnType := none }, accessFlags := 2, code := none }
def k1c1 : Code := { maxStack := 5, maxLocals := 16, code := code, exceptionTable := #[], attributes := #[] }
def k1m1 : Method := { name := "law", desc := "(JI)Z", sig := { parameters := [.long, .int], returnType := some .boolean }, accessFlags := 9, code := some k1c1 }
/-- com/example/which_bucket/whichbucket/WhichBucketJumpHashPinLaw -/
def k1 : Class := { plain "com/example/which_bucket/whichbucket/WhichBucketJumpHashPinLaw" (some 0) with
  accessFlags := 49
  interfaces := #[]
  cf := some (fileOf pool1 29 #[] #[{ accessFlags := 2, nameIndex := 5, descriptorIndex := 6, attributes := #[] }, { accessFlags := 9, nameIndex := 33, descriptorIndex := 34, attributes := #[] }] 49 2 #[] #[])
  fields := #[]
  methods := #[k1m0, k1m1]
  instanceTypes := #[]
  staticTypes := #[]
  resolved := Array.replicate 38 none
  statics := none }

def pool2 : Array CpInfo := pool [(2, .class_ 4), (1, u "java/lang/Object"), (0, u "<init>"), (0, u "()V"), (0, .methodref 8 9), (0, .class_ 10), (0, .nameAndType 11 12), (0, u "com/example/which_bucket/whichbucket/WhichBucket"), (0, u "requireBucketCount"), (0, u "(I)V"), (58, .long 2862933555777941757), (1, .double 4746794007248502784), (69, u "MAX_SOURCE_DRAWS"), (0, u "I"), (2, u "JUMP_HASH_MULTIPLIER"), (0, u "J"), (0, u "TWO_TO_THE_31"), (0, u "D"), (3, u "(JI)I"), (1, u "jumpHash")] 20

def k2m0 : Method := { name := "<init>", desc := "()V", sig := { parameters := [], returnType := none }, accessFlags := 2, code := none }
def k2c1 : Code := { maxStack := 6, maxLocals := 11, code := prog_4_method_7_code, exceptionTable := #[], attributes := #[] }
def k2m1 : Method := { name := "jumpHash", desc := "(JI)I", sig := { parameters := [.long, .int], returnType := some .int }, accessFlags := 9, code := some k2c1 }
def k2c2 : Code := { maxStack := 3, maxLocals := 1, code := prog_4_method_8_code, exceptionTable := #[], attributes := #[] }
def k2m2 : Method := { name := "requireBucketCount", desc := "(I)V", sig := { parameters := [.int], returnType := none }, accessFlags := 10, code := some k2c2 }
/-- com/example/which_bucket/whichbucket/WhichBucket -/
def k2 : Class := { plain "com/example/which_bucket/whichbucket/WhichBucket" (some 0) with
  accessFlags := 33
  interfaces := #[]
  cf := some (fileOf pool2 8 #[] #[{ accessFlags := 2, nameIndex := 5, descriptorIndex := 6, attributes := #[] }, { accessFlags := 9, nameIndex := 156, descriptorIndex := 154, attributes := #[] }, { accessFlags := 10, nameIndex := 11, descriptorIndex := 12, attributes := #[] }] 33 2 #[] #[{ accessFlags := 26, nameIndex := 143, descriptorIndex := 144, attributes := #[] }, { accessFlags := 26, nameIndex := 147, descriptorIndex := 148, attributes := #[] }, { accessFlags := 26, nameIndex := 149, descriptorIndex := 150, attributes := #[] }])
  fields := #[{ name := "MAX_SOURCE_DRAWS", type := .int, accessFlags := 26, slot := 0, constantValue := 0 }, { name := "JUMP_HASH_MULTIPLIER", type := .long, accessFlags := 26, slot := 1, constantValue := 0 }, { name := "TWO_TO_THE_31", type := .double, accessFlags := 26, slot := 2, constantValue := 0 }]
  methods := #[k2m0, k2m1, k2m2]
  instanceTypes := #[]
  staticTypes := #[.int, .long, .double]
  resolved := Array.replicate 177 none
  statics := none }

def pool3 : Array CpInfo := pool [(1, .class_ 2), (0, u "java/lang/Math"), (1, .class_ 6), (1, u "java/lang/Object"), (0, u "<init>"), (0, u "()V"), (89, .class_ 100), (1, u "java/lang/Math$RandomNumberGeneratorHolder"), (20, u "(JJ)J"), (50, u "negativeZeroFloatBits"), (0, u "J"), (2, u "negativeZeroDoubleBits"), (24, u "min"), (43, u "$assertionsDisabled"), (0, u "Z"), (91, u "twoToTheDoubleScaleDown"), (0, u "D"), (4, u "twoToTheDoubleScaleUp"), (9, u "E"), (3, u "PI"), (2, u "TAU"), (2, u "DEGREES_TO_RADIANS"), (0, u "RADIANS_TO_DEGREES")] 94

def k3m0 : Method := { name := "<init>", desc := "()V", sig := { parameters := [], returnType := none }, accessFlags := 2, code := none }
def k3c1 : Code := { maxStack := 4, maxLocals := 4, code := jdk_29_method_70_code, exceptionTable := #[], attributes := #[] }
def k3m1 : Method := { name := "min", desc := "(JJ)J", sig := { parameters := [.long, .long], returnType := some .long }, accessFlags := 9, code := some k3c1 }
/-- java/lang/Math -/
def k3 : Class := { plain "java/lang/Math" (some 0) with
  accessFlags := 49
  interfaces := #[]
  cf := some (fileOf pool3 1 #[.nestMembers #[98]] #[{ accessFlags := 2, nameIndex := 7, descriptorIndex := 8, attributes := #[] }, { accessFlags := 9, nameIndex := 201, descriptorIndex := 121, attributes := #[] }] 49 4 #[] #[{ accessFlags := 25, nameIndex := 354, descriptorIndex := 339, attributes := #[] }, { accessFlags := 25, nameIndex := 358, descriptorIndex := 339, attributes := #[] }, { accessFlags := 25, nameIndex := 361, descriptorIndex := 339, attributes := #[] }, { accessFlags := 26, nameIndex := 364, descriptorIndex := 339, attributes := #[] }, { accessFlags := 26, nameIndex := 365, descriptorIndex := 339, attributes := #[] }, { accessFlags := 26, nameIndex := 172, descriptorIndex := 173, attributes := #[] }, { accessFlags := 26, nameIndex := 176, descriptorIndex := 173, attributes := #[] }, { accessFlags := 8, nameIndex := 344, descriptorIndex := 339, attributes := #[] }, { accessFlags := 8, nameIndex := 338, descriptorIndex := 339, attributes := #[] }, { accessFlags := 4120, nameIndex := 245, descriptorIndex := 246, attributes := #[] }])
  fields := #[{ name := "E", type := .double, accessFlags := 25, slot := 0, constantValue := 0 }, { name := "PI", type := .double, accessFlags := 25, slot := 1, constantValue := 0 }, { name := "TAU", type := .double, accessFlags := 25, slot := 2, constantValue := 0 }, { name := "DEGREES_TO_RADIANS", type := .double, accessFlags := 26, slot := 3, constantValue := 0 }, { name := "RADIANS_TO_DEGREES", type := .double, accessFlags := 26, slot := 4, constantValue := 0 }, { name := "negativeZeroFloatBits", type := .long, accessFlags := 26, slot := 5, constantValue := 0 }, { name := "negativeZeroDoubleBits", type := .long, accessFlags := 26, slot := 6, constantValue := 0 }, { name := "twoToTheDoubleScaleUp", type := .double, accessFlags := 8, slot := 7, constantValue := 0 }, { name := "twoToTheDoubleScaleDown", type := .double, accessFlags := 8, slot := 8, constantValue := 0 }, { name := "$assertionsDisabled", type := .boolean, accessFlags := 4120, slot := 9, constantValue := 0 }]
  methods := #[k3m0, k3m1]
  instanceTypes := #[]
  staticTypes := #[.double, .double, .double, .double, .double, .long, .long, .double, .double, .boolean]
  resolved := Array.replicate 460 none
  statics := none }

def pool4 : Array CpInfo := pool [(1, u "java/lang/Cloneable"), (0, .class_ 1), (0, u "java/lang/Object"), (0, .class_ 3)] 3

/-- java/lang/Cloneable -/
def k4 : Class := { plain "java/lang/Cloneable" (some 0) with
  accessFlags := 1537
  interfaces := #[]
  cf := some (fileOf pool4 2 #[] #[] 1537 4 #[] #[])
  fields := #[]
  methods := #[]
  instanceTypes := #[]
  staticTypes := #[]
  resolved := Array.replicate 8 none
  statics := none }

def pool5 : Array CpInfo := pool [(1, u "java/io/Serializable"), (0, .class_ 1), (0, u "java/lang/Object"), (0, .class_ 3)] 3

/-- java/io/Serializable -/
def k5 : Class := { plain "java/io/Serializable" (some 0) with
  accessFlags := 1537
  interfaces := #[]
  cf := some (fileOf pool5 2 #[] #[] 1537 4 #[] #[])
  fields := #[]
  methods := #[]
  instanceTypes := #[]
  staticTypes := #[]
  resolved := Array.replicate 8 none
  statics := none }

/-- the primitive byte -/
def k6 : Class := { plain "byte" none with kind := .primitive 'B', accessFlags := 0x411 }
/-- [B -/
def k7 : Class := { plain "[B" (some 0) with kind := .array 6 .byte, interfaces := #[4, 5], accessFlags := 1041 }

/-- the primitive int -/
def k8 : Class := { plain "int" none with kind := .primitive 'I', accessFlags := 0x411 }
/-- [I -/
def k9 : Class := { plain "[I" (some 0) with kind := .array 8 .int, interfaces := #[4, 5], accessFlags := 1041 }

def heap : Heap := #[]
def classes : Array Class := #[k0, k1, k2, k3, k4, k5, k6, k7, k8, k9]
def interned : List (Array UInt16 × Addr) := []
def slotsUsed : Nat := 0
def theMethod : MethodId := ⟨1, 1⟩
def args0 : Array Value := #[.long 5, .int 6]
def aboutOver (below : List Frame) : State where
  vm := { classes := classes, interned := interned.toArray }
  heap := heap
  slotsUsed := slotsUsed
  threads := #[{ frames := .invoking theMethod args0 :: below }]
def below0 : List Frame := [.native { method := ⟨0, 0⟩, args := #[] }]
def about1 : State := aboutOver below0
def p0 : Program := .bare "" "" ""
def e0 : Env := launch0.env 0 0 0
theorem w_frames : about1.frames = Frame.invoking theMethod args0 :: below0 := rfl
set_option maxRecDepth 65536 in
theorem w_args : argsFit about1.vm theMethod args0 = true := by decide +kernel
set_option maxRecDepth 65536 in
theorem w_heap : heapFits about1 = true := by decide +kernel
set_option maxRecDepth 65536 in
theorem w_runnable : about1.curStatus? = some .runnable := by decide +kernel
set_option maxRecDepth 65536 in
theorem w_alone : about1.alone = true := by decide +kernel
set_option maxRecDepth 65536 in
theorem w_named : about1.methodNamed? x = some theMethod := by decide +kernel
set_option maxRecDepth 65536 in
theorem w_hears : about1.hears theMethod below0 = true := by decide +kernel
set_option maxRecDepth 65536 in
theorem w_ripe : about1.ripe theMethod args0 below0 = true := by decide +kernel
theorem w_running : about1.status = .running := rfl
set_option maxRecDepth 65536 in
theorem w_room : about1.hasRoom e0.platform room_1 = true :=
  launch0.hasRoom_least _ room_1 (by decide +kernel) (by decide +kernel) (by decide +kernel) (by decide +kernel) (by decide +kernel) (by decide +kernel)
theorem allAtoms_all (ts : List Jvm.Cond) (a : Array Jvm.Value) (st : Jvm.State) : (allAtoms ts).before a st = ts.all (fun c => c.before a st) := by
  induction ts with
  | nil => rfl
  | cons c t ih =>
    show (Jvm.Cond.and c (allAtoms t)).before a st = _
    rw [Jvm.Cond.before_and, ih, List.all_cons]
def words1 : List Jvm.Cond := Jvm.Cond.code x code maxLocals ret :: tables_1
/-- a 'code' word, met by the world's own term for the bytes: nothing is compared byte by byte -/
theorem code_word {y : MethodName} {bytes : ByteArray} {mx : Nat} {rt : Option FieldType} {a : Array Value} {s : State} {m : MethodId} {meth : Method} {c : Code} (h1 : s.methodNamed? y = some m) (h2 : s.vm.method? m = some meth) (h3 : meth.code = some c) (h4 : c.code = bytes)
    (h5 : (c.maxLocals == mx && c.exceptionTable.isEmpty && decide (c.maxStack ≤ mostOperands) && decide (meth.sig.returnType = rt) && !meth.locks && decide (parseMethodDescriptor y.desc = some meth.sig)) = true) : (Jvm.Cond.code y bytes mx rt).before a s = true := by
  simp only [Bool.and_eq_true, beq_iff_eq, Bool.not_eq_true', decide_eq_true_eq] at h5
  obtain ⟨⟨⟨⟨⟨g1, g2⟩, g3⟩, g4⟩, g5⟩, g6⟩ := h5
  simp [Cond.before, Cond.holds, Cond.value, h1, h2, h3, h4, g1, g2, g3, g4, g5, g6]
def isCode : Jvm.Cond → Bool
  | .code _ _ _ _ => true
  | _ => false
theorem all_split {L : List Jvm.Cond} {P : Jvm.Cond → Bool} (h1 : L.all (fun c => isCode c || P c) = true) (h2 : ∀ c ∈ L.filter isCode, P c = true) : L.all P = true := by
  refine List.all_eq_true.mpr fun c hc => ?_
  have h := List.all_eq_true.mp h1 c hc
  rcases Bool.eq_false_or_eq_true (isCode c) with hi | hi
  · exact h2 c (List.mem_filter.mpr ⟨hc, hi⟩)
  · simpa [hi] using h
set_option maxRecDepth 65536 in
theorem w_c0 : (Jvm.Cond.code x code maxLocals ret).before args0 about1 = true := code_word (m := ⟨1, 1⟩) (meth := k1m1) (c := k1c1) (by decide +kernel) rfl rfl rfl (by decide +kernel)
set_option maxRecDepth 65536 in
theorem w_c1 : (Jvm.Cond.code ({ cls := "com/example/which_bucket/whichbucket/WhichBucket", name := "jumpHash", desc := "(JI)I" } : Jvm.MethodName) prog_4_method_7_code (11 : Nat) (Option.some Jvm.ClassFile.FieldType.int)).before args0 about1 = true := code_word (m := ⟨2, 1⟩) (meth := k2m1) (c := k2c1) (by decide +kernel) rfl rfl rfl (by decide +kernel)
set_option maxRecDepth 65536 in
theorem w_c2 : (Jvm.Cond.code ({ cls := "com/example/which_bucket/whichbucket/WhichBucket", name := "requireBucketCount", desc := "(I)V" } : Jvm.MethodName) prog_4_method_8_code (1 : Nat) (Option.none : Option Jvm.ClassFile.FieldType)).before args0 about1 = true := code_word (m := ⟨2, 2⟩) (meth := k2m2) (c := k2c2) (by decide +kernel) rfl rfl rfl (by decide +kernel)
set_option maxRecDepth 65536 in
theorem w_c3 : (Jvm.Cond.code ({ cls := "java/lang/Math", name := "min", desc := "(JJ)J" } : Jvm.MethodName) jdk_29_method_70_code (4 : Nat) (Option.some Jvm.ClassFile.FieldType.long)).before args0 about1 = true := code_word (m := ⟨3, 1⟩) (meth := k3m1) (c := k3c1) (by decide +kernel) rfl rfl rfl (by decide +kernel)
def codes1 : List Jvm.Cond := [Jvm.Cond.code x code maxLocals ret, Jvm.Cond.code ({ cls := "com/example/which_bucket/whichbucket/WhichBucket", name := "jumpHash", desc := "(JI)I" } : Jvm.MethodName) prog_4_method_7_code (11 : Nat) (Option.some Jvm.ClassFile.FieldType.int), Jvm.Cond.code ({ cls := "com/example/which_bucket/whichbucket/WhichBucket", name := "requireBucketCount", desc := "(I)V" } : Jvm.MethodName) prog_4_method_8_code (1 : Nat) (Option.none : Option Jvm.ClassFile.FieldType), Jvm.Cond.code ({ cls := "java/lang/Math", name := "min", desc := "(JJ)J" } : Jvm.MethodName) jdk_29_method_70_code (4 : Nat) (Option.some Jvm.ClassFile.FieldType.long)]
set_option maxRecDepth 65536 in
theorem codes_eq : words1.filter isCode = codes1 := rfl
theorem w_codes : ∀ c ∈ words1.filter isCode, c.before args0 about1 = true := by
  rw [codes_eq]
  intro c hc
  simp only [codes1, List.mem_cons, List.not_mem_nil, or_false] at hc
  rcases hc with rfl | rfl | rfl | rfl
  · exact w_c0
  · exact w_c1
  · exact w_c2
  · exact w_c3
set_option maxRecDepth 65536 in
theorem w_t1 : words1.all (fun c => isCode c || c.before args0 about1) = true := by decide +kernel
theorem w_tables : (allAtoms (Jvm.Cond.code x code maxLocals ret :: tables_1)).before args0 about1 = true := by
  rw [allAtoms_all]
  show words1.all (fun c => c.before args0 about1) = true
  refine all_split ?_ w_codes
  rw [w_t1]
set_option maxRecDepth 65536 in
theorem w_case : (Jvm.Cond.and given_1 narrow_1).before args0 about1 = true := by decide +kernel
theorem w_applies : (headSpec (Jvm.Cond.code x code maxLocals ret :: tables_1) room_1).applies x e0.platform about1 = true :=
  (Spec.applies_iff w_frames).mpr ⟨w_running, w_runnable, w_alone, w_named, w_hears, w_ripe, w_room, w_tables⟩
theorem atStart : AtStart classFile x code maxLocals ret World_1 tables_1 room_1 Calls_1 rest_1 Pre_1 launch0 p0 e0 about1 theMethod args0 below0 :=
  ⟨lists_1, trivial, launch0.admits_env _ _ _, launch0.least_env, fairChoices_fair.cas, fairChoices_fair.clock, w_frames, w_args, w_heap, w_applies, trivial, trivial, w_case⟩
end start1
theorem witness_1 : WitnessClaimed_1 := ⟨start1.p0, start1.e0, start1.about1, start1.theMethod, start1.args0, start1.below0, start1.atStart⟩
end Jvm.Pilot.@@N@@
