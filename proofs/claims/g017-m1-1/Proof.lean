import JvmDerived
import JvmDerived.Pilot.@@N@@Statement
import JvmDerived.Pilot.@@N@@Code
set_option linter.unusedVariables false
set_option linter.unusedSimpArgs false
namespace Jvm.RoadKit
open Sem ClassFile Op Lib Jvm.Stand Jvm.Free Jvm.LawKit
section New
variable {p : Program} {l : Launch} {e : Env} {R : Room} {s : State} {m : MethodId} {args : Array Value} {below : List Frame} {meth : Method} {c : Code} {T : State} {locs : List Loc} {cells slots : Nat}
theorem retI (X : Stand p l e R s m args below meth c T locs cells slots) (hx : p.tables.exec = Jvm.exec) {pc : Nat} {Ls : Array Slot} {z : Int32} {rest : List Value} (hret : meth.sig.returnType = some .int) (hd : decode c.code pc = .ok (.ireturn, 1)) {fs : List Frame}
    (hl : ∀ (f : JFrame) (acts : List Action), f.method = m → f.locked = none → f.entered = [] → (doReturn e (T.setTop f) acts (some (.int z))).1 = T.setFrames fs) : Steps p.tables e below (T.setTop (mkF m pc Ls (.int z :: rest))) (T.setFrames fs) := by
  have hm' : T.vm.method? m = some meth := X.method'
  have hn : narrow .int (.int z) = .int z := rfl
  show Steps p.tables e below (T.setTop { method := m, pc := pc, locals := Ls, stack := _ :: rest, locked := none }) _
  jvm_step X.here [X.here.top, hx, hd, hm', hret, hn]
  first | (intro acts; rw [hl _ acts rfl rfl rfl]) | rw [hl _ _ rfl rfl rfl]
  exact Steps.refl _
end New
end Jvm.RoadKit
namespace Jvm.Pilot.@@N@@
open Jvm Jvm.ClassFile Sem Op Lib Jvm.Free Jvm.Stand Jvm.LawKit Jvm.RoadKit Bundle Jvm.Pilot.@@N@@.Jvm.D
theorem own_w {a0 : Array Value} {Z : State} (hw : ∀ d ∈ tables_1, d.before a0 Z = true) (i : Nat) {d : Jvm.Cond} (h : tables_1[i]? = some d) : d.before a0 Z = true := hw d (List.mem_of_getElem? h)
/-- from U the run comes to the method's end, and Q holds there -/
def own_Go (tb : Tables) (e : Env) (below : List Frame) (s : State) (C N : Nat) (Q : Option Value → Heap → List Loc → Prop) (U : State) : Prop :=
  ∃ t o, Steps tb e below U t ∧ t.status = .running ∧ Ended t below o ∧ ∃ v L, o = .returned v ∧ Q v t.heap L ∧ FrameEnd s o t L C N
theorem own_step {tb : Tables} {e : Env} {below : List Frame} {s : State} {C N : Nat} {Q : Option Value → Heap → List Loc → Prop} {U U' : State} (h : ∀ t, Steps tb e below U' t → Steps tb e below U t) (k : own_Go tb e below s C N Q U') : own_Go tb e below s C N Q U := by
  obtain ⟨t, o, h1, h2⟩ := k
  exact ⟨t, o, h t h1, h2⟩
theorem own_steps {tb : Tables} {e : Env} {below : List Frame} {s : State} {C N : Nat} {Q : Option Value → Heap → List Loc → Prop} {U U' : State} (h : Steps tb e below U U') (k : own_Go tb e below s C N Q U') : own_Go tb e below s C N Q U := own_step (fun _ q => h.trans q) k
theorem own_out {p : Program} {l : Launch} {e : Env} {R : Room} {s : State} {m : MethodId} {args : Array Value} {below : List Frame} {meth : Method} {c : Code} {T : State} {locs : List Loc} {cells slots : Nat} (X : Stand p l e R s m args below meth c T locs cells slots) {v : Option Value}
    (hlk : meth.locks = false) (hv : meth.sig.returnType = none → v = none) {C N : Nat} {Q : Option Value → Heap → List Loc → Prop} (hQ : Q v T.heap locs) (hC : cells ≤ C) (hN : slots ≤ N) {U : State}
    (k : ∀ fs, (∀ (f : JFrame) (acts : List Action), f.method = m → f.locked = none → f.entered = [] → (doReturn e (T.setTop f) acts v).1 = T.setFrames fs) → Steps p.tables e below U (T.setFrames fs)) : own_Go p.tables e below s C N Q U := by
  obtain ⟨fs, hr, hrun, hended, hW, hsame⟩ := X.leave hv hlk
  exact ⟨_, _, k fs hr, hrun, hended, _, _, rfl, hQ, ⟨_, rfl⟩, hW, hsame.mono hC hN⟩
theorem own_exaP {Z : State} {h : Heap} {a : Addr} {C : String} (E : Exa Z h a C) : ∀ c : Cell, h[a]? = some c → c.vm.isStatics = false := fun c hc => by
  obtain ⟨cell, k, h1, -, -, h4, -⟩ := E
  cases h1.symm.trans hc; exact h4
theorem own_staK {Z : State} {h h' : Heap} {C n d : String} {v : Value} {ws : List Addr} (S : Sta Z h C n d v) (K : Keep h h' ws) (q : ∀ w ∈ ws, ∀ c : Cell, h[w]? = some c → c.vm.isStatics = false) : Sta Z h' C n d v := by
  obtain ⟨cf, i, k, f, st, cell, h1, h2, h3, h4, h5, h6, h7⟩ := S
  exact ⟨cf, i, k, f, st, cell, h1, h2, h3, h4, K.2.1 st cell h5 (fun z => by have := q st z cell h5; rw [h6] at this; cases this), h6, h7⟩
theorem own_anyF {Z : State} {a0 : Array Value} {h : Heap} {a : Addr} {C O n d O' n' d' : String} {v' : Value} {k : Nat} (E : Exa Z h a C) (F : Fld Z h a O' n' d' v') (wi : (Cond.instantiable C k).before a0 Z = true) (L : Laid Z a0 C O n d) : ∃ v, Fld Z h a O n d v :=
  fld_laid E (by obtain ⟨cell, _, _, _, _, h1, _, _, h4, _⟩ := F; exact ⟨cell, h1, h4⟩) wi L
theorem own_nv {meth : Method} {t : FieldType} (h : meth.sig.returnType = some t) {v : Option Value} : meth.sig.returnType = none → v = none := fun q => by rw [h] at q; cases q
theorem pd__JJ_Z : parseMethodDescriptor "(JJ)Z" = some ⟨[.long, .long], some .boolean⟩ := by decide +kernel
theorem d1_0 : decode prog_199_method_5_code 0 = .ok (.lload_n 2, 1) := by decide +kernel
theorem d1_1 : decode prog_199_method_5_code 1 = .ok (.lload_n 0, 1) := by decide +kernel
theorem d1_2 : decode prog_199_method_5_code 2 = .ok (.lconst 1, 1) := by decide +kernel
theorem d1_3 : decode prog_199_method_5_code 3 = .ok (.ladd, 1) := by decide +kernel
theorem d1_4 : decode prog_199_method_5_code 4 = .ok (.lcmp, 1) := by decide +kernel
theorem d1_5 : decode prog_199_method_5_code 5 = .ok (.ifCond .eq 21, 3) := by decide +kernel
theorem d1_8 : decode prog_199_method_5_code 8 = .ok (.lload_n 2, 1) := by decide +kernel
theorem d1_9 : decode prog_199_method_5_code 9 = .ok (.bipush 32, 2) := by decide +kernel
theorem d1_11 : decode prog_199_method_5_code 11 = .ok (.lushr, 1) := by decide +kernel
theorem d1_12 : decode prog_199_method_5_code 12 = .ok (.lload_n 0, 1) := by decide +kernel
theorem d1_13 : decode prog_199_method_5_code 13 = .ok (.bipush 32, 2) := by decide +kernel
theorem d1_15 : decode prog_199_method_5_code 15 = .ok (.lushr, 1) := by decide +kernel
theorem d1_16 : decode prog_199_method_5_code 16 = .ok (.lcmp, 1) := by decide +kernel
theorem d1_17 : decode prog_199_method_5_code 17 = .ok (.ifCond .le 13, 3) := by decide +kernel
theorem d1_20 : decode prog_199_method_5_code 20 = .ok (.lload_n 2, 1) := by decide +kernel
theorem d1_21 : decode prog_199_method_5_code 21 = .ok (.l2i, 1) := by decide +kernel
theorem d1_22 : decode prog_199_method_5_code 22 = .ok (.iconst 1, 1) := by decide +kernel
theorem d1_23 : decode prog_199_method_5_code 23 = .ok (.if_icmp .ne 7, 3) := by decide +kernel
theorem d1_26 : decode prog_199_method_5_code 26 = .ok (.iconst 1, 1) := by decide +kernel
theorem d1_27 : decode prog_199_method_5_code 27 = .ok (.goto 4, 3) := by decide +kernel
theorem d1_30 : decode prog_199_method_5_code 30 = .ok (.iconst 0, 1) := by decide +kernel
theorem d1_31 : decode prog_199_method_5_code 31 = .ok (.ireturn, 1) := by decide +kernel
theorem pn_1 : plainName "com/example/catchwire/catchwire/wire/Zxid" = true := by first | (simp [plainName, overriddenIn]; done) | decide +kernel
theorem ef_1 (m : MethodId) (q0 : Int64) (q1 : Int64) : entryFrame m #[(.long q0), (.long q1)] 4 = mkF m 0 #[.val (.long q0), .second, .val (.long q1), .second] [] := by first | (simp [entryFrame, mkF, argsToLocals, Value.category]; done) | rfl
def F1 (q0 : Int64) (q1 : Int64) : Int32 :=
  if q1 = (q0 + (1 : Int64)) then
    (1 : Int32)
  else
    if ((q0.toUInt64 >>> ((32 : Int32) &&& 0x3f).toInt64.toUInt64).toInt64) < ((q1.toUInt64 >>> ((32 : Int32) &&& 0x3f).toInt64.toUInt64).toInt64) then
      if (q1.toInt32) = (1 : Int32) then
        (1 : Int32)
      else
        (0 : Int32)
    else
      (0 : Int32)
def Q1 (Z : State) (q0 : Int64) (q1 : Int64) (h0 : Heap) (n0 : Nat) (v : Option Value) (h : Heap) (L : List Loc) : Prop := v = some (.int (F1 q0 q1)) ∧ Fr n0 L ∧ h = h0
set_option maxRecDepth 65536 in
set_option maxHeartbeats 40000000 in
theorem rm1 (l : Launch) (Z : State) (a0 : Array Value) (hw : ∀ d ∈ tables_1, d.before a0 Z = true) (ws : List Jvm.Cond) (q0 : Int64) (q1 : Int64) (h0 : Heap) (n0 : Nat) (Z0 : n0 ≤ h0.size) :
    MetFree l (⟨"com/example/catchwire/catchwire/wire/Zxid", "follows", "(JJ)Z"⟩ : MethodName) (head1 (Jvm.Cond.code (⟨"com/example/catchwire/catchwire/wire/Zxid", "follows", "(JJ)Z"⟩ : MethodName) prog_199_method_5_code 4 (some .boolean) :: ws) ({ frames := 0, cells := 0, slots := 0, locals := 0 } : Room)) (fun a U => a = #[(.long q0), (.long q1)] ∧ Z.Warmed39 U.vm ∧ U.heap = h0) (fun _ _ _ _ _ => True) (fun _ U o U' => ∃ v L, o = .returned v ∧ Q1 Z q0 q1 h0 n0 v U'.heap L ∧ FrameEnd U o U' L ({ frames := 0, cells := 0, slots := 0, locals := 0 } : Room).cells ({ frames := 0, cells := 0, slots := 0, locals := 0 } : Room).slots) := by
  refine MetFree.of_bodySF (plainFor_of_name pn_1) hisR ?_
  intro p e s m args below meth c s₁ Bd hml0 hP hK
  obtain ⟨rfl, hZ, hh⟩ := hP
  have hx := Bd.exec
  have hby := Bd.bytes
  have hml : c.maxLocals = 4 := hml0
  have hown : s.vm.findClass "com/example/catchwire/catchwire/wire/Zxid" = some m.cls := findClass_of_methodNamed Bd.named
  have hnm := (name_of_methodNamed Bd.named Bd.method).1
  have hlk : meth.locks = false := Bd.notSynchronized
  have X0 : Stand p l e ({ frames := 0, cells := 0, slots := 0, locals := 0 } : Room) s m #[(.long q0), (.long q1)] below meth c s₁ [] 0 0 := Stand.of_body Bd
  have e0 : s₁.heap = h0 := by rw [← hh, Bd.state]; rfl
  have N0 := Fr.nil n0
  have KK0 := Keep.refl h0 []
  show own_Go p.tables e below s 0 0 (Q1 Z q0 q1 h0 n0) (s₁.setTop (entryFrame m #[(.long q0), (.long q1)] 4))
  rw [ef_1]
  refine own_step (U' := s₁.setTop (mkF m 5 #[.val (.long q0), .second, .val (.long q1), .second] [(.int (lcmpW q1 (q0 + (1 : Int64))))])) (fun t k => XS.lloadN X0.here hx rfl (hb hby d1_0) rfl (XS.lloadN X0.here hx rfl (hb hby d1_1) rfl (XS.lconst X0.here hx rfl (hb hby d1_2) (XS.ladd X0.here hx rfl (hb hby d1_3) rfl (XS.lcmp X0.here hx rfl (hb hby d1_4) rfl k))))) ?_
  by_cases hc5_1 : q1 = (q0 + (1 : Int64))
  · refine own_step (U' := s₁.setTop (mkF m 31 #[.val (.long q0), .second, .val (.long q1), .second] [(.int (1 : Int32))])) (fun t k => XS.ifYes X0.here hx rfl (pc0 := 5) (pc' := 26) rfl (hb hby d1_5) rfl ((if0 _ _).trans (teq ((lw_eq q1 (q0 + (1 : Int64))).mpr hc5_1)).1) (by decide) (by decide) (XS.iconst X0.here hx rfl (hb hby d1_26) (XS.goto X0.here hx rfl (pc0 := 27) (pc' := 31) rfl (hb hby d1_27) (by decide) (by decide) k))) ?_
    exact own_out X0 (v := (some (.int (1 : Int32)))) hlk (own_nv Bd.returns) (by rw [e0]; exact ⟨by rw [show (F1 q0 q1) = (1 : Int32) from (by simp only [F1, if_pos hc5_1])], N0, rfl⟩) (by decide) (by decide) (fun fs hr => retN X0 hx (t := .boolean) Bd.returns (by simp) (hb hby d1_31) hr)
  · refine own_step (U' := s₁.setTop (mkF m 17 #[.val (.long q0), .second, .val (.long q1), .second] [(.int (lcmpW ((q1.toUInt64 >>> ((32 : Int32) &&& 0x3f).toInt64.toUInt64).toInt64) ((q0.toUInt64 >>> ((32 : Int32) &&& 0x3f).toInt64.toUInt64).toInt64)))])) (fun t k => XS.ifNo X0.here hx rfl (hb hby d1_5) rfl ((if0 _ _).trans (feq (mt (lw_eq q1 (q0 + (1 : Int64))).mp hc5_1)).1) (XS.lloadN X0.here hx rfl (hb hby d1_8) rfl (XS.bipush X0.here hx rfl (hb hby d1_9) (XS.lushr X0.here hx rfl (hb hby d1_11) rfl (XS.lloadN X0.here hx rfl (hb hby d1_12) rfl (XS.bipush X0.here hx rfl (hb hby d1_13) (XS.lushr X0.here hx rfl (hb hby d1_15) rfl (XS.lcmp X0.here hx rfl (hb hby d1_16) rfl k)))))))) ?_
    by_cases hc17_2 : ((q0.toUInt64 >>> ((32 : Int32) &&& 0x3f).toInt64.toUInt64).toInt64) < ((q1.toUInt64 >>> ((32 : Int32) &&& 0x3f).toInt64.toUInt64).toInt64)
    · refine own_step (U' := s₁.setTop (mkF m 23 #[.val (.long q0), .second, .val (.long q1), .second] [(.int (1 : Int32)), (.int (q1.toInt32))])) (fun t k => XS.ifNo X0.here hx rfl (hb hby d1_17) rfl ((if0 _ _).trans (tlt ((lw_gt ((q1.toUInt64 >>> ((32 : Int32) &&& 0x3f).toInt64.toUInt64).toInt64) ((q0.toUInt64 >>> ((32 : Int32) &&& 0x3f).toInt64.toUInt64).toInt64)).mpr hc17_2)).2.2.2) (XS.lloadN X0.here hx rfl (hb hby d1_20) rfl (XS.l2i X0.here hx rfl (hb hby d1_21) rfl (XS.iconst X0.here hx rfl (hb hby d1_22) k)))) ?_
      by_cases hc23_3 : (q1.toInt32) = (1 : Int32)
      · refine own_step (U' := s₁.setTop (mkF m 31 #[.val (.long q0), .second, .val (.long q1), .second] [(.int (1 : Int32))])) (fun t k => XS.icmpNo X0.here hx rfl (hb hby d1_23) rfl (teq hc23_3).2 (XS.iconst X0.here hx rfl (hb hby d1_26) (XS.goto X0.here hx rfl (pc0 := 27) (pc' := 31) rfl (hb hby d1_27) (by decide) (by decide) k))) ?_
        exact own_out X0 (v := (some (.int (1 : Int32)))) hlk (own_nv Bd.returns) (by rw [e0]; exact ⟨by rw [show (F1 q0 q1) = (1 : Int32) from (by simp only [F1, if_neg hc5_1, if_pos hc17_2, if_pos hc23_3])], N0, rfl⟩) (by decide) (by decide) (fun fs hr => retN X0 hx (t := .boolean) Bd.returns (by simp) (hb hby d1_31) hr)
      · refine own_step (U' := s₁.setTop (mkF m 31 #[.val (.long q0), .second, .val (.long q1), .second] [(.int (0 : Int32))])) (fun t k => XS.icmpYes X0.here hx rfl (pc0 := 23) (pc' := 30) rfl (hb hby d1_23) rfl (feq hc23_3).2 (by decide) (by decide) (XS.iconst X0.here hx rfl (hb hby d1_30) k)) ?_
        exact own_out X0 (v := (some (.int (0 : Int32)))) hlk (own_nv Bd.returns) (by rw [e0]; exact ⟨by rw [show (F1 q0 q1) = (0 : Int32) from (by simp only [F1, if_neg hc5_1, if_pos hc17_2, if_neg hc23_3])], N0, rfl⟩) (by decide) (by decide) (fun fs hr => retN X0 hx (t := .boolean) Bd.returns (by simp) (hb hby d1_31) hr)
    · refine own_step (U' := s₁.setTop (mkF m 31 #[.val (.long q0), .second, .val (.long q1), .second] [(.int (0 : Int32))])) (fun t k => XS.ifYes X0.here hx rfl (pc0 := 17) (pc' := 30) rfl (hb hby d1_17) rfl ((if0 _ _).trans (flt (mt (lw_gt ((q1.toUInt64 >>> ((32 : Int32) &&& 0x3f).toInt64.toUInt64).toInt64) ((q0.toUInt64 >>> ((32 : Int32) &&& 0x3f).toInt64.toUInt64).toInt64)).mp hc17_2)).2.2.2) (by decide) (by decide) (XS.iconst X0.here hx rfl (hb hby d1_30) k)) ?_
      exact own_out X0 (v := (some (.int (0 : Int32)))) hlk (own_nv Bd.returns) (by rw [e0]; exact ⟨by rw [show (F1 q0 q1) = (0 : Int32) from (by simp only [F1, if_neg hc5_1, if_neg hc17_2])], N0, rfl⟩) (by decide) (by decide) (fun fs hr => retN X0 hx (t := .boolean) Bd.returns (by simp) (hb hby d1_31) hr)

theorem own_pack (a b : Int32) : ((a.toInt64 <<< ((32 : Int32) &&& 0x3f).toInt64) ||| (b.toInt64 &&& (4294967295 : Int64))).toInt = a.toInt * 4294967296 + b.toInt % 4294967296 := by
  have h1 := c_lshl a.toInt64 32 32 (by decide)
  rw [c_i2l] at h1
  have h2 := c_maskL b.toInt64 4294967295 32 (by decide) (by decide)
  rw [c_i2l] at h2
  have h3 := c_orL (a.toInt64 <<< ((32 : Int32) &&& 0x3f).toInt64) (b.toInt64 &&& (4294967295 : Int64)) 32 (by decide) 4294967296 (by decide)
  have r1 := rng32 a
  have r2 := rng64 (a.toInt64 <<< ((32 : Int32) &&& 0x3f).toInt64)
  have r3 := rng64 ((a.toInt64 <<< ((32 : Int32) &&& 0x3f).toInt64) ||| (b.toInt64 &&& (4294967295 : Int64)))
  omega
theorem own_xor (x : Int32) : (x ^^^ (-2147483648 : Int32)).toInt = if x.toInt < 0 then x.toInt + 2147483648 else x.toInt - 2147483648 := by
  have e : (x ^^^ (-2147483648 : Int32)).toInt = ((x ^^^ (-2147483648 : Int32)).toBitVec).toInt := rfl
  have h1 : (x ^^^ (-2147483648 : Int32)).toBitVec.toNat = x.toBitVec.toNat ^^^ 2147483648 := by
    rw [Int32.toBitVec_xor, BitVec.toNat_xor]; rfl
  have hx : x.toInt = x.toBitVec.toInt := rfl
  have hlt := x.toBitVec.isLt
  rw [e, hx, BitVec.toInt_eq_toNat_cond, BitVec.toInt_eq_toNat_cond, h1]
  generalize x.toBitVec.toNat = n at hlt
  rcases Nat.lt_or_ge n 2147483648 with q | q
  · have : n ^^^ 2147483648 = 2147483648 + n := by
      have h2 := Nat.two_pow_add_eq_or_of_lt (i := 31) (b := n) q 1
      rw [Nat.mul_one] at h2
      rw [show (2147483648 : Nat) = 2 ^ 31 from rfl, h2]
      apply Nat.eq_of_testBit_eq
      intro i
      rw [Nat.testBit_xor, Nat.testBit_or, Nat.testBit_two_pow]
      by_cases hi : 31 = i
      · subst hi; rw [Nat.testBit_lt_two_pow q]; rfl
      · simp [hi]
    rw [this]; omega
  · obtain ⟨k, rfl⟩ : ∃ k, n = 2147483648 + k := ⟨n - 2147483648, by omega⟩
    have hk : k < 2 ^ 31 := by omega
    have : (2147483648 + k) ^^^ 2147483648 = k := by
      have h2 := Nat.two_pow_add_eq_or_of_lt (i := 31) (b := k) hk 1
      rw [Nat.mul_one] at h2
      rw [show (2147483648 : Nat) = 2 ^ 31 from rfl, h2]
      apply Nat.eq_of_testBit_eq
      intro i
      rw [Nat.testBit_xor, Nat.testBit_or, Nat.testBit_two_pow]
      by_cases hi : 31 = i
      · subst hi; rw [Nat.testBit_lt_two_pow hk]; rfl
      · simp [hi]
    rw [this]; omega
theorem own_i32 (x y : Int32) : x = y ↔ x.toInt = y.toInt := Int32.toInt_inj.symm
theorem own_i64 (x y : Int64) : x = y ↔ x.toInt = y.toInt := Int64.toInt_inj.symm
theorem own_law (pe pc ne nc v1 v2 v3 v : Int32)
    (h1 : v1 = (if pc = (-1 : Int32) then (0 : Int32) else (if ne = pe then (if nc = (pc + (1 : Int32)) then (1 : Int32) else (0 : Int32)) else (0 : Int32))))
    (h2 : v2 = (if pc = (-1 : Int32) then (if nc = (0 : Int32) then (if ne = (pe + (1 : Int32)) then (1 : Int32) else (0 : Int32)) else (0 : Int32)) else (0 : Int32)))
    (h3 : v3 = (if (pe ^^^ (-2147483648 : Int32)) < (ne ^^^ (-2147483648 : Int32)) then (if nc = (1 : Int32) then (1 : Int32) else (0 : Int32)) else (0 : Int32)))
    (h : v = (if v1 = (0 : Int32) then (if v2 = (0 : Int32) then (if v3 = (0 : Int32) then (0 : Int32) else (1 : Int32)) else (1 : Int32)) else (1 : Int32))) :
    F1 (((pe.toInt64) <<< ((32 : Int32) &&& 0x3f).toInt64) ||| ((pc.toInt64) &&& (4294967295 : Int64))) (((ne.toInt64) <<< ((32 : Int32) &&& 0x3f).toInt64) ||| ((nc.toInt64) &&& (4294967295 : Int64))) = v := by
  have A := own_pack pe pc
  have B := own_pack ne nc
  generalize ((pe.toInt64) <<< ((32 : Int32) &&& 0x3f).toInt64) ||| ((pc.toInt64) &&& (4294967295 : Int64)) = a at *
  generalize ((ne.toInt64) <<< ((32 : Int32) &&& 0x3f).toInt64) ||| ((nc.toInt64) &&& (4294967295 : Int64)) = b at *
  have r1 := rng32 pe; have r2 := rng32 pc; have r3 := rng32 ne; have r4 := rng32 nc
  have s1 := c_iadd pc 1; have s2 := c_iadd pe 1; have r5 := rng32 (pc + 1); have r6 := rng32 (pe + 1)
  have k1 : (1 : Int32).toInt = 1 := by decide
  have k0 : (0 : Int32).toInt = 0 := by decide
  have km : (-1 : Int32).toInt = -1 := by decide
  have l1 : (1 : Int64).toInt = 1 := by decide
  have E1 : b = a + 1 ↔ ((¬ pc = (-1 : Int32)) ∧ ne = pe ∧ nc = pc + 1) ∨ (pc = (-1 : Int32) ∧ nc = 0 ∧ ne = pe + 1) := by
    rw [own_i64, own_i32, own_i32, own_i32, own_i32, own_i32]
    have t1 := c_ladd a 1; have t2 := rng64 (a + 1)
    rw [l1] at t1; rw [k1] at s1 s2; rw [km, k0]
    constructor
    · intro q; omega
    · intro q; omega
  have E2 : ((a.toUInt64 >>> ((32 : Int32) &&& 0x3f).toInt64.toUInt64).toInt64) < ((b.toUInt64 >>> ((32 : Int32) &&& 0x3f).toInt64.toUInt64).toInt64) ↔ (pe ^^^ (-2147483648 : Int32)) < (ne ^^^ (-2147483648 : Int32)) := by
    rw [Int64.lt_iff_toInt_lt, Int32.lt_iff_toInt_lt, c_lushr a 32 32 (by decide) (by decide), c_lushr b 32 32 (by decide) (by decide), own_xor, own_xor, A, B]
    have := rng32 pe; have := rng32 ne
    split <;> split <;> omega
  have E3 : b.toInt32 = 1 ↔ nc = 1 := by
    rw [own_i32, own_i32, k1]
    have t1 := c_l2i b; have t2 := rng32 b.toInt32
    rw [B] at t1
    omega
  subst h1 h2 h3 h
  simp only [F1]
  by_cases c1 : b = a + 1
  · rw [if_pos c1]
    rcases E1.mp c1 with ⟨q1, q2, q3⟩ | ⟨q1, q2, q3⟩
    · rw [if_neg q1, if_pos q2, if_pos q3]; rfl
    · rw [if_pos q1, if_pos q1, if_pos q2, if_pos q3]; rfl
  · rw [if_neg c1]
    have n1 := mt E1.mpr c1
    have z1 : (if pc = (-1 : Int32) then (0 : Int32) else (if ne = pe then (if nc = (pc + (1 : Int32)) then (1 : Int32) else (0 : Int32)) else (0 : Int32))) = 0 := by
      split
      · rfl
      · split
        · split
          · exact absurd (Or.inl ⟨‹_›, ‹_›, ‹_›⟩) n1
          · rfl
        · rfl
    have z2 : (if pc = (-1 : Int32) then (if nc = (0 : Int32) then (if ne = (pe + (1 : Int32)) then (1 : Int32) else (0 : Int32)) else (0 : Int32)) else (0 : Int32)) = 0 := by
      split
      · split
        · split
          · exact absurd (Or.inr ⟨‹_›, ‹_›, ‹_›⟩) n1
          · rfl
        · rfl
      · rfl
    rw [z1, z2, if_pos rfl, if_pos rfl]
    by_cases c2 : (pe ^^^ (-2147483648 : Int32)) < (ne ^^^ (-2147483648 : Int32))
    · rw [if_pos (E2.mpr c2), if_pos c2]
      by_cases c3 : nc = 1
      · rw [if_pos (E3.mpr c3), if_pos c3]; rfl
      · rw [if_neg (mt E3.mp c3), if_neg c3]; rfl
    · rw [if_neg (mt E2.mp c2), if_neg c2]; rfl

theorem pn_0 : plainName "com/example/catchwire/catchwire/wire/ZxidFollowsPinLaw" = true := by first | (simp [plainName, overriddenIn]; done) | decide +kernel
theorem ef_0 (m : MethodId) (p0 : Int32) (p1 : Int32) (p2 : Int32) (p3 : Int32) (p4 : Int32) : entryFrame m #[(.int p0), (.int p1), (.int p2), (.int p3), (.int p4)] maxLocals = mkF m 0 #[iv p0, iv p1, iv p2, iv p3, iv p4, .unset, .unset, .unset, .unset, .unset, .unset, .unset, .unset, .unset, .unset, .unset, .unset, .unset, .unset] [] := by first | (simp [entryFrame, mkF, argsToLocals, Value.category, maxLocals]; done) | rfl
def Q0 (Z : State) (p0 : Int32) (p1 : Int32) (p2 : Int32) (p3 : Int32) (p4 : Int32) (h0 : Heap) (n0 : Nat) (v : Option Value) (h : Heap) (L : List Loc) : Prop := v = some (.int 1) ∧ Fr n0 L
set_option maxRecDepth 65536 in
set_option maxHeartbeats 40000000 in
theorem rm0 (l : Launch) (Z : State) (a0 : Array Value) (hw : ∀ d ∈ tables_1, d.before a0 Z = true) (ws : List Jvm.Cond) (p0 : Int32) (p1 : Int32) (p2 : Int32) (p3 : Int32) (p4 : Int32) (h0 : Heap) (n0 : Nat) (Z0 : n0 ≤ h0.size) :
    MetFree l x (head1 (Jvm.Cond.code x code maxLocals ret :: ws) room_1) (fun a U => a = #[(.int p0), (.int p1), (.int p2), (.int p3), (.int p4)] ∧ Z.Warmed39 U.vm ∧ U.heap = h0) (fun _ _ _ _ _ => True) (fun _ U o U' => ∃ v L, o = .returned v ∧ Q0 Z p0 p1 p2 p3 p4 h0 n0 v U'.heap L ∧ FrameEnd U o U' L 0 0) := by
  refine MetFree.of_bodySF (plainFor_of_name pn_0) hisR ?_
  intro p e s m args below meth c s₁ Bd hml0 hP hK
  obtain ⟨rfl, hZ, hh⟩ := hP
  have hx := Bd.exec
  have hby := Bd.bytes
  have hml : c.maxLocals = 19 := hml0
  have hown : s.vm.findClass "com/example/catchwire/catchwire/wire/ZxidFollowsPinLaw" = some m.cls := findClass_of_methodNamed Bd.named
  have hnm := (name_of_methodNamed Bd.named Bd.method).1
  have hlk : meth.locks = false := Bd.notSynchronized
  have X0 : Stand p l e room_1 s m #[(.int p0), (.int p1), (.int p2), (.int p3), (.int p4)] below meth c s₁ [] 0 0 := Stand.of_body Bd
  have e0 : s₁.heap = h0 := by rw [← hh, Bd.state]; rfl
  have N0 := Fr.nil n0
  have KK0 := Keep.refl h0 []
  show own_Go p.tables e below s 0 0 (Q0 Z p0 p1 p2 p3 p4 h0 n0) (s₁.setTop (entryFrame m #[(.int p0), (.int p1), (.int p2), (.int p3), (.int p4)] maxLocals))
  rw [ef_0]
  refine own_step (U' := s₁.setTop (mkF m 6 #[iv p0, iv p1, iv p2, iv p3, iv p4, .unset, .unset, .unset, .unset, .unset, .unset, .unset, .unset, .unset, .unset, .unset, .unset, .unset, .unset] [(.int (((p4.toUInt32 >>> ((4 : Int32) &&& 31).toUInt32).toInt32) &&& (1 : Int32)))])) (fun t k => XS.iload X0.here hx rfl (hb hby at_0) rfl (XS.iconst X0.here hx rfl (hb hby at_2) (XS.iushr X0.here hx rfl (hb hby at_3) rfl (XS.iconst X0.here hx rfl (hb hby at_4) (XS.iand X0.here hx rfl (hb hby at_5) rfl k))))) ?_
  obtain ⟨v14_2, hv14_2⟩ : ∃ v : Int32, v = (if (((p4.toUInt32 >>> ((4 : Int32) &&& 31).toUInt32).toInt32) &&& (1 : Int32)) = (0 : Int32) then p0 else (-1 : Int32)) := ⟨_, rfl⟩
  have K14_3 : ∀ (T' : State) (locs' : List Loc) (X' : Stand p l e room_1 s m #[(.int p0), (.int p1), (.int p2), (.int p3), (.int p4)] below meth c T' locs' 0 0) (N' : Fr n0 locs') (e' : T'.heap = h0), own_Go p.tables e below s 0 0 (Q0 Z p0 p1 p2 p3 p4 h0 n0) (T'.setTop (mkF m 14 #[iv p0, iv p1, iv p2, iv p3, iv p4, .unset, .unset, .unset, .unset, .unset, .unset, .unset, .unset, .unset, .unset, .unset, .unset, .unset, .unset] [(.int v14_2)])) := by
    intro T3 L3 X3 N3 e3
    refine own_step (U' := T3.setTop (mkF m 22 #[iv p0, iv p1, iv p2, iv p3, iv p4, iv v14_2, .unset, .unset, .unset, .unset, .unset, .unset, .unset, .unset, .unset, .unset, .unset, .unset, .unset] [(.int (((p4.toUInt32 >>> ((5 : Int32) &&& 31).toUInt32).toInt32) &&& (1 : Int32)))])) (fun t k => XS.istore X3.here hx rfl (hb hby at_14) rfl (l' := #[iv p0, iv p1, iv p2, iv p3, iv p4, iv v14_2, .unset, .unset, .unset, .unset, .unset, .unset, .unset, .unset, .unset, .unset, .unset, .unset, .unset]) rfl (XS.iload X3.here hx rfl (hb hby at_16) rfl (XS.iconst X3.here hx rfl (hb hby at_18) (XS.iushr X3.here hx rfl (hb hby at_19) rfl (XS.iconst X3.here hx rfl (hb hby at_20) (XS.iand X3.here hx rfl (hb hby at_21) rfl k)))))) ?_
    obtain ⟨v30_5, hv30_5⟩ : ∃ v : Int32, v = (if (((p4.toUInt32 >>> ((5 : Int32) &&& 31).toUInt32).toInt32) &&& (1 : Int32)) = (0 : Int32) then p1 else (-1 : Int32)) := ⟨_, rfl⟩
    have K30_6 : ∀ (T' : State) (locs' : List Loc) (X' : Stand p l e room_1 s m #[(.int p0), (.int p1), (.int p2), (.int p3), (.int p4)] below meth c T' locs' 0 0) (N' : Fr n0 locs') (e' : T'.heap = h0), own_Go p.tables e below s 0 0 (Q0 Z p0 p1 p2 p3 p4 h0 n0) (T'.setTop (mkF m 30 #[iv p0, iv p1, iv p2, iv p3, iv p4, iv v14_2, .unset, .unset, .unset, .unset, .unset, .unset, .unset, .unset, .unset, .unset, .unset, .unset, .unset] [(.int v30_5)])) := by
      intro T6 L6 X6 N6 e6
      refine own_step (U' := T6.setTop (mkF m 40 #[iv p0, iv p1, iv p2, iv p3, iv p4, iv v14_2, iv v30_5, iv (p4 &&& (3 : Int32)), .unset, .unset, .unset, .unset, .unset, .unset, .unset, .unset, .unset, .unset, .unset] [(.int (p4 &&& (3 : Int32)))])) (fun t k => XS.istore X6.here hx rfl (hb hby at_30) rfl (l' := #[iv p0, iv p1, iv p2, iv p3, iv p4, iv v14_2, iv v30_5, .unset, .unset, .unset, .unset, .unset, .unset, .unset, .unset, .unset, .unset, .unset, .unset]) rfl (XS.iload X6.here hx rfl (hb hby at_32) rfl (XS.iconst X6.here hx rfl (hb hby at_34) (XS.iand X6.here hx rfl (hb hby at_35) rfl (XS.istore X6.here hx rfl (hb hby at_36) rfl (l' := #[iv p0, iv p1, iv p2, iv p3, iv p4, iv v14_2, iv v30_5, iv (p4 &&& (3 : Int32)), .unset, .unset, .unset, .unset, .unset, .unset, .unset, .unset, .unset, .unset, .unset]) rfl (XS.iload X6.here hx rfl (hb hby at_38) rfl k)))))) ?_
      obtain ⟨v75_10, hv75_10⟩ : ∃ v : Int32, v = (if (p4 &&& (3 : Int32)) = (0 : Int32) then v14_2 else (if (p4 &&& (3 : Int32)) = (1 : Int32) then (v14_2 + (1 : Int32)) else (if (p4 &&& (3 : Int32)) = (2 : Int32) then p2 else (v14_2 - (1 : Int32))))) := ⟨_, rfl⟩
      have K75_11 : ∀ (T' : State) (locs' : List Loc) (X' : Stand p l e room_1 s m #[(.int p0), (.int p1), (.int p2), (.int p3), (.int p4)] below meth c T' locs' 0 0) (N' : Fr n0 locs') (e' : T'.heap = h0), own_Go p.tables e below s 0 0 (Q0 Z p0 p1 p2 p3 p4 h0 n0) (T'.setTop (mkF m 75 #[iv p0, iv p1, iv p2, iv p3, iv p4, iv v14_2, iv v30_5, iv (p4 &&& (3 : Int32)), .unset, .unset, .unset, .unset, .unset, .unset, .unset, .unset, .unset, .unset, .unset] [(.int v75_10)])) := by
        intro T11 L11 X11 N11 e11
        refine own_step (U' := T11.setTop (mkF m 87 #[iv p0, iv p1, iv p2, iv p3, iv p4, iv v14_2, iv v30_5, iv (p4 &&& (3 : Int32)), iv v75_10, iv (((p4.toUInt32 >>> ((2 : Int32) &&& 31).toUInt32).toInt32) &&& (3 : Int32)), .unset, .unset, .unset, .unset, .unset, .unset, .unset, .unset, .unset] [(.int (((p4.toUInt32 >>> ((2 : Int32) &&& 31).toUInt32).toInt32) &&& (3 : Int32)))])) (fun t k => XS.istore X11.here hx rfl (hb hby at_75) rfl (l' := #[iv p0, iv p1, iv p2, iv p3, iv p4, iv v14_2, iv v30_5, iv (p4 &&& (3 : Int32)), iv v75_10, .unset, .unset, .unset, .unset, .unset, .unset, .unset, .unset, .unset, .unset]) rfl (XS.iload X11.here hx rfl (hb hby at_77) rfl (XS.iconst X11.here hx rfl (hb hby at_79) (XS.iushr X11.here hx rfl (hb hby at_80) rfl (XS.iconst X11.here hx rfl (hb hby at_81) (XS.iand X11.here hx rfl (hb hby at_82) rfl (XS.istore X11.here hx rfl (hb hby at_83) rfl (l' := #[iv p0, iv p1, iv p2, iv p3, iv p4, iv v14_2, iv v30_5, iv (p4 &&& (3 : Int32)), iv v75_10, iv (((p4.toUInt32 >>> ((2 : Int32) &&& 31).toUInt32).toInt32) &&& (3 : Int32)), .unset, .unset, .unset, .unset, .unset, .unset, .unset, .unset, .unset]) rfl (XS.iload X11.here hx rfl (hb hby at_85) rfl k)))))))) ?_
        obtain ⟨v118_15, hv118_15⟩ : ∃ v : Int32, v = (if (((p4.toUInt32 >>> ((2 : Int32) &&& 31).toUInt32).toInt32) &&& (3 : Int32)) = (0 : Int32) then (v30_5 + (1 : Int32)) else (if (((p4.toUInt32 >>> ((2 : Int32) &&& 31).toUInt32).toInt32) &&& (3 : Int32)) = (1 : Int32) then (1 : Int32) else (if (((p4.toUInt32 >>> ((2 : Int32) &&& 31).toUInt32).toInt32) &&& (3 : Int32)) = (2 : Int32) then p3 else (0 : Int32)))) := ⟨_, rfl⟩
        have K118_16 : ∀ (T' : State) (locs' : List Loc) (X' : Stand p l e room_1 s m #[(.int p0), (.int p1), (.int p2), (.int p3), (.int p4)] below meth c T' locs' 0 0) (N' : Fr n0 locs') (e' : T'.heap = h0), own_Go p.tables e below s 0 0 (Q0 Z p0 p1 p2 p3 p4 h0 n0) (T'.setTop (mkF m 118 #[iv p0, iv p1, iv p2, iv p3, iv p4, iv v14_2, iv v30_5, iv (p4 &&& (3 : Int32)), iv v75_10, iv (((p4.toUInt32 >>> ((2 : Int32) &&& 31).toUInt32).toInt32) &&& (3 : Int32)), .unset, .unset, .unset, .unset, .unset, .unset, .unset, .unset, .unset] [(.int v118_15)])) := by
          intro T16 L16 X16 N16 e16
          refine own_step (U' := T16.setTop (mkF m 132 #[iv p0, iv p1, iv p2, iv p3, iv p4, iv v14_2, iv v30_5, iv (p4 &&& (3 : Int32)), iv v75_10, iv (((p4.toUInt32 >>> ((2 : Int32) &&& 31).toUInt32).toInt32) &&& (3 : Int32)), iv v118_15, .unset, .unset, .unset, .unset, .unset, .unset, .unset, .unset] [(.long (4294967295 : Int64)), (.long (v30_5.toInt64)), (.long ((v14_2.toInt64) <<< ((32 : Int32) &&& 0x3f).toInt64))])) (fun t k => XS.istore X16.here hx rfl (hb hby at_118) rfl (l' := #[iv p0, iv p1, iv p2, iv p3, iv p4, iv v14_2, iv v30_5, iv (p4 &&& (3 : Int32)), iv v75_10, iv (((p4.toUInt32 >>> ((2 : Int32) &&& 31).toUInt32).toInt32) &&& (3 : Int32)), iv v118_15, .unset, .unset, .unset, .unset, .unset, .unset, .unset, .unset]) rfl (XS.iload X16.here hx rfl (hb hby at_120) rfl (XS.i2l X16.here hx rfl (hb hby at_122) rfl (XS.bipush X16.here hx rfl (hb hby at_123) (XS.lshl X16.here hx rfl (hb hby at_125) rfl (XS.iload X16.here hx rfl (hb hby at_126) rfl (XS.i2l X16.here hx rfl (hb hby at_128) rfl (X16.ldc2Long hx hown (mvT hZ (own_w hw 0 rfl)) (g := (mkF m 129 #[iv p0, iv p1, iv p2, iv p3, iv p4, iv v14_2, iv v30_5, iv (p4 &&& (3 : Int32)), iv v75_10, iv (((p4.toUInt32 >>> ((2 : Int32) &&& 31).toUInt32).toInt32) &&& (3 : Int32)), iv v118_15, .unset, .unset, .unset, .unset, .unset, .unset, .unset, .unset] [(.long (v30_5.toInt64)), (.long ((v14_2.toInt64) <<< ((32 : Int32) &&& 0x3f).toInt64))])) rfl (hb hby at_129) t k)))))))) ?_
          refine own_step (U' := T16.setTop (mkF m 144 #[iv p0, iv p1, iv p2, iv p3, iv p4, iv v14_2, iv v30_5, iv (p4 &&& (3 : Int32)), iv v75_10, iv (((p4.toUInt32 >>> ((2 : Int32) &&& 31).toUInt32).toInt32) &&& (3 : Int32)), iv v118_15, .val (.long (((v14_2.toInt64) <<< ((32 : Int32) &&& 0x3f).toInt64) ||| ((v30_5.toInt64) &&& (4294967295 : Int64)))), .second, .unset, .unset, .unset, .unset, .unset, .unset] [(.int v118_15), (.long ((v75_10.toInt64) <<< ((32 : Int32) &&& 0x3f).toInt64))])) (fun t k => XS.land X16.here hx rfl (hb hby at_132) rfl (XS.lor X16.here hx rfl (hb hby at_133) rfl (XS.lstore X16.here hx rfl (hb hby at_134) rfl (l' := #[iv p0, iv p1, iv p2, iv p3, iv p4, iv v14_2, iv v30_5, iv (p4 &&& (3 : Int32)), iv v75_10, iv (((p4.toUInt32 >>> ((2 : Int32) &&& 31).toUInt32).toInt32) &&& (3 : Int32)), iv v118_15, .val (.long (((v14_2.toInt64) <<< ((32 : Int32) &&& 0x3f).toInt64) ||| ((v30_5.toInt64) &&& (4294967295 : Int64)))), .second, .unset, .unset, .unset, .unset, .unset, .unset]) rfl (XS.iload X16.here hx rfl (hb hby at_136) rfl (XS.i2l X16.here hx rfl (hb hby at_138) rfl (XS.bipush X16.here hx rfl (hb hby at_139) (XS.lshl X16.here hx rfl (hb hby at_141) rfl (XS.iload X16.here hx rfl (hb hby at_142) rfl k)))))))) ?_
          refine own_step (U' := T16.setTop (mkF m 155 #[iv p0, iv p1, iv p2, iv p3, iv p4, iv v14_2, iv v30_5, iv (p4 &&& (3 : Int32)), iv v75_10, iv (((p4.toUInt32 >>> ((2 : Int32) &&& 31).toUInt32).toInt32) &&& (3 : Int32)), iv v118_15, .val (.long (((v14_2.toInt64) <<< ((32 : Int32) &&& 0x3f).toInt64) ||| ((v30_5.toInt64) &&& (4294967295 : Int64)))), .second, .val (.long (((v75_10.toInt64) <<< ((32 : Int32) &&& 0x3f).toInt64) ||| ((v118_15.toInt64) &&& (4294967295 : Int64)))), .second, .unset, .unset, .unset, .unset] [(.int (-1 : Int32)), (.int v30_5)])) (fun t k => XS.i2l X16.here hx rfl (hb hby at_144) rfl (X16.ldc2Long hx hown (mvT hZ (own_w hw 0 rfl)) (g := (mkF m 145 #[iv p0, iv p1, iv p2, iv p3, iv p4, iv v14_2, iv v30_5, iv (p4 &&& (3 : Int32)), iv v75_10, iv (((p4.toUInt32 >>> ((2 : Int32) &&& 31).toUInt32).toInt32) &&& (3 : Int32)), iv v118_15, .val (.long (((v14_2.toInt64) <<< ((32 : Int32) &&& 0x3f).toInt64) ||| ((v30_5.toInt64) &&& (4294967295 : Int64)))), .second, .unset, .unset, .unset, .unset, .unset, .unset] [(.long (v118_15.toInt64)), (.long ((v75_10.toInt64) <<< ((32 : Int32) &&& 0x3f).toInt64))])) rfl (hb hby at_145) t (XS.land X16.here hx rfl (hb hby at_148) rfl (XS.lor X16.here hx rfl (hb hby at_149) rfl (XS.lstore X16.here hx rfl (hb hby at_150) rfl (l' := #[iv p0, iv p1, iv p2, iv p3, iv p4, iv v14_2, iv v30_5, iv (p4 &&& (3 : Int32)), iv v75_10, iv (((p4.toUInt32 >>> ((2 : Int32) &&& 31).toUInt32).toInt32) &&& (3 : Int32)), iv v118_15, .val (.long (((v14_2.toInt64) <<< ((32 : Int32) &&& 0x3f).toInt64) ||| ((v30_5.toInt64) &&& (4294967295 : Int64)))), .second, .val (.long (((v75_10.toInt64) <<< ((32 : Int32) &&& 0x3f).toInt64) ||| ((v118_15.toInt64) &&& (4294967295 : Int64)))), .second, .unset, .unset, .unset, .unset]) rfl (XS.iload X16.here hx rfl (hb hby at_152) rfl (XS.iconst X16.here hx rfl (hb hby at_154) k))))))) ?_
          obtain ⟨v179_20, hv179_20⟩ : ∃ v : Int32, v = (if v30_5 = (-1 : Int32) then (0 : Int32) else (if v75_10 = v14_2 then (if v118_15 = (v30_5 + (1 : Int32)) then (1 : Int32) else (0 : Int32)) else (0 : Int32))) := ⟨_, rfl⟩
          have K179_21 : ∀ (T' : State) (locs' : List Loc) (X' : Stand p l e room_1 s m #[(.int p0), (.int p1), (.int p2), (.int p3), (.int p4)] below meth c T' locs' 0 0) (N' : Fr n0 locs') (e' : T'.heap = h0), own_Go p.tables e below s 0 0 (Q0 Z p0 p1 p2 p3 p4 h0 n0) (T'.setTop (mkF m 179 #[iv p0, iv p1, iv p2, iv p3, iv p4, iv v14_2, iv v30_5, iv (p4 &&& (3 : Int32)), iv v75_10, iv (((p4.toUInt32 >>> ((2 : Int32) &&& 31).toUInt32).toInt32) &&& (3 : Int32)), iv v118_15, .val (.long (((v14_2.toInt64) <<< ((32 : Int32) &&& 0x3f).toInt64) ||| ((v30_5.toInt64) &&& (4294967295 : Int64)))), .second, .val (.long (((v75_10.toInt64) <<< ((32 : Int32) &&& 0x3f).toInt64) ||| ((v118_15.toInt64) &&& (4294967295 : Int64)))), .second, .unset, .unset, .unset, .unset] [(.int v179_20)])) := by
            intro T21 L21 X21 N21 e21
            refine own_step (U' := T21.setTop (mkF m 184 #[iv p0, iv p1, iv p2, iv p3, iv p4, iv v14_2, iv v30_5, iv (p4 &&& (3 : Int32)), iv v75_10, iv (((p4.toUInt32 >>> ((2 : Int32) &&& 31).toUInt32).toInt32) &&& (3 : Int32)), iv v118_15, .val (.long (((v14_2.toInt64) <<< ((32 : Int32) &&& 0x3f).toInt64) ||| ((v30_5.toInt64) &&& (4294967295 : Int64)))), .second, .val (.long (((v75_10.toInt64) <<< ((32 : Int32) &&& 0x3f).toInt64) ||| ((v118_15.toInt64) &&& (4294967295 : Int64)))), .second, iv v179_20, .unset, .unset, .unset] [(.int (-1 : Int32)), (.int v30_5)])) (fun t k => XS.istore X21.here hx rfl (hb hby at_179) rfl (l' := #[iv p0, iv p1, iv p2, iv p3, iv p4, iv v14_2, iv v30_5, iv (p4 &&& (3 : Int32)), iv v75_10, iv (((p4.toUInt32 >>> ((2 : Int32) &&& 31).toUInt32).toInt32) &&& (3 : Int32)), iv v118_15, .val (.long (((v14_2.toInt64) <<< ((32 : Int32) &&& 0x3f).toInt64) ||| ((v30_5.toInt64) &&& (4294967295 : Int64)))), .second, .val (.long (((v75_10.toInt64) <<< ((32 : Int32) &&& 0x3f).toInt64) ||| ((v118_15.toInt64) &&& (4294967295 : Int64)))), .second, iv v179_20, .unset, .unset, .unset]) rfl (XS.iload X21.here hx rfl (hb hby at_181) rfl (XS.iconst X21.here hx rfl (hb hby at_183) k))) ?_
            obtain ⟨v206_25, hv206_25⟩ : ∃ v : Int32, v = (if v30_5 = (-1 : Int32) then (if v118_15 = (0 : Int32) then (if v75_10 = (v14_2 + (1 : Int32)) then (1 : Int32) else (0 : Int32)) else (0 : Int32)) else (0 : Int32)) := ⟨_, rfl⟩
            have K206_26 : ∀ (T' : State) (locs' : List Loc) (X' : Stand p l e room_1 s m #[(.int p0), (.int p1), (.int p2), (.int p3), (.int p4)] below meth c T' locs' 0 0) (N' : Fr n0 locs') (e' : T'.heap = h0), own_Go p.tables e below s 0 0 (Q0 Z p0 p1 p2 p3 p4 h0 n0) (T'.setTop (mkF m 206 #[iv p0, iv p1, iv p2, iv p3, iv p4, iv v14_2, iv v30_5, iv (p4 &&& (3 : Int32)), iv v75_10, iv (((p4.toUInt32 >>> ((2 : Int32) &&& 31).toUInt32).toInt32) &&& (3 : Int32)), iv v118_15, .val (.long (((v14_2.toInt64) <<< ((32 : Int32) &&& 0x3f).toInt64) ||| ((v30_5.toInt64) &&& (4294967295 : Int64)))), .second, .val (.long (((v75_10.toInt64) <<< ((32 : Int32) &&& 0x3f).toInt64) ||| ((v118_15.toInt64) &&& (4294967295 : Int64)))), .second, iv v179_20, .unset, .unset, .unset] [(.int v206_25)])) := by
              intro T26 L26 X26 N26 e26
              refine own_step (U' := T26.setTop (mkF m 218 #[iv p0, iv p1, iv p2, iv p3, iv p4, iv v14_2, iv v30_5, iv (p4 &&& (3 : Int32)), iv v75_10, iv (((p4.toUInt32 >>> ((2 : Int32) &&& 31).toUInt32).toInt32) &&& (3 : Int32)), iv v118_15, .val (.long (((v14_2.toInt64) <<< ((32 : Int32) &&& 0x3f).toInt64) ||| ((v30_5.toInt64) &&& (4294967295 : Int64)))), .second, .val (.long (((v75_10.toInt64) <<< ((32 : Int32) &&& 0x3f).toInt64) ||| ((v118_15.toInt64) &&& (4294967295 : Int64)))), .second, iv v179_20, iv v206_25, .unset, .unset] [(.int (v14_2 ^^^ (-2147483648 : Int32))), (.int (v75_10 ^^^ (-2147483648 : Int32)))])) (fun t k => XS.istore X26.here hx rfl (hb hby at_206) rfl (l' := #[iv p0, iv p1, iv p2, iv p3, iv p4, iv v14_2, iv v30_5, iv (p4 &&& (3 : Int32)), iv v75_10, iv (((p4.toUInt32 >>> ((2 : Int32) &&& 31).toUInt32).toInt32) &&& (3 : Int32)), iv v118_15, .val (.long (((v14_2.toInt64) <<< ((32 : Int32) &&& 0x3f).toInt64) ||| ((v30_5.toInt64) &&& (4294967295 : Int64)))), .second, .val (.long (((v75_10.toInt64) <<< ((32 : Int32) &&& 0x3f).toInt64) ||| ((v118_15.toInt64) &&& (4294967295 : Int64)))), .second, iv v179_20, iv v206_25, .unset, .unset]) rfl (XS.iload X26.here hx rfl (hb hby at_208) rfl (X26.ldcInt hx hown (mvT hZ (own_w hw 1 rfl)) (g := (mkF m 210 #[iv p0, iv p1, iv p2, iv p3, iv p4, iv v14_2, iv v30_5, iv (p4 &&& (3 : Int32)), iv v75_10, iv (((p4.toUInt32 >>> ((2 : Int32) &&& 31).toUInt32).toInt32) &&& (3 : Int32)), iv v118_15, .val (.long (((v14_2.toInt64) <<< ((32 : Int32) &&& 0x3f).toInt64) ||| ((v30_5.toInt64) &&& (4294967295 : Int64)))), .second, .val (.long (((v75_10.toInt64) <<< ((32 : Int32) &&& 0x3f).toInt64) ||| ((v118_15.toInt64) &&& (4294967295 : Int64)))), .second, iv v179_20, iv v206_25, .unset, .unset] [(.int v75_10)])) rfl (hb hby at_210) t (XS.ixor X26.here hx rfl (hb hby at_212) rfl (XS.iload X26.here hx rfl (hb hby at_213) rfl (X26.ldcInt hx hown (mvT hZ (own_w hw 1 rfl)) (g := (mkF m 215 #[iv p0, iv p1, iv p2, iv p3, iv p4, iv v14_2, iv v30_5, iv (p4 &&& (3 : Int32)), iv v75_10, iv (((p4.toUInt32 >>> ((2 : Int32) &&& 31).toUInt32).toInt32) &&& (3 : Int32)), iv v118_15, .val (.long (((v14_2.toInt64) <<< ((32 : Int32) &&& 0x3f).toInt64) ||| ((v30_5.toInt64) &&& (4294967295 : Int64)))), .second, .val (.long (((v75_10.toInt64) <<< ((32 : Int32) &&& 0x3f).toInt64) ||| ((v118_15.toInt64) &&& (4294967295 : Int64)))), .second, iv v179_20, iv v206_25, .unset, .unset] [(.int v14_2), (.int (v75_10 ^^^ (-2147483648 : Int32)))])) rfl (hb hby at_215) t (XS.ixor X26.here hx rfl (hb hby at_217) rfl k))))))) ?_
              obtain ⟨v232_29, hv232_29⟩ : ∃ v : Int32, v = (if (v14_2 ^^^ (-2147483648 : Int32)) < (v75_10 ^^^ (-2147483648 : Int32)) then (if v118_15 = (1 : Int32) then (1 : Int32) else (0 : Int32)) else (0 : Int32)) := ⟨_, rfl⟩
              have K232_30 : ∀ (T' : State) (locs' : List Loc) (X' : Stand p l e room_1 s m #[(.int p0), (.int p1), (.int p2), (.int p3), (.int p4)] below meth c T' locs' 0 0) (N' : Fr n0 locs') (e' : T'.heap = h0), own_Go p.tables e below s 0 0 (Q0 Z p0 p1 p2 p3 p4 h0 n0) (T'.setTop (mkF m 232 #[iv p0, iv p1, iv p2, iv p3, iv p4, iv v14_2, iv v30_5, iv (p4 &&& (3 : Int32)), iv v75_10, iv (((p4.toUInt32 >>> ((2 : Int32) &&& 31).toUInt32).toInt32) &&& (3 : Int32)), iv v118_15, .val (.long (((v14_2.toInt64) <<< ((32 : Int32) &&& 0x3f).toInt64) ||| ((v30_5.toInt64) &&& (4294967295 : Int64)))), .second, .val (.long (((v75_10.toInt64) <<< ((32 : Int32) &&& 0x3f).toInt64) ||| ((v118_15.toInt64) &&& (4294967295 : Int64)))), .second, iv v179_20, iv v206_25, .unset, .unset] [(.int v232_29)])) := by
                intro T30 L30 X30 N30 e30
                refine own_step (U' := T30.setTop (mkF m 236 #[iv p0, iv p1, iv p2, iv p3, iv p4, iv v14_2, iv v30_5, iv (p4 &&& (3 : Int32)), iv v75_10, iv (((p4.toUInt32 >>> ((2 : Int32) &&& 31).toUInt32).toInt32) &&& (3 : Int32)), iv v118_15, .val (.long (((v14_2.toInt64) <<< ((32 : Int32) &&& 0x3f).toInt64) ||| ((v30_5.toInt64) &&& (4294967295 : Int64)))), .second, .val (.long (((v75_10.toInt64) <<< ((32 : Int32) &&& 0x3f).toInt64) ||| ((v118_15.toInt64) &&& (4294967295 : Int64)))), .second, iv v179_20, iv v206_25, iv v232_29, .unset] [(.int v179_20)])) (fun t k => XS.istore X30.here hx rfl (hb hby at_232) rfl (l' := #[iv p0, iv p1, iv p2, iv p3, iv p4, iv v14_2, iv v30_5, iv (p4 &&& (3 : Int32)), iv v75_10, iv (((p4.toUInt32 >>> ((2 : Int32) &&& 31).toUInt32).toInt32) &&& (3 : Int32)), iv v118_15, .val (.long (((v14_2.toInt64) <<< ((32 : Int32) &&& 0x3f).toInt64) ||| ((v30_5.toInt64) &&& (4294967295 : Int64)))), .second, .val (.long (((v75_10.toInt64) <<< ((32 : Int32) &&& 0x3f).toInt64) ||| ((v118_15.toInt64) &&& (4294967295 : Int64)))), .second, iv v179_20, iv v206_25, iv v232_29, .unset]) rfl (XS.iload X30.here hx rfl (hb hby at_234) rfl k)) ?_
                obtain ⟨v254_34, hv254_34⟩ : ∃ v : Int32, v = (if v179_20 = (0 : Int32) then (if v206_25 = (0 : Int32) then (if v232_29 = (0 : Int32) then (0 : Int32) else (1 : Int32)) else (1 : Int32)) else (1 : Int32)) := ⟨_, rfl⟩
                have K254_35 : ∀ (T' : State) (locs' : List Loc) (X' : Stand p l e room_1 s m #[(.int p0), (.int p1), (.int p2), (.int p3), (.int p4)] below meth c T' locs' 0 0) (N' : Fr n0 locs') (e' : T'.heap = h0), own_Go p.tables e below s 0 0 (Q0 Z p0 p1 p2 p3 p4 h0 n0) (T'.setTop (mkF m 254 #[iv p0, iv p1, iv p2, iv p3, iv p4, iv v14_2, iv v30_5, iv (p4 &&& (3 : Int32)), iv v75_10, iv (((p4.toUInt32 >>> ((2 : Int32) &&& 31).toUInt32).toInt32) &&& (3 : Int32)), iv v118_15, .val (.long (((v14_2.toInt64) <<< ((32 : Int32) &&& 0x3f).toInt64) ||| ((v30_5.toInt64) &&& (4294967295 : Int64)))), .second, .val (.long (((v75_10.toInt64) <<< ((32 : Int32) &&& 0x3f).toInt64) ||| ((v118_15.toInt64) &&& (4294967295 : Int64)))), .second, iv v179_20, iv v206_25, iv v232_29, .unset] [(.int v254_34)])) := by
                  intro T35 L35 X35 N35 e35
                  refine own_step (U' := T35.setTop (mkF m 260 #[iv p0, iv p1, iv p2, iv p3, iv p4, iv v14_2, iv v30_5, iv (p4 &&& (3 : Int32)), iv v75_10, iv (((p4.toUInt32 >>> ((2 : Int32) &&& 31).toUInt32).toInt32) &&& (3 : Int32)), iv v118_15, .val (.long (((v14_2.toInt64) <<< ((32 : Int32) &&& 0x3f).toInt64) ||| ((v30_5.toInt64) &&& (4294967295 : Int64)))), .second, .val (.long (((v75_10.toInt64) <<< ((32 : Int32) &&& 0x3f).toInt64) ||| ((v118_15.toInt64) &&& (4294967295 : Int64)))), .second, iv v179_20, iv v206_25, iv v232_29, iv v254_34] [(.long (((v75_10.toInt64) <<< ((32 : Int32) &&& 0x3f).toInt64) ||| ((v118_15.toInt64) &&& (4294967295 : Int64)))), (.long (((v14_2.toInt64) <<< ((32 : Int32) &&& 0x3f).toInt64) ||| ((v30_5.toInt64) &&& (4294967295 : Int64))))])) (fun t k => XS.istore X35.here hx rfl (hb hby at_254) rfl (l' := #[iv p0, iv p1, iv p2, iv p3, iv p4, iv v14_2, iv v30_5, iv (p4 &&& (3 : Int32)), iv v75_10, iv (((p4.toUInt32 >>> ((2 : Int32) &&& 31).toUInt32).toInt32) &&& (3 : Int32)), iv v118_15, .val (.long (((v14_2.toInt64) <<< ((32 : Int32) &&& 0x3f).toInt64) ||| ((v30_5.toInt64) &&& (4294967295 : Int64)))), .second, .val (.long (((v75_10.toInt64) <<< ((32 : Int32) &&& 0x3f).toInt64) ||| ((v118_15.toInt64) &&& (4294967295 : Int64)))), .second, iv v179_20, iv v206_25, iv v232_29, iv v254_34]) rfl (XS.lload X35.here hx rfl (hb hby at_256) rfl (XS.lload X35.here hx rfl (hb hby at_258) rfl k))) ?_
                  obtain ⟨_, _, ⟨T36, L36, k36, n36⟩, -, X36, ⟨Lc36, hQ36, l36, y36, z36⟩, st36⟩ := Jvm.LawKit.callS X35 hx (y := (⟨"com/example/catchwire/catchwire/wire/Zxid", "follows", "(JJ)Z"⟩ : MethodName)) hown (mvT hZ (own_w hw 2 rfl)) (mvT hZ (own_w hw 3 rfl)) (mvT hZ (own_w hw 4 rfl)) (mvT hZ (own_w hw 5 rfl)) (by decide) (backOf (W := 0) (rm1 l Z a0 hw [] (((v14_2.toInt64) <<< ((32 : Int32) &&& 0x3f).toInt64) ||| ((v30_5.toInt64) &&& (4294967295 : Int64))) (((v75_10.toInt64) <<< ((32 : Int32) &&& 0x3f).toInt64) ||| ((v118_15.toInt64) &&& (4294967295 : Int64))) h0 n0 Z0) hZ (own_w hw 5 rfl) (own_w hw 4 rfl) (by decide) (by decide)) (g := (mkF m 260 #[iv p0, iv p1, iv p2, iv p3, iv p4, iv v14_2, iv v30_5, iv (p4 &&& (3 : Int32)), iv v75_10, iv (((p4.toUInt32 >>> ((2 : Int32) &&& 31).toUInt32).toInt32) &&& (3 : Int32)), iv v118_15, .val (.long (((v14_2.toInt64) <<< ((32 : Int32) &&& 0x3f).toInt64) ||| ((v30_5.toInt64) &&& (4294967295 : Int64)))), .second, .val (.long (((v75_10.toInt64) <<< ((32 : Int32) &&& 0x3f).toInt64) ||| ((v118_15.toInt64) &&& (4294967295 : Int64)))), .second, iv v179_20, iv v206_25, iv v232_29, iv v254_34] [(.long (((v75_10.toInt64) <<< ((32 : Int32) &&& 0x3f).toInt64) ||| ((v118_15.toInt64) &&& (4294967295 : Int64)))), (.long (((v14_2.toInt64) <<< ((32 : Int32) &&& 0x3f).toInt64) ||| ((v30_5.toInt64) &&& (4294967295 : Int64))))])) rfl (by rw [hml]; rfl) (argsL := [(.long (((v14_2.toInt64) <<< ((32 : Int32) &&& 0x3f).toInt64) ||| ((v30_5.toInt64) &&& (4294967295 : Int64)))), (.long (((v75_10.toInt64) <<< ((32 : Int32) &&& 0x3f).toInt64) ||| ((v118_15.toInt64) &&& (4294967295 : Int64))))]) (rest := []) (lenOf pd__JJ_Z rfl) rfl (by show 2 * 0 + _ ≤ _; exact Nat.le_of_eq rfl) (hb hby at_260) (fun _ _ => ⟨rfl, e35, (by decide : 0 + 0 ≤ _), (by decide : 0 + 0 ≤ _)⟩)
                  dsimp only [Pt.U, Pt.locs, Pt.cells, Pt.slots] at X36 l36 y36 z36 st36 hQ36
                  subst l36 y36 z36
                  obtain ⟨rfl, N36q, eq36⟩ := hQ36
                  have N36 := Fr.app N35 N36q
                  refine own_step (U' := T36.setTop (mkF m 263 #[iv p0, iv p1, iv p2, iv p3, iv p4, iv v14_2, iv v30_5, iv (p4 &&& (3 : Int32)), iv v75_10, iv (((p4.toUInt32 >>> ((2 : Int32) &&& 31).toUInt32).toInt32) &&& (3 : Int32)), iv v118_15, .val (.long (((v14_2.toInt64) <<< ((32 : Int32) &&& 0x3f).toInt64) ||| ((v30_5.toInt64) &&& (4294967295 : Int64)))), .second, .val (.long (((v75_10.toInt64) <<< ((32 : Int32) &&& 0x3f).toInt64) ||| ((v118_15.toInt64) &&& (4294967295 : Int64)))), .second, iv v179_20, iv v206_25, iv v232_29, iv v254_34] [(.int (F1 (((v14_2.toInt64) <<< ((32 : Int32) &&& 0x3f).toInt64) ||| ((v30_5.toInt64) &&& (4294967295 : Int64))) (((v75_10.toInt64) <<< ((32 : Int32) &&& 0x3f).toInt64) ||| ((v118_15.toInt64) &&& (4294967295 : Int64)))))])) st36 ?_
                  refine own_step (U' := T36.setTop (mkF m 273 #[iv p0, iv p1, iv p2, iv p3, iv p4, iv v14_2, iv v30_5, iv (p4 &&& (3 : Int32)), iv v75_10, iv (((p4.toUInt32 >>> ((2 : Int32) &&& 31).toUInt32).toInt32) &&& (3 : Int32)), iv v118_15, .val (.long (((v14_2.toInt64) <<< ((32 : Int32) &&& 0x3f).toInt64) ||| ((v30_5.toInt64) &&& (4294967295 : Int64)))), .second, .val (.long (((v75_10.toInt64) <<< ((32 : Int32) &&& 0x3f).toInt64) ||| ((v118_15.toInt64) &&& (4294967295 : Int64)))), .second, iv v179_20, iv v206_25, iv v232_29, iv v254_34] [(.int (1 : Int32))])) (fun t k => XS.iload X36.here hx rfl (hb hby at_263) rfl (XS.icmpNo X36.here hx rfl (hb hby at_265) rfl (teq (own_law v14_2 v30_5 v75_10 v118_15 v179_20 v206_25 v232_29 v254_34 hv179_20 hv206_25 hv232_29 hv254_34)).2 (XS.iconst X36.here hx rfl (hb hby at_268) (XS.goto X36.here hx rfl (pc0 := 269) (pc' := 273) rfl (hb hby at_269) (by decide) (by decide) k)))) ?_
                  exact own_out X36 (v := (some (.int (1 : Int32)))) hlk (own_nv Bd.returns) (by rw [eq36]; exact ⟨rfl, N36⟩) (by decide) (by decide) (fun fs hr => retN X36 hx (t := .boolean) Bd.returns (by simp) (hb hby at_273) hr)
                by_cases hc236_37 : v179_20 = (0 : Int32)
                · refine own_step (U' := T30.setTop (mkF m 241 #[iv p0, iv p1, iv p2, iv p3, iv p4, iv v14_2, iv v30_5, iv (p4 &&& (3 : Int32)), iv v75_10, iv (((p4.toUInt32 >>> ((2 : Int32) &&& 31).toUInt32).toInt32) &&& (3 : Int32)), iv v118_15, .val (.long (((v14_2.toInt64) <<< ((32 : Int32) &&& 0x3f).toInt64) ||| ((v30_5.toInt64) &&& (4294967295 : Int64)))), .second, .val (.long (((v75_10.toInt64) <<< ((32 : Int32) &&& 0x3f).toInt64) ||| ((v118_15.toInt64) &&& (4294967295 : Int64)))), .second, iv v179_20, iv v206_25, iv v232_29, .unset] [(.int v206_25)])) (fun t k => XS.ifNo X30.here hx rfl (hb hby at_236) rfl ((if0 _ _).trans (teq hc236_37).2) (XS.iload X30.here hx rfl (hb hby at_239) rfl k)) ?_
                  by_cases hc241_38 : v206_25 = (0 : Int32)
                  · refine own_step (U' := T30.setTop (mkF m 246 #[iv p0, iv p1, iv p2, iv p3, iv p4, iv v14_2, iv v30_5, iv (p4 &&& (3 : Int32)), iv v75_10, iv (((p4.toUInt32 >>> ((2 : Int32) &&& 31).toUInt32).toInt32) &&& (3 : Int32)), iv v118_15, .val (.long (((v14_2.toInt64) <<< ((32 : Int32) &&& 0x3f).toInt64) ||| ((v30_5.toInt64) &&& (4294967295 : Int64)))), .second, .val (.long (((v75_10.toInt64) <<< ((32 : Int32) &&& 0x3f).toInt64) ||| ((v118_15.toInt64) &&& (4294967295 : Int64)))), .second, iv v179_20, iv v206_25, iv v232_29, .unset] [(.int v232_29)])) (fun t k => XS.ifNo X30.here hx rfl (hb hby at_241) rfl ((if0 _ _).trans (teq hc241_38).2) (XS.iload X30.here hx rfl (hb hby at_244) rfl k)) ?_
                    by_cases hc246_39 : v232_29 = (0 : Int32)
                    · refine own_step (U' := T30.setTop (mkF m 254 #[iv p0, iv p1, iv p2, iv p3, iv p4, iv v14_2, iv v30_5, iv (p4 &&& (3 : Int32)), iv v75_10, iv (((p4.toUInt32 >>> ((2 : Int32) &&& 31).toUInt32).toInt32) &&& (3 : Int32)), iv v118_15, .val (.long (((v14_2.toInt64) <<< ((32 : Int32) &&& 0x3f).toInt64) ||| ((v30_5.toInt64) &&& (4294967295 : Int64)))), .second, .val (.long (((v75_10.toInt64) <<< ((32 : Int32) &&& 0x3f).toInt64) ||| ((v118_15.toInt64) &&& (4294967295 : Int64)))), .second, iv v179_20, iv v206_25, iv v232_29, .unset] [(.int (0 : Int32))])) (fun t k => XS.ifYes X30.here hx rfl (pc0 := 246) (pc' := 253) rfl (hb hby at_246) rfl ((if0 _ _).trans (teq hc246_39).1) (by decide) (by decide) (XS.iconst X30.here hx rfl (hb hby at_253) k)) ?_
                      have q_v254_34 : v254_34 = (0 : Int32) := by rw [hv254_34, if_pos hc236_37, if_pos hc241_38, if_pos hc246_39]
                      rw [q_v254_34] at K254_35
                      exact K254_35 _ _ X30 N30 e30
                    · refine own_step (U' := T30.setTop (mkF m 254 #[iv p0, iv p1, iv p2, iv p3, iv p4, iv v14_2, iv v30_5, iv (p4 &&& (3 : Int32)), iv v75_10, iv (((p4.toUInt32 >>> ((2 : Int32) &&& 31).toUInt32).toInt32) &&& (3 : Int32)), iv v118_15, .val (.long (((v14_2.toInt64) <<< ((32 : Int32) &&& 0x3f).toInt64) ||| ((v30_5.toInt64) &&& (4294967295 : Int64)))), .second, .val (.long (((v75_10.toInt64) <<< ((32 : Int32) &&& 0x3f).toInt64) ||| ((v118_15.toInt64) &&& (4294967295 : Int64)))), .second, iv v179_20, iv v206_25, iv v232_29, .unset] [(.int (1 : Int32))])) (fun t k => XS.ifNo X30.here hx rfl (hb hby at_246) rfl ((if0 _ _).trans (feq hc246_39).1) (XS.iconst X30.here hx rfl (hb hby at_249) (XS.goto X30.here hx rfl (pc0 := 250) (pc' := 254) rfl (hb hby at_250) (by decide) (by decide) k))) ?_
                      have q_v254_34 : v254_34 = (1 : Int32) := by rw [hv254_34, if_pos hc236_37, if_pos hc241_38, if_neg hc246_39]
                      rw [q_v254_34] at K254_35
                      exact K254_35 _ _ X30 N30 e30
                  · refine own_step (U' := T30.setTop (mkF m 254 #[iv p0, iv p1, iv p2, iv p3, iv p4, iv v14_2, iv v30_5, iv (p4 &&& (3 : Int32)), iv v75_10, iv (((p4.toUInt32 >>> ((2 : Int32) &&& 31).toUInt32).toInt32) &&& (3 : Int32)), iv v118_15, .val (.long (((v14_2.toInt64) <<< ((32 : Int32) &&& 0x3f).toInt64) ||| ((v30_5.toInt64) &&& (4294967295 : Int64)))), .second, .val (.long (((v75_10.toInt64) <<< ((32 : Int32) &&& 0x3f).toInt64) ||| ((v118_15.toInt64) &&& (4294967295 : Int64)))), .second, iv v179_20, iv v206_25, iv v232_29, .unset] [(.int (1 : Int32))])) (fun t k => XS.ifYes X30.here hx rfl (pc0 := 241) (pc' := 249) rfl (hb hby at_241) rfl ((if0 _ _).trans (feq hc241_38).2) (by decide) (by decide) (XS.iconst X30.here hx rfl (hb hby at_249) (XS.goto X30.here hx rfl (pc0 := 250) (pc' := 254) rfl (hb hby at_250) (by decide) (by decide) k))) ?_
                    have q_v254_34 : v254_34 = (1 : Int32) := by rw [hv254_34, if_pos hc236_37, if_neg hc241_38]
                    rw [q_v254_34] at K254_35
                    exact K254_35 _ _ X30 N30 e30
                · refine own_step (U' := T30.setTop (mkF m 254 #[iv p0, iv p1, iv p2, iv p3, iv p4, iv v14_2, iv v30_5, iv (p4 &&& (3 : Int32)), iv v75_10, iv (((p4.toUInt32 >>> ((2 : Int32) &&& 31).toUInt32).toInt32) &&& (3 : Int32)), iv v118_15, .val (.long (((v14_2.toInt64) <<< ((32 : Int32) &&& 0x3f).toInt64) ||| ((v30_5.toInt64) &&& (4294967295 : Int64)))), .second, .val (.long (((v75_10.toInt64) <<< ((32 : Int32) &&& 0x3f).toInt64) ||| ((v118_15.toInt64) &&& (4294967295 : Int64)))), .second, iv v179_20, iv v206_25, iv v232_29, .unset] [(.int (1 : Int32))])) (fun t k => XS.ifYes X30.here hx rfl (pc0 := 236) (pc' := 249) rfl (hb hby at_236) rfl ((if0 _ _).trans (feq hc236_37).2) (by decide) (by decide) (XS.iconst X30.here hx rfl (hb hby at_249) (XS.goto X30.here hx rfl (pc0 := 250) (pc' := 254) rfl (hb hby at_250) (by decide) (by decide) k))) ?_
                  have q_v254_34 : v254_34 = (1 : Int32) := by rw [hv254_34, if_neg hc236_37]
                  rw [q_v254_34] at K254_35
                  exact K254_35 _ _ X30 N30 e30
              by_cases hc218_40 : (v14_2 ^^^ (-2147483648 : Int32)) < (v75_10 ^^^ (-2147483648 : Int32))
              · refine own_step (U' := T26.setTop (mkF m 224 #[iv p0, iv p1, iv p2, iv p3, iv p4, iv v14_2, iv v30_5, iv (p4 &&& (3 : Int32)), iv v75_10, iv (((p4.toUInt32 >>> ((2 : Int32) &&& 31).toUInt32).toInt32) &&& (3 : Int32)), iv v118_15, .val (.long (((v14_2.toInt64) <<< ((32 : Int32) &&& 0x3f).toInt64) ||| ((v30_5.toInt64) &&& (4294967295 : Int64)))), .second, .val (.long (((v75_10.toInt64) <<< ((32 : Int32) &&& 0x3f).toInt64) ||| ((v118_15.toInt64) &&& (4294967295 : Int64)))), .second, iv v179_20, iv v206_25, .unset, .unset] [(.int (1 : Int32)), (.int v118_15)])) (fun t k => XS.icmpNo X26.here hx rfl (hb hby at_218) rfl (tlt hc218_40).2.2.2 (XS.iload X26.here hx rfl (hb hby at_221) rfl (XS.iconst X26.here hx rfl (hb hby at_223) k))) ?_
                by_cases hc224_41 : v118_15 = (1 : Int32)
                · refine own_step (U' := T26.setTop (mkF m 232 #[iv p0, iv p1, iv p2, iv p3, iv p4, iv v14_2, iv v30_5, iv (p4 &&& (3 : Int32)), iv v75_10, iv (((p4.toUInt32 >>> ((2 : Int32) &&& 31).toUInt32).toInt32) &&& (3 : Int32)), iv v118_15, .val (.long (((v14_2.toInt64) <<< ((32 : Int32) &&& 0x3f).toInt64) ||| ((v30_5.toInt64) &&& (4294967295 : Int64)))), .second, .val (.long (((v75_10.toInt64) <<< ((32 : Int32) &&& 0x3f).toInt64) ||| ((v118_15.toInt64) &&& (4294967295 : Int64)))), .second, iv v179_20, iv v206_25, .unset, .unset] [(.int (1 : Int32))])) (fun t k => XS.icmpNo X26.here hx rfl (hb hby at_224) rfl (teq hc224_41).2 (XS.iconst X26.here hx rfl (hb hby at_227) (XS.goto X26.here hx rfl (pc0 := 228) (pc' := 232) rfl (hb hby at_228) (by decide) (by decide) k))) ?_
                  have q_v232_29 : v232_29 = (1 : Int32) := by rw [hv232_29, if_pos hc218_40, if_pos hc224_41]
                  rw [q_v232_29] at K232_30
                  exact K232_30 _ _ X26 N26 e26
                · refine own_step (U' := T26.setTop (mkF m 232 #[iv p0, iv p1, iv p2, iv p3, iv p4, iv v14_2, iv v30_5, iv (p4 &&& (3 : Int32)), iv v75_10, iv (((p4.toUInt32 >>> ((2 : Int32) &&& 31).toUInt32).toInt32) &&& (3 : Int32)), iv v118_15, .val (.long (((v14_2.toInt64) <<< ((32 : Int32) &&& 0x3f).toInt64) ||| ((v30_5.toInt64) &&& (4294967295 : Int64)))), .second, .val (.long (((v75_10.toInt64) <<< ((32 : Int32) &&& 0x3f).toInt64) ||| ((v118_15.toInt64) &&& (4294967295 : Int64)))), .second, iv v179_20, iv v206_25, .unset, .unset] [(.int (0 : Int32))])) (fun t k => XS.icmpYes X26.here hx rfl (pc0 := 224) (pc' := 231) rfl (hb hby at_224) rfl (feq hc224_41).2 (by decide) (by decide) (XS.iconst X26.here hx rfl (hb hby at_231) k)) ?_
                  have q_v232_29 : v232_29 = (0 : Int32) := by rw [hv232_29, if_pos hc218_40, if_neg hc224_41]
                  rw [q_v232_29] at K232_30
                  exact K232_30 _ _ X26 N26 e26
              · refine own_step (U' := T26.setTop (mkF m 232 #[iv p0, iv p1, iv p2, iv p3, iv p4, iv v14_2, iv v30_5, iv (p4 &&& (3 : Int32)), iv v75_10, iv (((p4.toUInt32 >>> ((2 : Int32) &&& 31).toUInt32).toInt32) &&& (3 : Int32)), iv v118_15, .val (.long (((v14_2.toInt64) <<< ((32 : Int32) &&& 0x3f).toInt64) ||| ((v30_5.toInt64) &&& (4294967295 : Int64)))), .second, .val (.long (((v75_10.toInt64) <<< ((32 : Int32) &&& 0x3f).toInt64) ||| ((v118_15.toInt64) &&& (4294967295 : Int64)))), .second, iv v179_20, iv v206_25, .unset, .unset] [(.int (0 : Int32))])) (fun t k => XS.icmpYes X26.here hx rfl (pc0 := 218) (pc' := 231) rfl (hb hby at_218) rfl (flt hc218_40).2.2.2 (by decide) (by decide) (XS.iconst X26.here hx rfl (hb hby at_231) k)) ?_
                have q_v232_29 : v232_29 = (0 : Int32) := by rw [hv232_29, if_neg hc218_40]
                rw [q_v232_29] at K232_30
                exact K232_30 _ _ X26 N26 e26
            by_cases hc184_42 : v30_5 = (-1 : Int32)
            · refine own_step (U' := T21.setTop (mkF m 189 #[iv p0, iv p1, iv p2, iv p3, iv p4, iv v14_2, iv v30_5, iv (p4 &&& (3 : Int32)), iv v75_10, iv (((p4.toUInt32 >>> ((2 : Int32) &&& 31).toUInt32).toInt32) &&& (3 : Int32)), iv v118_15, .val (.long (((v14_2.toInt64) <<< ((32 : Int32) &&& 0x3f).toInt64) ||| ((v30_5.toInt64) &&& (4294967295 : Int64)))), .second, .val (.long (((v75_10.toInt64) <<< ((32 : Int32) &&& 0x3f).toInt64) ||| ((v118_15.toInt64) &&& (4294967295 : Int64)))), .second, iv v179_20, .unset, .unset, .unset] [(.int v118_15)])) (fun t k => XS.icmpNo X21.here hx rfl (hb hby at_184) rfl (teq hc184_42).2 (XS.iload X21.here hx rfl (hb hby at_187) rfl k)) ?_
              by_cases hc189_43 : v118_15 = (0 : Int32)
              · refine own_step (U' := T21.setTop (mkF m 198 #[iv p0, iv p1, iv p2, iv p3, iv p4, iv v14_2, iv v30_5, iv (p4 &&& (3 : Int32)), iv v75_10, iv (((p4.toUInt32 >>> ((2 : Int32) &&& 31).toUInt32).toInt32) &&& (3 : Int32)), iv v118_15, .val (.long (((v14_2.toInt64) <<< ((32 : Int32) &&& 0x3f).toInt64) ||| ((v30_5.toInt64) &&& (4294967295 : Int64)))), .second, .val (.long (((v75_10.toInt64) <<< ((32 : Int32) &&& 0x3f).toInt64) ||| ((v118_15.toInt64) &&& (4294967295 : Int64)))), .second, iv v179_20, .unset, .unset, .unset] [(.int (v14_2 + (1 : Int32))), (.int v75_10)])) (fun t k => XS.ifNo X21.here hx rfl (hb hby at_189) rfl ((if0 _ _).trans (teq hc189_43).2) (XS.iload X21.here hx rfl (hb hby at_192) rfl (XS.iload X21.here hx rfl (hb hby at_194) rfl (XS.iconst X21.here hx rfl (hb hby at_196) (XS.iadd X21.here hx rfl (hb hby at_197) rfl k))))) ?_
                by_cases hc198_44 : v75_10 = (v14_2 + (1 : Int32))
                · refine own_step (U' := T21.setTop (mkF m 206 #[iv p0, iv p1, iv p2, iv p3, iv p4, iv v14_2, iv v30_5, iv (p4 &&& (3 : Int32)), iv v75_10, iv (((p4.toUInt32 >>> ((2 : Int32) &&& 31).toUInt32).toInt32) &&& (3 : Int32)), iv v118_15, .val (.long (((v14_2.toInt64) <<< ((32 : Int32) &&& 0x3f).toInt64) ||| ((v30_5.toInt64) &&& (4294967295 : Int64)))), .second, .val (.long (((v75_10.toInt64) <<< ((32 : Int32) &&& 0x3f).toInt64) ||| ((v118_15.toInt64) &&& (4294967295 : Int64)))), .second, iv v179_20, .unset, .unset, .unset] [(.int (1 : Int32))])) (fun t k => XS.icmpNo X21.here hx rfl (hb hby at_198) rfl (teq hc198_44).2 (XS.iconst X21.here hx rfl (hb hby at_201) (XS.goto X21.here hx rfl (pc0 := 202) (pc' := 206) rfl (hb hby at_202) (by decide) (by decide) k))) ?_
                  have q_v206_25 : v206_25 = (1 : Int32) := by rw [hv206_25, if_pos hc184_42, if_pos hc189_43, if_pos hc198_44]
                  rw [q_v206_25] at K206_26
                  exact K206_26 _ _ X21 N21 e21
                · refine own_step (U' := T21.setTop (mkF m 206 #[iv p0, iv p1, iv p2, iv p3, iv p4, iv v14_2, iv v30_5, iv (p4 &&& (3 : Int32)), iv v75_10, iv (((p4.toUInt32 >>> ((2 : Int32) &&& 31).toUInt32).toInt32) &&& (3 : Int32)), iv v118_15, .val (.long (((v14_2.toInt64) <<< ((32 : Int32) &&& 0x3f).toInt64) ||| ((v30_5.toInt64) &&& (4294967295 : Int64)))), .second, .val (.long (((v75_10.toInt64) <<< ((32 : Int32) &&& 0x3f).toInt64) ||| ((v118_15.toInt64) &&& (4294967295 : Int64)))), .second, iv v179_20, .unset, .unset, .unset] [(.int (0 : Int32))])) (fun t k => XS.icmpYes X21.here hx rfl (pc0 := 198) (pc' := 205) rfl (hb hby at_198) rfl (feq hc198_44).2 (by decide) (by decide) (XS.iconst X21.here hx rfl (hb hby at_205) k)) ?_
                  have q_v206_25 : v206_25 = (0 : Int32) := by rw [hv206_25, if_pos hc184_42, if_pos hc189_43, if_neg hc198_44]
                  rw [q_v206_25] at K206_26
                  exact K206_26 _ _ X21 N21 e21
              · refine own_step (U' := T21.setTop (mkF m 206 #[iv p0, iv p1, iv p2, iv p3, iv p4, iv v14_2, iv v30_5, iv (p4 &&& (3 : Int32)), iv v75_10, iv (((p4.toUInt32 >>> ((2 : Int32) &&& 31).toUInt32).toInt32) &&& (3 : Int32)), iv v118_15, .val (.long (((v14_2.toInt64) <<< ((32 : Int32) &&& 0x3f).toInt64) ||| ((v30_5.toInt64) &&& (4294967295 : Int64)))), .second, .val (.long (((v75_10.toInt64) <<< ((32 : Int32) &&& 0x3f).toInt64) ||| ((v118_15.toInt64) &&& (4294967295 : Int64)))), .second, iv v179_20, .unset, .unset, .unset] [(.int (0 : Int32))])) (fun t k => XS.ifYes X21.here hx rfl (pc0 := 189) (pc' := 205) rfl (hb hby at_189) rfl ((if0 _ _).trans (feq hc189_43).2) (by decide) (by decide) (XS.iconst X21.here hx rfl (hb hby at_205) k)) ?_
                have q_v206_25 : v206_25 = (0 : Int32) := by rw [hv206_25, if_pos hc184_42, if_neg hc189_43]
                rw [q_v206_25] at K206_26
                exact K206_26 _ _ X21 N21 e21
            · refine own_step (U' := T21.setTop (mkF m 206 #[iv p0, iv p1, iv p2, iv p3, iv p4, iv v14_2, iv v30_5, iv (p4 &&& (3 : Int32)), iv v75_10, iv (((p4.toUInt32 >>> ((2 : Int32) &&& 31).toUInt32).toInt32) &&& (3 : Int32)), iv v118_15, .val (.long (((v14_2.toInt64) <<< ((32 : Int32) &&& 0x3f).toInt64) ||| ((v30_5.toInt64) &&& (4294967295 : Int64)))), .second, .val (.long (((v75_10.toInt64) <<< ((32 : Int32) &&& 0x3f).toInt64) ||| ((v118_15.toInt64) &&& (4294967295 : Int64)))), .second, iv v179_20, .unset, .unset, .unset] [(.int (0 : Int32))])) (fun t k => XS.icmpYes X21.here hx rfl (pc0 := 184) (pc' := 205) rfl (hb hby at_184) rfl (feq hc184_42).2 (by decide) (by decide) (XS.iconst X21.here hx rfl (hb hby at_205) k)) ?_
              have q_v206_25 : v206_25 = (0 : Int32) := by rw [hv206_25, if_neg hc184_42]
              rw [q_v206_25] at K206_26
              exact K206_26 _ _ X21 N21 e21
          by_cases hc155_45 : v30_5 = (-1 : Int32)
          · refine own_step (U' := T16.setTop (mkF m 179 #[iv p0, iv p1, iv p2, iv p3, iv p4, iv v14_2, iv v30_5, iv (p4 &&& (3 : Int32)), iv v75_10, iv (((p4.toUInt32 >>> ((2 : Int32) &&& 31).toUInt32).toInt32) &&& (3 : Int32)), iv v118_15, .val (.long (((v14_2.toInt64) <<< ((32 : Int32) &&& 0x3f).toInt64) ||| ((v30_5.toInt64) &&& (4294967295 : Int64)))), .second, .val (.long (((v75_10.toInt64) <<< ((32 : Int32) &&& 0x3f).toInt64) ||| ((v118_15.toInt64) &&& (4294967295 : Int64)))), .second, .unset, .unset, .unset, .unset] [(.int (0 : Int32))])) (fun t k => XS.icmpYes X16.here hx rfl (pc0 := 155) (pc' := 178) rfl (hb hby at_155) rfl (teq hc155_45).1 (by decide) (by decide) (XS.iconst X16.here hx rfl (hb hby at_178) k)) ?_
            have q_v179_20 : v179_20 = (0 : Int32) := by rw [hv179_20, if_pos hc155_45]
            rw [q_v179_20] at K179_21
            exact K179_21 _ _ X16 N16 e16
          · refine own_step (U' := T16.setTop (mkF m 162 #[iv p0, iv p1, iv p2, iv p3, iv p4, iv v14_2, iv v30_5, iv (p4 &&& (3 : Int32)), iv v75_10, iv (((p4.toUInt32 >>> ((2 : Int32) &&& 31).toUInt32).toInt32) &&& (3 : Int32)), iv v118_15, .val (.long (((v14_2.toInt64) <<< ((32 : Int32) &&& 0x3f).toInt64) ||| ((v30_5.toInt64) &&& (4294967295 : Int64)))), .second, .val (.long (((v75_10.toInt64) <<< ((32 : Int32) &&& 0x3f).toInt64) ||| ((v118_15.toInt64) &&& (4294967295 : Int64)))), .second, .unset, .unset, .unset, .unset] [(.int v14_2), (.int v75_10)])) (fun t k => XS.icmpNo X16.here hx rfl (hb hby at_155) rfl (feq hc155_45).1 (XS.iload X16.here hx rfl (hb hby at_158) rfl (XS.iload X16.here hx rfl (hb hby at_160) rfl k))) ?_
            by_cases hc162_46 : v75_10 = v14_2
            · refine own_step (U' := T16.setTop (mkF m 171 #[iv p0, iv p1, iv p2, iv p3, iv p4, iv v14_2, iv v30_5, iv (p4 &&& (3 : Int32)), iv v75_10, iv (((p4.toUInt32 >>> ((2 : Int32) &&& 31).toUInt32).toInt32) &&& (3 : Int32)), iv v118_15, .val (.long (((v14_2.toInt64) <<< ((32 : Int32) &&& 0x3f).toInt64) ||| ((v30_5.toInt64) &&& (4294967295 : Int64)))), .second, .val (.long (((v75_10.toInt64) <<< ((32 : Int32) &&& 0x3f).toInt64) ||| ((v118_15.toInt64) &&& (4294967295 : Int64)))), .second, .unset, .unset, .unset, .unset] [(.int (v30_5 + (1 : Int32))), (.int v118_15)])) (fun t k => XS.icmpNo X16.here hx rfl (hb hby at_162) rfl (teq hc162_46).2 (XS.iload X16.here hx rfl (hb hby at_165) rfl (XS.iload X16.here hx rfl (hb hby at_167) rfl (XS.iconst X16.here hx rfl (hb hby at_169) (XS.iadd X16.here hx rfl (hb hby at_170) rfl k))))) ?_
              by_cases hc171_47 : v118_15 = (v30_5 + (1 : Int32))
              · refine own_step (U' := T16.setTop (mkF m 179 #[iv p0, iv p1, iv p2, iv p3, iv p4, iv v14_2, iv v30_5, iv (p4 &&& (3 : Int32)), iv v75_10, iv (((p4.toUInt32 >>> ((2 : Int32) &&& 31).toUInt32).toInt32) &&& (3 : Int32)), iv v118_15, .val (.long (((v14_2.toInt64) <<< ((32 : Int32) &&& 0x3f).toInt64) ||| ((v30_5.toInt64) &&& (4294967295 : Int64)))), .second, .val (.long (((v75_10.toInt64) <<< ((32 : Int32) &&& 0x3f).toInt64) ||| ((v118_15.toInt64) &&& (4294967295 : Int64)))), .second, .unset, .unset, .unset, .unset] [(.int (1 : Int32))])) (fun t k => XS.icmpNo X16.here hx rfl (hb hby at_171) rfl (teq hc171_47).2 (XS.iconst X16.here hx rfl (hb hby at_174) (XS.goto X16.here hx rfl (pc0 := 175) (pc' := 179) rfl (hb hby at_175) (by decide) (by decide) k))) ?_
                have q_v179_20 : v179_20 = (1 : Int32) := by rw [hv179_20, if_neg hc155_45, if_pos hc162_46, if_pos hc171_47]
                rw [q_v179_20] at K179_21
                exact K179_21 _ _ X16 N16 e16
              · refine own_step (U' := T16.setTop (mkF m 179 #[iv p0, iv p1, iv p2, iv p3, iv p4, iv v14_2, iv v30_5, iv (p4 &&& (3 : Int32)), iv v75_10, iv (((p4.toUInt32 >>> ((2 : Int32) &&& 31).toUInt32).toInt32) &&& (3 : Int32)), iv v118_15, .val (.long (((v14_2.toInt64) <<< ((32 : Int32) &&& 0x3f).toInt64) ||| ((v30_5.toInt64) &&& (4294967295 : Int64)))), .second, .val (.long (((v75_10.toInt64) <<< ((32 : Int32) &&& 0x3f).toInt64) ||| ((v118_15.toInt64) &&& (4294967295 : Int64)))), .second, .unset, .unset, .unset, .unset] [(.int (0 : Int32))])) (fun t k => XS.icmpYes X16.here hx rfl (pc0 := 171) (pc' := 178) rfl (hb hby at_171) rfl (feq hc171_47).2 (by decide) (by decide) (XS.iconst X16.here hx rfl (hb hby at_178) k)) ?_
                have q_v179_20 : v179_20 = (0 : Int32) := by rw [hv179_20, if_neg hc155_45, if_pos hc162_46, if_neg hc171_47]
                rw [q_v179_20] at K179_21
                exact K179_21 _ _ X16 N16 e16
            · refine own_step (U' := T16.setTop (mkF m 179 #[iv p0, iv p1, iv p2, iv p3, iv p4, iv v14_2, iv v30_5, iv (p4 &&& (3 : Int32)), iv v75_10, iv (((p4.toUInt32 >>> ((2 : Int32) &&& 31).toUInt32).toInt32) &&& (3 : Int32)), iv v118_15, .val (.long (((v14_2.toInt64) <<< ((32 : Int32) &&& 0x3f).toInt64) ||| ((v30_5.toInt64) &&& (4294967295 : Int64)))), .second, .val (.long (((v75_10.toInt64) <<< ((32 : Int32) &&& 0x3f).toInt64) ||| ((v118_15.toInt64) &&& (4294967295 : Int64)))), .second, .unset, .unset, .unset, .unset] [(.int (0 : Int32))])) (fun t k => XS.icmpYes X16.here hx rfl (pc0 := 162) (pc' := 178) rfl (hb hby at_162) rfl (feq hc162_46).2 (by decide) (by decide) (XS.iconst X16.here hx rfl (hb hby at_178) k)) ?_
              have q_v179_20 : v179_20 = (0 : Int32) := by rw [hv179_20, if_neg hc155_45, if_neg hc162_46]
              rw [q_v179_20] at K179_21
              exact K179_21 _ _ X16 N16 e16
        by_cases hc87_48 : (((p4.toUInt32 >>> ((2 : Int32) &&& 31).toUInt32).toInt32) &&& (3 : Int32)) = (0 : Int32)
        · refine own_step (U' := T11.setTop (mkF m 118 #[iv p0, iv p1, iv p2, iv p3, iv p4, iv v14_2, iv v30_5, iv (p4 &&& (3 : Int32)), iv v75_10, iv (((p4.toUInt32 >>> ((2 : Int32) &&& 31).toUInt32).toInt32) &&& (3 : Int32)), .unset, .unset, .unset, .unset, .unset, .unset, .unset, .unset, .unset] [(.int (v30_5 + (1 : Int32)))])) (fun t k => XS.ifNo X11.here hx rfl (hb hby at_87) rfl ((if0 _ _).trans (teq hc87_48).2) (XS.iload X11.here hx rfl (hb hby at_90) rfl (XS.iconst X11.here hx rfl (hb hby at_92) (XS.iadd X11.here hx rfl (hb hby at_93) rfl (XS.goto X11.here hx rfl (pc0 := 94) (pc' := 118) rfl (hb hby at_94) (by decide) (by decide) k))))) ?_
          have q_v118_15 : v118_15 = (v30_5 + (1 : Int32)) := by rw [hv118_15, if_pos hc87_48]
          rw [q_v118_15] at K118_16
          exact K118_16 _ _ X11 N11 e11
        · refine own_step (U' := T11.setTop (mkF m 100 #[iv p0, iv p1, iv p2, iv p3, iv p4, iv v14_2, iv v30_5, iv (p4 &&& (3 : Int32)), iv v75_10, iv (((p4.toUInt32 >>> ((2 : Int32) &&& 31).toUInt32).toInt32) &&& (3 : Int32)), .unset, .unset, .unset, .unset, .unset, .unset, .unset, .unset, .unset] [(.int (1 : Int32)), (.int (((p4.toUInt32 >>> ((2 : Int32) &&& 31).toUInt32).toInt32) &&& (3 : Int32)))])) (fun t k => XS.ifYes X11.here hx rfl (pc0 := 87) (pc' := 97) rfl (hb hby at_87) rfl ((if0 _ _).trans (feq hc87_48).2) (by decide) (by decide) (XS.iload X11.here hx rfl (hb hby at_97) rfl (XS.iconst X11.here hx rfl (hb hby at_99) k))) ?_
          by_cases hc100_49 : (((p4.toUInt32 >>> ((2 : Int32) &&& 31).toUInt32).toInt32) &&& (3 : Int32)) = (1 : Int32)
          · refine own_step (U' := T11.setTop (mkF m 118 #[iv p0, iv p1, iv p2, iv p3, iv p4, iv v14_2, iv v30_5, iv (p4 &&& (3 : Int32)), iv v75_10, iv (((p4.toUInt32 >>> ((2 : Int32) &&& 31).toUInt32).toInt32) &&& (3 : Int32)), .unset, .unset, .unset, .unset, .unset, .unset, .unset, .unset, .unset] [(.int (1 : Int32))])) (fun t k => XS.icmpNo X11.here hx rfl (hb hby at_100) rfl (teq hc100_49).2 (XS.iconst X11.here hx rfl (hb hby at_103) (XS.goto X11.here hx rfl (pc0 := 104) (pc' := 118) rfl (hb hby at_104) (by decide) (by decide) k))) ?_
            have q_v118_15 : v118_15 = (1 : Int32) := by rw [hv118_15, if_neg hc87_48, if_pos hc100_49]
            rw [q_v118_15] at K118_16
            exact K118_16 _ _ X11 N11 e11
          · refine own_step (U' := T11.setTop (mkF m 110 #[iv p0, iv p1, iv p2, iv p3, iv p4, iv v14_2, iv v30_5, iv (p4 &&& (3 : Int32)), iv v75_10, iv (((p4.toUInt32 >>> ((2 : Int32) &&& 31).toUInt32).toInt32) &&& (3 : Int32)), .unset, .unset, .unset, .unset, .unset, .unset, .unset, .unset, .unset] [(.int (2 : Int32)), (.int (((p4.toUInt32 >>> ((2 : Int32) &&& 31).toUInt32).toInt32) &&& (3 : Int32)))])) (fun t k => XS.icmpYes X11.here hx rfl (pc0 := 100) (pc' := 107) rfl (hb hby at_100) rfl (feq hc100_49).2 (by decide) (by decide) (XS.iload X11.here hx rfl (hb hby at_107) rfl (XS.iconst X11.here hx rfl (hb hby at_109) k))) ?_
            by_cases hc110_50 : (((p4.toUInt32 >>> ((2 : Int32) &&& 31).toUInt32).toInt32) &&& (3 : Int32)) = (2 : Int32)
            · refine own_step (U' := T11.setTop (mkF m 118 #[iv p0, iv p1, iv p2, iv p3, iv p4, iv v14_2, iv v30_5, iv (p4 &&& (3 : Int32)), iv v75_10, iv (((p4.toUInt32 >>> ((2 : Int32) &&& 31).toUInt32).toInt32) &&& (3 : Int32)), .unset, .unset, .unset, .unset, .unset, .unset, .unset, .unset, .unset] [(.int p3)])) (fun t k => XS.icmpNo X11.here hx rfl (hb hby at_110) rfl (teq hc110_50).2 (XS.iloadN X11.here hx rfl (hb hby at_113) rfl (XS.goto X11.here hx rfl (pc0 := 114) (pc' := 118) rfl (hb hby at_114) (by decide) (by decide) k))) ?_
              have q_v118_15 : v118_15 = p3 := by rw [hv118_15, if_neg hc87_48, if_neg hc100_49, if_pos hc110_50]
              rw [q_v118_15] at K118_16
              exact K118_16 _ _ X11 N11 e11
            · refine own_step (U' := T11.setTop (mkF m 118 #[iv p0, iv p1, iv p2, iv p3, iv p4, iv v14_2, iv v30_5, iv (p4 &&& (3 : Int32)), iv v75_10, iv (((p4.toUInt32 >>> ((2 : Int32) &&& 31).toUInt32).toInt32) &&& (3 : Int32)), .unset, .unset, .unset, .unset, .unset, .unset, .unset, .unset, .unset] [(.int (0 : Int32))])) (fun t k => XS.icmpYes X11.here hx rfl (pc0 := 110) (pc' := 117) rfl (hb hby at_110) rfl (feq hc110_50).2 (by decide) (by decide) (XS.iconst X11.here hx rfl (hb hby at_117) k)) ?_
              have q_v118_15 : v118_15 = (0 : Int32) := by rw [hv118_15, if_neg hc87_48, if_neg hc100_49, if_neg hc110_50]
              rw [q_v118_15] at K118_16
              exact K118_16 _ _ X11 N11 e11
      by_cases hc40_51 : (p4 &&& (3 : Int32)) = (0 : Int32)
      · refine own_step (U' := T6.setTop (mkF m 75 #[iv p0, iv p1, iv p2, iv p3, iv p4, iv v14_2, iv v30_5, iv (p4 &&& (3 : Int32)), .unset, .unset, .unset, .unset, .unset, .unset, .unset, .unset, .unset, .unset, .unset] [(.int v14_2)])) (fun t k => XS.ifNo X6.here hx rfl (hb hby at_40) rfl ((if0 _ _).trans (teq hc40_51).2) (XS.iload X6.here hx rfl (hb hby at_43) rfl (XS.goto X6.here hx rfl (pc0 := 45) (pc' := 75) rfl (hb hby at_45) (by decide) (by decide) k))) ?_
        have q_v75_10 : v75_10 = v14_2 := by rw [hv75_10, if_pos hc40_51]
        rw [q_v75_10] at K75_11
        exact K75_11 _ _ X6 N6 e6
      · refine own_step (U' := T6.setTop (mkF m 51 #[iv p0, iv p1, iv p2, iv p3, iv p4, iv v14_2, iv v30_5, iv (p4 &&& (3 : Int32)), .unset, .unset, .unset, .unset, .unset, .unset, .unset, .unset, .unset, .unset, .unset] [(.int (1 : Int32)), (.int (p4 &&& (3 : Int32)))])) (fun t k => XS.ifYes X6.here hx rfl (pc0 := 40) (pc' := 48) rfl (hb hby at_40) rfl ((if0 _ _).trans (feq hc40_51).2) (by decide) (by decide) (XS.iload X6.here hx rfl (hb hby at_48) rfl (XS.iconst X6.here hx rfl (hb hby at_50) k))) ?_
        by_cases hc51_52 : (p4 &&& (3 : Int32)) = (1 : Int32)
        · refine own_step (U' := T6.setTop (mkF m 75 #[iv p0, iv p1, iv p2, iv p3, iv p4, iv v14_2, iv v30_5, iv (p4 &&& (3 : Int32)), .unset, .unset, .unset, .unset, .unset, .unset, .unset, .unset, .unset, .unset, .unset] [(.int (v14_2 + (1 : Int32)))])) (fun t k => XS.icmpNo X6.here hx rfl (hb hby at_51) rfl (teq hc51_52).2 (XS.iload X6.here hx rfl (hb hby at_54) rfl (XS.iconst X6.here hx rfl (hb hby at_56) (XS.iadd X6.here hx rfl (hb hby at_57) rfl (XS.goto X6.here hx rfl (pc0 := 58) (pc' := 75) rfl (hb hby at_58) (by decide) (by decide) k))))) ?_
          have q_v75_10 : v75_10 = (v14_2 + (1 : Int32)) := by rw [hv75_10, if_neg hc40_51, if_pos hc51_52]
          rw [q_v75_10] at K75_11
          exact K75_11 _ _ X6 N6 e6
        · refine own_step (U' := T6.setTop (mkF m 64 #[iv p0, iv p1, iv p2, iv p3, iv p4, iv v14_2, iv v30_5, iv (p4 &&& (3 : Int32)), .unset, .unset, .unset, .unset, .unset, .unset, .unset, .unset, .unset, .unset, .unset] [(.int (2 : Int32)), (.int (p4 &&& (3 : Int32)))])) (fun t k => XS.icmpYes X6.here hx rfl (pc0 := 51) (pc' := 61) rfl (hb hby at_51) rfl (feq hc51_52).2 (by decide) (by decide) (XS.iload X6.here hx rfl (hb hby at_61) rfl (XS.iconst X6.here hx rfl (hb hby at_63) k))) ?_
          by_cases hc64_53 : (p4 &&& (3 : Int32)) = (2 : Int32)
          · refine own_step (U' := T6.setTop (mkF m 75 #[iv p0, iv p1, iv p2, iv p3, iv p4, iv v14_2, iv v30_5, iv (p4 &&& (3 : Int32)), .unset, .unset, .unset, .unset, .unset, .unset, .unset, .unset, .unset, .unset, .unset] [(.int p2)])) (fun t k => XS.icmpNo X6.here hx rfl (hb hby at_64) rfl (teq hc64_53).2 (XS.iloadN X6.here hx rfl (hb hby at_67) rfl (XS.goto X6.here hx rfl (pc0 := 68) (pc' := 75) rfl (hb hby at_68) (by decide) (by decide) k))) ?_
            have q_v75_10 : v75_10 = p2 := by rw [hv75_10, if_neg hc40_51, if_neg hc51_52, if_pos hc64_53]
            rw [q_v75_10] at K75_11
            exact K75_11 _ _ X6 N6 e6
          · refine own_step (U' := T6.setTop (mkF m 75 #[iv p0, iv p1, iv p2, iv p3, iv p4, iv v14_2, iv v30_5, iv (p4 &&& (3 : Int32)), .unset, .unset, .unset, .unset, .unset, .unset, .unset, .unset, .unset, .unset, .unset] [(.int (v14_2 - (1 : Int32)))])) (fun t k => XS.icmpYes X6.here hx rfl (pc0 := 64) (pc' := 71) rfl (hb hby at_64) rfl (feq hc64_53).2 (by decide) (by decide) (XS.iload X6.here hx rfl (hb hby at_71) rfl (XS.iconst X6.here hx rfl (hb hby at_73) (XS.isub X6.here hx rfl (hb hby at_74) rfl k)))) ?_
            have q_v75_10 : v75_10 = (v14_2 - (1 : Int32)) := by rw [hv75_10, if_neg hc40_51, if_neg hc51_52, if_neg hc64_53]
            rw [q_v75_10] at K75_11
            exact K75_11 _ _ X6 N6 e6
    by_cases hc22_54 : (((p4.toUInt32 >>> ((5 : Int32) &&& 31).toUInt32).toInt32) &&& (1 : Int32)) = (0 : Int32)
    · refine own_step (U' := T3.setTop (mkF m 30 #[iv p0, iv p1, iv p2, iv p3, iv p4, iv v14_2, .unset, .unset, .unset, .unset, .unset, .unset, .unset, .unset, .unset, .unset, .unset, .unset, .unset] [(.int p1)])) (fun t k => XS.ifYes X3.here hx rfl (pc0 := 22) (pc' := 29) rfl (hb hby at_22) rfl ((if0 _ _).trans (teq hc22_54).1) (by decide) (by decide) (XS.iloadN X3.here hx rfl (hb hby at_29) rfl k)) ?_
      have q_v30_5 : v30_5 = p1 := by rw [hv30_5, if_pos hc22_54]
      rw [q_v30_5] at K30_6
      exact K30_6 _ _ X3 N3 e3
    · refine own_step (U' := T3.setTop (mkF m 30 #[iv p0, iv p1, iv p2, iv p3, iv p4, iv v14_2, .unset, .unset, .unset, .unset, .unset, .unset, .unset, .unset, .unset, .unset, .unset, .unset, .unset] [(.int (-1 : Int32))])) (fun t k => XS.ifNo X3.here hx rfl (hb hby at_22) rfl ((if0 _ _).trans (feq hc22_54).1) (XS.iconst X3.here hx rfl (hb hby at_25) (XS.goto X3.here hx rfl (pc0 := 26) (pc' := 30) rfl (hb hby at_26) (by decide) (by decide) k))) ?_
      have q_v30_5 : v30_5 = (-1 : Int32) := by rw [hv30_5, if_neg hc22_54]
      rw [q_v30_5] at K30_6
      exact K30_6 _ _ X3 N3 e3
  by_cases hc6_55 : (((p4.toUInt32 >>> ((4 : Int32) &&& 31).toUInt32).toInt32) &&& (1 : Int32)) = (0 : Int32)
  · refine own_step (U' := s₁.setTop (mkF m 14 #[iv p0, iv p1, iv p2, iv p3, iv p4, .unset, .unset, .unset, .unset, .unset, .unset, .unset, .unset, .unset, .unset, .unset, .unset, .unset, .unset] [(.int p0)])) (fun t k => XS.ifYes X0.here hx rfl (pc0 := 6) (pc' := 13) rfl (hb hby at_6) rfl ((if0 _ _).trans (teq hc6_55).1) (by decide) (by decide) (XS.iloadN X0.here hx rfl (hb hby at_13) rfl k)) ?_
    have q_v14_2 : v14_2 = p0 := by rw [hv14_2, if_pos hc6_55]
    rw [q_v14_2] at K14_3
    exact K14_3 _ _ X0 N0 e0
  · refine own_step (U' := s₁.setTop (mkF m 14 #[iv p0, iv p1, iv p2, iv p3, iv p4, .unset, .unset, .unset, .unset, .unset, .unset, .unset, .unset, .unset, .unset, .unset, .unset, .unset, .unset] [(.int (-1 : Int32))])) (fun t k => XS.ifNo X0.here hx rfl (hb hby at_6) rfl ((if0 _ _).trans (feq hc6_55).1) (XS.iconst X0.here hx rfl (hb hby at_9) (XS.goto X0.here hx rfl (pc0 := 10) (pc' := 14) rfl (hb hby at_10) (by decide) (by decide) k))) ?_
    have q_v14_2 : v14_2 = (-1 : Int32) := by rw [hv14_2, if_neg hc6_55]
    rw [q_v14_2] at K14_3
    exact K14_3 _ _ X0 N0 e0
set_option maxRecDepth 65536 in
set_option maxHeartbeats 40000000 in
theorem comes_1 {Post : Tables → Env → Array Value → State → Outcome → State → Prop} (hpost : ∀ tb e args s v u, (limb_1_1.after args s (.returned v) u = true ∧ limb_1_2.after args s (.returned v) u = true ∧ True) → FrameEnd s (.returned v) u (Jvm.fieldLocs frame_1_writes args s ++ Jvm.arrayLocs frame_1_arrays args s ++ Jvm.staticLocs frame_1_statics s) 0 0 → Post tb e args s (.returned v) u) :
    ArmFor flags0 classFile x code maxLocals ret World_1 tables_1 room_1 Calls_1 rest_1 Pre_1 Post := by
  intro l hfl _ _ p e ha hc hk s m args below hf hA hF happ hP
  obtain ⟨hcalls, hrest, hpre⟩ := hP
  obtain ⟨-, -, -, hnamed, -, -, -, hat⟩ := (Spec.applies_iff hf).mp happ
  obtain ⟨hg, hn⟩ := and_e (Cond.before_iff.mp (show (Jvm.Cond.and given_1 narrow_1).before args s = true from hpre))
  obtain ⟨gc, gr0⟩ := and_e hg
  obtain ⟨ga0, gr1⟩ := and_e gr0
  obtain ⟨ga1, gr2⟩ := and_e gr1
  obtain ⟨ga2, gr3⟩ := and_e gr2
  obtain ⟨ga3, gr4⟩ := and_e gr3
  obtain ⟨w0, w1, w2, w3, w4, rfl⟩ : ∃ w0 w1 w2 w3 w4 : Value, args = #[w0, w1, w2, w3, w4] := by
    have hs : args.size = 5 := by simpa [Cond.value, given_1] using gc
    obtain ⟨L⟩ := args
    match L, hs with
    | [w0, w1, w2, w3, w4], _ => exact ⟨w0, w1, w2, w3, w4, rfl⟩
  have hw := fun d (hd : d ∈ tables_1) => atoms_spec (ws := Jvm.Cond.code x code maxLocals ret :: tables_1) hat d (List.mem_cons_of_mem _ hd)
  have hfit : Fit s := fun {y c} hc i hi => by
    obtain ⟨ha, rfl⟩ := Array.getElem?_eq_some_iff.mp hc
    have q := List.all_eq_true.mp ((Array.all_eq_true_iff_forall_mem.mp hF) _ (Array.getElem_mem ha)) i (List.mem_range.mpr hi)
    simpa [Array.getElem?_eq_getElem hi] using q
  obtain ⟨i0, ei0⟩ := is_v ga0
  obtain rfl : w0 = (.int i0) := Option.some.inj ei0
  obtain ⟨i1, ei1⟩ := is_v ga1
  obtain rfl : w1 = (.int i1) := Option.some.inj ei1
  obtain ⟨i2, ei2⟩ := is_v ga2
  obtain rfl : w2 = (.int i2) := Option.some.inj ei2
  obtain ⟨i3, ei3⟩ := is_v ga3
  obtain rfl : w3 = (.int i3) := Option.some.inj ei3
  obtain ⟨i4, ei4⟩ := is_v gr4
  obtain rfl : w4 = (.int i4) := Option.some.inj ei4
  obtain ⟨n, o, h1, h2, h3, _, L, rfl, ⟨rfl, N⟩, hq⟩ := rm0 l s _ hw tables_1 i0 i1 i2 i3 i4  s.heap s.heap.size (Nat.le_refl _)  p e ha hc hk s m _ below hf ((Spec.applies_iff_loose hf).mp happ).1 ⟨rfl, State.Warmed39.refl s, rfl⟩ trivial
  refine ⟨n, _, h1, h2, h3, hpost _ _ _ _ _ _ ⟨Cond.after_iff.mpr rfl, Cond.after_iff.mpr (eq_i res_at (Term.int_eval (1)) rfl), trivial⟩ ⟨hq.1, hq.2.1, (hq.2.2.sift fun y hy => Or.inr (N y hy)).mono (by decide) (by decide)⟩⟩
theorem main_1_1 : Claimed_1_1 := comes_1 fun _ _ _ _ _ _ h hF => ⟨h.1, hF⟩
theorem main_1_2 : Claimed_1_2 := comes_1 fun _ _ _ _ _ _ h hF => ⟨h.2.1, hF⟩
end Jvm.Pilot.@@N@@
namespace Jvm.Pilot.@@N@@
open Jvm Jvm.ClassFile Sem Op Lib Jvm.Free Jvm.Stand Jvm.Pilot.@@N@@.Jvm.D
/-! MADE BY PROGRAM (witnessworld.py) out of the Statement's table words and the real class files: 9 classes; the members and pool entries that the words name. The judged class is class 1, her method 1. -/
namespace start1
open Jvm.ClassFile
def u (s : String) : CpInfo := .utf8 (stringToUtf16 s)
/-- a pool by its gaps: so many unusable entries, then the entry; so many at the end -/
def gap : Nat → List CpInfo → List CpInfo
  | 0, r => r
  | n + 1, r => .unusable :: gap n r
def poolList (es : List (Nat × CpInfo)) (last : Nat) : List CpInfo := es.foldr (fun e r => gap e.1 (e.2 :: r)) (gap last [])
def pool (es : List (Nat × CpInfo)) (last : Nat) : Array CpInfo := ⟨poolList es last⟩
def fileOf (pool : Array CpInfo) (this : Nat) (attrs : Array Attribute := #[]) (ms : Array MethodInfo := #[]) (fl : Nat := 33) (sup : Nat := 0) (ifs : Array Nat := #[]) (fds : Array FieldInfo := #[]) : ClassFile where
  minorVersion := 0
  majorVersion := 65
  constantPool := pool
  accessFlags := fl
  thisClass := this
  superClass := sup
  interfaces := ifs
  fields := fds
  methods := ms
  attributes := attrs
def plain (name : String) (sup : Option ClassId) : Class where
  name := name
  kind := .ordinary
  loader := none
  accessFlags := 33
  super := sup
  interfaces := #[]
  cf := none
  fields := #[]
  methods := #[]
  instanceTypes := #[]
  staticTypes := #[]
  resolved := #[]
  callSites := []
  init := .initialized
  statics := none
  mirror := none

def pool0 : Array CpInfo := pool [(5, u "<init>"), (0, u "()V"), (1, .class_ 10), (1, u "java/lang/Object")] 113

def k0m0 : Method := { name := "<init>", desc := "()V", sig := { parameters := [], returnType := none }, accessFlags := 1, code := none }
/-- java/lang/Object -/
def k0 : Class := { plain "java/lang/Object" none with
  accessFlags := 33
  interfaces := #[]
  cf := some (fileOf pool0 8 #[] #[{ accessFlags := 1, nameIndex := 5, descriptorIndex := 6, attributes := #[] }] 33 0 #[] #[])
  fields := #[]
  methods := #[k0m0]
  instanceTypes := #[]
  staticTypes := #[]
  resolved := Array.replicate 124 none
  statics := none }

def pool1 : Array CpInfo := pool [(2, .class_ 4), (1, u "java/lang/Object"), (0, u "<init>"), (0, u "()V"), (0, .long 4294967295), (3, .integer 2147483648), (0, .methodref 13 14), (0, .class_ 15), (0, .nameAndType 16 17), (0, u "com/example/catchwire/catchwire/wire/Zxid"), (0, u "follows"), (0, u "(JJ)Z"), (0, .class_ 19), (0, u "com/example/catchwire/catchwire/wire/ZxidFollowsPinLaw"), (2, u "law"), (0, u "(IIIII)Z")] 3

def k1m0 : Method := { name := "<init>", desc := "()V", sig := { parameters := [], returnType := none }, accessFlags := 1, code := none }
def k1c1 : Code := { maxStack := 6, maxLocals := 19, code := code, exceptionTable := #[], attributes := #[] }
def k1m1 : Method := { name := "law", desc := "(IIIII)Z", sig := { parameters := [.int, .int, .int, .int, .int], returnType := some .boolean }, accessFlags := 9, code := some k1c1 }
/-- com/example/catchwire/catchwire/wire/ZxidFollowsPinLaw -/
def k1 : Class := { plain "com/example/catchwire/catchwire/wire/ZxidFollowsPinLaw" (some 0) with
  accessFlags := 49
  interfaces := #[]
  cf := some (fileOf pool1 18 #[] #[{ accessFlags := 1, nameIndex := 5, descriptorIndex := 6, attributes := #[] }, { accessFlags := 9, nameIndex := 22, descriptorIndex := 23, attributes := #[] }] 49 2 #[] #[])
  fields := #[]
  methods := #[k1m0, k1m1]
  instanceTypes := #[]
  staticTypes := #[]
  resolved := Array.replicate 27 none
  statics := none }

def pool2 : Array CpInfo := pool [(2, .class_ 4), (1, u "java/lang/Object"), (0, u "<init>"), (0, u "()V"), (7, .class_ 16), (1, u "com/example/catchwire/catchwire/wire/Zxid"), (9, u "MAX"), (0, u "J"), (9, u "follows"), (0, u "(JJ)Z")] 17

def k2m0 : Method := { name := "<init>", desc := "()V", sig := { parameters := [], returnType := none }, accessFlags := 2, code := none }
def k2c1 : Code := { maxStack := 6, maxLocals := 4, code := prog_199_method_5_code, exceptionTable := #[], attributes := #[] }
def k2m1 : Method := { name := "follows", desc := "(JJ)Z", sig := { parameters := [.long, .long], returnType := some .boolean }, accessFlags := 9, code := some k2c1 }
/-- com/example/catchwire/catchwire/wire/Zxid -/
def k2 : Class := { plain "com/example/catchwire/catchwire/wire/Zxid" (some 0) with
  accessFlags := 49
  interfaces := #[]
  cf := some (fileOf pool2 14 #[] #[{ accessFlags := 2, nameIndex := 5, descriptorIndex := 6, attributes := #[] }, { accessFlags := 9, nameIndex := 37, descriptorIndex := 38, attributes := #[] }] 49 2 #[] #[{ accessFlags := 25, nameIndex := 26, descriptorIndex := 27, attributes := #[] }])
  fields := #[{ name := "MAX", type := .long, accessFlags := 25, slot := 0, constantValue := 0 }]
  methods := #[k2m0, k2m1]
  instanceTypes := #[]
  staticTypes := #[.long]
  resolved := Array.replicate 56 none
  statics := none }

def pool3 : Array CpInfo := pool [(1, u "java/lang/Cloneable"), (0, .class_ 1), (0, u "java/lang/Object"), (0, .class_ 3)] 3

/-- java/lang/Cloneable -/
def k3 : Class := { plain "java/lang/Cloneable" (some 0) with
  accessFlags := 1537
  interfaces := #[]
  cf := some (fileOf pool3 2 #[] #[] 1537 4 #[] #[])
  fields := #[]
  methods := #[]
  instanceTypes := #[]
  staticTypes := #[]
  resolved := Array.replicate 8 none
  statics := none }

def pool4 : Array CpInfo := pool [(1, u "java/io/Serializable"), (0, .class_ 1), (0, u "java/lang/Object"), (0, .class_ 3)] 3

/-- java/io/Serializable -/
def k4 : Class := { plain "java/io/Serializable" (some 0) with
  accessFlags := 1537
  interfaces := #[]
  cf := some (fileOf pool4 2 #[] #[] 1537 4 #[] #[])
  fields := #[]
  methods := #[]
  instanceTypes := #[]
  staticTypes := #[]
  resolved := Array.replicate 8 none
  statics := none }

/-- the primitive byte -/
def k5 : Class := { plain "byte" none with kind := .primitive 'B', accessFlags := 0x411 }
/-- [B -/
def k6 : Class := { plain "[B" (some 0) with kind := .array 5 .byte, interfaces := #[3, 4], accessFlags := 1041 }

/-- the primitive int -/
def k7 : Class := { plain "int" none with kind := .primitive 'I', accessFlags := 0x411 }
/-- [I -/
def k8 : Class := { plain "[I" (some 0) with kind := .array 7 .int, interfaces := #[3, 4], accessFlags := 1041 }

def heap : Heap := #[]
def classes : Array Class := #[k0, k1, k2, k3, k4, k5, k6, k7, k8]
def interned : List (Array UInt16 × Addr) := []
def slotsUsed : Nat := 0
def theMethod : MethodId := ⟨1, 1⟩
def args0 : Array Value := #[.int 5, .int 6, .int 7, .int 8, .int 9]
def aboutOver (below : List Frame) : State where
  vm := { classes := classes, interned := interned.toArray }
  heap := heap
  slotsUsed := slotsUsed
  threads := #[{ frames := .invoking theMethod args0 :: below }]
def below0 : List Frame := [.native { method := ⟨0, 0⟩, args := #[] }]
def about1 : State := aboutOver below0
def p0 : Program := .bare "" "" ""
def e0 : Env := launch0.env 0 0 0
theorem w_frames : about1.frames = Frame.invoking theMethod args0 :: below0 := rfl
set_option maxRecDepth 65536 in
theorem w_args : argsFit about1.vm theMethod args0 = true := by decide +kernel
set_option maxRecDepth 65536 in
theorem w_heap : heapFits about1 = true := by decide +kernel
set_option maxRecDepth 65536 in
theorem w_runnable : about1.curStatus? = some .runnable := by decide +kernel
set_option maxRecDepth 65536 in
theorem w_alone : about1.alone = true := by decide +kernel
set_option maxRecDepth 65536 in
theorem w_named : about1.methodNamed? x = some theMethod := by decide +kernel
set_option maxRecDepth 65536 in
theorem w_hears : about1.hears theMethod below0 = true := by decide +kernel
set_option maxRecDepth 65536 in
theorem w_ripe : about1.ripe theMethod args0 below0 = true := by decide +kernel
theorem w_running : about1.status = .running := rfl
set_option maxRecDepth 65536 in
theorem w_room : about1.hasRoom e0.platform room_1 = true :=
  launch0.hasRoom_least _ room_1 (by decide +kernel) (by decide +kernel) (by decide +kernel) (by decide +kernel) (by decide +kernel) (by decide +kernel)
theorem allAtoms_all (ts : List Jvm.Cond) (a : Array Jvm.Value) (st : Jvm.State) : (allAtoms ts).before a st = ts.all (fun c => c.before a st) := by
  induction ts with
  | nil => rfl
  | cons c t ih =>
    show (Jvm.Cond.and c (allAtoms t)).before a st = _
    rw [Jvm.Cond.before_and, ih, List.all_cons]
def words1 : List Jvm.Cond := Jvm.Cond.code x code maxLocals ret :: tables_1
/-- a 'code' word, met by the world's own term for the bytes: nothing is compared byte by byte -/
theorem code_word {y : MethodName} {bytes : ByteArray} {mx : Nat} {rt : Option FieldType} {a : Array Value} {s : State} {m : MethodId} {meth : Method} {c : Code} (h1 : s.methodNamed? y = some m) (h2 : s.vm.method? m = some meth) (h3 : meth.code = some c) (h4 : c.code = bytes)
    (h5 : (c.maxLocals == mx && c.exceptionTable.isEmpty && decide (c.maxStack ≤ mostOperands) && decide (meth.sig.returnType = rt) && !meth.locks && decide (parseMethodDescriptor y.desc = some meth.sig)) = true) : (Jvm.Cond.code y bytes mx rt).before a s = true := by
  simp only [Bool.and_eq_true, beq_iff_eq, Bool.not_eq_true', decide_eq_true_eq] at h5
  obtain ⟨⟨⟨⟨⟨g1, g2⟩, g3⟩, g4⟩, g5⟩, g6⟩ := h5
  simp [Cond.before, Cond.holds, Cond.value, h1, h2, h3, h4, g1, g2, g3, g4, g5, g6]
def isCode : Jvm.Cond → Bool
  | .code _ _ _ _ => true
  | _ => false
theorem all_split {L : List Jvm.Cond} {P : Jvm.Cond → Bool} (h1 : L.all (fun c => isCode c || P c) = true) (h2 : ∀ c ∈ L.filter isCode, P c = true) : L.all P = true := by
  refine List.all_eq_true.mpr fun c hc => ?_
  have h := List.all_eq_true.mp h1 c hc
  rcases Bool.eq_false_or_eq_true (isCode c) with hi | hi
  · exact h2 c (List.mem_filter.mpr ⟨hc, hi⟩)
  · simpa [hi] using h
set_option maxRecDepth 65536 in
theorem w_c0 : (Jvm.Cond.code x code maxLocals ret).before args0 about1 = true := code_word (m := ⟨1, 1⟩) (meth := k1m1) (c := k1c1) (by decide +kernel) rfl rfl rfl (by decide +kernel)
set_option maxRecDepth 65536 in
theorem w_c1 : (Jvm.Cond.code ({ cls := "com/example/catchwire/catchwire/wire/Zxid", name := "follows", desc := "(JJ)Z" } : Jvm.MethodName) prog_199_method_5_code (4 : Nat) (Option.some Jvm.ClassFile.FieldType.boolean)).before args0 about1 = true := code_word (m := ⟨2, 1⟩) (meth := k2m1) (c := k2c1) (by decide +kernel) rfl rfl rfl (by decide +kernel)
def codes1 : List Jvm.Cond := [Jvm.Cond.code x code maxLocals ret, Jvm.Cond.code ({ cls := "com/example/catchwire/catchwire/wire/Zxid", name := "follows", desc := "(JJ)Z" } : Jvm.MethodName) prog_199_method_5_code (4 : Nat) (Option.some Jvm.ClassFile.FieldType.boolean)]
set_option maxRecDepth 65536 in
theorem codes_eq : words1.filter isCode = codes1 := rfl
theorem w_codes : ∀ c ∈ words1.filter isCode, c.before args0 about1 = true := by
  rw [codes_eq]
  intro c hc
  simp only [codes1, List.mem_cons, List.not_mem_nil, or_false] at hc
  rcases hc with rfl | rfl
  · exact w_c0
  · exact w_c1
set_option maxRecDepth 65536 in
theorem w_t1 : words1.all (fun c => isCode c || c.before args0 about1) = true := by decide +kernel
theorem w_tables : (allAtoms (Jvm.Cond.code x code maxLocals ret :: tables_1)).before args0 about1 = true := by
  rw [allAtoms_all]
  show words1.all (fun c => c.before args0 about1) = true
  refine all_split ?_ w_codes
  rw [w_t1]
set_option maxRecDepth 65536 in
theorem w_case : (Jvm.Cond.and given_1 narrow_1).before args0 about1 = true := by decide +kernel
theorem w_applies : (headSpec (Jvm.Cond.code x code maxLocals ret :: tables_1) room_1).applies x e0.platform about1 = true :=
  (Spec.applies_iff w_frames).mpr ⟨w_running, w_runnable, w_alone, w_named, w_hears, w_ripe, w_room, w_tables⟩
theorem atStart : AtStart classFile x code maxLocals ret World_1 tables_1 room_1 Calls_1 rest_1 Pre_1 launch0 p0 e0 about1 theMethod args0 below0 :=
  ⟨lists_1, trivial, launch0.admits_env _ _ _, launch0.least_env, fairChoices_fair.cas, fairChoices_fair.clock, w_frames, w_args, w_heap, w_applies, trivial, trivial, w_case⟩
end start1
theorem witness_1 : WitnessClaimed_1 := ⟨start1.p0, start1.e0, start1.about1, start1.theMethod, start1.args0, start1.below0, start1.atStart⟩
end Jvm.Pilot.@@N@@
