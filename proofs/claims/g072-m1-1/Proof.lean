import JvmDerived
import JvmDerived.Pilot.@@N@@Statement
import JvmDerived.Pilot.@@N@@Code
set_option linter.unusedVariables false
set_option linter.unusedSimpArgs false
namespace Jvm.RoadKit
open Sem ClassFile Op Lib Jvm.Stand Jvm.Free Jvm.LawKit
section New
variable {p : Program} {l : Launch} {e : Env} {R : Room} {s : State} {m : MethodId} {args : Array Value} {below : List Frame} {meth : Method} {c : Code} {T : State} {locs : List Loc} {cells slots : Nat}
theorem retI (X : Stand p l e R s m args below meth c T locs cells slots) (hx : p.tables.exec = Jvm.exec) {pc : Nat} {Ls : Array Slot} {z : Int32} {rest : List Value} (hret : meth.sig.returnType = some .int) (hd : decode c.code pc = .ok (.ireturn, 1)) {fs : List Frame}
    (hl : ∀ (f : JFrame) (acts : List Action), f.method = m → f.locked = none → f.entered = [] → (doReturn e (T.setTop f) acts (some (.int z))).1 = T.setFrames fs) : Steps p.tables e below (T.setTop (mkF m pc Ls (.int z :: rest))) (T.setFrames fs) := by
  have hm' : T.vm.method? m = some meth := X.method'
  have hn : narrow .int (.int z) = .int z := rfl
  show Steps p.tables e below (T.setTop { method := m, pc := pc, locals := Ls, stack := _ :: rest, locked := none }) _
  jvm_step X.here [X.here.top, hx, hd, hm', hret, hn]
  first | (intro acts; rw [hl _ acts rfl rfl rfl]) | rw [hl _ _ rfl rfl rfl]
  exact Steps.refl _
end New
end Jvm.RoadKit
namespace Jvm.Pilot.@@N@@
open Jvm Jvm.ClassFile Sem Op Lib Jvm.Free Jvm.Stand Jvm.LawKit Jvm.RoadKit Bundle Jvm.Pilot.@@N@@.Jvm.D
theorem own_w {a0 : Array Value} {Z : State} (hw : ∀ d ∈ tables_1, d.before a0 Z = true) (i : Nat) {d : Jvm.Cond} (h : tables_1[i]? = some d) : d.before a0 Z = true := hw d (List.mem_of_getElem? h)
/-- from U the run comes to the method's end, and Q holds there -/
def own_Go (tb : Tables) (e : Env) (below : List Frame) (s : State) (C N : Nat) (Q : Option Value → Heap → List Loc → Prop) (U : State) : Prop :=
  ∃ t o, Steps tb e below U t ∧ t.status = .running ∧ Ended t below o ∧ ∃ v L, o = .returned v ∧ Q v t.heap L ∧ FrameEnd s o t L C N
theorem own_step {tb : Tables} {e : Env} {below : List Frame} {s : State} {C N : Nat} {Q : Option Value → Heap → List Loc → Prop} {U U' : State} (h : ∀ t, Steps tb e below U' t → Steps tb e below U t) (k : own_Go tb e below s C N Q U') : own_Go tb e below s C N Q U := by
  obtain ⟨t, o, h1, h2⟩ := k
  exact ⟨t, o, h t h1, h2⟩
theorem own_steps {tb : Tables} {e : Env} {below : List Frame} {s : State} {C N : Nat} {Q : Option Value → Heap → List Loc → Prop} {U U' : State} (h : Steps tb e below U U') (k : own_Go tb e below s C N Q U') : own_Go tb e below s C N Q U := own_step (fun _ q => h.trans q) k
theorem own_out {p : Program} {l : Launch} {e : Env} {R : Room} {s : State} {m : MethodId} {args : Array Value} {below : List Frame} {meth : Method} {c : Code} {T : State} {locs : List Loc} {cells slots : Nat} (X : Stand p l e R s m args below meth c T locs cells slots) {v : Option Value}
    (hlk : meth.locks = false) (hv : meth.sig.returnType = none → v = none) {C N : Nat} {Q : Option Value → Heap → List Loc → Prop} (hQ : Q v T.heap locs) (hC : cells ≤ C) (hN : slots ≤ N) {U : State}
    (k : ∀ fs, (∀ (f : JFrame) (acts : List Action), f.method = m → f.locked = none → f.entered = [] → (doReturn e (T.setTop f) acts v).1 = T.setFrames fs) → Steps p.tables e below U (T.setFrames fs)) : own_Go p.tables e below s C N Q U := by
  obtain ⟨fs, hr, hrun, hended, hW, hsame⟩ := X.leave hv hlk
  exact ⟨_, _, k fs hr, hrun, hended, _, _, rfl, hQ, ⟨_, rfl⟩, hW, hsame.mono hC hN⟩
theorem own_exaP {Z : State} {h : Heap} {a : Addr} {C : String} (E : Exa Z h a C) : ∀ c : Cell, h[a]? = some c → c.vm.isStatics = false := fun c hc => by
  obtain ⟨cell, k, h1, -, -, h4, -⟩ := E
  cases h1.symm.trans hc; exact h4
theorem own_staK {Z : State} {h h' : Heap} {C n d : String} {v : Value} {ws : List Addr} (S : Sta Z h C n d v) (K : Keep h h' ws) (q : ∀ w ∈ ws, ∀ c : Cell, h[w]? = some c → c.vm.isStatics = false) : Sta Z h' C n d v := by
  obtain ⟨cf, i, k, f, st, cell, h1, h2, h3, h4, h5, h6, h7⟩ := S
  exact ⟨cf, i, k, f, st, cell, h1, h2, h3, h4, K.2.1 st cell h5 (fun z => by have := q st z cell h5; rw [h6] at this; cases this), h6, h7⟩
theorem own_anyF {Z : State} {a0 : Array Value} {h : Heap} {a : Addr} {C O n d O' n' d' : String} {v' : Value} {k : Nat} (E : Exa Z h a C) (F : Fld Z h a O' n' d' v') (wi : (Cond.instantiable C k).before a0 Z = true) (L : Laid Z a0 C O n d) : ∃ v, Fld Z h a O n d v :=
  fld_laid E (by obtain ⟨cell, _, _, _, _, h1, _, _, h4, _⟩ := F; exact ⟨cell, h1, h4⟩) wi L
theorem own_nv {meth : Method} {t : FieldType} (h : meth.sig.returnType = some t) {v : Option Value} : meth.sig.returnType = none → v = none := fun q => by rw [h] at q; cases q
theorem pd__I_I : parseMethodDescriptor "(I)I" = some ⟨[.int], some .int⟩ := by decide +kernel

theorem own_div (y : Int32) (h : 0 ≤ y.toInt) : (y / 32).toInt = y.toInt / 32 := (c_idiv y 32 32 (by decide) (by decide)).1 h
theorem own_rem (y m : Int32) (d : Int) (hm : m.toInt = d) (h : 0 ≤ y.toInt) : y % m = 0 ↔ y.toInt % d = 0 := by
  rw [← Int32.toInt_inj, (c_irem y m d hm).1 h]; exact Iff.rfl
theorem own_pos (y : Int32) : 0 < y ↔ 0 < y.toInt := by rw [Int32.lt_iff_toInt_lt]; exact Iff.rfl
theorem own_end (x : Int32) (h0 : (0 : Int32) < x) (h1 : (x % (32 : Int32)) = (0 : Int32)) (h2 : ((x / (32 : Int32)) % (32 : Int32)) = (0 : Int32)) (h3 : (((x / (32 : Int32)) / (32 : Int32)) % (32 : Int32)) = (0 : Int32)) (h4 : ((((x / (32 : Int32)) / (32 : Int32)) / (32 : Int32)) % (32 : Int32)) = (0 : Int32))
    (h5 : (((((x / (32 : Int32)) / (32 : Int32)) / (32 : Int32)) / (32 : Int32)) % (32 : Int32)) = (0 : Int32)) (h6 : ((((((x / (32 : Int32)) / (32 : Int32)) / (32 : Int32)) / (32 : Int32)) / (32 : Int32)) % (32 : Int32)) = (0 : Int32)) : ¬ (((((((x / (32 : Int32)) / (32 : Int32)) / (32 : Int32)) / (32 : Int32)) / (32 : Int32)) / (32 : Int32)) % (32 : Int32)) = (0 : Int32) := by
  have k : (32 : Int32).toInt = 32 := by decide
  rw [own_pos] at h0
  have r := rng32 x
  have d1 := own_div x (by omega)
  have d2 := own_div (x / 32) (by omega)
  have d3 := own_div (x / 32 / 32) (by omega)
  have d4 := own_div (x / 32 / 32 / 32) (by omega)
  have d5 := own_div (x / 32 / 32 / 32 / 32) (by omega)
  have d6 := own_div (x / 32 / 32 / 32 / 32 / 32) (by omega)
  rw [own_rem _ _ 32 k (by omega)] at h1 h2 h3 h4 h5 h6 ⊢
  omega

theorem d1_0 : decode prog_34_method_3_code 0 = .ok (.iconst 0, 1) := by decide +kernel
theorem d1_1 : decode prog_34_method_3_code 1 = .ok (.istore_n 1, 1) := by decide +kernel
theorem d1_2 : decode prog_34_method_3_code 2 = .ok (.iload_n 0, 1) := by decide +kernel
theorem d1_3 : decode prog_34_method_3_code 3 = .ok (.istore_n 2, 1) := by decide +kernel
theorem d1_4 : decode prog_34_method_3_code 4 = .ok (.iload_n 2, 1) := by decide +kernel
theorem d1_5 : decode prog_34_method_3_code 5 = .ok (.ifCond .le 21, 3) := by decide +kernel
theorem d1_8 : decode prog_34_method_3_code 8 = .ok (.iload_n 2, 1) := by decide +kernel
theorem d1_9 : decode prog_34_method_3_code 9 = .ok (.bipush 32, 2) := by decide +kernel
theorem d1_11 : decode prog_34_method_3_code 11 = .ok (.irem, 1) := by decide +kernel
theorem d1_12 : decode prog_34_method_3_code 12 = .ok (.ifCond .ne 14, 3) := by decide +kernel
theorem d1_15 : decode prog_34_method_3_code 15 = .ok (.iinc 1 1, 3) := by decide +kernel
theorem d1_18 : decode prog_34_method_3_code 18 = .ok (.iload_n 2, 1) := by decide +kernel
theorem d1_19 : decode prog_34_method_3_code 19 = .ok (.bipush 32, 2) := by decide +kernel
theorem d1_21 : decode prog_34_method_3_code 21 = .ok (.idiv, 1) := by decide +kernel
theorem d1_22 : decode prog_34_method_3_code 22 = .ok (.istore_n 2, 1) := by decide +kernel
theorem d1_23 : decode prog_34_method_3_code 23 = .ok (.goto (-19), 3) := by decide +kernel
theorem d1_26 : decode prog_34_method_3_code 26 = .ok (.iload_n 1, 1) := by decide +kernel
theorem d1_27 : decode prog_34_method_3_code 27 = .ok (.ireturn, 1) := by decide +kernel
theorem pn_1 : plainName "com/example/termstone/termstone/MergePolicy" = true := by first | (simp [plainName, overriddenIn]; done) | decide +kernel
theorem ef_1 (m : MethodId) (p0 : Int32) : entryFrame m #[(.int p0)] 3 = mkF m 0 #[iv p0, .unset, .unset] [] := by first | (simp [entryFrame, mkF, argsToLocals, Value.category]; done) | rfl
def F1 (p0 : Int32) : Int32 :=
  if (0 : Int32) < p0 then
    if (p0 % (32 : Int32)) = (0 : Int32) then
      if (0 : Int32) < (p0 / (32 : Int32)) then
        if ((p0 / (32 : Int32)) % (32 : Int32)) = (0 : Int32) then
          if (0 : Int32) < ((p0 / (32 : Int32)) / (32 : Int32)) then
            if (((p0 / (32 : Int32)) / (32 : Int32)) % (32 : Int32)) = (0 : Int32) then
              if (0 : Int32) < (((p0 / (32 : Int32)) / (32 : Int32)) / (32 : Int32)) then
                if ((((p0 / (32 : Int32)) / (32 : Int32)) / (32 : Int32)) % (32 : Int32)) = (0 : Int32) then
                  if (0 : Int32) < ((((p0 / (32 : Int32)) / (32 : Int32)) / (32 : Int32)) / (32 : Int32)) then
                    if (((((p0 / (32 : Int32)) / (32 : Int32)) / (32 : Int32)) / (32 : Int32)) % (32 : Int32)) = (0 : Int32) then
                      if (0 : Int32) < (((((p0 / (32 : Int32)) / (32 : Int32)) / (32 : Int32)) / (32 : Int32)) / (32 : Int32)) then
                        if ((((((p0 / (32 : Int32)) / (32 : Int32)) / (32 : Int32)) / (32 : Int32)) / (32 : Int32)) % (32 : Int32)) = (0 : Int32) then
                          if (0 : Int32) < ((((((p0 / (32 : Int32)) / (32 : Int32)) / (32 : Int32)) / (32 : Int32)) / (32 : Int32)) / (32 : Int32)) then
                            (6 : Int32)
                          else
                            (6 : Int32)
                        else
                          (5 : Int32)
                      else
                        (5 : Int32)
                    else
                      (4 : Int32)
                  else
                    (4 : Int32)
                else
                  (3 : Int32)
              else
                (3 : Int32)
            else
              (2 : Int32)
          else
            (2 : Int32)
        else
          (1 : Int32)
      else
        (1 : Int32)
    else
      (0 : Int32)
  else
    (0 : Int32)
def Q1 (Z : State) (p0 : Int32) (h0 : Heap) (n0 : Nat) (v : Option Value) (h : Heap) (L : List Loc) : Prop := v = some (.int (F1 p0)) ∧ Fr n0 L ∧ h = h0
set_option maxRecDepth 65536 in
set_option maxHeartbeats 40000000 in
theorem rm1 (l : Launch) (Z : State) (a0 : Array Value) (hw : ∀ d ∈ tables_1, d.before a0 Z = true) (ws : List Jvm.Cond) (p0 : Int32) (h0 : Heap) (n0 : Nat) (Z0 : n0 ≤ h0.size) :
    MetFree l (⟨"com/example/termstone/termstone/MergePolicy", "mergesAfterFlush", "(I)I"⟩ : MethodName) (head1 (Jvm.Cond.code (⟨"com/example/termstone/termstone/MergePolicy", "mergesAfterFlush", "(I)I"⟩ : MethodName) prog_34_method_3_code 3 (some .int) :: ws) ({ frames := 0, cells := 0, slots := 0, locals := 0 } : Room)) (fun a U => a = #[(.int p0)] ∧ Z.Warmed39 U.vm ∧ U.heap = h0) (fun _ _ _ _ _ => True) (fun _ U o U' => ∃ v L, o = .returned v ∧ Q1 Z p0 h0 n0 v U'.heap L ∧ FrameEnd U o U' L ({ frames := 0, cells := 0, slots := 0, locals := 0 } : Room).cells ({ frames := 0, cells := 0, slots := 0, locals := 0 } : Room).slots) := by
  refine MetFree.of_bodySF (plainFor_of_name pn_1) hisR ?_
  intro p e s m args below meth c s₁ Bd hml0 hP hK
  obtain ⟨rfl, hZ, hh⟩ := hP
  have hx := Bd.exec
  have hby := Bd.bytes
  have hml : c.maxLocals = 3 := hml0
  have hown : s.vm.findClass "com/example/termstone/termstone/MergePolicy" = some m.cls := findClass_of_methodNamed Bd.named
  have hnm := (name_of_methodNamed Bd.named Bd.method).1
  have hlk : meth.locks = false := Bd.notSynchronized
  have X0 : Stand p l e ({ frames := 0, cells := 0, slots := 0, locals := 0 } : Room) s m #[(.int p0)] below meth c s₁ [] 0 0 := Stand.of_body Bd
  have e0 : s₁.heap = h0 := by rw [← hh, Bd.state]; rfl
  have N0 := Fr.nil n0
  have KK0 := Keep.refl h0 []
  show own_Go p.tables e below s 0 0 (Q1 Z p0 h0 n0) (s₁.setTop (entryFrame m #[(.int p0)] 3))
  rw [ef_1]
  refine own_step (U' := s₁.setTop (mkF m 5 #[iv p0, iv (0 : Int32), iv p0] [(.int p0)])) (fun t k => XS.iconst X0.here hx rfl (hb hby d1_0) (XS.istoreN X0.here hx rfl (hb hby d1_1) rfl (l' := #[iv p0, iv (0 : Int32), .unset]) rfl (XS.iloadN X0.here hx rfl (hb hby d1_2) rfl (XS.istoreN X0.here hx rfl (hb hby d1_3) rfl (l' := #[iv p0, iv (0 : Int32), iv p0]) rfl (XS.iloadN X0.here hx rfl (hb hby d1_4) rfl k))))) ?_
  by_cases hc5_1 : (0 : Int32) < p0
  · refine own_step (U' := s₁.setTop (mkF m 12 #[iv p0, iv (0 : Int32), iv p0] [(.int (p0 % (32 : Int32)))])) (fun t k => XS.ifNo X0.here hx rfl (hb hby d1_5) rfl ((if0 _ _).trans (tlt hc5_1).2.2.2) (XS.iloadN X0.here hx rfl (hb hby d1_8) rfl (XS.bipush X0.here hx rfl (hb hby d1_9) (iremM X0 hx rfl (hb hby d1_11) rfl (by decide) k)))) ?_
    by_cases hc12_2 : (p0 % (32 : Int32)) = (0 : Int32)
    · refine own_step (U' := s₁.setTop (mkF m 5 #[iv p0, iv (1 : Int32), iv (p0 / (32 : Int32))] [(.int (p0 / (32 : Int32)))])) (fun t k => XS.ifNo X0.here hx rfl (hb hby d1_12) rfl ((if0 _ _).trans (teq hc12_2).2) (XS.iinc X0.here hx rfl (hb hby d1_15) rfl (l' := #[iv p0, iv (1 : Int32), iv p0]) rfl (XS.iloadN X0.here hx rfl (hb hby d1_18) rfl (XS.bipush X0.here hx rfl (hb hby d1_19) (XS.idiv X0.here hx rfl (hb hby d1_21) rfl (by decide) (XS.istoreN X0.here hx rfl (hb hby d1_22) rfl (l' := #[iv p0, iv (1 : Int32), iv (p0 / (32 : Int32))]) rfl (XS.goto X0.here hx rfl (pc0 := 23) (pc' := 4) rfl (hb hby d1_23) (by decide) (by decide) (XS.iloadN X0.here hx rfl (hb hby d1_4) rfl k)))))))) ?_
      by_cases hc5_3 : (0 : Int32) < (p0 / (32 : Int32))
      · refine own_step (U' := s₁.setTop (mkF m 12 #[iv p0, iv (1 : Int32), iv (p0 / (32 : Int32))] [(.int ((p0 / (32 : Int32)) % (32 : Int32)))])) (fun t k => XS.ifNo X0.here hx rfl (hb hby d1_5) rfl ((if0 _ _).trans (tlt hc5_3).2.2.2) (XS.iloadN X0.here hx rfl (hb hby d1_8) rfl (XS.bipush X0.here hx rfl (hb hby d1_9) (iremM X0 hx rfl (hb hby d1_11) rfl (by decide) k)))) ?_
        by_cases hc12_4 : ((p0 / (32 : Int32)) % (32 : Int32)) = (0 : Int32)
        · refine own_step (U' := s₁.setTop (mkF m 5 #[iv p0, iv (2 : Int32), iv ((p0 / (32 : Int32)) / (32 : Int32))] [(.int ((p0 / (32 : Int32)) / (32 : Int32)))])) (fun t k => XS.ifNo X0.here hx rfl (hb hby d1_12) rfl ((if0 _ _).trans (teq hc12_4).2) (XS.iinc X0.here hx rfl (hb hby d1_15) rfl (l' := #[iv p0, iv (2 : Int32), iv (p0 / (32 : Int32))]) rfl (XS.iloadN X0.here hx rfl (hb hby d1_18) rfl (XS.bipush X0.here hx rfl (hb hby d1_19) (XS.idiv X0.here hx rfl (hb hby d1_21) rfl (by decide) (XS.istoreN X0.here hx rfl (hb hby d1_22) rfl (l' := #[iv p0, iv (2 : Int32), iv ((p0 / (32 : Int32)) / (32 : Int32))]) rfl (XS.goto X0.here hx rfl (pc0 := 23) (pc' := 4) rfl (hb hby d1_23) (by decide) (by decide) (XS.iloadN X0.here hx rfl (hb hby d1_4) rfl k)))))))) ?_
          by_cases hc5_5 : (0 : Int32) < ((p0 / (32 : Int32)) / (32 : Int32))
          · refine own_step (U' := s₁.setTop (mkF m 12 #[iv p0, iv (2 : Int32), iv ((p0 / (32 : Int32)) / (32 : Int32))] [(.int (((p0 / (32 : Int32)) / (32 : Int32)) % (32 : Int32)))])) (fun t k => XS.ifNo X0.here hx rfl (hb hby d1_5) rfl ((if0 _ _).trans (tlt hc5_5).2.2.2) (XS.iloadN X0.here hx rfl (hb hby d1_8) rfl (XS.bipush X0.here hx rfl (hb hby d1_9) (iremM X0 hx rfl (hb hby d1_11) rfl (by decide) k)))) ?_
            by_cases hc12_6 : (((p0 / (32 : Int32)) / (32 : Int32)) % (32 : Int32)) = (0 : Int32)
            · refine own_step (U' := s₁.setTop (mkF m 5 #[iv p0, iv (3 : Int32), iv (((p0 / (32 : Int32)) / (32 : Int32)) / (32 : Int32))] [(.int (((p0 / (32 : Int32)) / (32 : Int32)) / (32 : Int32)))])) (fun t k => XS.ifNo X0.here hx rfl (hb hby d1_12) rfl ((if0 _ _).trans (teq hc12_6).2) (XS.iinc X0.here hx rfl (hb hby d1_15) rfl (l' := #[iv p0, iv (3 : Int32), iv ((p0 / (32 : Int32)) / (32 : Int32))]) rfl (XS.iloadN X0.here hx rfl (hb hby d1_18) rfl (XS.bipush X0.here hx rfl (hb hby d1_19) (XS.idiv X0.here hx rfl (hb hby d1_21) rfl (by decide) (XS.istoreN X0.here hx rfl (hb hby d1_22) rfl (l' := #[iv p0, iv (3 : Int32), iv (((p0 / (32 : Int32)) / (32 : Int32)) / (32 : Int32))]) rfl (XS.goto X0.here hx rfl (pc0 := 23) (pc' := 4) rfl (hb hby d1_23) (by decide) (by decide) (XS.iloadN X0.here hx rfl (hb hby d1_4) rfl k)))))))) ?_
              by_cases hc5_7 : (0 : Int32) < (((p0 / (32 : Int32)) / (32 : Int32)) / (32 : Int32))
              · refine own_step (U' := s₁.setTop (mkF m 12 #[iv p0, iv (3 : Int32), iv (((p0 / (32 : Int32)) / (32 : Int32)) / (32 : Int32))] [(.int ((((p0 / (32 : Int32)) / (32 : Int32)) / (32 : Int32)) % (32 : Int32)))])) (fun t k => XS.ifNo X0.here hx rfl (hb hby d1_5) rfl ((if0 _ _).trans (tlt hc5_7).2.2.2) (XS.iloadN X0.here hx rfl (hb hby d1_8) rfl (XS.bipush X0.here hx rfl (hb hby d1_9) (iremM X0 hx rfl (hb hby d1_11) rfl (by decide) k)))) ?_
                by_cases hc12_8 : ((((p0 / (32 : Int32)) / (32 : Int32)) / (32 : Int32)) % (32 : Int32)) = (0 : Int32)
                · refine own_step (U' := s₁.setTop (mkF m 5 #[iv p0, iv (4 : Int32), iv ((((p0 / (32 : Int32)) / (32 : Int32)) / (32 : Int32)) / (32 : Int32))] [(.int ((((p0 / (32 : Int32)) / (32 : Int32)) / (32 : Int32)) / (32 : Int32)))])) (fun t k => XS.ifNo X0.here hx rfl (hb hby d1_12) rfl ((if0 _ _).trans (teq hc12_8).2) (XS.iinc X0.here hx rfl (hb hby d1_15) rfl (l' := #[iv p0, iv (4 : Int32), iv (((p0 / (32 : Int32)) / (32 : Int32)) / (32 : Int32))]) rfl (XS.iloadN X0.here hx rfl (hb hby d1_18) rfl (XS.bipush X0.here hx rfl (hb hby d1_19) (XS.idiv X0.here hx rfl (hb hby d1_21) rfl (by decide) (XS.istoreN X0.here hx rfl (hb hby d1_22) rfl (l' := #[iv p0, iv (4 : Int32), iv ((((p0 / (32 : Int32)) / (32 : Int32)) / (32 : Int32)) / (32 : Int32))]) rfl (XS.goto X0.here hx rfl (pc0 := 23) (pc' := 4) rfl (hb hby d1_23) (by decide) (by decide) (XS.iloadN X0.here hx rfl (hb hby d1_4) rfl k)))))))) ?_
                  by_cases hc5_9 : (0 : Int32) < ((((p0 / (32 : Int32)) / (32 : Int32)) / (32 : Int32)) / (32 : Int32))
                  · refine own_step (U' := s₁.setTop (mkF m 12 #[iv p0, iv (4 : Int32), iv ((((p0 / (32 : Int32)) / (32 : Int32)) / (32 : Int32)) / (32 : Int32))] [(.int (((((p0 / (32 : Int32)) / (32 : Int32)) / (32 : Int32)) / (32 : Int32)) % (32 : Int32)))])) (fun t k => XS.ifNo X0.here hx rfl (hb hby d1_5) rfl ((if0 _ _).trans (tlt hc5_9).2.2.2) (XS.iloadN X0.here hx rfl (hb hby d1_8) rfl (XS.bipush X0.here hx rfl (hb hby d1_9) (iremM X0 hx rfl (hb hby d1_11) rfl (by decide) k)))) ?_
                    by_cases hc12_10 : (((((p0 / (32 : Int32)) / (32 : Int32)) / (32 : Int32)) / (32 : Int32)) % (32 : Int32)) = (0 : Int32)
                    · refine own_step (U' := s₁.setTop (mkF m 5 #[iv p0, iv (5 : Int32), iv (((((p0 / (32 : Int32)) / (32 : Int32)) / (32 : Int32)) / (32 : Int32)) / (32 : Int32))] [(.int (((((p0 / (32 : Int32)) / (32 : Int32)) / (32 : Int32)) / (32 : Int32)) / (32 : Int32)))])) (fun t k => XS.ifNo X0.here hx rfl (hb hby d1_12) rfl ((if0 _ _).trans (teq hc12_10).2) (XS.iinc X0.here hx rfl (hb hby d1_15) rfl (l' := #[iv p0, iv (5 : Int32), iv ((((p0 / (32 : Int32)) / (32 : Int32)) / (32 : Int32)) / (32 : Int32))]) rfl (XS.iloadN X0.here hx rfl (hb hby d1_18) rfl (XS.bipush X0.here hx rfl (hb hby d1_19) (XS.idiv X0.here hx rfl (hb hby d1_21) rfl (by decide) (XS.istoreN X0.here hx rfl (hb hby d1_22) rfl (l' := #[iv p0, iv (5 : Int32), iv (((((p0 / (32 : Int32)) / (32 : Int32)) / (32 : Int32)) / (32 : Int32)) / (32 : Int32))]) rfl (XS.goto X0.here hx rfl (pc0 := 23) (pc' := 4) rfl (hb hby d1_23) (by decide) (by decide) (XS.iloadN X0.here hx rfl (hb hby d1_4) rfl k)))))))) ?_
                      by_cases hc5_11 : (0 : Int32) < (((((p0 / (32 : Int32)) / (32 : Int32)) / (32 : Int32)) / (32 : Int32)) / (32 : Int32))
                      · refine own_step (U' := s₁.setTop (mkF m 12 #[iv p0, iv (5 : Int32), iv (((((p0 / (32 : Int32)) / (32 : Int32)) / (32 : Int32)) / (32 : Int32)) / (32 : Int32))] [(.int ((((((p0 / (32 : Int32)) / (32 : Int32)) / (32 : Int32)) / (32 : Int32)) / (32 : Int32)) % (32 : Int32)))])) (fun t k => XS.ifNo X0.here hx rfl (hb hby d1_5) rfl ((if0 _ _).trans (tlt hc5_11).2.2.2) (XS.iloadN X0.here hx rfl (hb hby d1_8) rfl (XS.bipush X0.here hx rfl (hb hby d1_9) (iremM X0 hx rfl (hb hby d1_11) rfl (by decide) k)))) ?_
                        by_cases hc12_12 : ((((((p0 / (32 : Int32)) / (32 : Int32)) / (32 : Int32)) / (32 : Int32)) / (32 : Int32)) % (32 : Int32)) = (0 : Int32)
                        · refine own_step (U' := s₁.setTop (mkF m 5 #[iv p0, iv (6 : Int32), iv ((((((p0 / (32 : Int32)) / (32 : Int32)) / (32 : Int32)) / (32 : Int32)) / (32 : Int32)) / (32 : Int32))] [(.int ((((((p0 / (32 : Int32)) / (32 : Int32)) / (32 : Int32)) / (32 : Int32)) / (32 : Int32)) / (32 : Int32)))])) (fun t k => XS.ifNo X0.here hx rfl (hb hby d1_12) rfl ((if0 _ _).trans (teq hc12_12).2) (XS.iinc X0.here hx rfl (hb hby d1_15) rfl (l' := #[iv p0, iv (6 : Int32), iv (((((p0 / (32 : Int32)) / (32 : Int32)) / (32 : Int32)) / (32 : Int32)) / (32 : Int32))]) rfl (XS.iloadN X0.here hx rfl (hb hby d1_18) rfl (XS.bipush X0.here hx rfl (hb hby d1_19) (XS.idiv X0.here hx rfl (hb hby d1_21) rfl (by decide) (XS.istoreN X0.here hx rfl (hb hby d1_22) rfl (l' := #[iv p0, iv (6 : Int32), iv ((((((p0 / (32 : Int32)) / (32 : Int32)) / (32 : Int32)) / (32 : Int32)) / (32 : Int32)) / (32 : Int32))]) rfl (XS.goto X0.here hx rfl (pc0 := 23) (pc' := 4) rfl (hb hby d1_23) (by decide) (by decide) (XS.iloadN X0.here hx rfl (hb hby d1_4) rfl k)))))))) ?_
                          by_cases hc5_13 : (0 : Int32) < ((((((p0 / (32 : Int32)) / (32 : Int32)) / (32 : Int32)) / (32 : Int32)) / (32 : Int32)) / (32 : Int32))
                          · refine own_step (U' := s₁.setTop (mkF m 27 #[iv p0, iv (6 : Int32), iv ((((((p0 / (32 : Int32)) / (32 : Int32)) / (32 : Int32)) / (32 : Int32)) / (32 : Int32)) / (32 : Int32))] [(.int (6 : Int32))])) (fun t k => XS.ifNo X0.here hx rfl (hb hby d1_5) rfl ((if0 _ _).trans (tlt hc5_13).2.2.2) (XS.iloadN X0.here hx rfl (hb hby d1_8) rfl (XS.bipush X0.here hx rfl (hb hby d1_9) (iremM X0 hx rfl (hb hby d1_11) rfl (by decide) (XS.ifYes X0.here hx rfl (pc0 := 12) (pc' := 26) rfl (hb hby d1_12) rfl ((if0 _ _).trans (feq (own_end p0 hc5_1 hc12_2 hc12_4 hc12_6 hc12_8 hc12_10 hc12_12)).2) (by decide) (by decide) (XS.iloadN X0.here hx rfl (hb hby d1_26) rfl k)))))) ?_
                            exact own_out X0 (v := (some (.int (6 : Int32)))) hlk (own_nv Bd.returns) (by rw [e0]; exact ⟨by rw [show (F1 p0) = (6 : Int32) from (by simp only [F1, if_pos hc5_1, if_pos hc12_2, if_pos hc5_3, if_pos hc12_4, if_pos hc5_5, if_pos hc12_6, if_pos hc5_7, if_pos hc12_8, if_pos hc5_9, if_pos hc12_10, if_pos hc5_11, if_pos hc12_12, if_pos hc5_13])], N0, rfl⟩) (by decide) (by decide) (fun fs hr => retI X0 hx Bd.returns (hb hby d1_27) hr)
                          · refine own_step (U' := s₁.setTop (mkF m 27 #[iv p0, iv (6 : Int32), iv ((((((p0 / (32 : Int32)) / (32 : Int32)) / (32 : Int32)) / (32 : Int32)) / (32 : Int32)) / (32 : Int32))] [(.int (6 : Int32))])) (fun t k => XS.ifYes X0.here hx rfl (pc0 := 5) (pc' := 26) rfl (hb hby d1_5) rfl ((if0 _ _).trans (flt hc5_13).2.2.2) (by decide) (by decide) (XS.iloadN X0.here hx rfl (hb hby d1_26) rfl k)) ?_
                            exact own_out X0 (v := (some (.int (6 : Int32)))) hlk (own_nv Bd.returns) (by rw [e0]; exact ⟨by rw [show (F1 p0) = (6 : Int32) from (by simp only [F1, if_pos hc5_1, if_pos hc12_2, if_pos hc5_3, if_pos hc12_4, if_pos hc5_5, if_pos hc12_6, if_pos hc5_7, if_pos hc12_8, if_pos hc5_9, if_pos hc12_10, if_pos hc5_11, if_pos hc12_12, if_neg hc5_13])], N0, rfl⟩) (by decide) (by decide) (fun fs hr => retI X0 hx Bd.returns (hb hby d1_27) hr)
                        · refine own_step (U' := s₁.setTop (mkF m 27 #[iv p0, iv (5 : Int32), iv (((((p0 / (32 : Int32)) / (32 : Int32)) / (32 : Int32)) / (32 : Int32)) / (32 : Int32))] [(.int (5 : Int32))])) (fun t k => XS.ifYes X0.here hx rfl (pc0 := 12) (pc' := 26) rfl (hb hby d1_12) rfl ((if0 _ _).trans (feq hc12_12).2) (by decide) (by decide) (XS.iloadN X0.here hx rfl (hb hby d1_26) rfl k)) ?_
                          exact own_out X0 (v := (some (.int (5 : Int32)))) hlk (own_nv Bd.returns) (by rw [e0]; exact ⟨by rw [show (F1 p0) = (5 : Int32) from (by simp only [F1, if_pos hc5_1, if_pos hc12_2, if_pos hc5_3, if_pos hc12_4, if_pos hc5_5, if_pos hc12_6, if_pos hc5_7, if_pos hc12_8, if_pos hc5_9, if_pos hc12_10, if_pos hc5_11, if_neg hc12_12])], N0, rfl⟩) (by decide) (by decide) (fun fs hr => retI X0 hx Bd.returns (hb hby d1_27) hr)
                      · refine own_step (U' := s₁.setTop (mkF m 27 #[iv p0, iv (5 : Int32), iv (((((p0 / (32 : Int32)) / (32 : Int32)) / (32 : Int32)) / (32 : Int32)) / (32 : Int32))] [(.int (5 : Int32))])) (fun t k => XS.ifYes X0.here hx rfl (pc0 := 5) (pc' := 26) rfl (hb hby d1_5) rfl ((if0 _ _).trans (flt hc5_11).2.2.2) (by decide) (by decide) (XS.iloadN X0.here hx rfl (hb hby d1_26) rfl k)) ?_
                        exact own_out X0 (v := (some (.int (5 : Int32)))) hlk (own_nv Bd.returns) (by rw [e0]; exact ⟨by rw [show (F1 p0) = (5 : Int32) from (by simp only [F1, if_pos hc5_1, if_pos hc12_2, if_pos hc5_3, if_pos hc12_4, if_pos hc5_5, if_pos hc12_6, if_pos hc5_7, if_pos hc12_8, if_pos hc5_9, if_pos hc12_10, if_neg hc5_11])], N0, rfl⟩) (by decide) (by decide) (fun fs hr => retI X0 hx Bd.returns (hb hby d1_27) hr)
                    · refine own_step (U' := s₁.setTop (mkF m 27 #[iv p0, iv (4 : Int32), iv ((((p0 / (32 : Int32)) / (32 : Int32)) / (32 : Int32)) / (32 : Int32))] [(.int (4 : Int32))])) (fun t k => XS.ifYes X0.here hx rfl (pc0 := 12) (pc' := 26) rfl (hb hby d1_12) rfl ((if0 _ _).trans (feq hc12_10).2) (by decide) (by decide) (XS.iloadN X0.here hx rfl (hb hby d1_26) rfl k)) ?_
                      exact own_out X0 (v := (some (.int (4 : Int32)))) hlk (own_nv Bd.returns) (by rw [e0]; exact ⟨by rw [show (F1 p0) = (4 : Int32) from (by simp only [F1, if_pos hc5_1, if_pos hc12_2, if_pos hc5_3, if_pos hc12_4, if_pos hc5_5, if_pos hc12_6, if_pos hc5_7, if_pos hc12_8, if_pos hc5_9, if_neg hc12_10])], N0, rfl⟩) (by decide) (by decide) (fun fs hr => retI X0 hx Bd.returns (hb hby d1_27) hr)
                  · refine own_step (U' := s₁.setTop (mkF m 27 #[iv p0, iv (4 : Int32), iv ((((p0 / (32 : Int32)) / (32 : Int32)) / (32 : Int32)) / (32 : Int32))] [(.int (4 : Int32))])) (fun t k => XS.ifYes X0.here hx rfl (pc0 := 5) (pc' := 26) rfl (hb hby d1_5) rfl ((if0 _ _).trans (flt hc5_9).2.2.2) (by decide) (by decide) (XS.iloadN X0.here hx rfl (hb hby d1_26) rfl k)) ?_
                    exact own_out X0 (v := (some (.int (4 : Int32)))) hlk (own_nv Bd.returns) (by rw [e0]; exact ⟨by rw [show (F1 p0) = (4 : Int32) from (by simp only [F1, if_pos hc5_1, if_pos hc12_2, if_pos hc5_3, if_pos hc12_4, if_pos hc5_5, if_pos hc12_6, if_pos hc5_7, if_pos hc12_8, if_neg hc5_9])], N0, rfl⟩) (by decide) (by decide) (fun fs hr => retI X0 hx Bd.returns (hb hby d1_27) hr)
                · refine own_step (U' := s₁.setTop (mkF m 27 #[iv p0, iv (3 : Int32), iv (((p0 / (32 : Int32)) / (32 : Int32)) / (32 : Int32))] [(.int (3 : Int32))])) (fun t k => XS.ifYes X0.here hx rfl (pc0 := 12) (pc' := 26) rfl (hb hby d1_12) rfl ((if0 _ _).trans (feq hc12_8).2) (by decide) (by decide) (XS.iloadN X0.here hx rfl (hb hby d1_26) rfl k)) ?_
                  exact own_out X0 (v := (some (.int (3 : Int32)))) hlk (own_nv Bd.returns) (by rw [e0]; exact ⟨by rw [show (F1 p0) = (3 : Int32) from (by simp only [F1, if_pos hc5_1, if_pos hc12_2, if_pos hc5_3, if_pos hc12_4, if_pos hc5_5, if_pos hc12_6, if_pos hc5_7, if_neg hc12_8])], N0, rfl⟩) (by decide) (by decide) (fun fs hr => retI X0 hx Bd.returns (hb hby d1_27) hr)
              · refine own_step (U' := s₁.setTop (mkF m 27 #[iv p0, iv (3 : Int32), iv (((p0 / (32 : Int32)) / (32 : Int32)) / (32 : Int32))] [(.int (3 : Int32))])) (fun t k => XS.ifYes X0.here hx rfl (pc0 := 5) (pc' := 26) rfl (hb hby d1_5) rfl ((if0 _ _).trans (flt hc5_7).2.2.2) (by decide) (by decide) (XS.iloadN X0.here hx rfl (hb hby d1_26) rfl k)) ?_
                exact own_out X0 (v := (some (.int (3 : Int32)))) hlk (own_nv Bd.returns) (by rw [e0]; exact ⟨by rw [show (F1 p0) = (3 : Int32) from (by simp only [F1, if_pos hc5_1, if_pos hc12_2, if_pos hc5_3, if_pos hc12_4, if_pos hc5_5, if_pos hc12_6, if_neg hc5_7])], N0, rfl⟩) (by decide) (by decide) (fun fs hr => retI X0 hx Bd.returns (hb hby d1_27) hr)
            · refine own_step (U' := s₁.setTop (mkF m 27 #[iv p0, iv (2 : Int32), iv ((p0 / (32 : Int32)) / (32 : Int32))] [(.int (2 : Int32))])) (fun t k => XS.ifYes X0.here hx rfl (pc0 := 12) (pc' := 26) rfl (hb hby d1_12) rfl ((if0 _ _).trans (feq hc12_6).2) (by decide) (by decide) (XS.iloadN X0.here hx rfl (hb hby d1_26) rfl k)) ?_
              exact own_out X0 (v := (some (.int (2 : Int32)))) hlk (own_nv Bd.returns) (by rw [e0]; exact ⟨by rw [show (F1 p0) = (2 : Int32) from (by simp only [F1, if_pos hc5_1, if_pos hc12_2, if_pos hc5_3, if_pos hc12_4, if_pos hc5_5, if_neg hc12_6])], N0, rfl⟩) (by decide) (by decide) (fun fs hr => retI X0 hx Bd.returns (hb hby d1_27) hr)
          · refine own_step (U' := s₁.setTop (mkF m 27 #[iv p0, iv (2 : Int32), iv ((p0 / (32 : Int32)) / (32 : Int32))] [(.int (2 : Int32))])) (fun t k => XS.ifYes X0.here hx rfl (pc0 := 5) (pc' := 26) rfl (hb hby d1_5) rfl ((if0 _ _).trans (flt hc5_5).2.2.2) (by decide) (by decide) (XS.iloadN X0.here hx rfl (hb hby d1_26) rfl k)) ?_
            exact own_out X0 (v := (some (.int (2 : Int32)))) hlk (own_nv Bd.returns) (by rw [e0]; exact ⟨by rw [show (F1 p0) = (2 : Int32) from (by simp only [F1, if_pos hc5_1, if_pos hc12_2, if_pos hc5_3, if_pos hc12_4, if_neg hc5_5])], N0, rfl⟩) (by decide) (by decide) (fun fs hr => retI X0 hx Bd.returns (hb hby d1_27) hr)
        · refine own_step (U' := s₁.setTop (mkF m 27 #[iv p0, iv (1 : Int32), iv (p0 / (32 : Int32))] [(.int (1 : Int32))])) (fun t k => XS.ifYes X0.here hx rfl (pc0 := 12) (pc' := 26) rfl (hb hby d1_12) rfl ((if0 _ _).trans (feq hc12_4).2) (by decide) (by decide) (XS.iloadN X0.here hx rfl (hb hby d1_26) rfl k)) ?_
          exact own_out X0 (v := (some (.int (1 : Int32)))) hlk (own_nv Bd.returns) (by rw [e0]; exact ⟨by rw [show (F1 p0) = (1 : Int32) from (by simp only [F1, if_pos hc5_1, if_pos hc12_2, if_pos hc5_3, if_neg hc12_4])], N0, rfl⟩) (by decide) (by decide) (fun fs hr => retI X0 hx Bd.returns (hb hby d1_27) hr)
      · refine own_step (U' := s₁.setTop (mkF m 27 #[iv p0, iv (1 : Int32), iv (p0 / (32 : Int32))] [(.int (1 : Int32))])) (fun t k => XS.ifYes X0.here hx rfl (pc0 := 5) (pc' := 26) rfl (hb hby d1_5) rfl ((if0 _ _).trans (flt hc5_3).2.2.2) (by decide) (by decide) (XS.iloadN X0.here hx rfl (hb hby d1_26) rfl k)) ?_
        exact own_out X0 (v := (some (.int (1 : Int32)))) hlk (own_nv Bd.returns) (by rw [e0]; exact ⟨by rw [show (F1 p0) = (1 : Int32) from (by simp only [F1, if_pos hc5_1, if_pos hc12_2, if_neg hc5_3])], N0, rfl⟩) (by decide) (by decide) (fun fs hr => retI X0 hx Bd.returns (hb hby d1_27) hr)
    · refine own_step (U' := s₁.setTop (mkF m 27 #[iv p0, iv (0 : Int32), iv p0] [(.int (0 : Int32))])) (fun t k => XS.ifYes X0.here hx rfl (pc0 := 12) (pc' := 26) rfl (hb hby d1_12) rfl ((if0 _ _).trans (feq hc12_2).2) (by decide) (by decide) (XS.iloadN X0.here hx rfl (hb hby d1_26) rfl k)) ?_
      exact own_out X0 (v := (some (.int (0 : Int32)))) hlk (own_nv Bd.returns) (by rw [e0]; exact ⟨by rw [show (F1 p0) = (0 : Int32) from (by simp only [F1, if_pos hc5_1, if_neg hc12_2])], N0, rfl⟩) (by decide) (by decide) (fun fs hr => retI X0 hx Bd.returns (hb hby d1_27) hr)
  · refine own_step (U' := s₁.setTop (mkF m 27 #[iv p0, iv (0 : Int32), iv p0] [(.int (0 : Int32))])) (fun t k => XS.ifYes X0.here hx rfl (pc0 := 5) (pc' := 26) rfl (hb hby d1_5) rfl ((if0 _ _).trans (flt hc5_1).2.2.2) (by decide) (by decide) (XS.iloadN X0.here hx rfl (hb hby d1_26) rfl k)) ?_
    exact own_out X0 (v := (some (.int (0 : Int32)))) hlk (own_nv Bd.returns) (by rw [e0]; exact ⟨by rw [show (F1 p0) = (0 : Int32) from (by simp only [F1, if_neg hc5_1])], N0, rfl⟩) (by decide) (by decide) (fun fs hr => retI X0 hx Bd.returns (hb hby d1_27) hr)
theorem d2_0 : decode method_2_code 0 = .ok (.iload_n 0, 1) := by decide +kernel
theorem d2_1 : decode method_2_code 1 = .ok (.ifCond .gt 5, 3) := by decide +kernel
theorem d2_4 : decode method_2_code 4 = .ok (.iconst 0, 1) := by decide +kernel
theorem d2_5 : decode method_2_code 5 = .ok (.ireturn, 1) := by decide +kernel
theorem d2_6 : decode method_2_code 6 = .ok (.iconst 0, 1) := by decide +kernel
theorem d2_7 : decode method_2_code 7 = .ok (.istore_n 1, 1) := by decide +kernel
theorem d2_8 : decode method_2_code 8 = .ok (.iload_n 0, 1) := by decide +kernel
theorem d2_9 : decode method_2_code 9 = .ok (.bipush 32, 2) := by decide +kernel
theorem d2_11 : decode method_2_code 11 = .ok (.irem, 1) := by decide +kernel
theorem d2_12 : decode method_2_code 12 = .ok (.ifCond .ne 7, 3) := by decide +kernel
theorem d2_15 : decode method_2_code 15 = .ok (.iload_n 1, 1) := by decide +kernel
theorem d2_16 : decode method_2_code 16 = .ok (.iconst 1, 1) := by decide +kernel
theorem d2_17 : decode method_2_code 17 = .ok (.iadd, 1) := by decide +kernel
theorem d2_18 : decode method_2_code 18 = .ok (.istore_n 1, 1) := by decide +kernel
theorem d2_19 : decode method_2_code 19 = .ok (.iload_n 0, 1) := by decide +kernel
theorem d2_20 : decode method_2_code 20 = .ok (.sipush 1024, 3) := by decide +kernel
theorem d2_23 : decode method_2_code 23 = .ok (.irem, 1) := by decide +kernel
theorem d2_24 : decode method_2_code 24 = .ok (.ifCond .ne 7, 3) := by decide +kernel
theorem d2_27 : decode method_2_code 27 = .ok (.iload_n 1, 1) := by decide +kernel
theorem d2_28 : decode method_2_code 28 = .ok (.iconst 1, 1) := by decide +kernel
theorem d2_29 : decode method_2_code 29 = .ok (.iadd, 1) := by decide +kernel
theorem d2_30 : decode method_2_code 30 = .ok (.istore_n 1, 1) := by decide +kernel
theorem d2_31 : decode method_2_code 31 = .ok (.iload_n 0, 1) := by decide +kernel
theorem d2_32 : decode method_2_code 32 = .ok (.ldc 7, 2) := by decide +kernel
theorem d2_34 : decode method_2_code 34 = .ok (.irem, 1) := by decide +kernel
theorem d2_35 : decode method_2_code 35 = .ok (.ifCond .ne 7, 3) := by decide +kernel
theorem d2_38 : decode method_2_code 38 = .ok (.iload_n 1, 1) := by decide +kernel
theorem d2_39 : decode method_2_code 39 = .ok (.iconst 1, 1) := by decide +kernel
theorem d2_40 : decode method_2_code 40 = .ok (.iadd, 1) := by decide +kernel
theorem d2_41 : decode method_2_code 41 = .ok (.istore_n 1, 1) := by decide +kernel
theorem d2_42 : decode method_2_code 42 = .ok (.iload_n 0, 1) := by decide +kernel
theorem d2_43 : decode method_2_code 43 = .ok (.ldc 8, 2) := by decide +kernel
theorem d2_45 : decode method_2_code 45 = .ok (.irem, 1) := by decide +kernel
theorem d2_46 : decode method_2_code 46 = .ok (.ifCond .ne 7, 3) := by decide +kernel
theorem d2_49 : decode method_2_code 49 = .ok (.iload_n 1, 1) := by decide +kernel
theorem d2_50 : decode method_2_code 50 = .ok (.iconst 1, 1) := by decide +kernel
theorem d2_51 : decode method_2_code 51 = .ok (.iadd, 1) := by decide +kernel
theorem d2_52 : decode method_2_code 52 = .ok (.istore_n 1, 1) := by decide +kernel
theorem d2_53 : decode method_2_code 53 = .ok (.iload_n 0, 1) := by decide +kernel
theorem d2_54 : decode method_2_code 54 = .ok (.ldc 9, 2) := by decide +kernel
theorem d2_56 : decode method_2_code 56 = .ok (.irem, 1) := by decide +kernel
theorem d2_57 : decode method_2_code 57 = .ok (.ifCond .ne 7, 3) := by decide +kernel
theorem d2_60 : decode method_2_code 60 = .ok (.iload_n 1, 1) := by decide +kernel
theorem d2_61 : decode method_2_code 61 = .ok (.iconst 1, 1) := by decide +kernel
theorem d2_62 : decode method_2_code 62 = .ok (.iadd, 1) := by decide +kernel
theorem d2_63 : decode method_2_code 63 = .ok (.istore_n 1, 1) := by decide +kernel
theorem d2_64 : decode method_2_code 64 = .ok (.iload_n 0, 1) := by decide +kernel
theorem d2_65 : decode method_2_code 65 = .ok (.ldc 10, 2) := by decide +kernel
theorem d2_67 : decode method_2_code 67 = .ok (.irem, 1) := by decide +kernel
theorem d2_68 : decode method_2_code 68 = .ok (.ifCond .ne 7, 3) := by decide +kernel
theorem d2_71 : decode method_2_code 71 = .ok (.iload_n 1, 1) := by decide +kernel
theorem d2_72 : decode method_2_code 72 = .ok (.iconst 1, 1) := by decide +kernel
theorem d2_73 : decode method_2_code 73 = .ok (.iadd, 1) := by decide +kernel
theorem d2_74 : decode method_2_code 74 = .ok (.istore_n 1, 1) := by decide +kernel
theorem d2_75 : decode method_2_code 75 = .ok (.iload_n 1, 1) := by decide +kernel
theorem d2_76 : decode method_2_code 76 = .ok (.ireturn, 1) := by decide +kernel
theorem pn_2 : plainName "com/example/termstone/termstone/MergePolicyMergesAfterFlushPinLaw" = true := by first | (simp [plainName, overriddenIn]; done) | decide +kernel
theorem ef_2 (m : MethodId) (p0 : Int32) : entryFrame m #[(.int p0)] 2 = mkF m 0 #[iv p0, .unset] [] := by first | (simp [entryFrame, mkF, argsToLocals, Value.category]; done) | rfl
def F2 (p0 : Int32) : Int32 :=
  if (0 : Int32) < p0 then
    let v19_3 : Int32 := (if (p0 % (32 : Int32)) = (0 : Int32) then (1 : Int32) else (0 : Int32))
    let v31_6 : Int32 := (if (p0 % (1024 : Int32)) = (0 : Int32) then (v19_3 + (1 : Int32)) else v19_3)
    let v42_9 : Int32 := (if (p0 % (32768 : Int32)) = (0 : Int32) then (v31_6 + (1 : Int32)) else v31_6)
    let v53_12 : Int32 := (if (p0 % (1048576 : Int32)) = (0 : Int32) then (v42_9 + (1 : Int32)) else v42_9)
    let v64_15 : Int32 := (if (p0 % (33554432 : Int32)) = (0 : Int32) then (v53_12 + (1 : Int32)) else v53_12)
    let v75_18 : Int32 := (if (p0 % (1073741824 : Int32)) = (0 : Int32) then (v64_15 + (1 : Int32)) else v64_15)
    v75_18
  else
    (0 : Int32)
def Q2 (Z : State) (p0 : Int32) (h0 : Heap) (n0 : Nat) (v : Option Value) (h : Heap) (L : List Loc) : Prop := v = some (.int (F2 p0)) ∧ Fr n0 L ∧ h = h0
set_option maxRecDepth 65536 in
set_option maxHeartbeats 40000000 in
theorem rm2 (l : Launch) (Z : State) (a0 : Array Value) (hw : ∀ d ∈ tables_1, d.before a0 Z = true) (ws : List Jvm.Cond) (p0 : Int32) (h0 : Heap) (n0 : Nat) (Z0 : n0 ≤ h0.size) :
    MetFree l (⟨"com/example/termstone/termstone/MergePolicyMergesAfterFlushPinLaw", "expected", "(I)I"⟩ : MethodName) (head1 (Jvm.Cond.code (⟨"com/example/termstone/termstone/MergePolicyMergesAfterFlushPinLaw", "expected", "(I)I"⟩ : MethodName) method_2_code 2 (some .int) :: ws) ({ frames := 0, cells := 0, slots := 0, locals := 0 } : Room)) (fun a U => a = #[(.int p0)] ∧ Z.Warmed39 U.vm ∧ U.heap = h0) (fun _ _ _ _ _ => True) (fun _ U o U' => ∃ v L, o = .returned v ∧ Q2 Z p0 h0 n0 v U'.heap L ∧ FrameEnd U o U' L ({ frames := 0, cells := 0, slots := 0, locals := 0 } : Room).cells ({ frames := 0, cells := 0, slots := 0, locals := 0 } : Room).slots) := by
  refine MetFree.of_bodySF (plainFor_of_name pn_2) hisR ?_
  intro p e s m args below meth c s₁ Bd hml0 hP hK
  obtain ⟨rfl, hZ, hh⟩ := hP
  have hx := Bd.exec
  have hby := Bd.bytes
  have hml : c.maxLocals = 2 := hml0
  have hown : s.vm.findClass "com/example/termstone/termstone/MergePolicyMergesAfterFlushPinLaw" = some m.cls := findClass_of_methodNamed Bd.named
  have hnm := (name_of_methodNamed Bd.named Bd.method).1
  have hlk : meth.locks = false := Bd.notSynchronized
  have X0 : Stand p l e ({ frames := 0, cells := 0, slots := 0, locals := 0 } : Room) s m #[(.int p0)] below meth c s₁ [] 0 0 := Stand.of_body Bd
  have e0 : s₁.heap = h0 := by rw [← hh, Bd.state]; rfl
  have N0 := Fr.nil n0
  have KK0 := Keep.refl h0 []
  show own_Go p.tables e below s 0 0 (Q2 Z p0 h0 n0) (s₁.setTop (entryFrame m #[(.int p0)] 2))
  rw [ef_2]
  refine own_step (U' := s₁.setTop (mkF m 1 #[iv p0, .unset] [(.int p0)])) (fun t k => XS.iloadN X0.here hx rfl (hb hby d2_0) rfl k) ?_
  by_cases hc1_1 : (0 : Int32) < p0
  · refine own_step (U' := s₁.setTop (mkF m 12 #[iv p0, iv (0 : Int32)] [(.int (p0 % (32 : Int32)))])) (fun t k => XS.ifYes X0.here hx rfl (pc0 := 1) (pc' := 6) rfl (hb hby d2_1) rfl ((if0 _ _).trans (tlt hc1_1).2.2.1) (by decide) (by decide) (XS.iconst X0.here hx rfl (hb hby d2_6) (XS.istoreN X0.here hx rfl (hb hby d2_7) rfl (l' := #[iv p0, iv (0 : Int32)]) rfl (XS.iloadN X0.here hx rfl (hb hby d2_8) rfl (XS.bipush X0.here hx rfl (hb hby d2_9) (iremM X0 hx rfl (hb hby d2_11) rfl (by decide) k)))))) ?_
    obtain ⟨v19_3, hv19_3⟩ : ∃ v : Int32, v = (if (p0 % (32 : Int32)) = (0 : Int32) then (1 : Int32) else (0 : Int32)) := ⟨_, rfl⟩
    have K19_4 : ∀ (T' : State) (locs' : List Loc) (X' : Stand p l e ({ frames := 0, cells := 0, slots := 0, locals := 0 } : Room) s m #[(.int p0)] below meth c T' locs' 0 0) (N' : Fr n0 locs') (e' : T'.heap = h0), own_Go p.tables e below s 0 0 (Q2 Z p0 h0 n0) (T'.setTop (mkF m 19 #[iv p0, iv v19_3] [])) := by
      intro T4 L4 X4 N4 e4
      refine own_step (U' := T4.setTop (mkF m 24 #[iv p0, iv v19_3] [(.int (p0 % (1024 : Int32)))])) (fun t k => XS.iloadN X4.here hx rfl (hb hby d2_19) rfl (XS.sipush X4.here hx rfl (hb hby d2_20) (iremM X4 hx rfl (hb hby d2_23) rfl (by decide) k))) ?_
      obtain ⟨v31_6, hv31_6⟩ : ∃ v : Int32, v = (if (p0 % (1024 : Int32)) = (0 : Int32) then (v19_3 + (1 : Int32)) else v19_3) := ⟨_, rfl⟩
      have K31_7 : ∀ (T' : State) (locs' : List Loc) (X' : Stand p l e ({ frames := 0, cells := 0, slots := 0, locals := 0 } : Room) s m #[(.int p0)] below meth c T' locs' 0 0) (N' : Fr n0 locs') (e' : T'.heap = h0), own_Go p.tables e below s 0 0 (Q2 Z p0 h0 n0) (T'.setTop (mkF m 31 #[iv p0, iv v31_6] [])) := by
        intro T7 L7 X7 N7 e7
        refine own_step (U' := T7.setTop (mkF m 35 #[iv p0, iv v31_6] [(.int (p0 % (32768 : Int32)))])) (fun t k => XS.iloadN X7.here hx rfl (hb hby d2_31) rfl (X7.ldcInt hx hown (mvT hZ (own_w hw 8 rfl)) (g := (mkF m 32 #[iv p0, iv v31_6] [(.int p0)])) rfl (hb hby d2_32) t (iremM X7 hx rfl (hb hby d2_34) rfl (by decide) k))) ?_
        obtain ⟨v42_9, hv42_9⟩ : ∃ v : Int32, v = (if (p0 % (32768 : Int32)) = (0 : Int32) then (v31_6 + (1 : Int32)) else v31_6) := ⟨_, rfl⟩
        have K42_10 : ∀ (T' : State) (locs' : List Loc) (X' : Stand p l e ({ frames := 0, cells := 0, slots := 0, locals := 0 } : Room) s m #[(.int p0)] below meth c T' locs' 0 0) (N' : Fr n0 locs') (e' : T'.heap = h0), own_Go p.tables e below s 0 0 (Q2 Z p0 h0 n0) (T'.setTop (mkF m 42 #[iv p0, iv v42_9] [])) := by
          intro T10 L10 X10 N10 e10
          refine own_step (U' := T10.setTop (mkF m 46 #[iv p0, iv v42_9] [(.int (p0 % (1048576 : Int32)))])) (fun t k => XS.iloadN X10.here hx rfl (hb hby d2_42) rfl (X10.ldcInt hx hown (mvT hZ (own_w hw 9 rfl)) (g := (mkF m 43 #[iv p0, iv v42_9] [(.int p0)])) rfl (hb hby d2_43) t (iremM X10 hx rfl (hb hby d2_45) rfl (by decide) k))) ?_
          obtain ⟨v53_12, hv53_12⟩ : ∃ v : Int32, v = (if (p0 % (1048576 : Int32)) = (0 : Int32) then (v42_9 + (1 : Int32)) else v42_9) := ⟨_, rfl⟩
          have K53_13 : ∀ (T' : State) (locs' : List Loc) (X' : Stand p l e ({ frames := 0, cells := 0, slots := 0, locals := 0 } : Room) s m #[(.int p0)] below meth c T' locs' 0 0) (N' : Fr n0 locs') (e' : T'.heap = h0), own_Go p.tables e below s 0 0 (Q2 Z p0 h0 n0) (T'.setTop (mkF m 53 #[iv p0, iv v53_12] [])) := by
            intro T13 L13 X13 N13 e13
            refine own_step (U' := T13.setTop (mkF m 57 #[iv p0, iv v53_12] [(.int (p0 % (33554432 : Int32)))])) (fun t k => XS.iloadN X13.here hx rfl (hb hby d2_53) rfl (X13.ldcInt hx hown (mvT hZ (own_w hw 10 rfl)) (g := (mkF m 54 #[iv p0, iv v53_12] [(.int p0)])) rfl (hb hby d2_54) t (iremM X13 hx rfl (hb hby d2_56) rfl (by decide) k))) ?_
            obtain ⟨v64_15, hv64_15⟩ : ∃ v : Int32, v = (if (p0 % (33554432 : Int32)) = (0 : Int32) then (v53_12 + (1 : Int32)) else v53_12) := ⟨_, rfl⟩
            have K64_16 : ∀ (T' : State) (locs' : List Loc) (X' : Stand p l e ({ frames := 0, cells := 0, slots := 0, locals := 0 } : Room) s m #[(.int p0)] below meth c T' locs' 0 0) (N' : Fr n0 locs') (e' : T'.heap = h0), own_Go p.tables e below s 0 0 (Q2 Z p0 h0 n0) (T'.setTop (mkF m 64 #[iv p0, iv v64_15] [])) := by
              intro T16 L16 X16 N16 e16
              refine own_step (U' := T16.setTop (mkF m 68 #[iv p0, iv v64_15] [(.int (p0 % (1073741824 : Int32)))])) (fun t k => XS.iloadN X16.here hx rfl (hb hby d2_64) rfl (X16.ldcInt hx hown (mvT hZ (own_w hw 11 rfl)) (g := (mkF m 65 #[iv p0, iv v64_15] [(.int p0)])) rfl (hb hby d2_65) t (iremM X16 hx rfl (hb hby d2_67) rfl (by decide) k))) ?_
              obtain ⟨v75_18, hv75_18⟩ : ∃ v : Int32, v = (if (p0 % (1073741824 : Int32)) = (0 : Int32) then (v64_15 + (1 : Int32)) else v64_15) := ⟨_, rfl⟩
              have K75_19 : ∀ (T' : State) (locs' : List Loc) (X' : Stand p l e ({ frames := 0, cells := 0, slots := 0, locals := 0 } : Room) s m #[(.int p0)] below meth c T' locs' 0 0) (N' : Fr n0 locs') (e' : T'.heap = h0), own_Go p.tables e below s 0 0 (Q2 Z p0 h0 n0) (T'.setTop (mkF m 75 #[iv p0, iv v75_18] [])) := by
                intro T19 L19 X19 N19 e19
                refine own_step (U' := T19.setTop (mkF m 76 #[iv p0, iv v75_18] [(.int v75_18)])) (fun t k => XS.iloadN X19.here hx rfl (hb hby d2_75) rfl k) ?_
                exact own_out X19 (v := (some (.int v75_18))) hlk (own_nv Bd.returns) (by rw [e19]; exact (by subst hv19_3 hv31_6 hv42_9 hv53_12 hv64_15 hv75_18; exact ⟨by rw [show (F2 p0) = (if (p0 % (1073741824 : Int32)) = (0 : Int32) then ((if (p0 % (33554432 : Int32)) = (0 : Int32) then ((if (p0 % (1048576 : Int32)) = (0 : Int32) then ((if (p0 % (32768 : Int32)) = (0 : Int32) then ((if (p0 % (1024 : Int32)) = (0 : Int32) then ((if (p0 % (32 : Int32)) = (0 : Int32) then (1 : Int32) else (0 : Int32)) + (1 : Int32)) else (if (p0 % (32 : Int32)) = (0 : Int32) then (1 : Int32) else (0 : Int32))) + (1 : Int32)) else (if (p0 % (1024 : Int32)) = (0 : Int32) then ((if (p0 % (32 : Int32)) = (0 : Int32) then (1 : Int32) else (0 : Int32)) + (1 : Int32)) else (if (p0 % (32 : Int32)) = (0 : Int32) then (1 : Int32) else (0 : Int32)))) + (1 : Int32)) else (if (p0 % (32768 : Int32)) = (0 : Int32) then ((if (p0 % (1024 : Int32)) = (0 : Int32) then ((if (p0 % (32 : Int32)) = (0 : Int32) then (1 : Int32) else (0 : Int32)) + (1 : Int32)) else (if (p0 % (32 : Int32)) = (0 : Int32) then (1 : Int32) else (0 : Int32))) + (1 : Int32)) else (if (p0 % (1024 : Int32)) = (0 : Int32) then ((if (p0 % (32 : Int32)) = (0 : Int32) then (1 : Int32) else (0 : Int32)) + (1 : Int32)) else (if (p0 % (32 : Int32)) = (0 : Int32) then (1 : Int32) else (0 : Int32))))) + (1 : Int32)) else (if (p0 % (1048576 : Int32)) = (0 : Int32) then ((if (p0 % (32768 : Int32)) = (0 : Int32) then ((if (p0 % (1024 : Int32)) = (0 : Int32) then ((if (p0 % (32 : Int32)) = (0 : Int32) then (1 : Int32) else (0 : Int32)) + (1 : Int32)) else (if (p0 % (32 : Int32)) = (0 : Int32) then (1 : Int32) else (0 : Int32))) + (1 : Int32)) else (if (p0 % (1024 : Int32)) = (0 : Int32) then ((if (p0 % (32 : Int32)) = (0 : Int32) then (1 : Int32) else (0 : Int32)) + (1 : Int32)) else (if (p0 % (32 : Int32)) = (0 : Int32) then (1 : Int32) else (0 : Int32)))) + (1 : Int32)) else (if (p0 % (32768 : Int32)) = (0 : Int32) then ((if (p0 % (1024 : Int32)) = (0 : Int32) then ((if (p0 % (32 : Int32)) = (0 : Int32) then (1 : Int32) else (0 : Int32)) + (1 : Int32)) else (if (p0 % (32 : Int32)) = (0 : Int32) then (1 : Int32) else (0 : Int32))) + (1 : Int32)) else (if (p0 % (1024 : Int32)) = (0 : Int32) then ((if (p0 % (32 : Int32)) = (0 : Int32) then (1 : Int32) else (0 : Int32)) + (1 : Int32)) else (if (p0 % (32 : Int32)) = (0 : Int32) then (1 : Int32) else (0 : Int32)))))) + (1 : Int32)) else (if (p0 % (33554432 : Int32)) = (0 : Int32) then ((if (p0 % (1048576 : Int32)) = (0 : Int32) then ((if (p0 % (32768 : Int32)) = (0 : Int32) then ((if (p0 % (1024 : Int32)) = (0 : Int32) then ((if (p0 % (32 : Int32)) = (0 : Int32) then (1 : Int32) else (0 : Int32)) + (1 : Int32)) else (if (p0 % (32 : Int32)) = (0 : Int32) then (1 : Int32) else (0 : Int32))) + (1 : Int32)) else (if (p0 % (1024 : Int32)) = (0 : Int32) then ((if (p0 % (32 : Int32)) = (0 : Int32) then (1 : Int32) else (0 : Int32)) + (1 : Int32)) else (if (p0 % (32 : Int32)) = (0 : Int32) then (1 : Int32) else (0 : Int32)))) + (1 : Int32)) else (if (p0 % (32768 : Int32)) = (0 : Int32) then ((if (p0 % (1024 : Int32)) = (0 : Int32) then ((if (p0 % (32 : Int32)) = (0 : Int32) then (1 : Int32) else (0 : Int32)) + (1 : Int32)) else (if (p0 % (32 : Int32)) = (0 : Int32) then (1 : Int32) else (0 : Int32))) + (1 : Int32)) else (if (p0 % (1024 : Int32)) = (0 : Int32) then ((if (p0 % (32 : Int32)) = (0 : Int32) then (1 : Int32) else (0 : Int32)) + (1 : Int32)) else (if (p0 % (32 : Int32)) = (0 : Int32) then (1 : Int32) else (0 : Int32))))) + (1 : Int32)) else (if (p0 % (1048576 : Int32)) = (0 : Int32) then ((if (p0 % (32768 : Int32)) = (0 : Int32) then ((if (p0 % (1024 : Int32)) = (0 : Int32) then ((if (p0 % (32 : Int32)) = (0 : Int32) then (1 : Int32) else (0 : Int32)) + (1 : Int32)) else (if (p0 % (32 : Int32)) = (0 : Int32) then (1 : Int32) else (0 : Int32))) + (1 : Int32)) else (if (p0 % (1024 : Int32)) = (0 : Int32) then ((if (p0 % (32 : Int32)) = (0 : Int32) then (1 : Int32) else (0 : Int32)) + (1 : Int32)) else (if (p0 % (32 : Int32)) = (0 : Int32) then (1 : Int32) else (0 : Int32)))) + (1 : Int32)) else (if (p0 % (32768 : Int32)) = (0 : Int32) then ((if (p0 % (1024 : Int32)) = (0 : Int32) then ((if (p0 % (32 : Int32)) = (0 : Int32) then (1 : Int32) else (0 : Int32)) + (1 : Int32)) else (if (p0 % (32 : Int32)) = (0 : Int32) then (1 : Int32) else (0 : Int32))) + (1 : Int32)) else (if (p0 % (1024 : Int32)) = (0 : Int32) then ((if (p0 % (32 : Int32)) = (0 : Int32) then (1 : Int32) else (0 : Int32)) + (1 : Int32)) else (if (p0 % (32 : Int32)) = (0 : Int32) then (1 : Int32) else (0 : Int32))))))) from (by simp only [F2, if_pos hc1_1])], N19, rfl⟩)) (by decide) (by decide) (fun fs hr => retI X19 hx Bd.returns (hb hby d2_76) hr)
              by_cases hc68_20 : (p0 % (1073741824 : Int32)) = (0 : Int32)
              · refine own_step (U' := T16.setTop (mkF m 75 #[iv p0, iv (v64_15 + (1 : Int32))] [])) (fun t k => XS.ifNo X16.here hx rfl (hb hby d2_68) rfl ((if0 _ _).trans (teq hc68_20).2) (XS.iloadN X16.here hx rfl (hb hby d2_71) rfl (XS.iconst X16.here hx rfl (hb hby d2_72) (XS.iadd X16.here hx rfl (hb hby d2_73) rfl (XS.istoreN X16.here hx rfl (hb hby d2_74) rfl (l' := #[iv p0, iv (v64_15 + (1 : Int32))]) rfl k))))) ?_
                have q_v75_18 : v75_18 = (v64_15 + (1 : Int32)) := by rw [hv75_18, if_pos hc68_20]
                rw [q_v75_18] at K75_19
                exact K75_19 _ _ X16 N16 e16
              · refine own_step (U' := T16.setTop (mkF m 75 #[iv p0, iv v64_15] [])) (fun t k => XS.ifYes X16.here hx rfl (pc0 := 68) (pc' := 75) rfl (hb hby d2_68) rfl ((if0 _ _).trans (feq hc68_20).2) (by decide) (by decide) k) ?_
                have q_v75_18 : v75_18 = v64_15 := by rw [hv75_18, if_neg hc68_20]
                rw [q_v75_18] at K75_19
                exact K75_19 _ _ X16 N16 e16
            by_cases hc57_21 : (p0 % (33554432 : Int32)) = (0 : Int32)
            · refine own_step (U' := T13.setTop (mkF m 64 #[iv p0, iv (v53_12 + (1 : Int32))] [])) (fun t k => XS.ifNo X13.here hx rfl (hb hby d2_57) rfl ((if0 _ _).trans (teq hc57_21).2) (XS.iloadN X13.here hx rfl (hb hby d2_60) rfl (XS.iconst X13.here hx rfl (hb hby d2_61) (XS.iadd X13.here hx rfl (hb hby d2_62) rfl (XS.istoreN X13.here hx rfl (hb hby d2_63) rfl (l' := #[iv p0, iv (v53_12 + (1 : Int32))]) rfl k))))) ?_
              have q_v64_15 : v64_15 = (v53_12 + (1 : Int32)) := by rw [hv64_15, if_pos hc57_21]
              rw [q_v64_15] at K64_16
              exact K64_16 _ _ X13 N13 e13
            · refine own_step (U' := T13.setTop (mkF m 64 #[iv p0, iv v53_12] [])) (fun t k => XS.ifYes X13.here hx rfl (pc0 := 57) (pc' := 64) rfl (hb hby d2_57) rfl ((if0 _ _).trans (feq hc57_21).2) (by decide) (by decide) k) ?_
              have q_v64_15 : v64_15 = v53_12 := by rw [hv64_15, if_neg hc57_21]
              rw [q_v64_15] at K64_16
              exact K64_16 _ _ X13 N13 e13
          by_cases hc46_22 : (p0 % (1048576 : Int32)) = (0 : Int32)
          · refine own_step (U' := T10.setTop (mkF m 53 #[iv p0, iv (v42_9 + (1 : Int32))] [])) (fun t k => XS.ifNo X10.here hx rfl (hb hby d2_46) rfl ((if0 _ _).trans (teq hc46_22).2) (XS.iloadN X10.here hx rfl (hb hby d2_49) rfl (XS.iconst X10.here hx rfl (hb hby d2_50) (XS.iadd X10.here hx rfl (hb hby d2_51) rfl (XS.istoreN X10.here hx rfl (hb hby d2_52) rfl (l' := #[iv p0, iv (v42_9 + (1 : Int32))]) rfl k))))) ?_
            have q_v53_12 : v53_12 = (v42_9 + (1 : Int32)) := by rw [hv53_12, if_pos hc46_22]
            rw [q_v53_12] at K53_13
            exact K53_13 _ _ X10 N10 e10
          · refine own_step (U' := T10.setTop (mkF m 53 #[iv p0, iv v42_9] [])) (fun t k => XS.ifYes X10.here hx rfl (pc0 := 46) (pc' := 53) rfl (hb hby d2_46) rfl ((if0 _ _).trans (feq hc46_22).2) (by decide) (by decide) k) ?_
            have q_v53_12 : v53_12 = v42_9 := by rw [hv53_12, if_neg hc46_22]
            rw [q_v53_12] at K53_13
            exact K53_13 _ _ X10 N10 e10
        by_cases hc35_23 : (p0 % (32768 : Int32)) = (0 : Int32)
        · refine own_step (U' := T7.setTop (mkF m 42 #[iv p0, iv (v31_6 + (1 : Int32))] [])) (fun t k => XS.ifNo X7.here hx rfl (hb hby d2_35) rfl ((if0 _ _).trans (teq hc35_23).2) (XS.iloadN X7.here hx rfl (hb hby d2_38) rfl (XS.iconst X7.here hx rfl (hb hby d2_39) (XS.iadd X7.here hx rfl (hb hby d2_40) rfl (XS.istoreN X7.here hx rfl (hb hby d2_41) rfl (l' := #[iv p0, iv (v31_6 + (1 : Int32))]) rfl k))))) ?_
          have q_v42_9 : v42_9 = (v31_6 + (1 : Int32)) := by rw [hv42_9, if_pos hc35_23]
          rw [q_v42_9] at K42_10
          exact K42_10 _ _ X7 N7 e7
        · refine own_step (U' := T7.setTop (mkF m 42 #[iv p0, iv v31_6] [])) (fun t k => XS.ifYes X7.here hx rfl (pc0 := 35) (pc' := 42) rfl (hb hby d2_35) rfl ((if0 _ _).trans (feq hc35_23).2) (by decide) (by decide) k) ?_
          have q_v42_9 : v42_9 = v31_6 := by rw [hv42_9, if_neg hc35_23]
          rw [q_v42_9] at K42_10
          exact K42_10 _ _ X7 N7 e7
      by_cases hc24_24 : (p0 % (1024 : Int32)) = (0 : Int32)
      · refine own_step (U' := T4.setTop (mkF m 31 #[iv p0, iv (v19_3 + (1 : Int32))] [])) (fun t k => XS.ifNo X4.here hx rfl (hb hby d2_24) rfl ((if0 _ _).trans (teq hc24_24).2) (XS.iloadN X4.here hx rfl (hb hby d2_27) rfl (XS.iconst X4.here hx rfl (hb hby d2_28) (XS.iadd X4.here hx rfl (hb hby d2_29) rfl (XS.istoreN X4.here hx rfl (hb hby d2_30) rfl (l' := #[iv p0, iv (v19_3 + (1 : Int32))]) rfl k))))) ?_
        have q_v31_6 : v31_6 = (v19_3 + (1 : Int32)) := by rw [hv31_6, if_pos hc24_24]
        rw [q_v31_6] at K31_7
        exact K31_7 _ _ X4 N4 e4
      · refine own_step (U' := T4.setTop (mkF m 31 #[iv p0, iv v19_3] [])) (fun t k => XS.ifYes X4.here hx rfl (pc0 := 24) (pc' := 31) rfl (hb hby d2_24) rfl ((if0 _ _).trans (feq hc24_24).2) (by decide) (by decide) k) ?_
        have q_v31_6 : v31_6 = v19_3 := by rw [hv31_6, if_neg hc24_24]
        rw [q_v31_6] at K31_7
        exact K31_7 _ _ X4 N4 e4
    by_cases hc12_25 : (p0 % (32 : Int32)) = (0 : Int32)
    · refine own_step (U' := s₁.setTop (mkF m 19 #[iv p0, iv (1 : Int32)] [])) (fun t k => XS.ifNo X0.here hx rfl (hb hby d2_12) rfl ((if0 _ _).trans (teq hc12_25).2) (XS.iloadN X0.here hx rfl (hb hby d2_15) rfl (XS.iconst X0.here hx rfl (hb hby d2_16) (XS.iadd X0.here hx rfl (hb hby d2_17) rfl (XS.istoreN X0.here hx rfl (hb hby d2_18) rfl (l' := #[iv p0, iv (1 : Int32)]) rfl k))))) ?_
      have q_v19_3 : v19_3 = (1 : Int32) := by rw [hv19_3, if_pos hc12_25]
      rw [q_v19_3] at K19_4
      exact K19_4 _ _ X0 N0 e0
    · refine own_step (U' := s₁.setTop (mkF m 19 #[iv p0, iv (0 : Int32)] [])) (fun t k => XS.ifYes X0.here hx rfl (pc0 := 12) (pc' := 19) rfl (hb hby d2_12) rfl ((if0 _ _).trans (feq hc12_25).2) (by decide) (by decide) k) ?_
      have q_v19_3 : v19_3 = (0 : Int32) := by rw [hv19_3, if_neg hc12_25]
      rw [q_v19_3] at K19_4
      exact K19_4 _ _ X0 N0 e0
  · refine own_step (U' := s₁.setTop (mkF m 5 #[iv p0, .unset] [(.int (0 : Int32))])) (fun t k => XS.ifNo X0.here hx rfl (hb hby d2_1) rfl ((if0 _ _).trans (flt hc1_1).2.2.1) (XS.iconst X0.here hx rfl (hb hby d2_4) k)) ?_
    exact own_out X0 (v := (some (.int (0 : Int32)))) hlk (own_nv Bd.returns) (by rw [e0]; exact ⟨by rw [show (F2 p0) = (0 : Int32) from (by simp only [F2, if_neg hc1_1])], N0, rfl⟩) (by decide) (by decide) (fun fs hr => retI X0 hx Bd.returns (hb hby d2_5) hr)

theorem own_law (x : Int32) : F1 x = F2 x := by
  by_cases c0 : (0 : Int32) < x
  · have h0 := (own_pos x).mp c0
    have r := rng32 x
    have k : (32 : Int32).toInt = 32 := by decide
    have d1 := own_div x (by omega)
    have d2 := own_div (x / 32) (by omega)
    have d3 := own_div (x / 32 / 32) (by omega)
    have d4 := own_div (x / 32 / 32 / 32) (by omega)
    have d5 := own_div (x / 32 / 32 / 32 / 32) (by omega)
    have d6 := own_div (x / 32 / 32 / 32 / 32 / 32) (by omega)
    have m1 := own_rem x 32 32 k (by omega)
    have m2 := own_rem (x / 32) 32 32 k (by omega)
    have m3 := own_rem (x / 32 / 32) 32 32 k (by omega)
    have m4 := own_rem (x / 32 / 32 / 32) 32 32 k (by omega)
    have m5 := own_rem (x / 32 / 32 / 32 / 32) 32 32 k (by omega)
    have m6 := own_rem (x / 32 / 32 / 32 / 32 / 32) 32 32 k (by omega)
    have n2 := own_rem x 1024 1024 (by decide) (by omega)
    have n3 := own_rem x 32768 32768 (by decide) (by omega)
    have n4 := own_rem x 1048576 1048576 (by decide) (by omega)
    have n5 := own_rem x 33554432 33554432 (by decide) (by omega)
    have n6 := own_rem x 1073741824 1073741824 (by decide) (by omega)
    have p1 := own_pos (x / 32)
    have p2 := own_pos (x / 32 / 32)
    have p3 := own_pos (x / 32 / 32 / 32)
    have p4 := own_pos (x / 32 / 32 / 32 / 32)
    have p5 := own_pos (x / 32 / 32 / 32 / 32 / 32)
    have p6 := own_pos (x / 32 / 32 / 32 / 32 / 32 / 32)
    simp only [F1, F2, m1, m2, m3, m4, m5, m6, n2, n3, n4, n5, n6, p1, p2, p3, p4, p5, p6, if_pos c0]
    rw [d1] at d2
    rw [d2] at d3
    rw [d3] at d4
    rw [d4] at d5
    rw [d5] at d6
    simp only [d1, d2, d3, d4, d5, d6]
    generalize x.toInt = X at *
    by_cases c1 : X % 32 = 0
    · by_cases c2 : X % 1024 = 0
      · by_cases c3 : X % 32768 = 0
        · by_cases c4 : X % 1048576 = 0
          · by_cases c5 : X % 33554432 = 0
            · by_cases c6 : X % 1073741824 = 0
              · simp only [if_pos c1, if_pos c2, if_pos c3, if_pos c4, if_pos c5, if_pos c6, if_pos (show X / 32 % 32 = 0 by omega), if_pos (show X / 32 / 32 % 32 = 0 by omega), if_pos (show X / 32 / 32 / 32 % 32 = 0 by omega), if_pos (show X / 32 / 32 / 32 / 32 % 32 = 0 by omega), if_pos (show X / 32 / 32 / 32 / 32 / 32 % 32 = 0 by omega), if_pos (show 0 < X / 32 by omega), if_pos (show 0 < X / 32 / 32 by omega), if_pos (show 0 < X / 32 / 32 / 32 by omega), if_pos (show 0 < X / 32 / 32 / 32 / 32 by omega), if_pos (show 0 < X / 32 / 32 / 32 / 32 / 32 by omega), if_pos (show 0 < X / 32 / 32 / 32 / 32 / 32 / 32 by omega)]; try decide
              · simp only [if_pos c1, if_pos c2, if_pos c3, if_pos c4, if_pos c5, if_neg c6, if_pos (show X / 32 % 32 = 0 by omega), if_pos (show X / 32 / 32 % 32 = 0 by omega), if_pos (show X / 32 / 32 / 32 % 32 = 0 by omega), if_pos (show X / 32 / 32 / 32 / 32 % 32 = 0 by omega), if_neg (show ¬ X / 32 / 32 / 32 / 32 / 32 % 32 = 0 by omega), if_pos (show 0 < X / 32 by omega), if_pos (show 0 < X / 32 / 32 by omega), if_pos (show 0 < X / 32 / 32 / 32 by omega), if_pos (show 0 < X / 32 / 32 / 32 / 32 by omega), if_pos (show 0 < X / 32 / 32 / 32 / 32 / 32 by omega)]; try decide
            · simp only [if_pos c1, if_pos c2, if_pos c3, if_pos c4, if_neg c5, if_neg (show ¬ X % 1073741824 = 0 by omega), if_pos (show X / 32 % 32 = 0 by omega), if_pos (show X / 32 / 32 % 32 = 0 by omega), if_pos (show X / 32 / 32 / 32 % 32 = 0 by omega), if_neg (show ¬ X / 32 / 32 / 32 / 32 % 32 = 0 by omega), if_pos (show 0 < X / 32 by omega), if_pos (show 0 < X / 32 / 32 by omega), if_pos (show 0 < X / 32 / 32 / 32 by omega), if_pos (show 0 < X / 32 / 32 / 32 / 32 by omega)]; try decide
          · simp only [if_pos c1, if_pos c2, if_pos c3, if_neg c4, if_neg (show ¬ X % 33554432 = 0 by omega), if_neg (show ¬ X % 1073741824 = 0 by omega), if_pos (show X / 32 % 32 = 0 by omega), if_pos (show X / 32 / 32 % 32 = 0 by omega), if_neg (show ¬ X / 32 / 32 / 32 % 32 = 0 by omega), if_pos (show 0 < X / 32 by omega), if_pos (show 0 < X / 32 / 32 by omega), if_pos (show 0 < X / 32 / 32 / 32 by omega)]; try decide
        · simp only [if_pos c1, if_pos c2, if_neg c3, if_neg (show ¬ X % 1048576 = 0 by omega), if_neg (show ¬ X % 33554432 = 0 by omega), if_neg (show ¬ X % 1073741824 = 0 by omega), if_pos (show X / 32 % 32 = 0 by omega), if_neg (show ¬ X / 32 / 32 % 32 = 0 by omega), if_pos (show 0 < X / 32 by omega), if_pos (show 0 < X / 32 / 32 by omega)]; try decide
      · simp only [if_pos c1, if_neg c2, if_neg (show ¬ X % 32768 = 0 by omega), if_neg (show ¬ X % 1048576 = 0 by omega), if_neg (show ¬ X % 33554432 = 0 by omega), if_neg (show ¬ X % 1073741824 = 0 by omega), if_neg (show ¬ X / 32 % 32 = 0 by omega), if_pos (show 0 < X / 32 by omega)]; try decide
    · simp only [if_neg c1, if_neg (show ¬ X % 1024 = 0 by omega), if_neg (show ¬ X % 32768 = 0 by omega), if_neg (show ¬ X % 1048576 = 0 by omega), if_neg (show ¬ X % 33554432 = 0 by omega), if_neg (show ¬ X % 1073741824 = 0 by omega)]; try decide
  · simp only [F1, F2, if_neg c0]

theorem pn_0 : plainName "com/example/termstone/termstone/MergePolicyMergesAfterFlushPinLaw" = true := by first | (simp [plainName, overriddenIn]; done) | decide +kernel
theorem ef_0 (m : MethodId) (p0 : Int32) (p1 : Int32) : entryFrame m #[(.int p0), (.int p1)] maxLocals = mkF m 0 #[iv p0, iv p1, .unset] [] := by first | (simp [entryFrame, mkF, argsToLocals, Value.category, maxLocals]; done) | rfl
def Q0 (Z : State) (p0 : Int32) (p1 : Int32) (h0 : Heap) (n0 : Nat) (v : Option Value) (h : Heap) (L : List Loc) : Prop := v = some (.int 1) ∧ Fr n0 L
set_option maxRecDepth 65536 in
set_option maxHeartbeats 40000000 in
theorem rm0 (l : Launch) (Z : State) (a0 : Array Value) (hw : ∀ d ∈ tables_1, d.before a0 Z = true) (ws : List Jvm.Cond) (p0 : Int32) (p1 : Int32) (h0 : Heap) (n0 : Nat) (Z0 : n0 ≤ h0.size) :
    MetFree l x (head1 (Jvm.Cond.code x code maxLocals ret :: ws) room_1) (fun a U => a = #[(.int p0), (.int p1)] ∧ Z.Warmed39 U.vm ∧ U.heap = h0) (fun _ _ _ _ _ => True) (fun _ U o U' => ∃ v L, o = .returned v ∧ Q0 Z p0 p1 h0 n0 v U'.heap L ∧ FrameEnd U o U' L 0 0) := by
  refine MetFree.of_bodySF (plainFor_of_name pn_0) hisR ?_
  intro p e s m args below meth c s₁ Bd hml0 hP hK
  obtain ⟨rfl, hZ, hh⟩ := hP
  have hx := Bd.exec
  have hby := Bd.bytes
  have hml : c.maxLocals = 3 := hml0
  have hown : s.vm.findClass "com/example/termstone/termstone/MergePolicyMergesAfterFlushPinLaw" = some m.cls := findClass_of_methodNamed Bd.named
  have hnm := (name_of_methodNamed Bd.named Bd.method).1
  have hlk : meth.locks = false := Bd.notSynchronized
  have X0 : Stand p l e room_1 s m #[(.int p0), (.int p1)] below meth c s₁ [] 0 0 := Stand.of_body Bd
  have e0 : s₁.heap = h0 := by rw [← hh, Bd.state]; rfl
  have N0 := Fr.nil n0
  have KK0 := Keep.refl h0 []
  show own_Go p.tables e below s 0 0 (Q0 Z p0 p1 h0 n0) (s₁.setTop (entryFrame m #[(.int p0), (.int p1)] maxLocals))
  rw [ef_0]
  refine own_step (U' := s₁.setTop (mkF m 8 #[iv p0, iv p1, iv (p0 <<< ((p1 &&& (31 : Int32)) &&& 31))] [(.int (p0 <<< ((p1 &&& (31 : Int32)) &&& 31)))])) (fun t k => XS.iloadN X0.here hx rfl (hb hby at_0) rfl (XS.iloadN X0.here hx rfl (hb hby at_1) rfl (XS.bipush X0.here hx rfl (hb hby at_2) (XS.iand X0.here hx rfl (hb hby at_4) rfl (XS.ishl X0.here hx rfl (hb hby at_5) rfl (XS.istoreN X0.here hx rfl (hb hby at_6) rfl (l' := #[iv p0, iv p1, iv (p0 <<< ((p1 &&& (31 : Int32)) &&& 31))]) rfl (XS.iloadN X0.here hx rfl (hb hby at_7) rfl k))))))) ?_
  obtain ⟨_, _, ⟨T1, L1, k1, n1⟩, -, X1, ⟨Lc1, hQ1, l1, y1, z1⟩, st1⟩ := Jvm.LawKit.callS X0 hx (y := (⟨"com/example/termstone/termstone/MergePolicy", "mergesAfterFlush", "(I)I"⟩ : MethodName)) hown (mvT hZ (own_w hw 0 rfl)) (mvT hZ (own_w hw 1 rfl)) (mvT hZ (own_w hw 2 rfl)) (mvT hZ (own_w hw 3 rfl)) (by decide) (backOf (W := 0) (rm1 l Z a0 hw [] (p0 <<< ((p1 &&& (31 : Int32)) &&& 31)) h0 n0 Z0) hZ (own_w hw 3 rfl) (own_w hw 2 rfl) (by decide) (by decide)) (g := (mkF m 8 #[iv p0, iv p1, iv (p0 <<< ((p1 &&& (31 : Int32)) &&& 31))] [(.int (p0 <<< ((p1 &&& (31 : Int32)) &&& 31)))])) rfl (by rw [hml]; rfl) (argsL := [(.int (p0 <<< ((p1 &&& (31 : Int32)) &&& 31)))]) (rest := []) (lenOf pd__I_I rfl) rfl (by show 2 * 0 + _ ≤ _; exact Nat.le_of_eq rfl) (hb hby at_8) (fun _ _ => ⟨rfl, e0, (by decide : 0 + 0 ≤ _), (by decide : 0 + 0 ≤ _)⟩)
  dsimp only [Pt.U, Pt.locs, Pt.cells, Pt.slots] at X1 l1 y1 z1 st1 hQ1
  subst l1 y1 z1
  obtain ⟨rfl, N1q, eq1⟩ := hQ1
  have N1 := Fr.app N0 N1q
  refine own_step (U' := T1.setTop (mkF m 11 #[iv p0, iv p1, iv (p0 <<< ((p1 &&& (31 : Int32)) &&& 31))] [(.int (F1 (p0 <<< ((p1 &&& (31 : Int32)) &&& 31))))])) st1 ?_
  refine own_step (U' := T1.setTop (mkF m 12 #[iv p0, iv p1, iv (p0 <<< ((p1 &&& (31 : Int32)) &&& 31))] [(.int (p0 <<< ((p1 &&& (31 : Int32)) &&& 31))), (.int (F1 (p0 <<< ((p1 &&& (31 : Int32)) &&& 31))))])) (fun t k => XS.iloadN X1.here hx rfl (hb hby at_11) rfl k) ?_
  obtain ⟨_, _, ⟨T2, L2, k2, n2⟩, -, X2, ⟨Lc2, hQ2, l2, y2, z2⟩, st2⟩ := Jvm.LawKit.callS X1 hx (y := (⟨"com/example/termstone/termstone/MergePolicyMergesAfterFlushPinLaw", "expected", "(I)I"⟩ : MethodName)) hown (mvT hZ (own_w hw 4 rfl)) (mvT hZ (own_w hw 5 rfl)) (mvT hZ (own_w hw 6 rfl)) (mvT hZ (own_w hw 7 rfl)) (by decide) (backOf (W := 1) (rm2 l Z a0 hw [] (p0 <<< ((p1 &&& (31 : Int32)) &&& 31)) h0 n0 Z0) hZ (own_w hw 7 rfl) (own_w hw 6 rfl) (by decide) (by decide)) (g := (mkF m 12 #[iv p0, iv p1, iv (p0 <<< ((p1 &&& (31 : Int32)) &&& 31))] [(.int (p0 <<< ((p1 &&& (31 : Int32)) &&& 31))), (.int (F1 (p0 <<< ((p1 &&& (31 : Int32)) &&& 31))))])) rfl (by rw [hml]; rfl) (argsL := [(.int (p0 <<< ((p1 &&& (31 : Int32)) &&& 31)))]) (rest := [(.int (F1 (p0 <<< ((p1 &&& (31 : Int32)) &&& 31))))]) (lenOf pd__I_I rfl) rfl (by show 2 * 0 + _ ≤ _; exact Nat.le_of_eq rfl) (hb hby at_12) (fun _ _ => ⟨rfl, eq1, (by decide : 0 + 0 ≤ _), (by decide : 0 + 0 ≤ _)⟩)
  dsimp only [Pt.U, Pt.locs, Pt.cells, Pt.slots] at X2 l2 y2 z2 st2 hQ2
  subst l2 y2 z2
  obtain ⟨rfl, N2q, eq2⟩ := hQ2
  have N2 := Fr.app N1 N2q
  refine own_step (U' := T2.setTop (mkF m 15 #[iv p0, iv p1, iv (p0 <<< ((p1 &&& (31 : Int32)) &&& 31))] [(.int (F2 (p0 <<< ((p1 &&& (31 : Int32)) &&& 31)))), (.int (F1 (p0 <<< ((p1 &&& (31 : Int32)) &&& 31))))])) st2 ?_
  refine own_step (U' := T2.setTop (mkF m 23 #[iv p0, iv p1, iv (p0 <<< ((p1 &&& (31 : Int32)) &&& 31))] [(.int (1 : Int32))])) (fun t k => XS.icmpNo X2.here hx rfl (hb hby at_15) rfl (teq (own_law _)).2 (XS.iconst X2.here hx rfl (hb hby at_18) (XS.goto X2.here hx rfl (pc0 := 19) (pc' := 23) rfl (hb hby at_19) (by decide) (by decide) k))) ?_
  exact own_out X2 (v := (some (.int (1 : Int32)))) hlk (own_nv Bd.returns) (by rw [eq2]; exact ⟨rfl, N2⟩) (by decide) (by decide) (fun fs hr => retN X2 hx (t := .boolean) Bd.returns (by simp) (hb hby at_23) hr)
set_option maxRecDepth 65536 in
set_option maxHeartbeats 40000000 in
theorem comes_1 {Post : Tables → Env → Array Value → State → Outcome → State → Prop} (hpost : ∀ tb e args s v u, (limb_1_1.after args s (.returned v) u = true ∧ limb_1_2.after args s (.returned v) u = true ∧ True) → FrameEnd s (.returned v) u (Jvm.fieldLocs frame_1_writes args s ++ Jvm.arrayLocs frame_1_arrays args s ++ Jvm.staticLocs frame_1_statics s) 0 0 → Post tb e args s (.returned v) u) :
    ArmFor flags0 classFile x code maxLocals ret World_1 tables_1 room_1 Calls_1 rest_1 Pre_1 Post := by
  intro l hfl _ _ p e ha hc hk s m args below hf hA hF happ hP
  obtain ⟨hcalls, hrest, hpre⟩ := hP
  obtain ⟨-, -, -, hnamed, -, -, -, hat⟩ := (Spec.applies_iff hf).mp happ
  obtain ⟨hg, hn⟩ := and_e (Cond.before_iff.mp (show (Jvm.Cond.and given_1 narrow_1).before args s = true from hpre))
  obtain ⟨gc, gr0⟩ := and_e hg
  obtain ⟨ga0, gr1⟩ := and_e gr0
  obtain ⟨w0, w1, rfl⟩ : ∃ w0 w1 : Value, args = #[w0, w1] := by
    have hs : args.size = 2 := by simpa [Cond.value, given_1] using gc
    obtain ⟨L⟩ := args
    match L, hs with
    | [w0, w1], _ => exact ⟨w0, w1, rfl⟩
  have hw := fun d (hd : d ∈ tables_1) => atoms_spec (ws := Jvm.Cond.code x code maxLocals ret :: tables_1) hat d (List.mem_cons_of_mem _ hd)
  have hfit : Fit s := fun {y c} hc i hi => by
    obtain ⟨ha, rfl⟩ := Array.getElem?_eq_some_iff.mp hc
    have q := List.all_eq_true.mp ((Array.all_eq_true_iff_forall_mem.mp hF) _ (Array.getElem_mem ha)) i (List.mem_range.mpr hi)
    simpa [Array.getElem?_eq_getElem hi] using q
  obtain ⟨i0, ei0⟩ := is_v ga0
  obtain rfl : w0 = (.int i0) := Option.some.inj ei0
  obtain ⟨i1, ei1⟩ := is_v gr1
  obtain rfl : w1 = (.int i1) := Option.some.inj ei1
  obtain ⟨n, o, h1, h2, h3, _, L, rfl, ⟨rfl, N⟩, hq⟩ := rm0 l s _ hw tables_1 i0 i1  s.heap s.heap.size (Nat.le_refl _)  p e ha hc hk s m _ below hf ((Spec.applies_iff_loose hf).mp happ).1 ⟨rfl, State.Warmed39.refl s, rfl⟩ trivial
  refine ⟨n, _, h1, h2, h3, hpost _ _ _ _ _ _ ⟨Cond.after_iff.mpr rfl, Cond.after_iff.mpr (eq_i res_at (Term.int_eval (1)) rfl), trivial⟩ ⟨hq.1, hq.2.1, (hq.2.2.sift fun y hy => Or.inr (N y hy)).mono (by decide) (by decide)⟩⟩
theorem main_1_1 : Claimed_1_1 := comes_1 fun _ _ _ _ _ _ h hF => ⟨h.1, hF⟩
theorem main_1_2 : Claimed_1_2 := comes_1 fun _ _ _ _ _ _ h hF => ⟨h.2.1, hF⟩
end Jvm.Pilot.@@N@@
namespace Jvm.Pilot.@@N@@
open Jvm Jvm.ClassFile Sem Op Lib Jvm.Free Jvm.Stand Jvm.Pilot.@@N@@.Jvm.D
/-! MADE BY PROGRAM (witnessworld.py) out of the Statement's table words and the real class files: 9 classes; the members and pool entries that the words name. The judged class is class 1, her method 2. -/
namespace start1
open Jvm.ClassFile
def u (s : String) : CpInfo := .utf8 (stringToUtf16 s)
/-- a pool by its gaps: so many unusable entries, then the entry; so many at the end -/
def gap : Nat → List CpInfo → List CpInfo
  | 0, r => r
  | n + 1, r => .unusable :: gap n r
def poolList (es : List (Nat × CpInfo)) (last : Nat) : List CpInfo := es.foldr (fun e r => gap e.1 (e.2 :: r)) (gap last [])
def pool (es : List (Nat × CpInfo)) (last : Nat) : Array CpInfo := ⟨poolList es last⟩
def fileOf (pool : Array CpInfo) (this : Nat) (attrs : Array Attribute := #[]) (ms : Array MethodInfo := #[]) (fl : Nat := 33) (sup : Nat := 0) (ifs : Array Nat := #[]) (fds : Array FieldInfo := #[]) : ClassFile where
  minorVersion := 0
  majorVersion := 65
  constantPool := pool
  accessFlags := fl
  thisClass := this
  superClass := sup
  interfaces := ifs
  fields := fds
  methods := ms
  attributes := attrs
def plain (name : String) (sup : Option ClassId) : Class where
  name := name
  kind := .ordinary
  loader := none
  accessFlags := 33
  super := sup
  interfaces := #[]
  cf := none
  fields := #[]
  methods := #[]
  instanceTypes := #[]
  staticTypes := #[]
  resolved := #[]
  callSites := []
  init := .initialized
  statics := none
  mirror := none

def pool0 : Array CpInfo := pool [(5, u "<init>"), (0, u "()V"), (1, .class_ 10), (1, u "java/lang/Object")] 113

def k0m0 : Method := { name := "<init>", desc := "()V", sig := { parameters := [], returnType := none }, accessFlags := 1, code := none }
/-- java/lang/Object -/
def k0 : Class := { plain "java/lang/Object" none with
  accessFlags := 33
  interfaces := #[]
  cf := some (fileOf pool0 8 #[] #[{ accessFlags := 1, nameIndex := 5, descriptorIndex := 6, attributes := #[] }] 33 0 #[] #[])
  fields := #[]
  methods := #[k0m0]
  instanceTypes := #[]
  staticTypes := #[]
  resolved := Array.replicate 124 none
  statics := none }

def pool1 : Array CpInfo := pool [(2, .class_ 4), (1, u "java/lang/Object"), (0, u "<init>"), (0, u "()V"), (0, .integer 32768), (0, .integer 1048576), (0, .integer 33554432), (0, .integer 1073741824), (0, .methodref 12 13), (0, .class_ 14), (0, .nameAndType 15 16), (0, u "com/example/termstone/termstone/MergePolicy"), (0, u "mergesAfterFlush"), (0, u "(I)I"), (0, .methodref 18 19), (0, .class_ 20), (0, .nameAndType 21 16), (0, u "com/example/termstone/termstone/MergePolicyMergesAfterFlushPinLaw"), (0, u "expected"), (3, u "law"), (0, u "(II)Z")] 2

def k1m0 : Method := { name := "<init>", desc := "()V", sig := { parameters := [], returnType := none }, accessFlags := 2, code := none }
def k1c1 : Code := { maxStack := 2, maxLocals := 2, code := method_2_code, exceptionTable := #[], attributes := #[] }
def k1m1 : Method := { name := "expected", desc := "(I)I", sig := { parameters := [.int], returnType := some .int }, accessFlags := 10, code := some k1c1 }
def k1c2 : Code := { maxStack := 3, maxLocals := 3, code := code, exceptionTable := #[], attributes := #[] }
def k1m2 : Method := { name := "law", desc := "(II)Z", sig := { parameters := [.int, .int], returnType := some .boolean }, accessFlags := 9, code := some k1c2 }
/-- com/example/termstone/termstone/MergePolicyMergesAfterFlushPinLaw -/
def k1 : Class := { plain "com/example/termstone/termstone/MergePolicyMergesAfterFlushPinLaw" (some 0) with
  accessFlags := 49
  interfaces := #[]
  cf := some (fileOf pool1 18 #[] #[{ accessFlags := 2, nameIndex := 5, descriptorIndex := 6, attributes := #[] }, { accessFlags := 10, nameIndex := 21, descriptorIndex := 16, attributes := #[] }, { accessFlags := 9, nameIndex := 25, descriptorIndex := 26, attributes := #[] }] 49 2 #[] #[])
  fields := #[]
  methods := #[k1m0, k1m1, k1m2]
  instanceTypes := #[]
  staticTypes := #[]
  resolved := Array.replicate 29 none
  statics := none }

def pool2 : Array CpInfo := pool [(2, .class_ 4), (1, u "java/lang/Object"), (0, u "<init>"), (0, u "()V"), (32, .class_ 40), (0, u "com/example/termstone/termstone/MergePolicy"), (21, .class_ 63), (0, u "com/example/termstone/termstone/MergePolicy$Run"), (11, u "MAX_SEGMENTS"), (0, u "I"), (2, u "FLUSH_MERGE_FACTOR"), (8, u "mergesAfterFlush"), (0, u "(I)I")] 30

def k2m0 : Method := { name := "<init>", desc := "()V", sig := { parameters := [], returnType := none }, accessFlags := 2, code := none }
def k2c1 : Code := { maxStack := 2, maxLocals := 3, code := prog_34_method_3_code, exceptionTable := #[], attributes := #[] }
def k2m1 : Method := { name := "mergesAfterFlush", desc := "(I)I", sig := { parameters := [.int], returnType := some .int }, accessFlags := 8, code := some k2c1 }
/-- com/example/termstone/termstone/MergePolicy -/
def k2 : Class := { plain "com/example/termstone/termstone/MergePolicy" (some 0) with
  accessFlags := 48
  interfaces := #[]
  cf := some (fileOf pool2 39 #[.nestMembers #[62]] #[{ accessFlags := 2, nameIndex := 5, descriptorIndex := 6, attributes := #[] }, { accessFlags := 8, nameIndex := 88, descriptorIndex := 89, attributes := #[] }] 48 2 #[] #[{ accessFlags := 24, nameIndex := 75, descriptorIndex := 76, attributes := #[] }, { accessFlags := 24, nameIndex := 79, descriptorIndex := 76, attributes := #[] }])
  fields := #[{ name := "MAX_SEGMENTS", type := .int, accessFlags := 24, slot := 0, constantValue := 0 }, { name := "FLUSH_MERGE_FACTOR", type := .int, accessFlags := 24, slot := 1, constantValue := 0 }]
  methods := #[k2m0, k2m1]
  instanceTypes := #[]
  staticTypes := #[.int, .int]
  resolved := Array.replicate 120 none
  statics := none }

def pool3 : Array CpInfo := pool [(1, u "java/lang/Cloneable"), (0, .class_ 1), (0, u "java/lang/Object"), (0, .class_ 3)] 3

/-- java/lang/Cloneable -/
def k3 : Class := { plain "java/lang/Cloneable" (some 0) with
  accessFlags := 1537
  interfaces := #[]
  cf := some (fileOf pool3 2 #[] #[] 1537 4 #[] #[])
  fields := #[]
  methods := #[]
  instanceTypes := #[]
  staticTypes := #[]
  resolved := Array.replicate 8 none
  statics := none }

def pool4 : Array CpInfo := pool [(1, u "java/io/Serializable"), (0, .class_ 1), (0, u "java/lang/Object"), (0, .class_ 3)] 3

/-- java/io/Serializable -/
def k4 : Class := { plain "java/io/Serializable" (some 0) with
  accessFlags := 1537
  interfaces := #[]
  cf := some (fileOf pool4 2 #[] #[] 1537 4 #[] #[])
  fields := #[]
  methods := #[]
  instanceTypes := #[]
  staticTypes := #[]
  resolved := Array.replicate 8 none
  statics := none }

/-- the primitive byte -/
def k5 : Class := { plain "byte" none with kind := .primitive 'B', accessFlags := 0x411 }
/-- [B -/
def k6 : Class := { plain "[B" (some 0) with kind := .array 5 .byte, interfaces := #[3, 4], accessFlags := 1041 }

/-- the primitive int -/
def k7 : Class := { plain "int" none with kind := .primitive 'I', accessFlags := 0x411 }
/-- [I -/
def k8 : Class := { plain "[I" (some 0) with kind := .array 7 .int, interfaces := #[3, 4], accessFlags := 1041 }

def heap : Heap := #[]
def classes : Array Class := #[k0, k1, k2, k3, k4, k5, k6, k7, k8]
def interned : List (Array UInt16 × Addr) := []
def slotsUsed : Nat := 0
def theMethod : MethodId := ⟨1, 2⟩
def args0 : Array Value := #[.int 5, .int 6]
def aboutOver (below : List Frame) : State where
  vm := { classes := classes, interned := interned.toArray }
  heap := heap
  slotsUsed := slotsUsed
  threads := #[{ frames := .invoking theMethod args0 :: below }]
def below0 : List Frame := [.native { method := ⟨0, 0⟩, args := #[] }]
def about1 : State := aboutOver below0
def p0 : Program := .bare "" "" ""
def e0 : Env := launch0.env 0 0 0
theorem w_frames : about1.frames = Frame.invoking theMethod args0 :: below0 := rfl
set_option maxRecDepth 65536 in
theorem w_args : argsFit about1.vm theMethod args0 = true := by decide +kernel
set_option maxRecDepth 65536 in
theorem w_heap : heapFits about1 = true := by decide +kernel
set_option maxRecDepth 65536 in
theorem w_runnable : about1.curStatus? = some .runnable := by decide +kernel
set_option maxRecDepth 65536 in
theorem w_alone : about1.alone = true := by decide +kernel
set_option maxRecDepth 65536 in
theorem w_named : about1.methodNamed? x = some theMethod := by decide +kernel
set_option maxRecDepth 65536 in
theorem w_hears : about1.hears theMethod below0 = true := by decide +kernel
set_option maxRecDepth 65536 in
theorem w_ripe : about1.ripe theMethod args0 below0 = true := by decide +kernel
theorem w_running : about1.status = .running := rfl
set_option maxRecDepth 65536 in
theorem w_room : about1.hasRoom e0.platform room_1 = true :=
  launch0.hasRoom_least _ room_1 (by decide +kernel) (by decide +kernel) (by decide +kernel) (by decide +kernel) (by decide +kernel) (by decide +kernel)
theorem allAtoms_all (ts : List Jvm.Cond) (a : Array Jvm.Value) (st : Jvm.State) : (allAtoms ts).before a st = ts.all (fun c => c.before a st) := by
  induction ts with
  | nil => rfl
  | cons c t ih =>
    show (Jvm.Cond.and c (allAtoms t)).before a st = _
    rw [Jvm.Cond.before_and, ih, List.all_cons]
def words1 : List Jvm.Cond := Jvm.Cond.code x code maxLocals ret :: tables_1
/-- a 'code' word, met by the world's own term for the bytes: nothing is compared byte by byte -/
theorem code_word {y : MethodName} {bytes : ByteArray} {mx : Nat} {rt : Option FieldType} {a : Array Value} {s : State} {m : MethodId} {meth : Method} {c : Code} (h1 : s.methodNamed? y = some m) (h2 : s.vm.method? m = some meth) (h3 : meth.code = some c) (h4 : c.code = bytes)
    (h5 : (c.maxLocals == mx && c.exceptionTable.isEmpty && decide (c.maxStack ≤ mostOperands) && decide (meth.sig.returnType = rt) && !meth.locks && decide (parseMethodDescriptor y.desc = some meth.sig)) = true) : (Jvm.Cond.code y bytes mx rt).before a s = true := by
  simp only [Bool.and_eq_true, beq_iff_eq, Bool.not_eq_true', decide_eq_true_eq] at h5
  obtain ⟨⟨⟨⟨⟨g1, g2⟩, g3⟩, g4⟩, g5⟩, g6⟩ := h5
  simp [Cond.before, Cond.holds, Cond.value, h1, h2, h3, h4, g1, g2, g3, g4, g5, g6]
def isCode : Jvm.Cond → Bool
  | .code _ _ _ _ => true
  | _ => false
theorem all_split {L : List Jvm.Cond} {P : Jvm.Cond → Bool} (h1 : L.all (fun c => isCode c || P c) = true) (h2 : ∀ c ∈ L.filter isCode, P c = true) : L.all P = true := by
  refine List.all_eq_true.mpr fun c hc => ?_
  have h := List.all_eq_true.mp h1 c hc
  rcases Bool.eq_false_or_eq_true (isCode c) with hi | hi
  · exact h2 c (List.mem_filter.mpr ⟨hc, hi⟩)
  · simpa [hi] using h
set_option maxRecDepth 65536 in
theorem w_c0 : (Jvm.Cond.code x code maxLocals ret).before args0 about1 = true := code_word (m := ⟨1, 2⟩) (meth := k1m2) (c := k1c2) (by decide +kernel) rfl rfl rfl (by decide +kernel)
set_option maxRecDepth 65536 in
theorem w_c1 : (Jvm.Cond.code ({ cls := "com/example/termstone/termstone/MergePolicy", name := "mergesAfterFlush", desc := "(I)I" } : Jvm.MethodName) prog_34_method_3_code (3 : Nat) (Option.some Jvm.ClassFile.FieldType.int)).before args0 about1 = true := code_word (m := ⟨2, 1⟩) (meth := k2m1) (c := k2c1) (by decide +kernel) rfl rfl rfl (by decide +kernel)
set_option maxRecDepth 65536 in
theorem w_c2 : (Jvm.Cond.code ({ cls := "com/example/termstone/termstone/MergePolicyMergesAfterFlushPinLaw", name := "expected", desc := "(I)I" } : Jvm.MethodName) method_2_code (2 : Nat) (Option.some Jvm.ClassFile.FieldType.int)).before args0 about1 = true := code_word (m := ⟨1, 1⟩) (meth := k1m1) (c := k1c1) (by decide +kernel) rfl rfl rfl (by decide +kernel)
def codes1 : List Jvm.Cond := [Jvm.Cond.code x code maxLocals ret, Jvm.Cond.code ({ cls := "com/example/termstone/termstone/MergePolicy", name := "mergesAfterFlush", desc := "(I)I" } : Jvm.MethodName) prog_34_method_3_code (3 : Nat) (Option.some Jvm.ClassFile.FieldType.int), Jvm.Cond.code ({ cls := "com/example/termstone/termstone/MergePolicyMergesAfterFlushPinLaw", name := "expected", desc := "(I)I" } : Jvm.MethodName) method_2_code (2 : Nat) (Option.some Jvm.ClassFile.FieldType.int)]
set_option maxRecDepth 65536 in
theorem codes_eq : words1.filter isCode = codes1 := rfl
theorem w_codes : ∀ c ∈ words1.filter isCode, c.before args0 about1 = true := by
  rw [codes_eq]
  intro c hc
  simp only [codes1, List.mem_cons, List.not_mem_nil, or_false] at hc
  rcases hc with rfl | rfl | rfl
  · exact w_c0
  · exact w_c1
  · exact w_c2
set_option maxRecDepth 65536 in
theorem w_t1 : words1.all (fun c => isCode c || c.before args0 about1) = true := by decide +kernel
theorem w_tables : (allAtoms (Jvm.Cond.code x code maxLocals ret :: tables_1)).before args0 about1 = true := by
  rw [allAtoms_all]
  show words1.all (fun c => c.before args0 about1) = true
  refine all_split ?_ w_codes
  rw [w_t1]
set_option maxRecDepth 65536 in
theorem w_case : (Jvm.Cond.and given_1 narrow_1).before args0 about1 = true := by decide +kernel
theorem w_applies : (headSpec (Jvm.Cond.code x code maxLocals ret :: tables_1) room_1).applies x e0.platform about1 = true :=
  (Spec.applies_iff w_frames).mpr ⟨w_running, w_runnable, w_alone, w_named, w_hears, w_ripe, w_room, w_tables⟩
theorem atStart : AtStart classFile x code maxLocals ret World_1 tables_1 room_1 Calls_1 rest_1 Pre_1 launch0 p0 e0 about1 theMethod args0 below0 :=
  ⟨lists_1, trivial, launch0.admits_env _ _ _, launch0.least_env, fairChoices_fair.cas, fairChoices_fair.clock, w_frames, w_args, w_heap, w_applies, trivial, trivial, w_case⟩
end start1
theorem witness_1 : WitnessClaimed_1 := ⟨start1.p0, start1.e0, start1.about1, start1.theMethod, start1.args0, start1.below0, start1.atStart⟩
end Jvm.Pilot.@@N@@
