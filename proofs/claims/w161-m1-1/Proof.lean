import JvmDerived
import JvmDerived.Pilot.@@N@@Statement
import JvmDerived.Pilot.@@N@@Code
set_option linter.unusedVariables false
set_option linter.unusedSimpArgs false
namespace Jvm.RoadKit
open Sem ClassFile Op Lib Jvm.Stand Jvm.Free Jvm.LawKit
section New
variable {p : Program} {l : Launch} {e : Env} {R : Room} {s : State} {m : MethodId} {args : Array Value} {below : List Frame} {meth : Method} {c : Code} {T : State} {locs : List Loc} {cells slots : Nat}
theorem retI (X : Stand p l e R s m args below meth c T locs cells slots) (hx : p.tables.exec = Jvm.exec) {pc : Nat} {Ls : Array Slot} {z : Int32} {rest : List Value} (hret : meth.sig.returnType = some .int) (hd : decode c.code pc = .ok (.ireturn, 1)) {fs : List Frame}
    (hl : ∀ (f : JFrame) (acts : List Action), f.method = m → f.locked = none → f.entered = [] → (doReturn e (T.setTop f) acts (some (.int z))).1 = T.setFrames fs) : Steps p.tables e below (T.setTop (mkF m pc Ls (.int z :: rest))) (T.setFrames fs) := by
  have hm' : T.vm.method? m = some meth := X.method'
  have hn : narrow .int (.int z) = .int z := rfl
  show Steps p.tables e below (T.setTop { method := m, pc := pc, locals := Ls, stack := _ :: rest, locked := none }) _
  jvm_step X.here [X.here.top, hx, hd, hm', hret, hn]
  first | (intro acts; rw [hl _ acts rfl rfl rfl]) | rw [hl _ _ rfl rfl rfl]
  exact Steps.refl _
end New
end Jvm.RoadKit
namespace Jvm.Pilot.@@N@@
open Jvm Jvm.ClassFile Sem Op Lib Jvm.Free Jvm.Stand Jvm.LawKit Jvm.RoadKit Bundle Jvm.Pilot.@@N@@.Jvm.D
theorem own_d1_0 : decode prog_8_method_2_code 0 = .ok (.iload_n 0, 1) := by decide +kernel
theorem own_d1_1 : decode prog_8_method_2_code 1 = .ok (.bipush 32, 2) := by decide +kernel
theorem own_d1_3 : decode prog_8_method_2_code 3 = .ok (.if_icmp .eq 15, 3) := by decide +kernel
theorem own_d1_6 : decode prog_8_method_2_code 6 = .ok (.iload_n 0, 1) := by decide +kernel
theorem own_d1_7 : decode prog_8_method_2_code 7 = .ok (.bipush 9, 2) := by decide +kernel
theorem own_d1_9 : decode prog_8_method_2_code 9 = .ok (.if_icmp .lt 13, 3) := by decide +kernel
theorem own_d1_12 : decode prog_8_method_2_code 12 = .ok (.iload_n 0, 1) := by decide +kernel
theorem own_d1_13 : decode prog_8_method_2_code 13 = .ok (.bipush 13, 2) := by decide +kernel
theorem own_d1_15 : decode prog_8_method_2_code 15 = .ok (.if_icmp .gt 7, 3) := by decide +kernel
theorem own_d1_18 : decode prog_8_method_2_code 18 = .ok (.iconst 1, 1) := by decide +kernel
theorem own_d1_19 : decode prog_8_method_2_code 19 = .ok (.goto 4, 3) := by decide +kernel
theorem own_d1_22 : decode prog_8_method_2_code 22 = .ok (.iconst 0, 1) := by decide +kernel
theorem own_d1_23 : decode prog_8_method_2_code 23 = .ok (.ireturn, 1) := by decide +kernel
theorem own_pn0 : plainName "com/example/restate/restate/Chars" = true := by first | (simp [plainName, overriddenIn]; done) | decide +kernel
def Q_rm1 (Z : State) (pc1 : Int32) (h0 : Heap) (n0 : Nat) (v : Option Value) (h : Heap) (L : List Loc) : Prop := ∃ r : Int32, v = some (.int r) ∧ ((r.toInt = 1 ∧ (pc1.toInt = 32 ∨ (9 ≤ pc1.toInt ∧ pc1.toInt ≤ 13))) ∨ (r.toInt = 0 ∧ ¬ (pc1.toInt = 32 ∨ (9 ≤ pc1.toInt ∧ pc1.toInt ≤ 13)))) ∧ Fr n0 L ∧ h = h0
theorem own_ef_rm1 (m : MethodId) (pc1 : Int32) : entryFrame m #[(.int pc1)] 1 = mkF m 0 #[.val (.int pc1)] [] := by first | (simp [entryFrame, mkF, argsToLocals, Value.category]; done) | rfl
set_option maxRecDepth 65536 in
set_option maxHeartbeats 40000000 in
theorem rm1 (l : Launch) (Z : State) (a0 : Array Value) (hw : ∀ d ∈ tables_1, d.before a0 Z = true) (ws : List Jvm.Cond) (pc1 : Int32) (h0 : Heap) (n0 : Nat) (Z0 : n0 ≤ h0.size) :
    MetFree l (⟨"com/example/restate/restate/Chars", "isWhiteSpace", "(C)Z"⟩ : MethodName) (head1 (Jvm.Cond.code (⟨"com/example/restate/restate/Chars", "isWhiteSpace", "(C)Z"⟩ : MethodName) prog_8_method_2_code 1 (some .boolean) :: ws) ({ frames := 0, cells := 0, slots := 0, locals := 0 } : Room)) (fun a U => a = #[(.int pc1)] ∧ Z.Warmed39 U.vm ∧ U.heap = h0) (fun _ _ _ _ _ => True) (fun _ U o U' => ∃ v L, o = .returned v ∧ Q_rm1 Z pc1 h0 n0 v U'.heap L ∧ FrameEnd U o U' L ({ frames := 0, cells := 0, slots := 0, locals := 0 } : Room).cells ({ frames := 0, cells := 0, slots := 0, locals := 0 } : Room).slots) := by
  refine MetFree.of_bodySF (plainFor_of_name own_pn0) hisR ?_
  intro p e s m args below meth c s₁ Bd hml0 hP hK
  obtain ⟨rfl, hZ, hh⟩ := hP
  have hx := Bd.exec
  have hby := Bd.bytes
  have hml : c.maxLocals = 1 := hml0
  have hown : s.vm.findClass "com/example/restate/restate/Chars" = some m.cls := findClass_of_methodNamed Bd.named
  have hnm := (name_of_methodNamed Bd.named Bd.method).1
  have X0 : Stand p l e ({ frames := 0, cells := 0, slots := 0, locals := 0 } : Room) s m #[(.int pc1)] below meth c s₁ [] 0 0 := Stand.of_body Bd
  have e0 : s₁.heap = h0 := by rw [← hh, Bd.state]; rfl
  have N0 := Fr.nil n0
  have pre0 : ∀ t, Steps p.tables e below (s₁.setTop (mkF m 0 #[.val (.int pc1)] [])) t → Steps p.tables e below (s₁.setTop (entryFrame m #[(.int pc1)] 1)) t := fun t k => castTop (own_ef_rm1 m pc1) k
  have K2 : ∀ t, Steps p.tables e below (s₁.setTop (mkF m 3 #[.val (.int pc1)] [(.int (32 : Int32)), (.int pc1)])) t → Steps p.tables e below (s₁.setTop (entryFrame m #[(.int pc1)] 1)) t := fun t k => pre0 t (by
    show Steps p.tables e below (s₁.setTop (mkF m 0 #[.val (.int pc1)] [])) t
    refine XS.iloadN X0.here hx rfl (hb hby own_d1_0) rfl ?_
    show Steps p.tables e below (s₁.setTop (mkF m 1 #[.val (.int pc1)] [(.int pc1)])) t
    refine XS.bipush X0.here hx rfl (hb hby own_d1_1) ?_
    exact k)
  have q3 := rng32 pc1
  have q4 := (by decide : (32 : Int32).toInt = 32)
  by_cases hc1 : pc1 = (32 : Int32)
  · have q5 : pc1.toInt = (32 : Int32).toInt := congrArg Int32.toInt hc1
    have K6 : ∀ t, Steps p.tables e below (s₁.setTop (mkF m 23 #[.val (.int pc1)] [(.int (1 : Int32))])) t → Steps p.tables e below (s₁.setTop (entryFrame m #[(.int pc1)] 1)) t := fun t k => K2 t (by
      show Steps p.tables e below (s₁.setTop (mkF m 3 #[.val (.int pc1)] [(.int (32 : Int32)), (.int pc1)])) t
      refine XS.icmpYes X0.here hx rfl (pc0 := 3) (pc' := 18) rfl (hb hby own_d1_3) rfl (teq hc1).1 (by decide) (by decide) ?_
      show Steps p.tables e below (s₁.setTop (mkF m 18 #[.val (.int pc1)] [])) t
      refine XS.iconst X0.here hx rfl (hb hby own_d1_18) ?_
      show Steps p.tables e below (s₁.setTop (mkF m 19 #[.val (.int pc1)] [(.int (1 : Int32))])) t
      refine XS.goto X0.here hx rfl (pc0 := 19) (pc' := 23) rfl (hb hby own_d1_19) (by decide) (by decide) ?_
      exact k)
    obtain ⟨fs, hr, hrun, hended, hW, hsame⟩ := X0.leave (v := some (.int (1 : Int32))) (fun h => by rw [Bd.returns] at h; cases h)
    refine ⟨_, _, K6 _ ?_, hrun, hended, _, _, rfl, ?_, ⟨_, rfl⟩, hW, hsame.mono (by decide) (by decide)⟩
    · exact retN X0 hx (t := .boolean) Bd.returns (by simp) (hb hby own_d1_23) hr
    · show Q_rm1 Z pc1 h0 n0 _ s₁.heap _
      have q7 := (by decide : (1 : Int32).toInt = 1)
      rw [e0]
      exact ⟨(1 : Int32), rfl, (by omega), N0, rfl⟩
  · have q8 : ¬ pc1.toInt = (32 : Int32).toInt := fun q => hc1 (Int32.toInt_inj.mp q)
    have K10 : ∀ t, Steps p.tables e below (s₁.setTop (mkF m 9 #[.val (.int pc1)] [(.int (9 : Int32)), (.int pc1)])) t → Steps p.tables e below (s₁.setTop (entryFrame m #[(.int pc1)] 1)) t := fun t k => K2 t (by
      show Steps p.tables e below (s₁.setTop (mkF m 3 #[.val (.int pc1)] [(.int (32 : Int32)), (.int pc1)])) t
      refine XS.icmpNo X0.here hx rfl (hb hby own_d1_3) rfl (feq hc1).1 ?_
      show Steps p.tables e below (s₁.setTop (mkF m 6 #[.val (.int pc1)] [])) t
      refine XS.iloadN X0.here hx rfl (hb hby own_d1_6) rfl ?_
      show Steps p.tables e below (s₁.setTop (mkF m 7 #[.val (.int pc1)] [(.int pc1)])) t
      refine XS.bipush X0.here hx rfl (hb hby own_d1_7) ?_
      exact k)
    have q11 := (by decide : (9 : Int32).toInt = 9)
    by_cases hc9 : pc1 < (9 : Int32)
    · have q12 : pc1.toInt < (9 : Int32).toInt := Int32.lt_iff_toInt_lt.mp hc9
      have K13 : ∀ t, Steps p.tables e below (s₁.setTop (mkF m 23 #[.val (.int pc1)] [(.int (0 : Int32))])) t → Steps p.tables e below (s₁.setTop (entryFrame m #[(.int pc1)] 1)) t := fun t k => K10 t (by
        show Steps p.tables e below (s₁.setTop (mkF m 9 #[.val (.int pc1)] [(.int (9 : Int32)), (.int pc1)])) t
        refine XS.icmpYes X0.here hx rfl (pc0 := 9) (pc' := 22) rfl (hb hby own_d1_9) rfl (tlt hc9).1 (by decide) (by decide) ?_
        show Steps p.tables e below (s₁.setTop (mkF m 22 #[.val (.int pc1)] [])) t
        refine XS.iconst X0.here hx rfl (hb hby own_d1_22) ?_
        exact k)
      obtain ⟨fs, hr, hrun, hended, hW, hsame⟩ := X0.leave (v := some (.int (0 : Int32))) (fun h => by rw [Bd.returns] at h; cases h)
      refine ⟨_, _, K13 _ ?_, hrun, hended, _, _, rfl, ?_, ⟨_, rfl⟩, hW, hsame.mono (by decide) (by decide)⟩
      · exact retN X0 hx (t := .boolean) Bd.returns (by simp) (hb hby own_d1_23) hr
      · show Q_rm1 Z pc1 h0 n0 _ s₁.heap _
        have q14 := (by decide : (0 : Int32).toInt = 0)
        rw [e0]
        exact ⟨(0 : Int32), rfl, (by omega), N0, rfl⟩
    · have q15 : ¬ pc1.toInt < (9 : Int32).toInt := fun q => hc9 (Int32.lt_iff_toInt_lt.mpr q)
      have K17 : ∀ t, Steps p.tables e below (s₁.setTop (mkF m 15 #[.val (.int pc1)] [(.int (13 : Int32)), (.int pc1)])) t → Steps p.tables e below (s₁.setTop (entryFrame m #[(.int pc1)] 1)) t := fun t k => K10 t (by
        show Steps p.tables e below (s₁.setTop (mkF m 9 #[.val (.int pc1)] [(.int (9 : Int32)), (.int pc1)])) t
        refine XS.icmpNo X0.here hx rfl (hb hby own_d1_9) rfl (flt hc9).1 ?_
        show Steps p.tables e below (s₁.setTop (mkF m 12 #[.val (.int pc1)] [])) t
        refine XS.iloadN X0.here hx rfl (hb hby own_d1_12) rfl ?_
        show Steps p.tables e below (s₁.setTop (mkF m 13 #[.val (.int pc1)] [(.int pc1)])) t
        refine XS.bipush X0.here hx rfl (hb hby own_d1_13) ?_
        exact k)
      have q18 := (by decide : (13 : Int32).toInt = 13)
      by_cases hc16 : (13 : Int32) < pc1
      · have q19 : (13 : Int32).toInt < pc1.toInt := Int32.lt_iff_toInt_lt.mp hc16
        have K20 : ∀ t, Steps p.tables e below (s₁.setTop (mkF m 23 #[.val (.int pc1)] [(.int (0 : Int32))])) t → Steps p.tables e below (s₁.setTop (entryFrame m #[(.int pc1)] 1)) t := fun t k => K17 t (by
          show Steps p.tables e below (s₁.setTop (mkF m 15 #[.val (.int pc1)] [(.int (13 : Int32)), (.int pc1)])) t
          refine XS.icmpYes X0.here hx rfl (pc0 := 15) (pc' := 22) rfl (hb hby own_d1_15) rfl (tlt hc16).2.2.1 (by decide) (by decide) ?_
          show Steps p.tables e below (s₁.setTop (mkF m 22 #[.val (.int pc1)] [])) t
          refine XS.iconst X0.here hx rfl (hb hby own_d1_22) ?_
          exact k)
        obtain ⟨fs, hr, hrun, hended, hW, hsame⟩ := X0.leave (v := some (.int (0 : Int32))) (fun h => by rw [Bd.returns] at h; cases h)
        refine ⟨_, _, K20 _ ?_, hrun, hended, _, _, rfl, ?_, ⟨_, rfl⟩, hW, hsame.mono (by decide) (by decide)⟩
        · exact retN X0 hx (t := .boolean) Bd.returns (by simp) (hb hby own_d1_23) hr
        · show Q_rm1 Z pc1 h0 n0 _ s₁.heap _
          have q21 := (by decide : (0 : Int32).toInt = 0)
          rw [e0]
          exact ⟨(0 : Int32), rfl, (by omega), N0, rfl⟩
      · have q22 : ¬ (13 : Int32).toInt < pc1.toInt := fun q => hc16 (Int32.lt_iff_toInt_lt.mpr q)
        have K23 : ∀ t, Steps p.tables e below (s₁.setTop (mkF m 23 #[.val (.int pc1)] [(.int (1 : Int32))])) t → Steps p.tables e below (s₁.setTop (entryFrame m #[(.int pc1)] 1)) t := fun t k => K17 t (by
          show Steps p.tables e below (s₁.setTop (mkF m 15 #[.val (.int pc1)] [(.int (13 : Int32)), (.int pc1)])) t
          refine XS.icmpNo X0.here hx rfl (hb hby own_d1_15) rfl (flt hc16).2.2.1 ?_
          show Steps p.tables e below (s₁.setTop (mkF m 18 #[.val (.int pc1)] [])) t
          refine XS.iconst X0.here hx rfl (hb hby own_d1_18) ?_
          show Steps p.tables e below (s₁.setTop (mkF m 19 #[.val (.int pc1)] [(.int (1 : Int32))])) t
          refine XS.goto X0.here hx rfl (pc0 := 19) (pc' := 23) rfl (hb hby own_d1_19) (by decide) (by decide) ?_
          exact k)
        obtain ⟨fs, hr, hrun, hended, hW, hsame⟩ := X0.leave (v := some (.int (1 : Int32))) (fun h => by rw [Bd.returns] at h; cases h)
        refine ⟨_, _, K23 _ ?_, hrun, hended, _, _, rfl, ?_, ⟨_, rfl⟩, hW, hsame.mono (by decide) (by decide)⟩
        · exact retN X0 hx (t := .boolean) Bd.returns (by simp) (hb hby own_d1_23) hr
        · show Q_rm1 Z pc1 h0 n0 _ s₁.heap _
          have q24 := (by decide : (1 : Int32).toInt = 1)
          rw [e0]
          exact ⟨(1 : Int32), rfl, (by omega), N0, rfl⟩
theorem own_pn1 : plainName "com/example/restate/restate/CharsIsWhiteSpacePinLaw" = true := by first | (simp [plainName, overriddenIn]; done) | decide +kernel
theorem own_pd0 : parseMethodDescriptor "(C)Z" = some ⟨[.char], some .boolean⟩ := by decide +kernel
def Q_rm0 (Z : State) (x0 : Int32) (h0 : Heap) (n0 : Nat) (v : Option Value) (h : Heap) (L : List Loc) : Prop := v = some (.int (1 : Int32)) ∧ (True) ∧ Fr n0 L ∧ h = h0
theorem own_ef_rm0 (m : MethodId) (x0 : Int32) : entryFrame m #[(.int x0)] maxLocals = mkF m 0 #[.val (.int x0), .unset, .unset, .unset] [] := by first | (simp [entryFrame, mkF, argsToLocals, Value.category, maxLocals]; done) | rfl
set_option maxRecDepth 65536 in
set_option maxHeartbeats 40000000 in
theorem rm0 (l : Launch) (Z : State) (a0 : Array Value) (hw : ∀ d ∈ tables_1, d.before a0 Z = true) (ws : List Jvm.Cond) (x0 : Int32) (h0 : Heap) (n0 : Nat) (Z0 : n0 ≤ h0.size) :
    MetFree l x (head1 (Jvm.Cond.code x code maxLocals ret :: ws) room_1) (fun a U => a = #[(.int x0)] ∧ Z.Warmed39 U.vm ∧ U.heap = h0) (fun _ _ _ _ _ => True) (fun _ U o U' => ∃ v L, o = .returned v ∧ Q_rm0 Z x0 h0 n0 v U'.heap L ∧ FrameEnd U o U' L room_1.cells room_1.slots) := by
  refine MetFree.of_bodySF (plainFor_of_name own_pn1) hisR ?_
  intro p e s m args below meth c s₁ Bd hml0 hP hK
  obtain ⟨rfl, hZ, hh⟩ := hP
  have hx := Bd.exec
  have hby := Bd.bytes
  have hml : c.maxLocals = 4 := hml0
  have hown : s.vm.findClass "com/example/restate/restate/CharsIsWhiteSpacePinLaw" = some m.cls := findClass_of_methodNamed Bd.named
  have hnm := (name_of_methodNamed Bd.named Bd.method).1
  have X0 : Stand p l e room_1 s m #[(.int x0)] below meth c s₁ [] 0 0 := Stand.of_body Bd
  have e0 : s₁.heap = h0 := by rw [← hh, Bd.state]; rfl
  have N0 := Fr.nil n0
  have pre0 : ∀ t, Steps p.tables e below (s₁.setTop (mkF m 0 #[.val (.int x0), .unset, .unset, .unset] [])) t → Steps p.tables e below (s₁.setTop (entryFrame m #[(.int x0)] maxLocals)) t := fun t k => castTop (own_ef_rm0 m x0) k
  have K25 : ∀ t, Steps p.tables e below (s₁.setTop (mkF m 8 #[.val (.int x0), .val (.int (x0 &&& (65535 : Int32))), .val (.int ((x0 &&& (65535 : Int32)).toUInt32.toUInt16.toUInt32.toInt32)), .unset] [])) t → Steps p.tables e below (s₁.setTop (entryFrame m #[(.int x0)] maxLocals)) t := fun t k => pre0 t (by
    show Steps p.tables e below (s₁.setTop (mkF m 0 #[.val (.int x0), .unset, .unset, .unset] [])) t
    refine XS.iloadN X0.here hx rfl (hb hby at_0) rfl ?_
    show Steps p.tables e below (s₁.setTop (mkF m 1 #[.val (.int x0), .unset, .unset, .unset] [(.int x0)])) t
    refine X0.ldcInt hx hown (mvT hZ (hw _ (List.mem_of_getElem? (i := 0) rfl))) (g := (mkF m 1 #[.val (.int x0), .unset, .unset, .unset] [(.int x0)])) rfl (hb hby at_1) _ ?_
    show Steps p.tables e below (s₁.setTop (mkF m 3 #[.val (.int x0), .unset, .unset, .unset] [(.int (65535 : Int32)), (.int x0)])) t
    refine XS.iand X0.here hx rfl (hb hby at_3) rfl ?_
    show Steps p.tables e below (s₁.setTop (mkF m 4 #[.val (.int x0), .unset, .unset, .unset] [(.int (x0 &&& (65535 : Int32)))])) t
    refine XS.istoreN X0.here hx rfl (hb hby at_4) rfl (l' := #[.val (.int x0), .val (.int (x0 &&& (65535 : Int32))), .unset, .unset]) rfl ?_
    show Steps p.tables e below (s₁.setTop (mkF m 5 #[.val (.int x0), .val (.int (x0 &&& (65535 : Int32))), .unset, .unset] [])) t
    refine XS.iloadN X0.here hx rfl (hb hby at_5) rfl ?_
    show Steps p.tables e below (s₁.setTop (mkF m 6 #[.val (.int x0), .val (.int (x0 &&& (65535 : Int32))), .unset, .unset] [(.int (x0 &&& (65535 : Int32)))])) t
    refine XS.i2c X0.here hx rfl (hb hby at_6) rfl ?_
    show Steps p.tables e below (s₁.setTop (mkF m 7 #[.val (.int x0), .val (.int (x0 &&& (65535 : Int32))), .unset, .unset] [(.int ((x0 &&& (65535 : Int32)).toUInt32.toUInt16.toUInt32.toInt32))])) t
    refine XS.istoreN X0.here hx rfl (hb hby at_7) rfl (l' := #[.val (.int x0), .val (.int (x0 &&& (65535 : Int32))), .val (.int ((x0 &&& (65535 : Int32)).toUInt32.toUInt16.toUInt32.toInt32)), .unset]) rfl ?_
    exact k)
  obtain ⟨ex_26, Sp26, K27⟩ : ∃ (ex_26 : Int32), ((ex_26.toInt = 1 ∧ ((x0 &&& 65535).toInt = 32 ∨ (9 ≤ (x0 &&& 65535).toInt ∧ (x0 &&& 65535).toInt ≤ 13))) ∨ (ex_26.toInt = 0 ∧ ¬ ((x0 &&& 65535).toInt = 32 ∨ (9 ≤ (x0 &&& 65535).toInt ∧ (x0 &&& 65535).toInt ≤ 13)))) ∧ ∀ t, Steps p.tables e below (s₁.setTop (mkF m 49 #[.val (.int x0), .val (.int (x0 &&& (65535 : Int32))), .val (.int ((x0 &&& (65535 : Int32)).toUInt32.toUInt16.toUInt32.toInt32)), .unset] [(.int ex_26)])) t → Steps p.tables e below (s₁.setTop (entryFrame m #[(.int x0)] maxLocals)) t := by
    have K29 : ∀ t, Steps p.tables e below (s₁.setTop (mkF m 11 #[.val (.int x0), .val (.int (x0 &&& (65535 : Int32))), .val (.int ((x0 &&& (65535 : Int32)).toUInt32.toUInt16.toUInt32.toInt32)), .unset] [(.int (9 : Int32)), (.int (x0 &&& (65535 : Int32)))])) t → Steps p.tables e below (s₁.setTop (entryFrame m #[(.int x0)] maxLocals)) t := fun t k => K25 t (by
      show Steps p.tables e below (s₁.setTop (mkF m 8 #[.val (.int x0), .val (.int (x0 &&& (65535 : Int32))), .val (.int ((x0 &&& (65535 : Int32)).toUInt32.toUInt16.toUInt32.toInt32)), .unset] [])) t
      refine XS.iloadN X0.here hx rfl (hb hby at_8) rfl ?_
      show Steps p.tables e below (s₁.setTop (mkF m 9 #[.val (.int x0), .val (.int (x0 &&& (65535 : Int32))), .val (.int ((x0 &&& (65535 : Int32)).toUInt32.toUInt16.toUInt32.toInt32)), .unset] [(.int (x0 &&& (65535 : Int32)))])) t
      refine XS.bipush X0.here hx rfl (hb hby at_9) ?_
      exact k)
    have q30 := rng32 x0
    have q31 := (by decide : (65535 : Int32).toInt = 65535)
    have q32 := (show (x0 &&& (65535 : Int32)).toInt = x0.toInt % 65536 from c_mask x0 (65535 : Int32) 16 (by decide) (by decide))
    have q33 := rng32 (x0 &&& (65535 : Int32))
    have q34 := (by decide : (9 : Int32).toInt = 9)
    by_cases hc28 : (x0 &&& (65535 : Int32)) = (9 : Int32)
    · have q35 : (x0 &&& (65535 : Int32)).toInt = (9 : Int32).toInt := congrArg Int32.toInt hc28
      have q36 := (by decide : (1 : Int32).toInt = 1)
      refine ⟨(1 : Int32), by omega, fun t k => K29 t ?_⟩
      show Steps p.tables e below (s₁.setTop (mkF m 11 #[.val (.int x0), .val (.int (x0 &&& (65535 : Int32))), .val (.int ((x0 &&& (65535 : Int32)).toUInt32.toUInt16.toUInt32.toInt32)), .unset] [(.int (9 : Int32)), (.int (x0 &&& (65535 : Int32)))])) t
      refine XS.icmpYes X0.here hx rfl (pc0 := 11) (pc' := 44) rfl (hb hby at_11) rfl (teq hc28).1 (by decide) (by decide) ?_
      show Steps p.tables e below (s₁.setTop (mkF m 44 #[.val (.int x0), .val (.int (x0 &&& (65535 : Int32))), .val (.int ((x0 &&& (65535 : Int32)).toUInt32.toUInt16.toUInt32.toInt32)), .unset] [])) t
      refine XS.iconst X0.here hx rfl (hb hby at_44) ?_
      show Steps p.tables e below (s₁.setTop (mkF m 45 #[.val (.int x0), .val (.int (x0 &&& (65535 : Int32))), .val (.int ((x0 &&& (65535 : Int32)).toUInt32.toUInt16.toUInt32.toInt32)), .unset] [(.int (1 : Int32))])) t
      refine XS.goto X0.here hx rfl (pc0 := 45) (pc' := 49) rfl (hb hby at_45) (by decide) (by decide) ?_
      exact k
    · have q37 : ¬ (x0 &&& (65535 : Int32)).toInt = (9 : Int32).toInt := fun q => hc28 (Int32.toInt_inj.mp q)
      have K39 : ∀ t, Steps p.tables e below (s₁.setTop (mkF m 17 #[.val (.int x0), .val (.int (x0 &&& (65535 : Int32))), .val (.int ((x0 &&& (65535 : Int32)).toUInt32.toUInt16.toUInt32.toInt32)), .unset] [(.int (10 : Int32)), (.int (x0 &&& (65535 : Int32)))])) t → Steps p.tables e below (s₁.setTop (entryFrame m #[(.int x0)] maxLocals)) t := fun t k => K29 t (by
        show Steps p.tables e below (s₁.setTop (mkF m 11 #[.val (.int x0), .val (.int (x0 &&& (65535 : Int32))), .val (.int ((x0 &&& (65535 : Int32)).toUInt32.toUInt16.toUInt32.toInt32)), .unset] [(.int (9 : Int32)), (.int (x0 &&& (65535 : Int32)))])) t
        refine XS.icmpNo X0.here hx rfl (hb hby at_11) rfl (feq hc28).1 ?_
        show Steps p.tables e below (s₁.setTop (mkF m 14 #[.val (.int x0), .val (.int (x0 &&& (65535 : Int32))), .val (.int ((x0 &&& (65535 : Int32)).toUInt32.toUInt16.toUInt32.toInt32)), .unset] [])) t
        refine XS.iloadN X0.here hx rfl (hb hby at_14) rfl ?_
        show Steps p.tables e below (s₁.setTop (mkF m 15 #[.val (.int x0), .val (.int (x0 &&& (65535 : Int32))), .val (.int ((x0 &&& (65535 : Int32)).toUInt32.toUInt16.toUInt32.toInt32)), .unset] [(.int (x0 &&& (65535 : Int32)))])) t
        refine XS.bipush X0.here hx rfl (hb hby at_15) ?_
        exact k)
      have q40 := (by decide : (10 : Int32).toInt = 10)
      by_cases hc38 : (x0 &&& (65535 : Int32)) = (10 : Int32)
      · have q41 : (x0 &&& (65535 : Int32)).toInt = (10 : Int32).toInt := congrArg Int32.toInt hc38
        have q42 := (by decide : (1 : Int32).toInt = 1)
        refine ⟨(1 : Int32), by omega, fun t k => K39 t ?_⟩
        show Steps p.tables e below (s₁.setTop (mkF m 17 #[.val (.int x0), .val (.int (x0 &&& (65535 : Int32))), .val (.int ((x0 &&& (65535 : Int32)).toUInt32.toUInt16.toUInt32.toInt32)), .unset] [(.int (10 : Int32)), (.int (x0 &&& (65535 : Int32)))])) t
        refine XS.icmpYes X0.here hx rfl (pc0 := 17) (pc' := 44) rfl (hb hby at_17) rfl (teq hc38).1 (by decide) (by decide) ?_
        show Steps p.tables e below (s₁.setTop (mkF m 44 #[.val (.int x0), .val (.int (x0 &&& (65535 : Int32))), .val (.int ((x0 &&& (65535 : Int32)).toUInt32.toUInt16.toUInt32.toInt32)), .unset] [])) t
        refine XS.iconst X0.here hx rfl (hb hby at_44) ?_
        show Steps p.tables e below (s₁.setTop (mkF m 45 #[.val (.int x0), .val (.int (x0 &&& (65535 : Int32))), .val (.int ((x0 &&& (65535 : Int32)).toUInt32.toUInt16.toUInt32.toInt32)), .unset] [(.int (1 : Int32))])) t
        refine XS.goto X0.here hx rfl (pc0 := 45) (pc' := 49) rfl (hb hby at_45) (by decide) (by decide) ?_
        exact k
      · have q43 : ¬ (x0 &&& (65535 : Int32)).toInt = (10 : Int32).toInt := fun q => hc38 (Int32.toInt_inj.mp q)
        have K45 : ∀ t, Steps p.tables e below (s₁.setTop (mkF m 23 #[.val (.int x0), .val (.int (x0 &&& (65535 : Int32))), .val (.int ((x0 &&& (65535 : Int32)).toUInt32.toUInt16.toUInt32.toInt32)), .unset] [(.int (11 : Int32)), (.int (x0 &&& (65535 : Int32)))])) t → Steps p.tables e below (s₁.setTop (entryFrame m #[(.int x0)] maxLocals)) t := fun t k => K39 t (by
          show Steps p.tables e below (s₁.setTop (mkF m 17 #[.val (.int x0), .val (.int (x0 &&& (65535 : Int32))), .val (.int ((x0 &&& (65535 : Int32)).toUInt32.toUInt16.toUInt32.toInt32)), .unset] [(.int (10 : Int32)), (.int (x0 &&& (65535 : Int32)))])) t
          refine XS.icmpNo X0.here hx rfl (hb hby at_17) rfl (feq hc38).1 ?_
          show Steps p.tables e below (s₁.setTop (mkF m 20 #[.val (.int x0), .val (.int (x0 &&& (65535 : Int32))), .val (.int ((x0 &&& (65535 : Int32)).toUInt32.toUInt16.toUInt32.toInt32)), .unset] [])) t
          refine XS.iloadN X0.here hx rfl (hb hby at_20) rfl ?_
          show Steps p.tables e below (s₁.setTop (mkF m 21 #[.val (.int x0), .val (.int (x0 &&& (65535 : Int32))), .val (.int ((x0 &&& (65535 : Int32)).toUInt32.toUInt16.toUInt32.toInt32)), .unset] [(.int (x0 &&& (65535 : Int32)))])) t
          refine XS.bipush X0.here hx rfl (hb hby at_21) ?_
          exact k)
        have q46 := (by decide : (11 : Int32).toInt = 11)
        by_cases hc44 : (x0 &&& (65535 : Int32)) = (11 : Int32)
        · have q47 : (x0 &&& (65535 : Int32)).toInt = (11 : Int32).toInt := congrArg Int32.toInt hc44
          have q48 := (by decide : (1 : Int32).toInt = 1)
          refine ⟨(1 : Int32), by omega, fun t k => K45 t ?_⟩
          show Steps p.tables e below (s₁.setTop (mkF m 23 #[.val (.int x0), .val (.int (x0 &&& (65535 : Int32))), .val (.int ((x0 &&& (65535 : Int32)).toUInt32.toUInt16.toUInt32.toInt32)), .unset] [(.int (11 : Int32)), (.int (x0 &&& (65535 : Int32)))])) t
          refine XS.icmpYes X0.here hx rfl (pc0 := 23) (pc' := 44) rfl (hb hby at_23) rfl (teq hc44).1 (by decide) (by decide) ?_
          show Steps p.tables e below (s₁.setTop (mkF m 44 #[.val (.int x0), .val (.int (x0 &&& (65535 : Int32))), .val (.int ((x0 &&& (65535 : Int32)).toUInt32.toUInt16.toUInt32.toInt32)), .unset] [])) t
          refine XS.iconst X0.here hx rfl (hb hby at_44) ?_
          show Steps p.tables e below (s₁.setTop (mkF m 45 #[.val (.int x0), .val (.int (x0 &&& (65535 : Int32))), .val (.int ((x0 &&& (65535 : Int32)).toUInt32.toUInt16.toUInt32.toInt32)), .unset] [(.int (1 : Int32))])) t
          refine XS.goto X0.here hx rfl (pc0 := 45) (pc' := 49) rfl (hb hby at_45) (by decide) (by decide) ?_
          exact k
        · have q49 : ¬ (x0 &&& (65535 : Int32)).toInt = (11 : Int32).toInt := fun q => hc44 (Int32.toInt_inj.mp q)
          have K51 : ∀ t, Steps p.tables e below (s₁.setTop (mkF m 29 #[.val (.int x0), .val (.int (x0 &&& (65535 : Int32))), .val (.int ((x0 &&& (65535 : Int32)).toUInt32.toUInt16.toUInt32.toInt32)), .unset] [(.int (12 : Int32)), (.int (x0 &&& (65535 : Int32)))])) t → Steps p.tables e below (s₁.setTop (entryFrame m #[(.int x0)] maxLocals)) t := fun t k => K45 t (by
            show Steps p.tables e below (s₁.setTop (mkF m 23 #[.val (.int x0), .val (.int (x0 &&& (65535 : Int32))), .val (.int ((x0 &&& (65535 : Int32)).toUInt32.toUInt16.toUInt32.toInt32)), .unset] [(.int (11 : Int32)), (.int (x0 &&& (65535 : Int32)))])) t
            refine XS.icmpNo X0.here hx rfl (hb hby at_23) rfl (feq hc44).1 ?_
            show Steps p.tables e below (s₁.setTop (mkF m 26 #[.val (.int x0), .val (.int (x0 &&& (65535 : Int32))), .val (.int ((x0 &&& (65535 : Int32)).toUInt32.toUInt16.toUInt32.toInt32)), .unset] [])) t
            refine XS.iloadN X0.here hx rfl (hb hby at_26) rfl ?_
            show Steps p.tables e below (s₁.setTop (mkF m 27 #[.val (.int x0), .val (.int (x0 &&& (65535 : Int32))), .val (.int ((x0 &&& (65535 : Int32)).toUInt32.toUInt16.toUInt32.toInt32)), .unset] [(.int (x0 &&& (65535 : Int32)))])) t
            refine XS.bipush X0.here hx rfl (hb hby at_27) ?_
            exact k)
          have q52 := (by decide : (12 : Int32).toInt = 12)
          by_cases hc50 : (x0 &&& (65535 : Int32)) = (12 : Int32)
          · have q53 : (x0 &&& (65535 : Int32)).toInt = (12 : Int32).toInt := congrArg Int32.toInt hc50
            have q54 := (by decide : (1 : Int32).toInt = 1)
            refine ⟨(1 : Int32), by omega, fun t k => K51 t ?_⟩
            show Steps p.tables e below (s₁.setTop (mkF m 29 #[.val (.int x0), .val (.int (x0 &&& (65535 : Int32))), .val (.int ((x0 &&& (65535 : Int32)).toUInt32.toUInt16.toUInt32.toInt32)), .unset] [(.int (12 : Int32)), (.int (x0 &&& (65535 : Int32)))])) t
            refine XS.icmpYes X0.here hx rfl (pc0 := 29) (pc' := 44) rfl (hb hby at_29) rfl (teq hc50).1 (by decide) (by decide) ?_
            show Steps p.tables e below (s₁.setTop (mkF m 44 #[.val (.int x0), .val (.int (x0 &&& (65535 : Int32))), .val (.int ((x0 &&& (65535 : Int32)).toUInt32.toUInt16.toUInt32.toInt32)), .unset] [])) t
            refine XS.iconst X0.here hx rfl (hb hby at_44) ?_
            show Steps p.tables e below (s₁.setTop (mkF m 45 #[.val (.int x0), .val (.int (x0 &&& (65535 : Int32))), .val (.int ((x0 &&& (65535 : Int32)).toUInt32.toUInt16.toUInt32.toInt32)), .unset] [(.int (1 : Int32))])) t
            refine XS.goto X0.here hx rfl (pc0 := 45) (pc' := 49) rfl (hb hby at_45) (by decide) (by decide) ?_
            exact k
          · have q55 : ¬ (x0 &&& (65535 : Int32)).toInt = (12 : Int32).toInt := fun q => hc50 (Int32.toInt_inj.mp q)
            have K57 : ∀ t, Steps p.tables e below (s₁.setTop (mkF m 35 #[.val (.int x0), .val (.int (x0 &&& (65535 : Int32))), .val (.int ((x0 &&& (65535 : Int32)).toUInt32.toUInt16.toUInt32.toInt32)), .unset] [(.int (13 : Int32)), (.int (x0 &&& (65535 : Int32)))])) t → Steps p.tables e below (s₁.setTop (entryFrame m #[(.int x0)] maxLocals)) t := fun t k => K51 t (by
              show Steps p.tables e below (s₁.setTop (mkF m 29 #[.val (.int x0), .val (.int (x0 &&& (65535 : Int32))), .val (.int ((x0 &&& (65535 : Int32)).toUInt32.toUInt16.toUInt32.toInt32)), .unset] [(.int (12 : Int32)), (.int (x0 &&& (65535 : Int32)))])) t
              refine XS.icmpNo X0.here hx rfl (hb hby at_29) rfl (feq hc50).1 ?_
              show Steps p.tables e below (s₁.setTop (mkF m 32 #[.val (.int x0), .val (.int (x0 &&& (65535 : Int32))), .val (.int ((x0 &&& (65535 : Int32)).toUInt32.toUInt16.toUInt32.toInt32)), .unset] [])) t
              refine XS.iloadN X0.here hx rfl (hb hby at_32) rfl ?_
              show Steps p.tables e below (s₁.setTop (mkF m 33 #[.val (.int x0), .val (.int (x0 &&& (65535 : Int32))), .val (.int ((x0 &&& (65535 : Int32)).toUInt32.toUInt16.toUInt32.toInt32)), .unset] [(.int (x0 &&& (65535 : Int32)))])) t
              refine XS.bipush X0.here hx rfl (hb hby at_33) ?_
              exact k)
            have q58 := (by decide : (13 : Int32).toInt = 13)
            by_cases hc56 : (x0 &&& (65535 : Int32)) = (13 : Int32)
            · have q59 : (x0 &&& (65535 : Int32)).toInt = (13 : Int32).toInt := congrArg Int32.toInt hc56
              have q60 := (by decide : (1 : Int32).toInt = 1)
              refine ⟨(1 : Int32), by omega, fun t k => K57 t ?_⟩
              show Steps p.tables e below (s₁.setTop (mkF m 35 #[.val (.int x0), .val (.int (x0 &&& (65535 : Int32))), .val (.int ((x0 &&& (65535 : Int32)).toUInt32.toUInt16.toUInt32.toInt32)), .unset] [(.int (13 : Int32)), (.int (x0 &&& (65535 : Int32)))])) t
              refine XS.icmpYes X0.here hx rfl (pc0 := 35) (pc' := 44) rfl (hb hby at_35) rfl (teq hc56).1 (by decide) (by decide) ?_
              show Steps p.tables e below (s₁.setTop (mkF m 44 #[.val (.int x0), .val (.int (x0 &&& (65535 : Int32))), .val (.int ((x0 &&& (65535 : Int32)).toUInt32.toUInt16.toUInt32.toInt32)), .unset] [])) t
              refine XS.iconst X0.here hx rfl (hb hby at_44) ?_
              show Steps p.tables e below (s₁.setTop (mkF m 45 #[.val (.int x0), .val (.int (x0 &&& (65535 : Int32))), .val (.int ((x0 &&& (65535 : Int32)).toUInt32.toUInt16.toUInt32.toInt32)), .unset] [(.int (1 : Int32))])) t
              refine XS.goto X0.here hx rfl (pc0 := 45) (pc' := 49) rfl (hb hby at_45) (by decide) (by decide) ?_
              exact k
            · have q61 : ¬ (x0 &&& (65535 : Int32)).toInt = (13 : Int32).toInt := fun q => hc56 (Int32.toInt_inj.mp q)
              have K63 : ∀ t, Steps p.tables e below (s₁.setTop (mkF m 41 #[.val (.int x0), .val (.int (x0 &&& (65535 : Int32))), .val (.int ((x0 &&& (65535 : Int32)).toUInt32.toUInt16.toUInt32.toInt32)), .unset] [(.int (32 : Int32)), (.int (x0 &&& (65535 : Int32)))])) t → Steps p.tables e below (s₁.setTop (entryFrame m #[(.int x0)] maxLocals)) t := fun t k => K57 t (by
                show Steps p.tables e below (s₁.setTop (mkF m 35 #[.val (.int x0), .val (.int (x0 &&& (65535 : Int32))), .val (.int ((x0 &&& (65535 : Int32)).toUInt32.toUInt16.toUInt32.toInt32)), .unset] [(.int (13 : Int32)), (.int (x0 &&& (65535 : Int32)))])) t
                refine XS.icmpNo X0.here hx rfl (hb hby at_35) rfl (feq hc56).1 ?_
                show Steps p.tables e below (s₁.setTop (mkF m 38 #[.val (.int x0), .val (.int (x0 &&& (65535 : Int32))), .val (.int ((x0 &&& (65535 : Int32)).toUInt32.toUInt16.toUInt32.toInt32)), .unset] [])) t
                refine XS.iloadN X0.here hx rfl (hb hby at_38) rfl ?_
                show Steps p.tables e below (s₁.setTop (mkF m 39 #[.val (.int x0), .val (.int (x0 &&& (65535 : Int32))), .val (.int ((x0 &&& (65535 : Int32)).toUInt32.toUInt16.toUInt32.toInt32)), .unset] [(.int (x0 &&& (65535 : Int32)))])) t
                refine XS.bipush X0.here hx rfl (hb hby at_39) ?_
                exact k)
              have q64 := (by decide : (32 : Int32).toInt = 32)
              by_cases hc62 : (x0 &&& (65535 : Int32)) = (32 : Int32)
              · have q65 : (x0 &&& (65535 : Int32)).toInt = (32 : Int32).toInt := congrArg Int32.toInt hc62
                have q66 := (by decide : (1 : Int32).toInt = 1)
                refine ⟨(1 : Int32), by omega, fun t k => K63 t ?_⟩
                show Steps p.tables e below (s₁.setTop (mkF m 41 #[.val (.int x0), .val (.int (x0 &&& (65535 : Int32))), .val (.int ((x0 &&& (65535 : Int32)).toUInt32.toUInt16.toUInt32.toInt32)), .unset] [(.int (32 : Int32)), (.int (x0 &&& (65535 : Int32)))])) t
                refine XS.icmpNo X0.here hx rfl (hb hby at_41) rfl (teq hc62).2 ?_
                show Steps p.tables e below (s₁.setTop (mkF m 44 #[.val (.int x0), .val (.int (x0 &&& (65535 : Int32))), .val (.int ((x0 &&& (65535 : Int32)).toUInt32.toUInt16.toUInt32.toInt32)), .unset] [])) t
                refine XS.iconst X0.here hx rfl (hb hby at_44) ?_
                show Steps p.tables e below (s₁.setTop (mkF m 45 #[.val (.int x0), .val (.int (x0 &&& (65535 : Int32))), .val (.int ((x0 &&& (65535 : Int32)).toUInt32.toUInt16.toUInt32.toInt32)), .unset] [(.int (1 : Int32))])) t
                refine XS.goto X0.here hx rfl (pc0 := 45) (pc' := 49) rfl (hb hby at_45) (by decide) (by decide) ?_
                exact k
              · have q67 : ¬ (x0 &&& (65535 : Int32)).toInt = (32 : Int32).toInt := fun q => hc62 (Int32.toInt_inj.mp q)
                have q68 := (by decide : (0 : Int32).toInt = 0)
                refine ⟨(0 : Int32), by omega, fun t k => K63 t ?_⟩
                show Steps p.tables e below (s₁.setTop (mkF m 41 #[.val (.int x0), .val (.int (x0 &&& (65535 : Int32))), .val (.int ((x0 &&& (65535 : Int32)).toUInt32.toUInt16.toUInt32.toInt32)), .unset] [(.int (32 : Int32)), (.int (x0 &&& (65535 : Int32)))])) t
                refine XS.icmpYes X0.here hx rfl (pc0 := 41) (pc' := 48) rfl (hb hby at_41) rfl (feq hc62).2 (by decide) (by decide) ?_
                show Steps p.tables e below (s₁.setTop (mkF m 48 #[.val (.int x0), .val (.int (x0 &&& (65535 : Int32))), .val (.int ((x0 &&& (65535 : Int32)).toUInt32.toUInt16.toUInt32.toInt32)), .unset] [])) t
                refine XS.iconst X0.here hx rfl (hb hby at_48) ?_
                exact k
  have K69 : ∀ t, Steps p.tables e below (s₁.setTop (mkF m 51 #[.val (.int x0), .val (.int (x0 &&& (65535 : Int32))), .val (.int ((x0 &&& (65535 : Int32)).toUInt32.toUInt16.toUInt32.toInt32)), .val (.int ex_26)] [(.int ((x0 &&& (65535 : Int32)).toUInt32.toUInt16.toUInt32.toInt32))])) t → Steps p.tables e below (s₁.setTop (entryFrame m #[(.int x0)] maxLocals)) t := fun t k => K27 t (by
    show Steps p.tables e below (s₁.setTop (mkF m 49 #[.val (.int x0), .val (.int (x0 &&& (65535 : Int32))), .val (.int ((x0 &&& (65535 : Int32)).toUInt32.toUInt16.toUInt32.toInt32)), .unset] [(.int ex_26)])) t
    refine XS.istoreN X0.here hx rfl (hb hby at_49) rfl (l' := #[.val (.int x0), .val (.int (x0 &&& (65535 : Int32))), .val (.int ((x0 &&& (65535 : Int32)).toUInt32.toUInt16.toUInt32.toInt32)), .val (.int ex_26)]) rfl ?_
    show Steps p.tables e below (s₁.setTop (mkF m 50 #[.val (.int x0), .val (.int (x0 &&& (65535 : Int32))), .val (.int ((x0 &&& (65535 : Int32)).toUInt32.toUInt16.toUInt32.toInt32)), .val (.int ex_26)] [])) t
    refine XS.iloadN X0.here hx rfl (hb hby at_50) rfl ?_
    exact k)
  have q70 := rng32 x0
  have q71 := (by decide : (65535 : Int32).toInt = 65535)
  have q72 := (show (x0 &&& (65535 : Int32)).toInt = x0.toInt % 65536 from c_mask x0 (65535 : Int32) 16 (by decide) (by decide))
  have q73 := rng32 (x0 &&& (65535 : Int32))
  have q74 := c_i2c (x0 &&& (65535 : Int32))
  have q75 := rng32 ((x0 &&& (65535 : Int32)).toUInt32.toUInt16.toUInt32.toInt32)
  obtain ⟨_, _, ⟨T76, L76, kk76, nn76⟩, -, X76, ⟨Lc76, hQ76, l76, y76, z76⟩, st76⟩ := Jvm.LawKit.callS X0 hx (y := (⟨"com/example/restate/restate/Chars", "isWhiteSpace", "(C)Z"⟩ : MethodName)) hown (mvT hZ (hw _ (List.mem_of_getElem? (i := 1) rfl))) (mvT hZ (hw _ (List.mem_of_getElem? (i := 2) rfl))) (mvT hZ (hw _ (List.mem_of_getElem? (i := 3) rfl))) (mvT hZ (hw _ (List.mem_of_getElem? (i := 4) rfl))) (by decide) (backOf (W := 0) (rm1 l Z a0 hw [] ((x0 &&& (65535 : Int32)).toUInt32.toUInt16.toUInt32.toInt32) h0 n0 Z0) hZ (hw _ (List.mem_of_getElem? (i := 4) rfl)) (hw _ (List.mem_of_getElem? (i := 3) rfl)) (by decide) (by decide)) (g := (mkF m 51 #[.val (.int x0), .val (.int (x0 &&& (65535 : Int32))), .val (.int ((x0 &&& (65535 : Int32)).toUInt32.toUInt16.toUInt32.toInt32)), .val (.int ex_26)] [(.int ((x0 &&& (65535 : Int32)).toUInt32.toUInt16.toUInt32.toInt32))])) rfl (by rw [hml]; rfl) (argsL := [(.int ((x0 &&& (65535 : Int32)).toUInt32.toUInt16.toUInt32.toInt32))]) (rest := []) (lenOf own_pd0 rfl) rfl (by show 2 * 0 + _ ≤ _; exact Nat.le_of_eq rfl) (hb hby at_51) (fun _ _ => ⟨rfl, e0, (by decide : 0 + 0 ≤ _), (by decide : 0 + 0 ≤ _)⟩)
  dsimp only [Pt.U, Pt.locs, Pt.cells, Pt.slots] at X76 l76 y76 z76 st76 hQ76
  subst l76 y76 z76
  obtain ⟨r_76, rfl, Sp76, Nq76, eh76⟩ := hQ76
  have N77 := Fr.app N0 Nq76
  have K78 : ∀ t, Steps p.tables e below (T76.setTop (mkF m 54 #[.val (.int x0), .val (.int (x0 &&& (65535 : Int32))), .val (.int ((x0 &&& (65535 : Int32)).toUInt32.toUInt16.toUInt32.toInt32)), .val (.int ex_26)] [(.int r_76)])) t → Steps p.tables e below (s₁.setTop (entryFrame m #[(.int x0)] maxLocals)) t := fun t k => K69 t (st76 _ k)
  have q80 := rng32 r_76
  have q81 := rng32 ex_26
  have hc79 : r_76 = ex_26 := Int32.toInt_inj.mp (by omega)
  have q82 : r_76.toInt = ex_26.toInt := congrArg Int32.toInt hc79
  have K83 : ∀ t, Steps p.tables e below (T76.setTop (mkF m 63 #[.val (.int x0), .val (.int (x0 &&& (65535 : Int32))), .val (.int ((x0 &&& (65535 : Int32)).toUInt32.toUInt16.toUInt32.toInt32)), .val (.int ex_26)] [(.int (1 : Int32))])) t → Steps p.tables e below (s₁.setTop (entryFrame m #[(.int x0)] maxLocals)) t := fun t k => K78 t (by
    show Steps p.tables e below (T76.setTop (mkF m 54 #[.val (.int x0), .val (.int (x0 &&& (65535 : Int32))), .val (.int ((x0 &&& (65535 : Int32)).toUInt32.toUInt16.toUInt32.toInt32)), .val (.int ex_26)] [(.int r_76)])) t
    refine XS.iloadN X76.here hx rfl (hb hby at_54) rfl ?_
    show Steps p.tables e below (T76.setTop (mkF m 55 #[.val (.int x0), .val (.int (x0 &&& (65535 : Int32))), .val (.int ((x0 &&& (65535 : Int32)).toUInt32.toUInt16.toUInt32.toInt32)), .val (.int ex_26)] [(.int ex_26), (.int r_76)])) t
    refine XS.icmpNo X76.here hx rfl (hb hby at_55) rfl (teq hc79).2 ?_
    show Steps p.tables e below (T76.setTop (mkF m 58 #[.val (.int x0), .val (.int (x0 &&& (65535 : Int32))), .val (.int ((x0 &&& (65535 : Int32)).toUInt32.toUInt16.toUInt32.toInt32)), .val (.int ex_26)] [])) t
    refine XS.iconst X76.here hx rfl (hb hby at_58) ?_
    show Steps p.tables e below (T76.setTop (mkF m 59 #[.val (.int x0), .val (.int (x0 &&& (65535 : Int32))), .val (.int ((x0 &&& (65535 : Int32)).toUInt32.toUInt16.toUInt32.toInt32)), .val (.int ex_26)] [(.int (1 : Int32))])) t
    refine XS.goto X76.here hx rfl (pc0 := 59) (pc' := 63) rfl (hb hby at_59) (by decide) (by decide) ?_
    exact k)
  obtain ⟨fs, hr, hrun, hended, hW, hsame⟩ := X76.leave (v := some (.int (1 : Int32))) (fun h => by rw [Bd.returns] at h; cases h)
  refine ⟨_, _, K83 _ ?_, hrun, hended, _, _, rfl, ?_, ⟨_, rfl⟩, hW, hsame.mono (by decide) (by decide)⟩
  · exact retN X76 hx (t := .boolean) Bd.returns (by simp) (hb hby at_63) hr
  · show Q_rm0 Z x0 h0 n0 _ T76.heap _
    have q84 := (by decide : (1 : Int32).toInt = 1)
    rw [eh76]
    exact ⟨rfl, (by trivial), N77, rfl⟩
set_option maxRecDepth 65536 in
set_option maxHeartbeats 40000000 in
theorem comes_1 {Post : Tables → Env → Array Value → State → Outcome → State → Prop} (hpost : ∀ tb e args s v u, (limb_1_1.after args s (.returned v) u = true ∧ limb_1_2.after args s (.returned v) u = true ∧ True) → FrameEnd s (.returned v) u (Jvm.fieldLocs frame_1_writes args s ++ Jvm.arrayLocs frame_1_arrays args s ++ Jvm.staticLocs frame_1_statics s) 0 0 → Post tb e args s (.returned v) u) :
    ArmFor flags0 classFile x code maxLocals ret World_1 tables_1 room_1 Calls_1 rest_1 Pre_1 Post := by
  intro l hfl _ _ p e ha hc hk s m args below hf hA hF happ hP
  obtain ⟨hcalls, hrest, hpre⟩ := hP
  obtain ⟨-, -, -, hnamed, -, -, -, hat⟩ := (Spec.applies_iff hf).mp happ
  obtain ⟨hg, hn⟩ := and_e (Cond.before_iff.mp (show (Jvm.Cond.and given_1 narrow_1).before args s = true from hpre))
  obtain ⟨gg1, gg2⟩ := and_e hg
  obtain ⟨w0, rfl⟩ : ∃ w0 : Value, args = #[w0] := by
    have hs : args.size = 1 := by simpa [Cond.value, given_1] using gg1
    obtain ⟨L⟩ := args
    match L, hs with
    | [w0], _ => exact ⟨w0, rfl⟩
  have hw := fun d (hd : d ∈ tables_1) => atoms_spec (ws := Jvm.Cond.code x code maxLocals ret :: tables_1) hat d (List.mem_cons_of_mem _ hd)
  obtain ⟨i0, ei0⟩ := is_v gg2
  obtain rfl : w0 = (.int i0) := Option.some.inj ei0
  obtain ⟨n, o, h1, h2, h3, _, L, rfl, ⟨rfl, -, N, -⟩, hq⟩ := rm0 l s _ hw tables_1 i0 s.heap s.heap.size (Nat.le_refl _) p e ha hc hk s m _ below hf ((Spec.applies_iff_loose hf).mp happ).1 ⟨rfl, State.Warmed39.refl s, rfl⟩ trivial
  refine ⟨n, _, h1, h2, h3, hpost _ _ _ _ _ _ ⟨Cond.after_iff.mpr rfl, Cond.after_iff.mpr (eq_i res_at (Term.int_eval (1)) rfl), trivial⟩ ⟨hq.1, hq.2.1, (hq.2.2.sift fun y hy => Or.inr (N y hy)).mono (by decide) (by decide)⟩⟩
theorem main_1_1 : Claimed_1_1 := comes_1 fun _ _ _ _ _ _ h hF => ⟨h.1, hF⟩
theorem main_1_2 : Claimed_1_2 := comes_1 fun _ _ _ _ _ _ h hF => ⟨h.2.1, hF⟩
end Jvm.Pilot.@@N@@
namespace Jvm.Pilot.@@N@@
open Jvm Jvm.ClassFile Sem Op Lib Jvm.Free Jvm.Stand Jvm.Pilot.@@N@@.Jvm.D
/-! MADE BY PROGRAM (witnessworld.py) out of the Statement's table words and the real class files: 7 classes; the members and pool entries that the words name. The judged class is class 1, her method 1. -/
namespace start1
open Jvm.ClassFile
def u (s : String) : CpInfo := .utf8 (stringToUtf16 s)
/-- a pool by its gaps: so many unusable entries, then the entry; so many at the end -/
def gap : Nat → List CpInfo → List CpInfo
  | 0, r => r
  | n + 1, r => .unusable :: gap n r
def poolList (es : List (Nat × CpInfo)) (last : Nat) : List CpInfo := es.foldr (fun e r => gap e.1 (e.2 :: r)) (gap last [])
def pool (es : List (Nat × CpInfo)) (last : Nat) : Array CpInfo := ⟨poolList es last⟩
def fileOf (pool : Array CpInfo) (this : Nat) (attrs : Array Attribute := #[]) (ms : Array MethodInfo := #[]) (fl : Nat := 33) (sup : Nat := 0) (ifs : Array Nat := #[]) (fds : Array FieldInfo := #[]) : ClassFile where
  minorVersion := 0
  majorVersion := 65
  constantPool := pool
  accessFlags := fl
  thisClass := this
  superClass := sup
  interfaces := ifs
  fields := fds
  methods := ms
  attributes := attrs
def plain (name : String) (sup : Option ClassId) : Class where
  name := name
  kind := .ordinary
  loader := none
  accessFlags := 33
  super := sup
  interfaces := #[]
  cf := none
  fields := #[]
  methods := #[]
  instanceTypes := #[]
  staticTypes := #[]
  resolved := #[]
  callSites := []
  init := .initialized
  statics := none
  mirror := none

def pool0 : Array CpInfo := pool [(5, u "<init>"), (0, u "()V"), (1, .class_ 10), (1, u "java/lang/Object")] 113

def k0m0 : Method := { name := "<init>", desc := "()V", sig := { parameters := [], returnType := none }, accessFlags := 1, code := none }
/-- java/lang/Object -/
def k0 : Class := { plain "java/lang/Object" none with
  accessFlags := 33
  interfaces := #[]
  cf := some (fileOf pool0 8 #[] #[{ accessFlags := 1, nameIndex := 5, descriptorIndex := 6, attributes := #[] }] 33 0 #[] #[])
  fields := #[]
  methods := #[k0m0]
  instanceTypes := #[]
  staticTypes := #[]
  resolved := Array.replicate 124 none
  statics := none }

def pool1 : Array CpInfo := pool [(2, .class_ 4), (1, u "java/lang/Object"), (0, u "<init>"), (0, u "()V"), (0, .integer 65535), (0, .methodref 9 10), (0, .class_ 11), (0, .nameAndType 12 13), (0, u "com/example/restate/restate/Chars"), (0, u "isWhiteSpace"), (0, u "(C)Z"), (0, .class_ 15), (0, u "com/example/restate/restate/CharsIsWhiteSpacePinLaw"), (2, u "law"), (0, u "(I)Z")] 3

def k1m0 : Method := { name := "<init>", desc := "()V", sig := { parameters := [], returnType := none }, accessFlags := 2, code := none }
def k1c1 : Code := { maxStack := 2, maxLocals := 4, code := code, exceptionTable := #[], attributes := #[] }
def k1m1 : Method := { name := "law", desc := "(I)Z", sig := { parameters := [.int], returnType := some .boolean }, accessFlags := 9, code := some k1c1 }
/-- com/example/restate/restate/CharsIsWhiteSpacePinLaw -/
def k1 : Class := { plain "com/example/restate/restate/CharsIsWhiteSpacePinLaw" (some 0) with
  accessFlags := 49
  interfaces := #[]
  cf := some (fileOf pool1 14 #[] #[{ accessFlags := 2, nameIndex := 5, descriptorIndex := 6, attributes := #[] }, { accessFlags := 9, nameIndex := 18, descriptorIndex := 19, attributes := #[] }] 49 2 #[] #[])
  fields := #[]
  methods := #[k1m0, k1m1]
  instanceTypes := #[]
  staticTypes := #[]
  resolved := Array.replicate 23 none
  statics := none }

def pool2 : Array CpInfo := pool [(2, .class_ 4), (1, u "java/lang/Object"), (0, u "<init>"), (0, u "()V"), (11, .class_ 20), (1, u "com/example/restate/restate/Chars"), (8, u "isWhiteSpace"), (0, u "(C)Z")] 72

def k2m0 : Method := { name := "<init>", desc := "()V", sig := { parameters := [], returnType := none }, accessFlags := 2, code := none }
def k2c1 : Code := { maxStack := 2, maxLocals := 1, code := prog_8_method_2_code, exceptionTable := #[], attributes := #[] }
def k2m1 : Method := { name := "isWhiteSpace", desc := "(C)Z", sig := { parameters := [.char], returnType := some .boolean }, accessFlags := 8, code := some k2c1 }
/-- com/example/restate/restate/Chars -/
def k2 : Class := { plain "com/example/restate/restate/Chars" (some 0) with
  accessFlags := 48
  interfaces := #[]
  cf := some (fileOf pool2 18 #[] #[{ accessFlags := 2, nameIndex := 5, descriptorIndex := 6, attributes := #[] }, { accessFlags := 8, nameIndex := 29, descriptorIndex := 30, attributes := #[] }] 48 2 #[] #[])
  fields := #[]
  methods := #[k2m0, k2m1]
  instanceTypes := #[]
  staticTypes := #[]
  resolved := Array.replicate 103 none
  statics := none }

def pool3 : Array CpInfo := pool [(1, u "java/lang/Cloneable"), (0, .class_ 1), (0, u "java/lang/Object"), (0, .class_ 3)] 3

/-- java/lang/Cloneable -/
def k3 : Class := { plain "java/lang/Cloneable" (some 0) with
  accessFlags := 1537
  interfaces := #[]
  cf := some (fileOf pool3 2 #[] #[] 1537 4 #[] #[])
  fields := #[]
  methods := #[]
  instanceTypes := #[]
  staticTypes := #[]
  resolved := Array.replicate 8 none
  statics := none }

def pool4 : Array CpInfo := pool [(1, u "java/io/Serializable"), (0, .class_ 1), (0, u "java/lang/Object"), (0, .class_ 3)] 3

/-- java/io/Serializable -/
def k4 : Class := { plain "java/io/Serializable" (some 0) with
  accessFlags := 1537
  interfaces := #[]
  cf := some (fileOf pool4 2 #[] #[] 1537 4 #[] #[])
  fields := #[]
  methods := #[]
  instanceTypes := #[]
  staticTypes := #[]
  resolved := Array.replicate 8 none
  statics := none }

/-- the primitive byte -/
def k5 : Class := { plain "byte" none with kind := .primitive 'B', accessFlags := 0x411 }
/-- [B -/
def k6 : Class := { plain "[B" (some 0) with kind := .array 5 .byte, interfaces := #[3, 4], accessFlags := 1041 }

def heap : Heap := #[]
def classes : Array Class := #[k0, k1, k2, k3, k4, k5, k6]
def interned : List (Array UInt16 × Addr) := []
def slotsUsed : Nat := 0
def theMethod : MethodId := ⟨1, 1⟩
def args0 : Array Value := #[.int 9]
def aboutOver (below : List Frame) : State where
  vm := { classes := classes, interned := interned.toArray }
  heap := heap
  slotsUsed := slotsUsed
  threads := #[{ frames := .invoking theMethod args0 :: below }]
def below0 : List Frame := [.native { method := ⟨0, 0⟩, args := #[] }]
def about1 : State := aboutOver below0
def p0 : Program := .bare "" "" ""
def e0 : Env := launch0.env 0 0 0
theorem w_frames : about1.frames = Frame.invoking theMethod args0 :: below0 := rfl
set_option maxRecDepth 65536 in
theorem w_args : argsFit about1.vm theMethod args0 = true := by decide +kernel
set_option maxRecDepth 65536 in
theorem w_heap : heapFits about1 = true := by decide +kernel
set_option maxRecDepth 65536 in
theorem w_runnable : about1.curStatus? = some .runnable := by decide +kernel
set_option maxRecDepth 65536 in
theorem w_alone : about1.alone = true := by decide +kernel
set_option maxRecDepth 65536 in
theorem w_named : about1.methodNamed? x = some theMethod := by decide +kernel
set_option maxRecDepth 65536 in
theorem w_hears : about1.hears theMethod below0 = true := by decide +kernel
set_option maxRecDepth 65536 in
theorem w_ripe : about1.ripe theMethod args0 below0 = true := by decide +kernel
theorem w_running : about1.status = .running := rfl
set_option maxRecDepth 65536 in
theorem w_room : about1.hasRoom e0.platform room_1 = true :=
  launch0.hasRoom_least _ room_1 (by decide +kernel) (by decide +kernel) (by decide +kernel) (by decide +kernel) (by decide +kernel) (by decide +kernel)
theorem allAtoms_all (ts : List Jvm.Cond) (a : Array Jvm.Value) (st : Jvm.State) : (allAtoms ts).before a st = ts.all (fun c => c.before a st) := by
  induction ts with
  | nil => rfl
  | cons c t ih =>
    show (Jvm.Cond.and c (allAtoms t)).before a st = _
    rw [Jvm.Cond.before_and, ih, List.all_cons]
def words1 : List Jvm.Cond := Jvm.Cond.code x code maxLocals ret :: tables_1
/-- a 'code' word, met by the world's own term for the bytes: nothing is compared byte by byte -/
theorem code_word {y : MethodName} {bytes : ByteArray} {mx : Nat} {rt : Option FieldType} {a : Array Value} {s : State} {m : MethodId} {meth : Method} {c : Code} (h1 : s.methodNamed? y = some m) (h2 : s.vm.method? m = some meth) (h3 : meth.code = some c) (h4 : c.code = bytes)
    (h5 : (c.maxLocals == mx && c.exceptionTable.isEmpty && decide (c.maxStack ≤ mostOperands) && decide (meth.sig.returnType = rt) && !meth.locks && decide (parseMethodDescriptor y.desc = some meth.sig)) = true) : (Jvm.Cond.code y bytes mx rt).before a s = true := by
  simp only [Bool.and_eq_true, beq_iff_eq, Bool.not_eq_true', decide_eq_true_eq] at h5
  obtain ⟨⟨⟨⟨⟨g1, g2⟩, g3⟩, g4⟩, g5⟩, g6⟩ := h5
  simp [Cond.before, Cond.holds, Cond.value, h1, h2, h3, h4, g1, g2, g3, g4, g5, g6]
def isCode : Jvm.Cond → Bool
  | .code _ _ _ _ => true
  | _ => false
theorem all_split {L : List Jvm.Cond} {P : Jvm.Cond → Bool} (h1 : L.all (fun c => isCode c || P c) = true) (h2 : ∀ c ∈ L.filter isCode, P c = true) : L.all P = true := by
  refine List.all_eq_true.mpr fun c hc => ?_
  have h := List.all_eq_true.mp h1 c hc
  rcases Bool.eq_false_or_eq_true (isCode c) with hi | hi
  · exact h2 c (List.mem_filter.mpr ⟨hc, hi⟩)
  · simpa [hi] using h
set_option maxRecDepth 65536 in
theorem w_c0 : (Jvm.Cond.code x code maxLocals ret).before args0 about1 = true := code_word (m := ⟨1, 1⟩) (meth := k1m1) (c := k1c1) (by decide +kernel) rfl rfl rfl (by decide +kernel)
set_option maxRecDepth 65536 in
theorem w_c1 : (Jvm.Cond.code ({ cls := "com/example/restate/restate/Chars", name := "isWhiteSpace", desc := "(C)Z" } : Jvm.MethodName) prog_8_method_2_code (1 : Nat) (Option.some Jvm.ClassFile.FieldType.boolean)).before args0 about1 = true := code_word (m := ⟨2, 1⟩) (meth := k2m1) (c := k2c1) (by decide +kernel) rfl rfl rfl (by decide +kernel)
def codes1 : List Jvm.Cond := [Jvm.Cond.code x code maxLocals ret, Jvm.Cond.code ({ cls := "com/example/restate/restate/Chars", name := "isWhiteSpace", desc := "(C)Z" } : Jvm.MethodName) prog_8_method_2_code (1 : Nat) (Option.some Jvm.ClassFile.FieldType.boolean)]
set_option maxRecDepth 65536 in
theorem codes_eq : words1.filter isCode = codes1 := rfl
theorem w_codes : ∀ c ∈ words1.filter isCode, c.before args0 about1 = true := by
  rw [codes_eq]
  intro c hc
  simp only [codes1, List.mem_cons, List.not_mem_nil, or_false] at hc
  rcases hc with rfl | rfl
  · exact w_c0
  · exact w_c1
set_option maxRecDepth 65536 in
theorem w_t1 : words1.all (fun c => isCode c || c.before args0 about1) = true := by decide +kernel
theorem w_tables : (allAtoms (Jvm.Cond.code x code maxLocals ret :: tables_1)).before args0 about1 = true := by
  rw [allAtoms_all]
  show words1.all (fun c => c.before args0 about1) = true
  refine all_split ?_ w_codes
  rw [w_t1]
set_option maxRecDepth 65536 in
theorem w_case : (Jvm.Cond.and given_1 narrow_1).before args0 about1 = true := by decide +kernel
theorem w_applies : (headSpec (Jvm.Cond.code x code maxLocals ret :: tables_1) room_1).applies x e0.platform about1 = true :=
  (Spec.applies_iff w_frames).mpr ⟨w_running, w_runnable, w_alone, w_named, w_hears, w_ripe, w_room, w_tables⟩
theorem atStart : AtStart classFile x code maxLocals ret World_1 tables_1 room_1 Calls_1 rest_1 Pre_1 launch0 p0 e0 about1 theMethod args0 below0 :=
  ⟨lists_1, trivial, launch0.admits_env _ _ _, launch0.least_env, fairChoices_fair.cas, fairChoices_fair.clock, w_frames, w_args, w_heap, w_applies, trivial, trivial, w_case⟩
end start1
theorem witness_1 : WitnessClaimed_1 := ⟨start1.p0, start1.e0, start1.about1, start1.theMethod, start1.args0, start1.below0, start1.atStart⟩
end Jvm.Pilot.@@N@@
