import JvmDerived
import JvmDerived.Pilot.@@N@@Statement
import JvmDerived.Pilot.@@N@@Code
set_option linter.unusedVariables false
set_option linter.unusedSimpArgs false
namespace Jvm.RoadKit
open Sem ClassFile Op Lib Jvm.Stand Jvm.Free Jvm.LawKit
section New
variable {p : Program} {l : Launch} {e : Env} {R : Room} {s : State} {m : MethodId} {args : Array Value} {below : List Frame} {meth : Method} {c : Code} {T : State} {locs : List Loc} {cells slots : Nat}
theorem retI (X : Stand p l e R s m args below meth c T locs cells slots) (hx : p.tables.exec = Jvm.exec) {pc : Nat} {Ls : Array Slot} {z : Int32} {rest : List Value} (hret : meth.sig.returnType = some .int) (hd : decode c.code pc = .ok (.ireturn, 1)) {fs : List Frame}
    (hl : ∀ (f : JFrame) (acts : List Action), f.method = m → f.locked = none → f.entered = [] → (doReturn e (T.setTop f) acts (some (.int z))).1 = T.setFrames fs) : Steps p.tables e below (T.setTop (mkF m pc Ls (.int z :: rest))) (T.setFrames fs) := by
  have hm' : T.vm.method? m = some meth := X.method'
  have hn : narrow .int (.int z) = .int z := rfl
  show Steps p.tables e below (T.setTop { method := m, pc := pc, locals := Ls, stack := _ :: rest, locked := none }) _
  jvm_step X.here [X.here.top, hx, hd, hm', hret, hn]
  first | (intro acts; rw [hl _ acts rfl rfl rfl]) | rw [hl _ _ rfl rfl rfl]
  exact Steps.refl _
end New
end Jvm.RoadKit
namespace Jvm.Pilot.@@N@@
open Jvm Jvm.ClassFile Sem Op Lib Jvm.Free Jvm.Stand Jvm.LawKit Jvm.RoadKit Bundle Jvm.Pilot.@@N@@.Jvm.D
theorem own_d1_0 : decode prog_24_method_11_code 0 = .ok (.iload_n 0, 1) := by decide +kernel
theorem own_d1_1 : decode prog_24_method_11_code 1 = .ok (.bipush 48, 2) := by decide +kernel
theorem own_d1_3 : decode prog_24_method_11_code 3 = .ok (.if_icmp .lt 13, 3) := by decide +kernel
theorem own_d1_6 : decode prog_24_method_11_code 6 = .ok (.iload_n 0, 1) := by decide +kernel
theorem own_d1_7 : decode prog_24_method_11_code 7 = .ok (.bipush 57, 2) := by decide +kernel
theorem own_d1_9 : decode prog_24_method_11_code 9 = .ok (.if_icmp .gt 7, 3) := by decide +kernel
theorem own_d1_12 : decode prog_24_method_11_code 12 = .ok (.iconst 1, 1) := by decide +kernel
theorem own_d1_13 : decode prog_24_method_11_code 13 = .ok (.goto 4, 3) := by decide +kernel
theorem own_d1_16 : decode prog_24_method_11_code 16 = .ok (.iconst 0, 1) := by decide +kernel
theorem own_d1_17 : decode prog_24_method_11_code 17 = .ok (.ireturn, 1) := by decide +kernel
theorem own_pn0 : plainName "com/example/covary/covary/url/Url" = true := by first | (simp [plainName, overriddenIn]; done) | decide +kernel
def Q_rm1 (Z : State) (pa : Int32) (h0 : Heap) (n0 : Nat) (v : Option Value) (h : Heap) (L : List Loc) : Prop := ∃ r : Int32, v = some (.int r) ∧ ((r.toInt = 1 ∧ (48 ≤ pa.toInt ∧ pa.toInt ≤ 57)) ∨ (r.toInt = 0 ∧ ¬ (48 ≤ pa.toInt ∧ pa.toInt ≤ 57))) ∧ Fr n0 L ∧ h = h0
theorem own_ef_rm1 (m : MethodId) (pa : Int32) : entryFrame m #[(.int pa)] 1 = mkF m 0 #[.val (.int pa)] [] := by first | (simp [entryFrame, mkF, argsToLocals, Value.category]; done) | rfl
set_option maxRecDepth 65536 in
set_option maxHeartbeats 40000000 in
theorem rm1 (l : Launch) (Z : State) (a0 : Array Value) (hw : ∀ d ∈ tables_1, d.before a0 Z = true) (ws : List Jvm.Cond) (pa : Int32) (h0 : Heap) (n0 : Nat) (Z0 : n0 ≤ h0.size) :
    MetFree l (⟨"com/example/covary/covary/url/Url", "isAsciiDigit", "(I)Z"⟩ : MethodName) (head1 (Jvm.Cond.code (⟨"com/example/covary/covary/url/Url", "isAsciiDigit", "(I)Z"⟩ : MethodName) prog_24_method_11_code 1 (some .boolean) :: ws) ({ frames := 0, cells := 0, slots := 0, locals := 0 } : Room)) (fun a U => a = #[(.int pa)] ∧ Z.Warmed39 U.vm ∧ U.heap = h0) (fun _ _ _ _ _ => True) (fun _ U o U' => ∃ v L, o = .returned v ∧ Q_rm1 Z pa h0 n0 v U'.heap L ∧ FrameEnd U o U' L ({ frames := 0, cells := 0, slots := 0, locals := 0 } : Room).cells ({ frames := 0, cells := 0, slots := 0, locals := 0 } : Room).slots) := by
  refine MetFree.of_bodySF (plainFor_of_name own_pn0) hisR ?_
  intro p e s m args below meth c s₁ Bd hml0 hP hK
  obtain ⟨rfl, hZ, hh⟩ := hP
  have hx := Bd.exec
  have hby := Bd.bytes
  have hml : c.maxLocals = 1 := hml0
  have hown : s.vm.findClass "com/example/covary/covary/url/Url" = some m.cls := findClass_of_methodNamed Bd.named
  have hnm := (name_of_methodNamed Bd.named Bd.method).1
  have X0 : Stand p l e ({ frames := 0, cells := 0, slots := 0, locals := 0 } : Room) s m #[(.int pa)] below meth c s₁ [] 0 0 := Stand.of_body Bd
  have e0 : s₁.heap = h0 := by rw [← hh, Bd.state]; rfl
  have N0 := Fr.nil n0
  have pre0 : ∀ t, Steps p.tables e below (s₁.setTop (mkF m 0 #[.val (.int pa)] [])) t → Steps p.tables e below (s₁.setTop (entryFrame m #[(.int pa)] 1)) t := fun t k => castTop (own_ef_rm1 m pa) k
  have K2 : ∀ t, Steps p.tables e below (s₁.setTop (mkF m 3 #[.val (.int pa)] [(.int (48 : Int32)), (.int pa)])) t → Steps p.tables e below (s₁.setTop (entryFrame m #[(.int pa)] 1)) t := fun t k => pre0 t (by
    show Steps p.tables e below (s₁.setTop (mkF m 0 #[.val (.int pa)] [])) t
    refine XS.iloadN X0.here hx rfl (hb hby own_d1_0) rfl ?_
    show Steps p.tables e below (s₁.setTop (mkF m 1 #[.val (.int pa)] [(.int pa)])) t
    refine XS.bipush X0.here hx rfl (hb hby own_d1_1) ?_
    exact k)
  have q3 := rng32 pa
  have q4 := (by decide : (48 : Int32).toInt = 48)
  by_cases hc1 : pa < (48 : Int32)
  · have q5 : pa.toInt < (48 : Int32).toInt := Int32.lt_iff_toInt_lt.mp hc1
    have K6 : ∀ t, Steps p.tables e below (s₁.setTop (mkF m 17 #[.val (.int pa)] [(.int (0 : Int32))])) t → Steps p.tables e below (s₁.setTop (entryFrame m #[(.int pa)] 1)) t := fun t k => K2 t (by
      show Steps p.tables e below (s₁.setTop (mkF m 3 #[.val (.int pa)] [(.int (48 : Int32)), (.int pa)])) t
      refine XS.icmpYes X0.here hx rfl (pc0 := 3) (pc' := 16) rfl (hb hby own_d1_3) rfl (tlt hc1).1 (by decide) (by decide) ?_
      show Steps p.tables e below (s₁.setTop (mkF m 16 #[.val (.int pa)] [])) t
      refine XS.iconst X0.here hx rfl (hb hby own_d1_16) ?_
      exact k)
    obtain ⟨fs, hr, hrun, hended, hW, hsame⟩ := X0.leave (v := some (.int (0 : Int32))) (fun h => by rw [Bd.returns] at h; cases h)
    refine ⟨_, _, K6 _ ?_, hrun, hended, _, _, rfl, ?_, ⟨_, rfl⟩, hW, hsame.mono (by decide) (by decide)⟩
    · exact retN X0 hx (t := .boolean) Bd.returns (by simp) (hb hby own_d1_17) hr
    · show Q_rm1 Z pa h0 n0 _ s₁.heap _
      have q7 := (by decide : (0 : Int32).toInt = 0)
      rw [e0]
      exact ⟨(0 : Int32), rfl, (by omega), N0, rfl⟩
  · have q8 : ¬ pa.toInt < (48 : Int32).toInt := fun q => hc1 (Int32.lt_iff_toInt_lt.mpr q)
    have K10 : ∀ t, Steps p.tables e below (s₁.setTop (mkF m 9 #[.val (.int pa)] [(.int (57 : Int32)), (.int pa)])) t → Steps p.tables e below (s₁.setTop (entryFrame m #[(.int pa)] 1)) t := fun t k => K2 t (by
      show Steps p.tables e below (s₁.setTop (mkF m 3 #[.val (.int pa)] [(.int (48 : Int32)), (.int pa)])) t
      refine XS.icmpNo X0.here hx rfl (hb hby own_d1_3) rfl (flt hc1).1 ?_
      show Steps p.tables e below (s₁.setTop (mkF m 6 #[.val (.int pa)] [])) t
      refine XS.iloadN X0.here hx rfl (hb hby own_d1_6) rfl ?_
      show Steps p.tables e below (s₁.setTop (mkF m 7 #[.val (.int pa)] [(.int pa)])) t
      refine XS.bipush X0.here hx rfl (hb hby own_d1_7) ?_
      exact k)
    have q11 := (by decide : (57 : Int32).toInt = 57)
    by_cases hc9 : (57 : Int32) < pa
    · have q12 : (57 : Int32).toInt < pa.toInt := Int32.lt_iff_toInt_lt.mp hc9
      have K13 : ∀ t, Steps p.tables e below (s₁.setTop (mkF m 17 #[.val (.int pa)] [(.int (0 : Int32))])) t → Steps p.tables e below (s₁.setTop (entryFrame m #[(.int pa)] 1)) t := fun t k => K10 t (by
        show Steps p.tables e below (s₁.setTop (mkF m 9 #[.val (.int pa)] [(.int (57 : Int32)), (.int pa)])) t
        refine XS.icmpYes X0.here hx rfl (pc0 := 9) (pc' := 16) rfl (hb hby own_d1_9) rfl (tlt hc9).2.2.1 (by decide) (by decide) ?_
        show Steps p.tables e below (s₁.setTop (mkF m 16 #[.val (.int pa)] [])) t
        refine XS.iconst X0.here hx rfl (hb hby own_d1_16) ?_
        exact k)
      obtain ⟨fs, hr, hrun, hended, hW, hsame⟩ := X0.leave (v := some (.int (0 : Int32))) (fun h => by rw [Bd.returns] at h; cases h)
      refine ⟨_, _, K13 _ ?_, hrun, hended, _, _, rfl, ?_, ⟨_, rfl⟩, hW, hsame.mono (by decide) (by decide)⟩
      · exact retN X0 hx (t := .boolean) Bd.returns (by simp) (hb hby own_d1_17) hr
      · show Q_rm1 Z pa h0 n0 _ s₁.heap _
        have q14 := (by decide : (0 : Int32).toInt = 0)
        rw [e0]
        exact ⟨(0 : Int32), rfl, (by omega), N0, rfl⟩
    · have q15 : ¬ (57 : Int32).toInt < pa.toInt := fun q => hc9 (Int32.lt_iff_toInt_lt.mpr q)
      have K16 : ∀ t, Steps p.tables e below (s₁.setTop (mkF m 17 #[.val (.int pa)] [(.int (1 : Int32))])) t → Steps p.tables e below (s₁.setTop (entryFrame m #[(.int pa)] 1)) t := fun t k => K10 t (by
        show Steps p.tables e below (s₁.setTop (mkF m 9 #[.val (.int pa)] [(.int (57 : Int32)), (.int pa)])) t
        refine XS.icmpNo X0.here hx rfl (hb hby own_d1_9) rfl (flt hc9).2.2.1 ?_
        show Steps p.tables e below (s₁.setTop (mkF m 12 #[.val (.int pa)] [])) t
        refine XS.iconst X0.here hx rfl (hb hby own_d1_12) ?_
        show Steps p.tables e below (s₁.setTop (mkF m 13 #[.val (.int pa)] [(.int (1 : Int32))])) t
        refine XS.goto X0.here hx rfl (pc0 := 13) (pc' := 17) rfl (hb hby own_d1_13) (by decide) (by decide) ?_
        exact k)
      obtain ⟨fs, hr, hrun, hended, hW, hsame⟩ := X0.leave (v := some (.int (1 : Int32))) (fun h => by rw [Bd.returns] at h; cases h)
      refine ⟨_, _, K16 _ ?_, hrun, hended, _, _, rfl, ?_, ⟨_, rfl⟩, hW, hsame.mono (by decide) (by decide)⟩
      · exact retN X0 hx (t := .boolean) Bd.returns (by simp) (hb hby own_d1_17) hr
      · show Q_rm1 Z pa h0 n0 _ s₁.heap _
        have q17 := (by decide : (1 : Int32).toInt = 1)
        rw [e0]
        exact ⟨(1 : Int32), rfl, (by omega), N0, rfl⟩
theorem own_pn1 : plainName "com/example/covary/covary/url/UrlIsAsciiDigitPinLaw" = true := by first | (simp [plainName, overriddenIn]; done) | decide +kernel
theorem own_pd0 : parseMethodDescriptor "(I)Z" = some ⟨[.int], some .boolean⟩ := by decide +kernel
def Q_rm0 (Z : State) (x0 : Int32) (x1 : Int32) (h0 : Heap) (n0 : Nat) (v : Option Value) (h : Heap) (L : List Loc) : Prop := v = some (.int (1 : Int32)) ∧ (True) ∧ Fr n0 L ∧ h = h0
theorem own_ef_rm0 (m : MethodId) (x0 : Int32) (x1 : Int32) : entryFrame m #[(.int x0), (.int x1)] maxLocals = mkF m 0 #[.val (.int x0), .val (.int x1), .unset, .unset, .unset, .unset, .unset, .unset, .unset, .unset, .unset] [] := by first | (simp [entryFrame, mkF, argsToLocals, Value.category, maxLocals]; done) | rfl
set_option maxRecDepth 65536 in
set_option maxHeartbeats 40000000 in
theorem rm0 (l : Launch) (Z : State) (a0 : Array Value) (hw : ∀ d ∈ tables_1, d.before a0 Z = true) (ws : List Jvm.Cond) (x0 : Int32) (x1 : Int32) (h0 : Heap) (n0 : Nat) (Z0 : n0 ≤ h0.size) :
    MetFree l x (head1 (Jvm.Cond.code x code maxLocals ret :: ws) room_1) (fun a U => a = #[(.int x0), (.int x1)] ∧ Z.Warmed39 U.vm ∧ U.heap = h0) (fun _ _ _ _ _ => True) (fun _ U o U' => ∃ v L, o = .returned v ∧ Q_rm0 Z x0 x1 h0 n0 v U'.heap L ∧ FrameEnd U o U' L room_1.cells room_1.slots) := by
  refine MetFree.of_bodySF (plainFor_of_name own_pn1) hisR ?_
  intro p e s m args below meth c s₁ Bd hml0 hP hK
  obtain ⟨rfl, hZ, hh⟩ := hP
  have hx := Bd.exec
  have hby := Bd.bytes
  have hml : c.maxLocals = 11 := hml0
  have hown : s.vm.findClass "com/example/covary/covary/url/UrlIsAsciiDigitPinLaw" = some m.cls := findClass_of_methodNamed Bd.named
  have hnm := (name_of_methodNamed Bd.named Bd.method).1
  have X0 : Stand p l e room_1 s m #[(.int x0), (.int x1)] below meth c s₁ [] 0 0 := Stand.of_body Bd
  have e0 : s₁.heap = h0 := by rw [← hh, Bd.state]; rfl
  have N0 := Fr.nil n0
  have pre0 : ∀ t, Steps p.tables e below (s₁.setTop (mkF m 0 #[.val (.int x0), .val (.int x1), .unset, .unset, .unset, .unset, .unset, .unset, .unset, .unset, .unset] [])) t → Steps p.tables e below (s₁.setTop (entryFrame m #[(.int x0), (.int x1)] maxLocals)) t := fun t k => castTop (own_ef_rm0 m x0 x1) k
  have K18 : ∀ t, Steps p.tables e below (s₁.setTop (mkF m 7 #[.val (.int x0), .val (.int x1), .val (.long ((x0.toInt64) - (48 : Int64))), .second, .unset, .unset, .unset, .unset, .unset, .unset, .unset] [])) t → Steps p.tables e below (s₁.setTop (entryFrame m #[(.int x0), (.int x1)] maxLocals)) t := fun t k => pre0 t (by
    show Steps p.tables e below (s₁.setTop (mkF m 0 #[.val (.int x0), .val (.int x1), .unset, .unset, .unset, .unset, .unset, .unset, .unset, .unset, .unset] [])) t
    refine XS.iloadN X0.here hx rfl (hb hby at_0) rfl ?_
    show Steps p.tables e below (s₁.setTop (mkF m 1 #[.val (.int x0), .val (.int x1), .unset, .unset, .unset, .unset, .unset, .unset, .unset, .unset, .unset] [(.int x0)])) t
    refine XS.i2l X0.here hx rfl (hb hby at_1) rfl ?_
    show Steps p.tables e below (s₁.setTop (mkF m 2 #[.val (.int x0), .val (.int x1), .unset, .unset, .unset, .unset, .unset, .unset, .unset, .unset, .unset] [(.long (x0.toInt64))])) t
    refine X0.ldc2Long hx hown (mvT hZ (hw _ (List.mem_of_getElem? (i := 0) rfl))) (g := (mkF m 2 #[.val (.int x0), .val (.int x1), .unset, .unset, .unset, .unset, .unset, .unset, .unset, .unset, .unset] [(.long (x0.toInt64))])) rfl (hb hby at_2) _ ?_
    show Steps p.tables e below (s₁.setTop (mkF m 5 #[.val (.int x0), .val (.int x1), .unset, .unset, .unset, .unset, .unset, .unset, .unset, .unset, .unset] [(.long (48 : Int64)), (.long (x0.toInt64))])) t
    refine XS.lsub X0.here hx rfl (hb hby at_5) rfl ?_
    show Steps p.tables e below (s₁.setTop (mkF m 6 #[.val (.int x0), .val (.int x1), .unset, .unset, .unset, .unset, .unset, .unset, .unset, .unset, .unset] [(.long ((x0.toInt64) - (48 : Int64)))])) t
    refine XS.lstoreN X0.here hx rfl (hb hby at_6) rfl (l' := #[.val (.int x0), .val (.int x1), .val (.long ((x0.toInt64) - (48 : Int64))), .second, .unset, .unset, .unset, .unset, .unset, .unset, .unset]) rfl ?_
    exact k)
  obtain ⟨ex_19, Sp19, K20⟩ : ∃ (ex_19 : Int32), ((ex_19.toInt = 1 ∧ (48 ≤ x0.toInt ∧ x0.toInt ≤ 57)) ∨ (ex_19.toInt = 0 ∧ ¬ (48 ≤ x0.toInt ∧ x0.toInt ≤ 57))) ∧ ∀ t, Steps p.tables e below (s₁.setTop (mkF m 26 #[.val (.int x0), .val (.int x1), .val (.long ((x0.toInt64) - (48 : Int64))), .second, .unset, .unset, .unset, .unset, .unset, .unset, .unset] [(.int ex_19)])) t → Steps p.tables e below (s₁.setTop (entryFrame m #[(.int x0), (.int x1)] maxLocals)) t := by
    have K22 : ∀ t, Steps p.tables e below (s₁.setTop (mkF m 10 #[.val (.int x0), .val (.int x1), .val (.long ((x0.toInt64) - (48 : Int64))), .second, .unset, .unset, .unset, .unset, .unset, .unset, .unset] [(.int (lcmpW ((x0.toInt64) - (48 : Int64)) (0 : Int64)))])) t → Steps p.tables e below (s₁.setTop (entryFrame m #[(.int x0), (.int x1)] maxLocals)) t := fun t k => K18 t (by
      show Steps p.tables e below (s₁.setTop (mkF m 7 #[.val (.int x0), .val (.int x1), .val (.long ((x0.toInt64) - (48 : Int64))), .second, .unset, .unset, .unset, .unset, .unset, .unset, .unset] [])) t
      refine XS.lloadN X0.here hx rfl (hb hby at_7) rfl ?_
      show Steps p.tables e below (s₁.setTop (mkF m 8 #[.val (.int x0), .val (.int x1), .val (.long ((x0.toInt64) - (48 : Int64))), .second, .unset, .unset, .unset, .unset, .unset, .unset, .unset] [(.long ((x0.toInt64) - (48 : Int64)))])) t
      refine XS.lconst X0.here hx rfl (hb hby at_8) ?_
      show Steps p.tables e below (s₁.setTop (mkF m 9 #[.val (.int x0), .val (.int x1), .val (.long ((x0.toInt64) - (48 : Int64))), .second, .unset, .unset, .unset, .unset, .unset, .unset, .unset] [(.long (0 : Int64)), (.long ((x0.toInt64) - (48 : Int64)))])) t
      refine XS.lcmp X0.here hx rfl (hb hby at_9) rfl ?_
      exact k)
    have q23 := rng32 x0
    have q24 := c_i2l x0
    have q25 := rng64 (x0.toInt64)
    have q26 := (by decide : (48 : Int64).toInt = 48)
    have q27 := c_lsub (x0.toInt64) (48 : Int64)
    have q28 := rng64 ((x0.toInt64) - (48 : Int64))
    have q29 := (by decide : (0 : Int64).toInt = 0)
    have q30 := c_lcmp ((x0.toInt64) - (48 : Int64)) (0 : Int64)
    have q31 := (by decide : (0 : Int32).toInt = 0)
    by_cases hc21 : (lcmpW ((x0.toInt64) - (48 : Int64)) (0 : Int64)) < (0 : Int32)
    · have q32 : (lcmpW ((x0.toInt64) - (48 : Int64)) (0 : Int64)).toInt < (0 : Int32).toInt := Int32.lt_iff_toInt_lt.mp hc21
      refine ⟨(0 : Int32), by omega, fun t k => K22 t ?_⟩
      show Steps p.tables e below (s₁.setTop (mkF m 10 #[.val (.int x0), .val (.int x1), .val (.long ((x0.toInt64) - (48 : Int64))), .second, .unset, .unset, .unset, .unset, .unset, .unset, .unset] [(.int (lcmpW ((x0.toInt64) - (48 : Int64)) (0 : Int64)))])) t
      refine XS.ifYes X0.here hx rfl (pc0 := 10) (pc' := 25) rfl (hb hby at_10) rfl ((if0 _ _).trans (tlt hc21).1) (by decide) (by decide) ?_
      show Steps p.tables e below (s₁.setTop (mkF m 25 #[.val (.int x0), .val (.int x1), .val (.long ((x0.toInt64) - (48 : Int64))), .second, .unset, .unset, .unset, .unset, .unset, .unset, .unset] [])) t
      refine XS.iconst X0.here hx rfl (hb hby at_25) ?_
      exact k
    · have q33 : ¬ (lcmpW ((x0.toInt64) - (48 : Int64)) (0 : Int64)).toInt < (0 : Int32).toInt := fun q => hc21 (Int32.lt_iff_toInt_lt.mpr q)
      have K35 : ∀ t, Steps p.tables e below (s₁.setTop (mkF m 18 #[.val (.int x0), .val (.int x1), .val (.long ((x0.toInt64) - (48 : Int64))), .second, .unset, .unset, .unset, .unset, .unset, .unset, .unset] [(.int (lcmpW ((x0.toInt64) - (48 : Int64)) (9 : Int64)))])) t → Steps p.tables e below (s₁.setTop (entryFrame m #[(.int x0), (.int x1)] maxLocals)) t := fun t k => K22 t (by
        show Steps p.tables e below (s₁.setTop (mkF m 10 #[.val (.int x0), .val (.int x1), .val (.long ((x0.toInt64) - (48 : Int64))), .second, .unset, .unset, .unset, .unset, .unset, .unset, .unset] [(.int (lcmpW ((x0.toInt64) - (48 : Int64)) (0 : Int64)))])) t
        refine XS.ifNo X0.here hx rfl (hb hby at_10) rfl ((if0 _ _).trans (flt hc21).1) ?_
        show Steps p.tables e below (s₁.setTop (mkF m 13 #[.val (.int x0), .val (.int x1), .val (.long ((x0.toInt64) - (48 : Int64))), .second, .unset, .unset, .unset, .unset, .unset, .unset, .unset] [])) t
        refine XS.lloadN X0.here hx rfl (hb hby at_13) rfl ?_
        show Steps p.tables e below (s₁.setTop (mkF m 14 #[.val (.int x0), .val (.int x1), .val (.long ((x0.toInt64) - (48 : Int64))), .second, .unset, .unset, .unset, .unset, .unset, .unset, .unset] [(.long ((x0.toInt64) - (48 : Int64)))])) t
        refine X0.ldc2Long hx hown (mvT hZ (hw _ (List.mem_of_getElem? (i := 7) rfl))) (g := (mkF m 14 #[.val (.int x0), .val (.int x1), .val (.long ((x0.toInt64) - (48 : Int64))), .second, .unset, .unset, .unset, .unset, .unset, .unset, .unset] [(.long ((x0.toInt64) - (48 : Int64)))])) rfl (hb hby at_14) _ ?_
        show Steps p.tables e below (s₁.setTop (mkF m 17 #[.val (.int x0), .val (.int x1), .val (.long ((x0.toInt64) - (48 : Int64))), .second, .unset, .unset, .unset, .unset, .unset, .unset, .unset] [(.long (9 : Int64)), (.long ((x0.toInt64) - (48 : Int64)))])) t
        refine XS.lcmp X0.here hx rfl (hb hby at_17) rfl ?_
        exact k)
      have q36 := (by decide : (9 : Int64).toInt = 9)
      have q37 := c_lcmp ((x0.toInt64) - (48 : Int64)) (9 : Int64)
      by_cases hc34 : (0 : Int32) < (lcmpW ((x0.toInt64) - (48 : Int64)) (9 : Int64))
      · have q38 : (0 : Int32).toInt < (lcmpW ((x0.toInt64) - (48 : Int64)) (9 : Int64)).toInt := Int32.lt_iff_toInt_lt.mp hc34
        refine ⟨(0 : Int32), by omega, fun t k => K35 t ?_⟩
        show Steps p.tables e below (s₁.setTop (mkF m 18 #[.val (.int x0), .val (.int x1), .val (.long ((x0.toInt64) - (48 : Int64))), .second, .unset, .unset, .unset, .unset, .unset, .unset, .unset] [(.int (lcmpW ((x0.toInt64) - (48 : Int64)) (9 : Int64)))])) t
        refine XS.ifYes X0.here hx rfl (pc0 := 18) (pc' := 25) rfl (hb hby at_18) rfl ((if0 _ _).trans (tlt hc34).2.2.1) (by decide) (by decide) ?_
        show Steps p.tables e below (s₁.setTop (mkF m 25 #[.val (.int x0), .val (.int x1), .val (.long ((x0.toInt64) - (48 : Int64))), .second, .unset, .unset, .unset, .unset, .unset, .unset, .unset] [])) t
        refine XS.iconst X0.here hx rfl (hb hby at_25) ?_
        exact k
      · have q39 : ¬ (0 : Int32).toInt < (lcmpW ((x0.toInt64) - (48 : Int64)) (9 : Int64)).toInt := fun q => hc34 (Int32.lt_iff_toInt_lt.mpr q)
        have q40 := (by decide : (1 : Int32).toInt = 1)
        refine ⟨(1 : Int32), by omega, fun t k => K35 t ?_⟩
        show Steps p.tables e below (s₁.setTop (mkF m 18 #[.val (.int x0), .val (.int x1), .val (.long ((x0.toInt64) - (48 : Int64))), .second, .unset, .unset, .unset, .unset, .unset, .unset, .unset] [(.int (lcmpW ((x0.toInt64) - (48 : Int64)) (9 : Int64)))])) t
        refine XS.ifNo X0.here hx rfl (hb hby at_18) rfl ((if0 _ _).trans (flt hc34).2.2.1) ?_
        show Steps p.tables e below (s₁.setTop (mkF m 21 #[.val (.int x0), .val (.int x1), .val (.long ((x0.toInt64) - (48 : Int64))), .second, .unset, .unset, .unset, .unset, .unset, .unset, .unset] [])) t
        refine XS.iconst X0.here hx rfl (hb hby at_21) ?_
        show Steps p.tables e below (s₁.setTop (mkF m 22 #[.val (.int x0), .val (.int x1), .val (.long ((x0.toInt64) - (48 : Int64))), .second, .unset, .unset, .unset, .unset, .unset, .unset, .unset] [(.int (1 : Int32))])) t
        refine XS.goto X0.here hx rfl (pc0 := 22) (pc' := 26) rfl (hb hby at_22) (by decide) (by decide) ?_
        exact k
  have K41 : ∀ t, Steps p.tables e below (s₁.setTop (mkF m 29 #[.val (.int x0), .val (.int x1), .val (.long ((x0.toInt64) - (48 : Int64))), .second, .val (.int ex_19), .unset, .unset, .unset, .unset, .unset, .unset] [(.int x0)])) t → Steps p.tables e below (s₁.setTop (entryFrame m #[(.int x0), (.int x1)] maxLocals)) t := fun t k => K20 t (by
    show Steps p.tables e below (s₁.setTop (mkF m 26 #[.val (.int x0), .val (.int x1), .val (.long ((x0.toInt64) - (48 : Int64))), .second, .unset, .unset, .unset, .unset, .unset, .unset, .unset] [(.int ex_19)])) t
    refine XS.istore X0.here hx rfl (hb hby at_26) rfl (l' := #[.val (.int x0), .val (.int x1), .val (.long ((x0.toInt64) - (48 : Int64))), .second, .val (.int ex_19), .unset, .unset, .unset, .unset, .unset, .unset]) rfl ?_
    show Steps p.tables e below (s₁.setTop (mkF m 28 #[.val (.int x0), .val (.int x1), .val (.long ((x0.toInt64) - (48 : Int64))), .second, .val (.int ex_19), .unset, .unset, .unset, .unset, .unset, .unset] [])) t
    refine XS.iloadN X0.here hx rfl (hb hby at_28) rfl ?_
    exact k)
  have q42 := rng32 x0
  obtain ⟨_, _, ⟨T43, L43, kk43, nn43⟩, -, X43, ⟨Lc43, hQ43, l43, y43, z43⟩, st43⟩ := Jvm.LawKit.callS X0 hx (y := (⟨"com/example/covary/covary/url/Url", "isAsciiDigit", "(I)Z"⟩ : MethodName)) hown (mvT hZ (hw _ (List.mem_of_getElem? (i := 1) rfl))) (mvT hZ (hw _ (List.mem_of_getElem? (i := 2) rfl))) (mvT hZ (hw _ (List.mem_of_getElem? (i := 3) rfl))) (mvT hZ (hw _ (List.mem_of_getElem? (i := 4) rfl))) (by decide) (backOf (W := 0) (rm1 l Z a0 hw [] x0 h0 n0 Z0) hZ (hw _ (List.mem_of_getElem? (i := 4) rfl)) (hw _ (List.mem_of_getElem? (i := 3) rfl)) (by decide) (by decide)) (g := (mkF m 29 #[.val (.int x0), .val (.int x1), .val (.long ((x0.toInt64) - (48 : Int64))), .second, .val (.int ex_19), .unset, .unset, .unset, .unset, .unset, .unset] [(.int x0)])) rfl (by rw [hml]; rfl) (argsL := [(.int x0)]) (rest := []) (lenOf own_pd0 rfl) rfl (by show 2 * 0 + _ ≤ _; exact Nat.le_of_eq rfl) (hb hby at_29) (fun _ _ => ⟨rfl, e0, (by decide : 0 + 0 ≤ _), (by decide : 0 + 0 ≤ _)⟩)
  dsimp only [Pt.U, Pt.locs, Pt.cells, Pt.slots] at X43 l43 y43 z43 st43 hQ43
  subst l43 y43 z43
  obtain ⟨r_43, rfl, Sp43, Nq43, eh43⟩ := hQ43
  have N44 := Fr.app N0 Nq43
  have K45 : ∀ t, Steps p.tables e below (T43.setTop (mkF m 32 #[.val (.int x0), .val (.int x1), .val (.long ((x0.toInt64) - (48 : Int64))), .second, .val (.int ex_19), .unset, .unset, .unset, .unset, .unset, .unset] [(.int r_43)])) t → Steps p.tables e below (s₁.setTop (entryFrame m #[(.int x0), (.int x1)] maxLocals)) t := fun t k => K41 t (st43 _ k)
  have q47 := rng32 r_43
  have q48 := rng32 ex_19
  have hc46 : r_43 = ex_19 := Int32.toInt_inj.mp (by omega)
  have q49 : r_43.toInt = ex_19.toInt := congrArg Int32.toInt hc46
  have q50 : (10 : Int32) ≠ 0 := by decide
  have K51 : ∀ t, Steps p.tables e below (T43.setTop (mkF m 58 #[.val (.int x0), .val (.int x1), .val (.long ((x0.toInt64) - (48 : Int64))), .second, .val (.int ex_19), .val (.int (1 : Int32)), .val (.int ((x1 &&& (2147483647 : Int32)) % (10 : Int32))), .unset, .unset, .unset, .unset] [(.int ((48 : Int32) + ((x1 &&& (2147483647 : Int32)) % (10 : Int32))))])) t → Steps p.tables e below (s₁.setTop (entryFrame m #[(.int x0), (.int x1)] maxLocals)) t := fun t k => K45 t (by
    show Steps p.tables e below (T43.setTop (mkF m 32 #[.val (.int x0), .val (.int x1), .val (.long ((x0.toInt64) - (48 : Int64))), .second, .val (.int ex_19), .unset, .unset, .unset, .unset, .unset, .unset] [(.int r_43)])) t
    refine XS.iload X43.here hx rfl (hb hby at_32) rfl ?_
    show Steps p.tables e below (T43.setTop (mkF m 34 #[.val (.int x0), .val (.int x1), .val (.long ((x0.toInt64) - (48 : Int64))), .second, .val (.int ex_19), .unset, .unset, .unset, .unset, .unset, .unset] [(.int ex_19), (.int r_43)])) t
    refine XS.icmpNo X43.here hx rfl (hb hby at_34) rfl (teq hc46).2 ?_
    show Steps p.tables e below (T43.setTop (mkF m 37 #[.val (.int x0), .val (.int x1), .val (.long ((x0.toInt64) - (48 : Int64))), .second, .val (.int ex_19), .unset, .unset, .unset, .unset, .unset, .unset] [])) t
    refine XS.iconst X43.here hx rfl (hb hby at_37) ?_
    show Steps p.tables e below (T43.setTop (mkF m 38 #[.val (.int x0), .val (.int x1), .val (.long ((x0.toInt64) - (48 : Int64))), .second, .val (.int ex_19), .unset, .unset, .unset, .unset, .unset, .unset] [(.int (1 : Int32))])) t
    refine XS.goto X43.here hx rfl (pc0 := 38) (pc' := 42) rfl (hb hby at_38) (by decide) (by decide) ?_
    show Steps p.tables e below (T43.setTop (mkF m 42 #[.val (.int x0), .val (.int x1), .val (.long ((x0.toInt64) - (48 : Int64))), .second, .val (.int ex_19), .unset, .unset, .unset, .unset, .unset, .unset] [(.int (1 : Int32))])) t
    refine XS.istore X43.here hx rfl (hb hby at_42) rfl (l' := #[.val (.int x0), .val (.int x1), .val (.long ((x0.toInt64) - (48 : Int64))), .second, .val (.int ex_19), .val (.int (1 : Int32)), .unset, .unset, .unset, .unset, .unset]) rfl ?_
    show Steps p.tables e below (T43.setTop (mkF m 44 #[.val (.int x0), .val (.int x1), .val (.long ((x0.toInt64) - (48 : Int64))), .second, .val (.int ex_19), .val (.int (1 : Int32)), .unset, .unset, .unset, .unset, .unset] [])) t
    refine XS.iloadN X43.here hx rfl (hb hby at_44) rfl ?_
    show Steps p.tables e below (T43.setTop (mkF m 45 #[.val (.int x0), .val (.int x1), .val (.long ((x0.toInt64) - (48 : Int64))), .second, .val (.int ex_19), .val (.int (1 : Int32)), .unset, .unset, .unset, .unset, .unset] [(.int x1)])) t
    refine X43.ldcInt hx hown (mvT hZ (hw _ (List.mem_of_getElem? (i := 5) rfl))) (g := (mkF m 45 #[.val (.int x0), .val (.int x1), .val (.long ((x0.toInt64) - (48 : Int64))), .second, .val (.int ex_19), .val (.int (1 : Int32)), .unset, .unset, .unset, .unset, .unset] [(.int x1)])) rfl (hb hby at_45) _ ?_
    show Steps p.tables e below (T43.setTop (mkF m 47 #[.val (.int x0), .val (.int x1), .val (.long ((x0.toInt64) - (48 : Int64))), .second, .val (.int ex_19), .val (.int (1 : Int32)), .unset, .unset, .unset, .unset, .unset] [(.int (2147483647 : Int32)), (.int x1)])) t
    refine XS.iand X43.here hx rfl (hb hby at_47) rfl ?_
    show Steps p.tables e below (T43.setTop (mkF m 48 #[.val (.int x0), .val (.int x1), .val (.long ((x0.toInt64) - (48 : Int64))), .second, .val (.int ex_19), .val (.int (1 : Int32)), .unset, .unset, .unset, .unset, .unset] [(.int (x1 &&& (2147483647 : Int32)))])) t
    refine XS.bipush X43.here hx rfl (hb hby at_48) ?_
    show Steps p.tables e below (T43.setTop (mkF m 50 #[.val (.int x0), .val (.int x1), .val (.long ((x0.toInt64) - (48 : Int64))), .second, .val (.int ex_19), .val (.int (1 : Int32)), .unset, .unset, .unset, .unset, .unset] [(.int (10 : Int32)), (.int (x1 &&& (2147483647 : Int32)))])) t
    refine iremM X43 hx rfl (hb hby at_50) rfl q50 ?_
    show Steps p.tables e below (T43.setTop (mkF m 51 #[.val (.int x0), .val (.int x1), .val (.long ((x0.toInt64) - (48 : Int64))), .second, .val (.int ex_19), .val (.int (1 : Int32)), .unset, .unset, .unset, .unset, .unset] [(.int ((x1 &&& (2147483647 : Int32)) % (10 : Int32)))])) t
    refine XS.istore X43.here hx rfl (hb hby at_51) rfl (l' := #[.val (.int x0), .val (.int x1), .val (.long ((x0.toInt64) - (48 : Int64))), .second, .val (.int ex_19), .val (.int (1 : Int32)), .val (.int ((x1 &&& (2147483647 : Int32)) % (10 : Int32))), .unset, .unset, .unset, .unset]) rfl ?_
    show Steps p.tables e below (T43.setTop (mkF m 53 #[.val (.int x0), .val (.int x1), .val (.long ((x0.toInt64) - (48 : Int64))), .second, .val (.int ex_19), .val (.int (1 : Int32)), .val (.int ((x1 &&& (2147483647 : Int32)) % (10 : Int32))), .unset, .unset, .unset, .unset] [])) t
    refine XS.bipush X43.here hx rfl (hb hby at_53) ?_
    show Steps p.tables e below (T43.setTop (mkF m 55 #[.val (.int x0), .val (.int x1), .val (.long ((x0.toInt64) - (48 : Int64))), .second, .val (.int ex_19), .val (.int (1 : Int32)), .val (.int ((x1 &&& (2147483647 : Int32)) % (10 : Int32))), .unset, .unset, .unset, .unset] [(.int (48 : Int32))])) t
    refine XS.iload X43.here hx rfl (hb hby at_55) rfl ?_
    show Steps p.tables e below (T43.setTop (mkF m 57 #[.val (.int x0), .val (.int x1), .val (.long ((x0.toInt64) - (48 : Int64))), .second, .val (.int ex_19), .val (.int (1 : Int32)), .val (.int ((x1 &&& (2147483647 : Int32)) % (10 : Int32))), .unset, .unset, .unset, .unset] [(.int ((x1 &&& (2147483647 : Int32)) % (10 : Int32))), (.int (48 : Int32))])) t
    refine XS.iadd X43.here hx rfl (hb hby at_57) rfl ?_
    exact k)
  have q52 := (by decide : (48 : Int32).toInt = 48)
  have q53 := rng32 x1
  have q54 := (by decide : (2147483647 : Int32).toInt = 2147483647)
  have q55 := (show (x1 &&& (2147483647 : Int32)).toInt = x1.toInt % 2147483648 from c_mask x1 (2147483647 : Int32) 31 (by decide) (by decide))
  have q56 := rng32 (x1 &&& (2147483647 : Int32))
  have q57 := (by decide : (10 : Int32).toInt = 10)
  have q58 := c_irem (x1 &&& (2147483647 : Int32)) (10 : Int32) 10 rfl
  have q59 := rng32 ((x1 &&& (2147483647 : Int32)) % (10 : Int32))
  have q60 := c_iadd (48 : Int32) ((x1 &&& (2147483647 : Int32)) % (10 : Int32))
  have q61 := rng32 ((48 : Int32) + ((x1 &&& (2147483647 : Int32)) % (10 : Int32)))
  obtain ⟨_, _, ⟨T62, L62, kk62, nn62⟩, -, X62, ⟨Lc62, hQ62, l62, y62, z62⟩, st62⟩ := Jvm.LawKit.callS X43 hx (y := (⟨"com/example/covary/covary/url/Url", "isAsciiDigit", "(I)Z"⟩ : MethodName)) hown (mvT hZ (hw _ (List.mem_of_getElem? (i := 1) rfl))) (mvT hZ (hw _ (List.mem_of_getElem? (i := 2) rfl))) (mvT hZ (hw _ (List.mem_of_getElem? (i := 3) rfl))) (mvT hZ (hw _ (List.mem_of_getElem? (i := 4) rfl))) (by decide) (backOf (W := 0) (rm1 l Z a0 hw [] ((48 : Int32) + ((x1 &&& (2147483647 : Int32)) % (10 : Int32))) h0 n0 Z0) hZ (hw _ (List.mem_of_getElem? (i := 4) rfl)) (hw _ (List.mem_of_getElem? (i := 3) rfl)) (by decide) (by decide)) (g := (mkF m 58 #[.val (.int x0), .val (.int x1), .val (.long ((x0.toInt64) - (48 : Int64))), .second, .val (.int ex_19), .val (.int (1 : Int32)), .val (.int ((x1 &&& (2147483647 : Int32)) % (10 : Int32))), .unset, .unset, .unset, .unset] [(.int ((48 : Int32) + ((x1 &&& (2147483647 : Int32)) % (10 : Int32))))])) rfl (by rw [hml]; rfl) (argsL := [(.int ((48 : Int32) + ((x1 &&& (2147483647 : Int32)) % (10 : Int32))))]) (rest := []) (lenOf own_pd0 rfl) rfl (by show 2 * 0 + _ ≤ _; exact Nat.le_of_eq rfl) (hb hby at_58) (fun _ _ => ⟨rfl, eh43, (by decide : 0 + 0 ≤ _), (by decide : 0 + 0 ≤ _)⟩)
  dsimp only [Pt.U, Pt.locs, Pt.cells, Pt.slots] at X62 l62 y62 z62 st62 hQ62
  subst l62 y62 z62
  obtain ⟨r_62, rfl, Sp62, Nq62, eh62⟩ := hQ62
  have N63 := Fr.app N44 Nq62
  have K64 : ∀ t, Steps p.tables e below (T62.setTop (mkF m 61 #[.val (.int x0), .val (.int x1), .val (.long ((x0.toInt64) - (48 : Int64))), .second, .val (.int ex_19), .val (.int (1 : Int32)), .val (.int ((x1 &&& (2147483647 : Int32)) % (10 : Int32))), .unset, .unset, .unset, .unset] [(.int r_62)])) t → Steps p.tables e below (s₁.setTop (entryFrame m #[(.int x0), (.int x1)] maxLocals)) t := fun t k => K51 t (st62 _ k)
  have K65 : ∀ t, Steps p.tables e below (T62.setTop (mkF m 74 #[.val (.int x0), .val (.int x1), .val (.long ((x0.toInt64) - (48 : Int64))), .second, .val (.int ex_19), .val (.int (1 : Int32)), .val (.int ((x1 &&& (2147483647 : Int32)) % (10 : Int32))), .val (.int r_62), .val (.int (x1 &&& (65535 : Int32))), .unset, .unset] [(.int ((47 : Int32) - (x1 &&& (65535 : Int32))))])) t → Steps p.tables e below (s₁.setTop (entryFrame m #[(.int x0), (.int x1)] maxLocals)) t := fun t k => K64 t (by
    show Steps p.tables e below (T62.setTop (mkF m 61 #[.val (.int x0), .val (.int x1), .val (.long ((x0.toInt64) - (48 : Int64))), .second, .val (.int ex_19), .val (.int (1 : Int32)), .val (.int ((x1 &&& (2147483647 : Int32)) % (10 : Int32))), .unset, .unset, .unset, .unset] [(.int r_62)])) t
    refine XS.istore X62.here hx rfl (hb hby at_61) rfl (l' := #[.val (.int x0), .val (.int x1), .val (.long ((x0.toInt64) - (48 : Int64))), .second, .val (.int ex_19), .val (.int (1 : Int32)), .val (.int ((x1 &&& (2147483647 : Int32)) % (10 : Int32))), .val (.int r_62), .unset, .unset, .unset]) rfl ?_
    show Steps p.tables e below (T62.setTop (mkF m 63 #[.val (.int x0), .val (.int x1), .val (.long ((x0.toInt64) - (48 : Int64))), .second, .val (.int ex_19), .val (.int (1 : Int32)), .val (.int ((x1 &&& (2147483647 : Int32)) % (10 : Int32))), .val (.int r_62), .unset, .unset, .unset] [])) t
    refine XS.iloadN X62.here hx rfl (hb hby at_63) rfl ?_
    show Steps p.tables e below (T62.setTop (mkF m 64 #[.val (.int x0), .val (.int x1), .val (.long ((x0.toInt64) - (48 : Int64))), .second, .val (.int ex_19), .val (.int (1 : Int32)), .val (.int ((x1 &&& (2147483647 : Int32)) % (10 : Int32))), .val (.int r_62), .unset, .unset, .unset] [(.int x1)])) t
    refine X62.ldcInt hx hown (mvT hZ (hw _ (List.mem_of_getElem? (i := 6) rfl))) (g := (mkF m 64 #[.val (.int x0), .val (.int x1), .val (.long ((x0.toInt64) - (48 : Int64))), .second, .val (.int ex_19), .val (.int (1 : Int32)), .val (.int ((x1 &&& (2147483647 : Int32)) % (10 : Int32))), .val (.int r_62), .unset, .unset, .unset] [(.int x1)])) rfl (hb hby at_64) _ ?_
    show Steps p.tables e below (T62.setTop (mkF m 66 #[.val (.int x0), .val (.int x1), .val (.long ((x0.toInt64) - (48 : Int64))), .second, .val (.int ex_19), .val (.int (1 : Int32)), .val (.int ((x1 &&& (2147483647 : Int32)) % (10 : Int32))), .val (.int r_62), .unset, .unset, .unset] [(.int (65535 : Int32)), (.int x1)])) t
    refine XS.iand X62.here hx rfl (hb hby at_66) rfl ?_
    show Steps p.tables e below (T62.setTop (mkF m 67 #[.val (.int x0), .val (.int x1), .val (.long ((x0.toInt64) - (48 : Int64))), .second, .val (.int ex_19), .val (.int (1 : Int32)), .val (.int ((x1 &&& (2147483647 : Int32)) % (10 : Int32))), .val (.int r_62), .unset, .unset, .unset] [(.int (x1 &&& (65535 : Int32)))])) t
    refine XS.istore X62.here hx rfl (hb hby at_67) rfl (l' := #[.val (.int x0), .val (.int x1), .val (.long ((x0.toInt64) - (48 : Int64))), .second, .val (.int ex_19), .val (.int (1 : Int32)), .val (.int ((x1 &&& (2147483647 : Int32)) % (10 : Int32))), .val (.int r_62), .val (.int (x1 &&& (65535 : Int32))), .unset, .unset]) rfl ?_
    show Steps p.tables e below (T62.setTop (mkF m 69 #[.val (.int x0), .val (.int x1), .val (.long ((x0.toInt64) - (48 : Int64))), .second, .val (.int ex_19), .val (.int (1 : Int32)), .val (.int ((x1 &&& (2147483647 : Int32)) % (10 : Int32))), .val (.int r_62), .val (.int (x1 &&& (65535 : Int32))), .unset, .unset] [])) t
    refine XS.bipush X62.here hx rfl (hb hby at_69) ?_
    show Steps p.tables e below (T62.setTop (mkF m 71 #[.val (.int x0), .val (.int x1), .val (.long ((x0.toInt64) - (48 : Int64))), .second, .val (.int ex_19), .val (.int (1 : Int32)), .val (.int ((x1 &&& (2147483647 : Int32)) % (10 : Int32))), .val (.int r_62), .val (.int (x1 &&& (65535 : Int32))), .unset, .unset] [(.int (47 : Int32))])) t
    refine XS.iload X62.here hx rfl (hb hby at_71) rfl ?_
    show Steps p.tables e below (T62.setTop (mkF m 73 #[.val (.int x0), .val (.int x1), .val (.long ((x0.toInt64) - (48 : Int64))), .second, .val (.int ex_19), .val (.int (1 : Int32)), .val (.int ((x1 &&& (2147483647 : Int32)) % (10 : Int32))), .val (.int r_62), .val (.int (x1 &&& (65535 : Int32))), .unset, .unset] [(.int (x1 &&& (65535 : Int32))), (.int (47 : Int32))])) t
    refine XS.isub X62.here hx rfl (hb hby at_73) rfl ?_
    exact k)
  have q66 := (by decide : (47 : Int32).toInt = 47)
  have q67 := (by decide : (65535 : Int32).toInt = 65535)
  have q68 := (show (x1 &&& (65535 : Int32)).toInt = x1.toInt % 65536 from c_mask x1 (65535 : Int32) 16 (by decide) (by decide))
  have q69 := rng32 (x1 &&& (65535 : Int32))
  have q70 := c_isub (47 : Int32) (x1 &&& (65535 : Int32))
  have q71 := rng32 ((47 : Int32) - (x1 &&& (65535 : Int32)))
  obtain ⟨_, _, ⟨T72, L72, kk72, nn72⟩, -, X72, ⟨Lc72, hQ72, l72, y72, z72⟩, st72⟩ := Jvm.LawKit.callS X62 hx (y := (⟨"com/example/covary/covary/url/Url", "isAsciiDigit", "(I)Z"⟩ : MethodName)) hown (mvT hZ (hw _ (List.mem_of_getElem? (i := 1) rfl))) (mvT hZ (hw _ (List.mem_of_getElem? (i := 2) rfl))) (mvT hZ (hw _ (List.mem_of_getElem? (i := 3) rfl))) (mvT hZ (hw _ (List.mem_of_getElem? (i := 4) rfl))) (by decide) (backOf (W := 0) (rm1 l Z a0 hw [] ((47 : Int32) - (x1 &&& (65535 : Int32))) h0 n0 Z0) hZ (hw _ (List.mem_of_getElem? (i := 4) rfl)) (hw _ (List.mem_of_getElem? (i := 3) rfl)) (by decide) (by decide)) (g := (mkF m 74 #[.val (.int x0), .val (.int x1), .val (.long ((x0.toInt64) - (48 : Int64))), .second, .val (.int ex_19), .val (.int (1 : Int32)), .val (.int ((x1 &&& (2147483647 : Int32)) % (10 : Int32))), .val (.int r_62), .val (.int (x1 &&& (65535 : Int32))), .unset, .unset] [(.int ((47 : Int32) - (x1 &&& (65535 : Int32))))])) rfl (by rw [hml]; rfl) (argsL := [(.int ((47 : Int32) - (x1 &&& (65535 : Int32))))]) (rest := []) (lenOf own_pd0 rfl) rfl (by show 2 * 0 + _ ≤ _; exact Nat.le_of_eq rfl) (hb hby at_74) (fun _ _ => ⟨rfl, eh62, (by decide : 0 + 0 ≤ _), (by decide : 0 + 0 ≤ _)⟩)
  dsimp only [Pt.U, Pt.locs, Pt.cells, Pt.slots] at X72 l72 y72 z72 st72 hQ72
  subst l72 y72 z72
  obtain ⟨r_72, rfl, Sp72, Nq72, eh72⟩ := hQ72
  have N73 := Fr.app N63 Nq72
  have K74 : ∀ t, Steps p.tables e below (T72.setTop (mkF m 77 #[.val (.int x0), .val (.int x1), .val (.long ((x0.toInt64) - (48 : Int64))), .second, .val (.int ex_19), .val (.int (1 : Int32)), .val (.int ((x1 &&& (2147483647 : Int32)) % (10 : Int32))), .val (.int r_62), .val (.int (x1 &&& (65535 : Int32))), .unset, .unset] [(.int r_72)])) t → Steps p.tables e below (s₁.setTop (entryFrame m #[(.int x0), (.int x1)] maxLocals)) t := fun t k => K65 t (st72 _ k)
  have q76 := rng32 r_72
  have q77 := (by decide : (0 : Int32).toInt = 0)
  have hc75 : r_72 = (0 : Int32) := Int32.toInt_inj.mp (by omega)
  have q78 : r_72.toInt = (0 : Int32).toInt := congrArg Int32.toInt hc75
  have K79 : ∀ t, Steps p.tables e below (T72.setTop (mkF m 92 #[.val (.int x0), .val (.int x1), .val (.long ((x0.toInt64) - (48 : Int64))), .second, .val (.int ex_19), .val (.int (1 : Int32)), .val (.int ((x1 &&& (2147483647 : Int32)) % (10 : Int32))), .val (.int r_62), .val (.int (x1 &&& (65535 : Int32))), .val (.int (1 : Int32)), .unset] [(.int ((58 : Int32) + (x1 &&& (65535 : Int32))))])) t → Steps p.tables e below (s₁.setTop (entryFrame m #[(.int x0), (.int x1)] maxLocals)) t := fun t k => K74 t (by
    show Steps p.tables e below (T72.setTop (mkF m 77 #[.val (.int x0), .val (.int x1), .val (.long ((x0.toInt64) - (48 : Int64))), .second, .val (.int ex_19), .val (.int (1 : Int32)), .val (.int ((x1 &&& (2147483647 : Int32)) % (10 : Int32))), .val (.int r_62), .val (.int (x1 &&& (65535 : Int32))), .unset, .unset] [(.int r_72)])) t
    refine XS.ifNo X72.here hx rfl (hb hby at_77) rfl ((if0 _ _).trans (teq hc75).2) ?_
    show Steps p.tables e below (T72.setTop (mkF m 80 #[.val (.int x0), .val (.int x1), .val (.long ((x0.toInt64) - (48 : Int64))), .second, .val (.int ex_19), .val (.int (1 : Int32)), .val (.int ((x1 &&& (2147483647 : Int32)) % (10 : Int32))), .val (.int r_62), .val (.int (x1 &&& (65535 : Int32))), .unset, .unset] [])) t
    refine XS.iconst X72.here hx rfl (hb hby at_80) ?_
    show Steps p.tables e below (T72.setTop (mkF m 81 #[.val (.int x0), .val (.int x1), .val (.long ((x0.toInt64) - (48 : Int64))), .second, .val (.int ex_19), .val (.int (1 : Int32)), .val (.int ((x1 &&& (2147483647 : Int32)) % (10 : Int32))), .val (.int r_62), .val (.int (x1 &&& (65535 : Int32))), .unset, .unset] [(.int (1 : Int32))])) t
    refine XS.goto X72.here hx rfl (pc0 := 81) (pc' := 85) rfl (hb hby at_81) (by decide) (by decide) ?_
    show Steps p.tables e below (T72.setTop (mkF m 85 #[.val (.int x0), .val (.int x1), .val (.long ((x0.toInt64) - (48 : Int64))), .second, .val (.int ex_19), .val (.int (1 : Int32)), .val (.int ((x1 &&& (2147483647 : Int32)) % (10 : Int32))), .val (.int r_62), .val (.int (x1 &&& (65535 : Int32))), .unset, .unset] [(.int (1 : Int32))])) t
    refine XS.istore X72.here hx rfl (hb hby at_85) rfl (l' := #[.val (.int x0), .val (.int x1), .val (.long ((x0.toInt64) - (48 : Int64))), .second, .val (.int ex_19), .val (.int (1 : Int32)), .val (.int ((x1 &&& (2147483647 : Int32)) % (10 : Int32))), .val (.int r_62), .val (.int (x1 &&& (65535 : Int32))), .val (.int (1 : Int32)), .unset]) rfl ?_
    show Steps p.tables e below (T72.setTop (mkF m 87 #[.val (.int x0), .val (.int x1), .val (.long ((x0.toInt64) - (48 : Int64))), .second, .val (.int ex_19), .val (.int (1 : Int32)), .val (.int ((x1 &&& (2147483647 : Int32)) % (10 : Int32))), .val (.int r_62), .val (.int (x1 &&& (65535 : Int32))), .val (.int (1 : Int32)), .unset] [])) t
    refine XS.bipush X72.here hx rfl (hb hby at_87) ?_
    show Steps p.tables e below (T72.setTop (mkF m 89 #[.val (.int x0), .val (.int x1), .val (.long ((x0.toInt64) - (48 : Int64))), .second, .val (.int ex_19), .val (.int (1 : Int32)), .val (.int ((x1 &&& (2147483647 : Int32)) % (10 : Int32))), .val (.int r_62), .val (.int (x1 &&& (65535 : Int32))), .val (.int (1 : Int32)), .unset] [(.int (58 : Int32))])) t
    refine XS.iload X72.here hx rfl (hb hby at_89) rfl ?_
    show Steps p.tables e below (T72.setTop (mkF m 91 #[.val (.int x0), .val (.int x1), .val (.long ((x0.toInt64) - (48 : Int64))), .second, .val (.int ex_19), .val (.int (1 : Int32)), .val (.int ((x1 &&& (2147483647 : Int32)) % (10 : Int32))), .val (.int r_62), .val (.int (x1 &&& (65535 : Int32))), .val (.int (1 : Int32)), .unset] [(.int (x1 &&& (65535 : Int32))), (.int (58 : Int32))])) t
    refine XS.iadd X72.here hx rfl (hb hby at_91) rfl ?_
    exact k)
  have q80 := (by decide : (58 : Int32).toInt = 58)
  have q81 := c_iadd (58 : Int32) (x1 &&& (65535 : Int32))
  have q82 := rng32 ((58 : Int32) + (x1 &&& (65535 : Int32)))
  obtain ⟨_, _, ⟨T83, L83, kk83, nn83⟩, -, X83, ⟨Lc83, hQ83, l83, y83, z83⟩, st83⟩ := Jvm.LawKit.callS X72 hx (y := (⟨"com/example/covary/covary/url/Url", "isAsciiDigit", "(I)Z"⟩ : MethodName)) hown (mvT hZ (hw _ (List.mem_of_getElem? (i := 1) rfl))) (mvT hZ (hw _ (List.mem_of_getElem? (i := 2) rfl))) (mvT hZ (hw _ (List.mem_of_getElem? (i := 3) rfl))) (mvT hZ (hw _ (List.mem_of_getElem? (i := 4) rfl))) (by decide) (backOf (W := 0) (rm1 l Z a0 hw [] ((58 : Int32) + (x1 &&& (65535 : Int32))) h0 n0 Z0) hZ (hw _ (List.mem_of_getElem? (i := 4) rfl)) (hw _ (List.mem_of_getElem? (i := 3) rfl)) (by decide) (by decide)) (g := (mkF m 92 #[.val (.int x0), .val (.int x1), .val (.long ((x0.toInt64) - (48 : Int64))), .second, .val (.int ex_19), .val (.int (1 : Int32)), .val (.int ((x1 &&& (2147483647 : Int32)) % (10 : Int32))), .val (.int r_62), .val (.int (x1 &&& (65535 : Int32))), .val (.int (1 : Int32)), .unset] [(.int ((58 : Int32) + (x1 &&& (65535 : Int32))))])) rfl (by rw [hml]; rfl) (argsL := [(.int ((58 : Int32) + (x1 &&& (65535 : Int32))))]) (rest := []) (lenOf own_pd0 rfl) rfl (by show 2 * 0 + _ ≤ _; exact Nat.le_of_eq rfl) (hb hby at_92) (fun _ _ => ⟨rfl, eh72, (by decide : 0 + 0 ≤ _), (by decide : 0 + 0 ≤ _)⟩)
  dsimp only [Pt.U, Pt.locs, Pt.cells, Pt.slots] at X83 l83 y83 z83 st83 hQ83
  subst l83 y83 z83
  obtain ⟨r_83, rfl, Sp83, Nq83, eh83⟩ := hQ83
  have N84 := Fr.app N73 Nq83
  have K85 : ∀ t, Steps p.tables e below (T83.setTop (mkF m 95 #[.val (.int x0), .val (.int x1), .val (.long ((x0.toInt64) - (48 : Int64))), .second, .val (.int ex_19), .val (.int (1 : Int32)), .val (.int ((x1 &&& (2147483647 : Int32)) % (10 : Int32))), .val (.int r_62), .val (.int (x1 &&& (65535 : Int32))), .val (.int (1 : Int32)), .unset] [(.int r_83)])) t → Steps p.tables e below (s₁.setTop (entryFrame m #[(.int x0), (.int x1)] maxLocals)) t := fun t k => K79 t (st83 _ k)
  have q87 := rng32 r_83
  have hc86 : r_83 = (0 : Int32) := Int32.toInt_inj.mp (by omega)
  have q88 : r_83.toInt = (0 : Int32).toInt := congrArg Int32.toInt hc86
  have q90 := (by decide : (1 : Int32).toInt = 1)
  have hc89 : ¬ ((1 : Int32) = (0 : Int32)) := fun q => by have q2 := congrArg Int32.toInt q; omega
  have q91 : ¬ (1 : Int32).toInt = (0 : Int32).toInt := fun q => hc89 (Int32.toInt_inj.mp q)
  have q93 := rng32 r_62
  have hc92 : ¬ (r_62 = (0 : Int32)) := fun q => by have q2 := congrArg Int32.toInt q; omega
  have q94 : ¬ r_62.toInt = (0 : Int32).toInt := fun q => hc92 (Int32.toInt_inj.mp q)
  have hc95 : ¬ ((1 : Int32) = (0 : Int32)) := fun q => by have q2 := congrArg Int32.toInt q; omega
  have q96 : ¬ (1 : Int32).toInt = (0 : Int32).toInt := fun q => hc95 (Int32.toInt_inj.mp q)
  have hc97 : ¬ ((1 : Int32) = (0 : Int32)) := fun q => by have q2 := congrArg Int32.toInt q; omega
  have q98 : ¬ (1 : Int32).toInt = (0 : Int32).toInt := fun q => hc97 (Int32.toInt_inj.mp q)
  have K99 : ∀ t, Steps p.tables e below (T83.setTop (mkF m 130 #[.val (.int x0), .val (.int x1), .val (.long ((x0.toInt64) - (48 : Int64))), .second, .val (.int ex_19), .val (.int (1 : Int32)), .val (.int ((x1 &&& (2147483647 : Int32)) % (10 : Int32))), .val (.int r_62), .val (.int (x1 &&& (65535 : Int32))), .val (.int (1 : Int32)), .val (.int (1 : Int32))] [(.int (1 : Int32))])) t → Steps p.tables e below (s₁.setTop (entryFrame m #[(.int x0), (.int x1)] maxLocals)) t := fun t k => K85 t (by
    show Steps p.tables e below (T83.setTop (mkF m 95 #[.val (.int x0), .val (.int x1), .val (.long ((x0.toInt64) - (48 : Int64))), .second, .val (.int ex_19), .val (.int (1 : Int32)), .val (.int ((x1 &&& (2147483647 : Int32)) % (10 : Int32))), .val (.int r_62), .val (.int (x1 &&& (65535 : Int32))), .val (.int (1 : Int32)), .unset] [(.int r_83)])) t
    refine XS.ifNo X83.here hx rfl (hb hby at_95) rfl ((if0 _ _).trans (teq hc86).2) ?_
    show Steps p.tables e below (T83.setTop (mkF m 98 #[.val (.int x0), .val (.int x1), .val (.long ((x0.toInt64) - (48 : Int64))), .second, .val (.int ex_19), .val (.int (1 : Int32)), .val (.int ((x1 &&& (2147483647 : Int32)) % (10 : Int32))), .val (.int r_62), .val (.int (x1 &&& (65535 : Int32))), .val (.int (1 : Int32)), .unset] [])) t
    refine XS.iconst X83.here hx rfl (hb hby at_98) ?_
    show Steps p.tables e below (T83.setTop (mkF m 99 #[.val (.int x0), .val (.int x1), .val (.long ((x0.toInt64) - (48 : Int64))), .second, .val (.int ex_19), .val (.int (1 : Int32)), .val (.int ((x1 &&& (2147483647 : Int32)) % (10 : Int32))), .val (.int r_62), .val (.int (x1 &&& (65535 : Int32))), .val (.int (1 : Int32)), .unset] [(.int (1 : Int32))])) t
    refine XS.goto X83.here hx rfl (pc0 := 99) (pc' := 103) rfl (hb hby at_99) (by decide) (by decide) ?_
    show Steps p.tables e below (T83.setTop (mkF m 103 #[.val (.int x0), .val (.int x1), .val (.long ((x0.toInt64) - (48 : Int64))), .second, .val (.int ex_19), .val (.int (1 : Int32)), .val (.int ((x1 &&& (2147483647 : Int32)) % (10 : Int32))), .val (.int r_62), .val (.int (x1 &&& (65535 : Int32))), .val (.int (1 : Int32)), .unset] [(.int (1 : Int32))])) t
    refine XS.istore X83.here hx rfl (hb hby at_103) rfl (l' := #[.val (.int x0), .val (.int x1), .val (.long ((x0.toInt64) - (48 : Int64))), .second, .val (.int ex_19), .val (.int (1 : Int32)), .val (.int ((x1 &&& (2147483647 : Int32)) % (10 : Int32))), .val (.int r_62), .val (.int (x1 &&& (65535 : Int32))), .val (.int (1 : Int32)), .val (.int (1 : Int32))]) rfl ?_
    show Steps p.tables e below (T83.setTop (mkF m 105 #[.val (.int x0), .val (.int x1), .val (.long ((x0.toInt64) - (48 : Int64))), .second, .val (.int ex_19), .val (.int (1 : Int32)), .val (.int ((x1 &&& (2147483647 : Int32)) % (10 : Int32))), .val (.int r_62), .val (.int (x1 &&& (65535 : Int32))), .val (.int (1 : Int32)), .val (.int (1 : Int32))] [])) t
    refine XS.iload X83.here hx rfl (hb hby at_105) rfl ?_
    show Steps p.tables e below (T83.setTop (mkF m 107 #[.val (.int x0), .val (.int x1), .val (.long ((x0.toInt64) - (48 : Int64))), .second, .val (.int ex_19), .val (.int (1 : Int32)), .val (.int ((x1 &&& (2147483647 : Int32)) % (10 : Int32))), .val (.int r_62), .val (.int (x1 &&& (65535 : Int32))), .val (.int (1 : Int32)), .val (.int (1 : Int32))] [(.int (1 : Int32))])) t
    refine XS.ifNo X83.here hx rfl (hb hby at_107) rfl ((if0 _ _).trans (feq hc89).1) ?_
    show Steps p.tables e below (T83.setTop (mkF m 110 #[.val (.int x0), .val (.int x1), .val (.long ((x0.toInt64) - (48 : Int64))), .second, .val (.int ex_19), .val (.int (1 : Int32)), .val (.int ((x1 &&& (2147483647 : Int32)) % (10 : Int32))), .val (.int r_62), .val (.int (x1 &&& (65535 : Int32))), .val (.int (1 : Int32)), .val (.int (1 : Int32))] [])) t
    refine XS.iload X83.here hx rfl (hb hby at_110) rfl ?_
    show Steps p.tables e below (T83.setTop (mkF m 112 #[.val (.int x0), .val (.int x1), .val (.long ((x0.toInt64) - (48 : Int64))), .second, .val (.int ex_19), .val (.int (1 : Int32)), .val (.int ((x1 &&& (2147483647 : Int32)) % (10 : Int32))), .val (.int r_62), .val (.int (x1 &&& (65535 : Int32))), .val (.int (1 : Int32)), .val (.int (1 : Int32))] [(.int r_62)])) t
    refine XS.ifNo X83.here hx rfl (hb hby at_112) rfl ((if0 _ _).trans (feq hc92).1) ?_
    show Steps p.tables e below (T83.setTop (mkF m 115 #[.val (.int x0), .val (.int x1), .val (.long ((x0.toInt64) - (48 : Int64))), .second, .val (.int ex_19), .val (.int (1 : Int32)), .val (.int ((x1 &&& (2147483647 : Int32)) % (10 : Int32))), .val (.int r_62), .val (.int (x1 &&& (65535 : Int32))), .val (.int (1 : Int32)), .val (.int (1 : Int32))] [])) t
    refine XS.iload X83.here hx rfl (hb hby at_115) rfl ?_
    show Steps p.tables e below (T83.setTop (mkF m 117 #[.val (.int x0), .val (.int x1), .val (.long ((x0.toInt64) - (48 : Int64))), .second, .val (.int ex_19), .val (.int (1 : Int32)), .val (.int ((x1 &&& (2147483647 : Int32)) % (10 : Int32))), .val (.int r_62), .val (.int (x1 &&& (65535 : Int32))), .val (.int (1 : Int32)), .val (.int (1 : Int32))] [(.int (1 : Int32))])) t
    refine XS.ifNo X83.here hx rfl (hb hby at_117) rfl ((if0 _ _).trans (feq hc95).1) ?_
    show Steps p.tables e below (T83.setTop (mkF m 120 #[.val (.int x0), .val (.int x1), .val (.long ((x0.toInt64) - (48 : Int64))), .second, .val (.int ex_19), .val (.int (1 : Int32)), .val (.int ((x1 &&& (2147483647 : Int32)) % (10 : Int32))), .val (.int r_62), .val (.int (x1 &&& (65535 : Int32))), .val (.int (1 : Int32)), .val (.int (1 : Int32))] [])) t
    refine XS.iload X83.here hx rfl (hb hby at_120) rfl ?_
    show Steps p.tables e below (T83.setTop (mkF m 122 #[.val (.int x0), .val (.int x1), .val (.long ((x0.toInt64) - (48 : Int64))), .second, .val (.int ex_19), .val (.int (1 : Int32)), .val (.int ((x1 &&& (2147483647 : Int32)) % (10 : Int32))), .val (.int r_62), .val (.int (x1 &&& (65535 : Int32))), .val (.int (1 : Int32)), .val (.int (1 : Int32))] [(.int (1 : Int32))])) t
    refine XS.ifNo X83.here hx rfl (hb hby at_122) rfl ((if0 _ _).trans (feq hc97).1) ?_
    show Steps p.tables e below (T83.setTop (mkF m 125 #[.val (.int x0), .val (.int x1), .val (.long ((x0.toInt64) - (48 : Int64))), .second, .val (.int ex_19), .val (.int (1 : Int32)), .val (.int ((x1 &&& (2147483647 : Int32)) % (10 : Int32))), .val (.int r_62), .val (.int (x1 &&& (65535 : Int32))), .val (.int (1 : Int32)), .val (.int (1 : Int32))] [])) t
    refine XS.iconst X83.here hx rfl (hb hby at_125) ?_
    show Steps p.tables e below (T83.setTop (mkF m 126 #[.val (.int x0), .val (.int x1), .val (.long ((x0.toInt64) - (48 : Int64))), .second, .val (.int ex_19), .val (.int (1 : Int32)), .val (.int ((x1 &&& (2147483647 : Int32)) % (10 : Int32))), .val (.int r_62), .val (.int (x1 &&& (65535 : Int32))), .val (.int (1 : Int32)), .val (.int (1 : Int32))] [(.int (1 : Int32))])) t
    refine XS.goto X83.here hx rfl (pc0 := 126) (pc' := 130) rfl (hb hby at_126) (by decide) (by decide) ?_
    exact k)
  obtain ⟨fs, hr, hrun, hended, hW, hsame⟩ := X83.leave (v := some (.int (1 : Int32))) (fun h => by rw [Bd.returns] at h; cases h)
  refine ⟨_, _, K99 _ ?_, hrun, hended, _, _, rfl, ?_, ⟨_, rfl⟩, hW, hsame.mono (by decide) (by decide)⟩
  · exact retN X83 hx (t := .boolean) Bd.returns (by simp) (hb hby at_130) hr
  · show Q_rm0 Z x0 x1 h0 n0 _ T83.heap _
    rw [eh83]
    exact ⟨rfl, (by trivial), N84, rfl⟩
set_option maxRecDepth 65536 in
set_option maxHeartbeats 40000000 in
theorem comes_1 {Post : Tables → Env → Array Value → State → Outcome → State → Prop} (hpost : ∀ tb e args s v u, (limb_1_1.after args s (.returned v) u = true ∧ limb_1_2.after args s (.returned v) u = true ∧ True) → FrameEnd s (.returned v) u (Jvm.fieldLocs frame_1_writes args s ++ Jvm.arrayLocs frame_1_arrays args s ++ Jvm.staticLocs frame_1_statics s) 0 0 → Post tb e args s (.returned v) u) :
    ArmFor flags0 classFile x code maxLocals ret World_1 tables_1 room_1 Calls_1 rest_1 Pre_1 Post := by
  intro l hfl _ _ p e ha hc hk s m args below hf hA hF happ hP
  obtain ⟨hcalls, hrest, hpre⟩ := hP
  obtain ⟨-, -, -, hnamed, -, -, -, hat⟩ := (Spec.applies_iff hf).mp happ
  obtain ⟨hg, hn⟩ := and_e (Cond.before_iff.mp (show (Jvm.Cond.and given_1 narrow_1).before args s = true from hpre))
  obtain ⟨gg1, gg2⟩ := and_e hg
  obtain ⟨gg3, gg4⟩ := and_e gg2
  obtain ⟨w0, w1, rfl⟩ : ∃ w0 w1 : Value, args = #[w0, w1] := by
    have hs : args.size = 2 := by simpa [Cond.value, given_1] using gg1
    obtain ⟨L⟩ := args
    match L, hs with
    | [w0, w1], _ => exact ⟨w0, w1, rfl⟩
  have hw := fun d (hd : d ∈ tables_1) => atoms_spec (ws := Jvm.Cond.code x code maxLocals ret :: tables_1) hat d (List.mem_cons_of_mem _ hd)
  obtain ⟨i0, ei0⟩ := is_v gg3
  obtain rfl : w0 = (.int i0) := Option.some.inj ei0
  obtain ⟨i1, ei1⟩ := is_v gg4
  obtain rfl : w1 = (.int i1) := Option.some.inj ei1
  obtain ⟨n, o, h1, h2, h3, _, L, rfl, ⟨rfl, -, N, -⟩, hq⟩ := rm0 l s _ hw tables_1 i0 i1 s.heap s.heap.size (Nat.le_refl _) p e ha hc hk s m _ below hf ((Spec.applies_iff_loose hf).mp happ).1 ⟨rfl, State.Warmed39.refl s, rfl⟩ trivial
  refine ⟨n, _, h1, h2, h3, hpost _ _ _ _ _ _ ⟨Cond.after_iff.mpr rfl, Cond.after_iff.mpr (eq_i res_at (Term.int_eval (1)) rfl), trivial⟩ ⟨hq.1, hq.2.1, (hq.2.2.sift fun y hy => Or.inr (N y hy)).mono (by decide) (by decide)⟩⟩
theorem main_1_1 : Claimed_1_1 := comes_1 fun _ _ _ _ _ _ h hF => ⟨h.1, hF⟩
theorem main_1_2 : Claimed_1_2 := comes_1 fun _ _ _ _ _ _ h hF => ⟨h.2.1, hF⟩
end Jvm.Pilot.@@N@@
namespace Jvm.Pilot.@@N@@
open Jvm Jvm.ClassFile Sem Op Lib Jvm.Free Jvm.Stand Jvm.Pilot.@@N@@.Jvm.D
/-! MADE BY PROGRAM (witnessworld.py) out of the Statement's table words and the real class files: 8 classes; the members and pool entries that the words name. The judged class is class 1, her method 1. -/
namespace start1
open Jvm.ClassFile
def u (s : String) : CpInfo := .utf8 (stringToUtf16 s)
/-- a pool by its gaps: so many unusable entries, then the entry; so many at the end -/
def gap : Nat → List CpInfo → List CpInfo
  | 0, r => r
  | n + 1, r => .unusable :: gap n r
def poolList (es : List (Nat × CpInfo)) (last : Nat) : List CpInfo := es.foldr (fun e r => gap e.1 (e.2 :: r)) (gap last [])
def pool (es : List (Nat × CpInfo)) (last : Nat) : Array CpInfo := ⟨poolList es last⟩
def fileOf (pool : Array CpInfo) (this : Nat) (attrs : Array Attribute := #[]) (ms : Array MethodInfo := #[]) (fl : Nat := 33) (sup : Nat := 0) (ifs : Array Nat := #[]) (fds : Array FieldInfo := #[]) : ClassFile where
  minorVersion := 0
  majorVersion := 65
  constantPool := pool
  accessFlags := fl
  thisClass := this
  superClass := sup
  interfaces := ifs
  fields := fds
  methods := ms
  attributes := attrs
def plain (name : String) (sup : Option ClassId) : Class where
  name := name
  kind := .ordinary
  loader := none
  accessFlags := 33
  super := sup
  interfaces := #[]
  cf := none
  fields := #[]
  methods := #[]
  instanceTypes := #[]
  staticTypes := #[]
  resolved := #[]
  callSites := []
  init := .initialized
  statics := none
  mirror := none

def pool0 : Array CpInfo := pool [(5, u "<init>"), (0, u "()V"), (1, .class_ 10), (1, u "java/lang/Object")] 113

def k0m0 : Method := { name := "<init>", desc := "()V", sig := { parameters := [], returnType := none }, accessFlags := 1, code := none }
/-- java/lang/Object -/
def k0 : Class := { plain "java/lang/Object" none with
  accessFlags := 33
  interfaces := #[]
  cf := some (fileOf pool0 8 #[] #[{ accessFlags := 1, nameIndex := 5, descriptorIndex := 6, attributes := #[] }] 33 0 #[] #[])
  fields := #[]
  methods := #[k0m0]
  instanceTypes := #[]
  staticTypes := #[]
  resolved := Array.replicate 124 none
  statics := none }

def pool1 : Array CpInfo := pool [(2, .class_ 4), (1, u "java/lang/Object"), (0, u "<init>"), (0, u "()V"), (0, .long 48), (1, .long 9), (1, .methodref 12 13), (0, .class_ 14), (0, .nameAndType 15 16), (0, u "com/example/covary/covary/url/Url"), (0, u "isAsciiDigit"), (0, u "(I)Z"), (0, .integer 2147483647), (0, .integer 65535), (0, .class_ 20), (0, u "com/example/covary/covary/url/UrlIsAsciiDigitPinLaw"), (2, u "law"), (0, u "(II)Z")] 3

def k1m0 : Method := { name := "<init>", desc := "()V", sig := { parameters := [], returnType := none }, accessFlags := 2, code := none }
def k1c1 : Code := { maxStack := 4, maxLocals := 11, code := code, exceptionTable := #[], attributes := #[] }
def k1m1 : Method := { name := "law", desc := "(II)Z", sig := { parameters := [.int, .int], returnType := some .boolean }, accessFlags := 9, code := some k1c1 }
/-- com/example/covary/covary/url/UrlIsAsciiDigitPinLaw -/
def k1 : Class := { plain "com/example/covary/covary/url/UrlIsAsciiDigitPinLaw" (some 0) with
  accessFlags := 49
  interfaces := #[]
  cf := some (fileOf pool1 19 #[] #[{ accessFlags := 2, nameIndex := 5, descriptorIndex := 6, attributes := #[] }, { accessFlags := 9, nameIndex := 23, descriptorIndex := 24, attributes := #[] }] 49 2 #[] #[])
  fields := #[]
  methods := #[k1m0, k1m1]
  instanceTypes := #[]
  staticTypes := #[]
  resolved := Array.replicate 28 none
  statics := none }

def pool2 : Array CpInfo := pool [(2, .class_ 4), (1, u "java/lang/Object"), (0, u "<init>"), (0, u "()V"), (0, .class_ 8), (0, u "java/lang/Record")] 13

def k2m0 : Method := { name := "<init>", desc := "()V", sig := { parameters := [], returnType := none }, accessFlags := 4, code := none }
/-- java/lang/Record -/
def k2 : Class := { plain "java/lang/Record" (some 0) with
  accessFlags := 1057
  interfaces := #[]
  cf := some (fileOf pool2 7 #[] #[{ accessFlags := 4, nameIndex := 5, descriptorIndex := 6, attributes := #[] }] 1057 2 #[] #[])
  fields := #[]
  methods := #[k2m0]
  instanceTypes := #[]
  staticTypes := #[]
  resolved := Array.replicate 22 none
  statics := none }

def pool3 : Array CpInfo := pool [(2, .class_ 4), (1, u "java/lang/Record"), (9, .class_ 16), (1, u "com/example/covary/covary/url/Url"), (0, u "scheme"), (0, u "Ljava/lang/String;"), (2, u "username"), (2, u "password"), (2, u "host"), (2, u "port"), (0, u "I"), (2, u "path"), (0, u "Ljava/util/List;"), (2, u "opaquePath"), (2, u "query"), (2, u "fragment"), (10, .class_ 56), (0, u "com/example/covary/covary/url/Url$Parser"), (14, u "SPECIAL"), (0, u "Ljava/util/Map;"), (61, .class_ 136), (1, u "com/example/covary/covary/url/Url$EncodeSet"), (1, u "(I)Z"), (20, .class_ 160), (0, u "com/example/covary/covary/url/Url$1"), (9, u "HEX"), (0, u "[C"), (57, u "isAsciiDigit"), (6, .class_ 237), (0, u "com/example/covary/covary/url/Url$State")] 32

def k3c0 : Code := { maxStack := 2, maxLocals := 1, code := prog_24_method_11_code, exceptionTable := #[], attributes := #[] }
def k3m0 : Method := { name := "isAsciiDigit", desc := "(I)Z", sig := { parameters := [.int], returnType := some .boolean }, accessFlags := 9, code := some k3c0 }
/-- com/example/covary/covary/url/Url -/
def k3 : Class := { plain "com/example/covary/covary/url/Url" (some 2) with
  accessFlags := 49
  interfaces := #[]
  cf := some (fileOf pool3 14 #[.nestMembers #[55, 236, 134, 159]] #[{ accessFlags := 9, nameIndex := 229, descriptorIndex := 138, attributes := #[] }] 49 2 #[] #[{ accessFlags := 18, nameIndex := 17, descriptorIndex := 18, attributes := #[] }, { accessFlags := 18, nameIndex := 21, descriptorIndex := 18, attributes := #[] }, { accessFlags := 18, nameIndex := 24, descriptorIndex := 18, attributes := #[] }, { accessFlags := 18, nameIndex := 27, descriptorIndex := 18, attributes := #[] }, { accessFlags := 18, nameIndex := 30, descriptorIndex := 31, attributes := #[] }, { accessFlags := 18, nameIndex := 34, descriptorIndex := 35, attributes := #[] }, { accessFlags := 18, nameIndex := 38, descriptorIndex := 18, attributes := #[] }, { accessFlags := 18, nameIndex := 41, descriptorIndex := 18, attributes := #[] }, { accessFlags := 18, nameIndex := 44, descriptorIndex := 18, attributes := #[] }, { accessFlags := 26, nameIndex := 71, descriptorIndex := 72, attributes := #[] }, { accessFlags := 26, nameIndex := 170, descriptorIndex := 171, attributes := #[] }])
  fields := #[{ name := "scheme", type := (.object "java/lang/String"), accessFlags := 18, slot := 0, constantValue := 0 }, { name := "username", type := (.object "java/lang/String"), accessFlags := 18, slot := 1, constantValue := 0 }, { name := "password", type := (.object "java/lang/String"), accessFlags := 18, slot := 2, constantValue := 0 }, { name := "host", type := (.object "java/lang/String"), accessFlags := 18, slot := 3, constantValue := 0 }, { name := "port", type := .int, accessFlags := 18, slot := 4, constantValue := 0 }, { name := "path", type := (.object "java/util/List"), accessFlags := 18, slot := 5, constantValue := 0 }, { name := "opaquePath", type := (.object "java/lang/String"), accessFlags := 18, slot := 6, constantValue := 0 }, { name := "query", type := (.object "java/lang/String"), accessFlags := 18, slot := 7, constantValue := 0 }, { name := "fragment", type := (.object "java/lang/String"), accessFlags := 18, slot := 8, constantValue := 0 }, { name := "SPECIAL", type := (.object "java/util/Map"), accessFlags := 26, slot := 0, constantValue := 0 }, { name := "HEX", type := (.array .char), accessFlags := 26, slot := 1, constantValue := 0 }]
  methods := #[k3m0]
  instanceTypes := #[(.object "java/lang/String"), (.object "java/lang/String"), (.object "java/lang/String"), (.object "java/lang/String"), .int, (.object "java/util/List"), (.object "java/lang/String"), (.object "java/lang/String"), (.object "java/lang/String")]
  staticTypes := #[(.object "java/util/Map"), (.array .char)]
  resolved := Array.replicate 270 none
  statics := none }

def pool4 : Array CpInfo := pool [(1, u "java/lang/Cloneable"), (0, .class_ 1), (0, u "java/lang/Object"), (0, .class_ 3)] 3

/-- java/lang/Cloneable -/
def k4 : Class := { plain "java/lang/Cloneable" (some 0) with
  accessFlags := 1537
  interfaces := #[]
  cf := some (fileOf pool4 2 #[] #[] 1537 4 #[] #[])
  fields := #[]
  methods := #[]
  instanceTypes := #[]
  staticTypes := #[]
  resolved := Array.replicate 8 none
  statics := none }

def pool5 : Array CpInfo := pool [(1, u "java/io/Serializable"), (0, .class_ 1), (0, u "java/lang/Object"), (0, .class_ 3)] 3

/-- java/io/Serializable -/
def k5 : Class := { plain "java/io/Serializable" (some 0) with
  accessFlags := 1537
  interfaces := #[]
  cf := some (fileOf pool5 2 #[] #[] 1537 4 #[] #[])
  fields := #[]
  methods := #[]
  instanceTypes := #[]
  staticTypes := #[]
  resolved := Array.replicate 8 none
  statics := none }

/-- the primitive byte -/
def k6 : Class := { plain "byte" none with kind := .primitive 'B', accessFlags := 0x411 }
/-- [B -/
def k7 : Class := { plain "[B" (some 0) with kind := .array 6 .byte, interfaces := #[4, 5], accessFlags := 1041 }

def heap : Heap := #[]
def classes : Array Class := #[k0, k1, k2, k3, k4, k5, k6, k7]
def interned : List (Array UInt16 × Addr) := []
def slotsUsed : Nat := 0
def theMethod : MethodId := ⟨1, 1⟩
def args0 : Array Value := #[.int 50, .int 5]
def aboutOver (below : List Frame) : State where
  vm := { classes := classes, interned := interned.toArray }
  heap := heap
  slotsUsed := slotsUsed
  threads := #[{ frames := .invoking theMethod args0 :: below }]
def below0 : List Frame := [.native { method := ⟨0, 0⟩, args := #[] }]
def about1 : State := aboutOver below0
def p0 : Program := .bare "" "" ""
def e0 : Env := launch0.env 0 0 0
theorem w_frames : about1.frames = Frame.invoking theMethod args0 :: below0 := rfl
set_option maxRecDepth 65536 in
theorem w_args : argsFit about1.vm theMethod args0 = true := by decide +kernel
set_option maxRecDepth 65536 in
theorem w_heap : heapFits about1 = true := by decide +kernel
set_option maxRecDepth 65536 in
theorem w_runnable : about1.curStatus? = some .runnable := by decide +kernel
set_option maxRecDepth 65536 in
theorem w_alone : about1.alone = true := by decide +kernel
set_option maxRecDepth 65536 in
theorem w_named : about1.methodNamed? x = some theMethod := by decide +kernel
set_option maxRecDepth 65536 in
theorem w_hears : about1.hears theMethod below0 = true := by decide +kernel
set_option maxRecDepth 65536 in
theorem w_ripe : about1.ripe theMethod args0 below0 = true := by decide +kernel
theorem w_running : about1.status = .running := rfl
set_option maxRecDepth 65536 in
theorem w_room : about1.hasRoom e0.platform room_1 = true :=
  launch0.hasRoom_least _ room_1 (by decide +kernel) (by decide +kernel) (by decide +kernel) (by decide +kernel) (by decide +kernel) (by decide +kernel)
theorem allAtoms_all (ts : List Jvm.Cond) (a : Array Jvm.Value) (st : Jvm.State) : (allAtoms ts).before a st = ts.all (fun c => c.before a st) := by
  induction ts with
  | nil => rfl
  | cons c t ih =>
    show (Jvm.Cond.and c (allAtoms t)).before a st = _
    rw [Jvm.Cond.before_and, ih, List.all_cons]
def words1 : List Jvm.Cond := Jvm.Cond.code x code maxLocals ret :: tables_1
/-- a 'code' word, met by the world's own term for the bytes: nothing is compared byte by byte -/
theorem code_word {y : MethodName} {bytes : ByteArray} {mx : Nat} {rt : Option FieldType} {a : Array Value} {s : State} {m : MethodId} {meth : Method} {c : Code} (h1 : s.methodNamed? y = some m) (h2 : s.vm.method? m = some meth) (h3 : meth.code = some c) (h4 : c.code = bytes)
    (h5 : (c.maxLocals == mx && c.exceptionTable.isEmpty && decide (c.maxStack ≤ mostOperands) && decide (meth.sig.returnType = rt) && !meth.locks && decide (parseMethodDescriptor y.desc = some meth.sig)) = true) : (Jvm.Cond.code y bytes mx rt).before a s = true := by
  simp only [Bool.and_eq_true, beq_iff_eq, Bool.not_eq_true', decide_eq_true_eq] at h5
  obtain ⟨⟨⟨⟨⟨g1, g2⟩, g3⟩, g4⟩, g5⟩, g6⟩ := h5
  simp [Cond.before, Cond.holds, Cond.value, h1, h2, h3, h4, g1, g2, g3, g4, g5, g6]
def isCode : Jvm.Cond → Bool
  | .code _ _ _ _ => true
  | _ => false
theorem all_split {L : List Jvm.Cond} {P : Jvm.Cond → Bool} (h1 : L.all (fun c => isCode c || P c) = true) (h2 : ∀ c ∈ L.filter isCode, P c = true) : L.all P = true := by
  refine List.all_eq_true.mpr fun c hc => ?_
  have h := List.all_eq_true.mp h1 c hc
  rcases Bool.eq_false_or_eq_true (isCode c) with hi | hi
  · exact h2 c (List.mem_filter.mpr ⟨hc, hi⟩)
  · simpa [hi] using h
set_option maxRecDepth 65536 in
theorem w_c0 : (Jvm.Cond.code x code maxLocals ret).before args0 about1 = true := code_word (m := ⟨1, 1⟩) (meth := k1m1) (c := k1c1) (by decide +kernel) rfl rfl rfl (by decide +kernel)
set_option maxRecDepth 65536 in
theorem w_c1 : (Jvm.Cond.code ({ cls := "com/example/covary/covary/url/Url", name := "isAsciiDigit", desc := "(I)Z" } : Jvm.MethodName) prog_24_method_11_code (1 : Nat) (Option.some Jvm.ClassFile.FieldType.boolean)).before args0 about1 = true := code_word (m := ⟨3, 0⟩) (meth := k3m0) (c := k3c0) (by decide +kernel) rfl rfl rfl (by decide +kernel)
def codes1 : List Jvm.Cond := [Jvm.Cond.code x code maxLocals ret, Jvm.Cond.code ({ cls := "com/example/covary/covary/url/Url", name := "isAsciiDigit", desc := "(I)Z" } : Jvm.MethodName) prog_24_method_11_code (1 : Nat) (Option.some Jvm.ClassFile.FieldType.boolean)]
set_option maxRecDepth 65536 in
theorem codes_eq : words1.filter isCode = codes1 := rfl
theorem w_codes : ∀ c ∈ words1.filter isCode, c.before args0 about1 = true := by
  rw [codes_eq]
  intro c hc
  simp only [codes1, List.mem_cons, List.not_mem_nil, or_false] at hc
  rcases hc with rfl | rfl
  · exact w_c0
  · exact w_c1
set_option maxRecDepth 65536 in
theorem w_t1 : words1.all (fun c => isCode c || c.before args0 about1) = true := by decide +kernel
theorem w_tables : (allAtoms (Jvm.Cond.code x code maxLocals ret :: tables_1)).before args0 about1 = true := by
  rw [allAtoms_all]
  show words1.all (fun c => c.before args0 about1) = true
  refine all_split ?_ w_codes
  rw [w_t1]
set_option maxRecDepth 65536 in
theorem w_case : (Jvm.Cond.and given_1 narrow_1).before args0 about1 = true := by decide +kernel
theorem w_applies : (headSpec (Jvm.Cond.code x code maxLocals ret :: tables_1) room_1).applies x e0.platform about1 = true :=
  (Spec.applies_iff w_frames).mpr ⟨w_running, w_runnable, w_alone, w_named, w_hears, w_ripe, w_room, w_tables⟩
theorem atStart : AtStart classFile x code maxLocals ret World_1 tables_1 room_1 Calls_1 rest_1 Pre_1 launch0 p0 e0 about1 theMethod args0 below0 :=
  ⟨lists_1, trivial, launch0.admits_env _ _ _, launch0.least_env, fairChoices_fair.cas, fairChoices_fair.clock, w_frames, w_args, w_heap, w_applies, trivial, trivial, w_case⟩
end start1
theorem witness_1 : WitnessClaimed_1 := ⟨start1.p0, start1.e0, start1.about1, start1.theMethod, start1.args0, start1.below0, start1.atStart⟩
end Jvm.Pilot.@@N@@
