import JvmDerived
import JvmDerived.Pilot.@@N@@Statement
import JvmDerived.Pilot.@@N@@Code
set_option linter.unusedVariables false
set_option linter.unusedSimpArgs false
namespace Jvm.RoadKit
open Sem ClassFile Op Lib Jvm.Stand Jvm.Free Jvm.LawKit
section New
variable {p : Program} {l : Launch} {e : Env} {R : Room} {s : State} {m : MethodId} {args : Array Value} {below : List Frame} {meth : Method} {c : Code} {T : State} {locs : List Loc} {cells slots : Nat}
theorem retI (X : Stand p l e R s m args below meth c T locs cells slots) (hx : p.tables.exec = Jvm.exec) {pc : Nat} {Ls : Array Slot} {z : Int32} {rest : List Value} (hret : meth.sig.returnType = some .int) (hd : decode c.code pc = .ok (.ireturn, 1)) {fs : List Frame}
    (hl : ∀ (f : JFrame) (acts : List Action), f.method = m → f.locked = none → f.entered = [] → (doReturn e (T.setTop f) acts (some (.int z))).1 = T.setFrames fs) : Steps p.tables e below (T.setTop (mkF m pc Ls (.int z :: rest))) (T.setFrames fs) := by
  have hm' : T.vm.method? m = some meth := X.method'
  have hn : narrow .int (.int z) = .int z := rfl
  show Steps p.tables e below (T.setTop { method := m, pc := pc, locals := Ls, stack := _ :: rest, locked := none }) _
  jvm_step X.here [X.here.top, hx, hd, hm', hret, hn]
  first | (intro acts; rw [hl _ acts rfl rfl rfl]) | rw [hl _ _ rfl rfl rfl]
  exact Steps.refl _
end New
end Jvm.RoadKit
namespace Jvm.Pilot.@@N@@
open Jvm Jvm.ClassFile Sem Op Lib Jvm.Free Jvm.Stand Jvm.LawKit Jvm.RoadKit Bundle Jvm.Pilot.@@N@@.Jvm.D
theorem own_d1_0 : decode jdk_29_method_69_code 0 = .ok (.iload_n 0, 1) := by decide +kernel
theorem own_d1_1 : decode jdk_29_method_69_code 1 = .ok (.iload_n 1, 1) := by decide +kernel
theorem own_d1_2 : decode jdk_29_method_69_code 2 = .ok (.if_icmp .gt 7, 3) := by decide +kernel
theorem own_d1_5 : decode jdk_29_method_69_code 5 = .ok (.iload_n 0, 1) := by decide +kernel
theorem own_d1_6 : decode jdk_29_method_69_code 6 = .ok (.goto 4, 3) := by decide +kernel
theorem own_d1_9 : decode jdk_29_method_69_code 9 = .ok (.iload_n 1, 1) := by decide +kernel
theorem own_d1_10 : decode jdk_29_method_69_code 10 = .ok (.ireturn, 1) := by decide +kernel
def Q_rm1 (Z : State) (pa : Int32) (pb : Int32) (h0 : Heap) (n0 : Nat) (v : Option Value) (h : Heap) (L : List Loc) : Prop := ∃ r : Int32, v = some (.int r) ∧ ((r.toInt = pa.toInt ∧ pa.toInt ≤ pb.toInt) ∨ (r.toInt = pb.toInt ∧ pb.toInt < pa.toInt)) ∧ Fr n0 L ∧ h = h0
theorem own_ef_rm1 (m : MethodId) (pa : Int32) (pb : Int32) : entryFrame m #[(.int pa), (.int pb)] 2 = mkF m 0 #[.val (.int pa), .val (.int pb)] [] := by first | (simp [entryFrame, mkF, argsToLocals, Value.category]; done) | rfl
set_option maxRecDepth 65536 in
set_option maxHeartbeats 40000000 in
theorem rm1 (l : Launch) (Z : State) (a0 : Array Value) (hw : ∀ d ∈ tables_1, d.before a0 Z = true) (ws : List Jvm.Cond) (pa : Int32) (pb : Int32) (h0 : Heap) (n0 : Nat) (Z0 : n0 ≤ h0.size) :
    MetFree l (⟨"java/lang/Math", "min", "(II)I"⟩ : MethodName) (head1 (Jvm.Cond.code (⟨"java/lang/Math", "min", "(II)I"⟩ : MethodName) jdk_29_method_69_code 2 (some .int) :: ws) ({ frames := 0, cells := 0, slots := 0, locals := 0 } : Room)) (fun a U => a = #[(.int pa), (.int pb)] ∧ Z.Warmed39 U.vm ∧ U.heap = h0) (fun _ _ _ _ _ => True) (fun _ U o U' => ∃ v L, o = .returned v ∧ Q_rm1 Z pa pb h0 n0 v U'.heap L ∧ FrameEnd U o U' L ({ frames := 0, cells := 0, slots := 0, locals := 0 } : Room).cells ({ frames := 0, cells := 0, slots := 0, locals := 0 } : Room).slots) := by
  refine MetFree.of_bodySF (Jvm.Free.JP.mathPlain rfl (by decide +kernel)) hisR ?_
  intro p e s m args below meth c s₁ Bd hml0 hP hK
  obtain ⟨rfl, hZ, hh⟩ := hP
  have hx := Bd.exec
  have hby := Bd.bytes
  have hml : c.maxLocals = 2 := hml0
  have hown : s.vm.findClass "java/lang/Math" = some m.cls := findClass_of_methodNamed Bd.named
  have hnm := (name_of_methodNamed Bd.named Bd.method).1
  have X0 : Stand p l e ({ frames := 0, cells := 0, slots := 0, locals := 0 } : Room) s m #[(.int pa), (.int pb)] below meth c s₁ [] 0 0 := Stand.of_body Bd
  have e0 : s₁.heap = h0 := by rw [← hh, Bd.state]; rfl
  have N0 := Fr.nil n0
  have pre0 : ∀ t, Steps p.tables e below (s₁.setTop (mkF m 0 #[.val (.int pa), .val (.int pb)] [])) t → Steps p.tables e below (s₁.setTop (entryFrame m #[(.int pa), (.int pb)] 2)) t := fun t k => castTop (own_ef_rm1 m pa pb) k
  have K2 : ∀ t, Steps p.tables e below (s₁.setTop (mkF m 2 #[.val (.int pa), .val (.int pb)] [(.int pb), (.int pa)])) t → Steps p.tables e below (s₁.setTop (entryFrame m #[(.int pa), (.int pb)] 2)) t := fun t k => pre0 t (by
    show Steps p.tables e below (s₁.setTop (mkF m 0 #[.val (.int pa), .val (.int pb)] [])) t
    refine XS.iloadN X0.here hx rfl (hb hby own_d1_0) rfl ?_
    show Steps p.tables e below (s₁.setTop (mkF m 1 #[.val (.int pa), .val (.int pb)] [(.int pa)])) t
    refine XS.iloadN X0.here hx rfl (hb hby own_d1_1) rfl ?_
    exact k)
  have q3 := rng32 pb
  have q4 := rng32 pa
  by_cases hc1 : pb < pa
  · have q5 : pb.toInt < pa.toInt := Int32.lt_iff_toInt_lt.mp hc1
    have K6 : ∀ t, Steps p.tables e below (s₁.setTop (mkF m 10 #[.val (.int pa), .val (.int pb)] [(.int pb)])) t → Steps p.tables e below (s₁.setTop (entryFrame m #[(.int pa), (.int pb)] 2)) t := fun t k => K2 t (by
      show Steps p.tables e below (s₁.setTop (mkF m 2 #[.val (.int pa), .val (.int pb)] [(.int pb), (.int pa)])) t
      refine XS.icmpYes X0.here hx rfl (pc0 := 2) (pc' := 9) rfl (hb hby own_d1_2) rfl (tlt hc1).2.2.1 (by decide) (by decide) ?_
      show Steps p.tables e below (s₁.setTop (mkF m 9 #[.val (.int pa), .val (.int pb)] [])) t
      refine XS.iloadN X0.here hx rfl (hb hby own_d1_9) rfl ?_
      exact k)
    obtain ⟨fs, hr, hrun, hended, hW, hsame⟩ := X0.leave (v := some (.int pb)) (fun h => by rw [Bd.returns] at h; cases h)
    refine ⟨_, _, K6 _ ?_, hrun, hended, _, _, rfl, ?_, ⟨_, rfl⟩, hW, hsame.mono (by decide) (by decide)⟩
    · exact retI X0 hx Bd.returns (hb hby own_d1_10) hr
    · show Q_rm1 Z pa pb h0 n0 _ s₁.heap _
      rw [e0]
      exact ⟨pb, rfl, (by omega), N0, rfl⟩
  · have q7 : ¬ pb.toInt < pa.toInt := fun q => hc1 (Int32.lt_iff_toInt_lt.mpr q)
    have K8 : ∀ t, Steps p.tables e below (s₁.setTop (mkF m 10 #[.val (.int pa), .val (.int pb)] [(.int pa)])) t → Steps p.tables e below (s₁.setTop (entryFrame m #[(.int pa), (.int pb)] 2)) t := fun t k => K2 t (by
      show Steps p.tables e below (s₁.setTop (mkF m 2 #[.val (.int pa), .val (.int pb)] [(.int pb), (.int pa)])) t
      refine XS.icmpNo X0.here hx rfl (hb hby own_d1_2) rfl (flt hc1).2.2.1 ?_
      show Steps p.tables e below (s₁.setTop (mkF m 5 #[.val (.int pa), .val (.int pb)] [])) t
      refine XS.iloadN X0.here hx rfl (hb hby own_d1_5) rfl ?_
      show Steps p.tables e below (s₁.setTop (mkF m 6 #[.val (.int pa), .val (.int pb)] [(.int pa)])) t
      refine XS.goto X0.here hx rfl (pc0 := 6) (pc' := 10) rfl (hb hby own_d1_6) (by decide) (by decide) ?_
      exact k)
    obtain ⟨fs, hr, hrun, hended, hW, hsame⟩ := X0.leave (v := some (.int pa)) (fun h => by rw [Bd.returns] at h; cases h)
    refine ⟨_, _, K8 _ ?_, hrun, hended, _, _, rfl, ?_, ⟨_, rfl⟩, hW, hsame.mono (by decide) (by decide)⟩
    · exact retI X0 hx Bd.returns (hb hby own_d1_10) hr
    · show Q_rm1 Z pa pb h0 n0 _ s₁.heap _
      rw [e0]
      exact ⟨pa, rfl, (by omega), N0, rfl⟩
theorem own_d2_0 : decode jdk_29_method_65_code 0 = .ok (.iload_n 0, 1) := by decide +kernel
theorem own_d2_1 : decode jdk_29_method_65_code 1 = .ok (.iload_n 1, 1) := by decide +kernel
theorem own_d2_2 : decode jdk_29_method_65_code 2 = .ok (.if_icmp .lt 7, 3) := by decide +kernel
theorem own_d2_5 : decode jdk_29_method_65_code 5 = .ok (.iload_n 0, 1) := by decide +kernel
theorem own_d2_6 : decode jdk_29_method_65_code 6 = .ok (.goto 4, 3) := by decide +kernel
theorem own_d2_9 : decode jdk_29_method_65_code 9 = .ok (.iload_n 1, 1) := by decide +kernel
theorem own_d2_10 : decode jdk_29_method_65_code 10 = .ok (.ireturn, 1) := by decide +kernel
def Q_rm2 (Z : State) (pa : Int32) (pb : Int32) (h0 : Heap) (n0 : Nat) (v : Option Value) (h : Heap) (L : List Loc) : Prop := ∃ r : Int32, v = some (.int r) ∧ ((r.toInt = pa.toInt ∧ pb.toInt ≤ pa.toInt) ∨ (r.toInt = pb.toInt ∧ pa.toInt < pb.toInt)) ∧ Fr n0 L ∧ h = h0
theorem own_ef_rm2 (m : MethodId) (pa : Int32) (pb : Int32) : entryFrame m #[(.int pa), (.int pb)] 2 = mkF m 0 #[.val (.int pa), .val (.int pb)] [] := by first | (simp [entryFrame, mkF, argsToLocals, Value.category]; done) | rfl
set_option maxRecDepth 65536 in
set_option maxHeartbeats 40000000 in
theorem rm2 (l : Launch) (Z : State) (a0 : Array Value) (hw : ∀ d ∈ tables_1, d.before a0 Z = true) (ws : List Jvm.Cond) (pa : Int32) (pb : Int32) (h0 : Heap) (n0 : Nat) (Z0 : n0 ≤ h0.size) :
    MetFree l (⟨"java/lang/Math", "max", "(II)I"⟩ : MethodName) (head1 (Jvm.Cond.code (⟨"java/lang/Math", "max", "(II)I"⟩ : MethodName) jdk_29_method_65_code 2 (some .int) :: ws) ({ frames := 0, cells := 0, slots := 0, locals := 0 } : Room)) (fun a U => a = #[(.int pa), (.int pb)] ∧ Z.Warmed39 U.vm ∧ U.heap = h0) (fun _ _ _ _ _ => True) (fun _ U o U' => ∃ v L, o = .returned v ∧ Q_rm2 Z pa pb h0 n0 v U'.heap L ∧ FrameEnd U o U' L ({ frames := 0, cells := 0, slots := 0, locals := 0 } : Room).cells ({ frames := 0, cells := 0, slots := 0, locals := 0 } : Room).slots) := by
  refine MetFree.of_bodySF (Jvm.Free.JP.mathPlain rfl (by decide +kernel)) hisR ?_
  intro p e s m args below meth c s₁ Bd hml0 hP hK
  obtain ⟨rfl, hZ, hh⟩ := hP
  have hx := Bd.exec
  have hby := Bd.bytes
  have hml : c.maxLocals = 2 := hml0
  have hown : s.vm.findClass "java/lang/Math" = some m.cls := findClass_of_methodNamed Bd.named
  have hnm := (name_of_methodNamed Bd.named Bd.method).1
  have X0 : Stand p l e ({ frames := 0, cells := 0, slots := 0, locals := 0 } : Room) s m #[(.int pa), (.int pb)] below meth c s₁ [] 0 0 := Stand.of_body Bd
  have e0 : s₁.heap = h0 := by rw [← hh, Bd.state]; rfl
  have N0 := Fr.nil n0
  have pre0 : ∀ t, Steps p.tables e below (s₁.setTop (mkF m 0 #[.val (.int pa), .val (.int pb)] [])) t → Steps p.tables e below (s₁.setTop (entryFrame m #[(.int pa), (.int pb)] 2)) t := fun t k => castTop (own_ef_rm2 m pa pb) k
  have K10 : ∀ t, Steps p.tables e below (s₁.setTop (mkF m 2 #[.val (.int pa), .val (.int pb)] [(.int pb), (.int pa)])) t → Steps p.tables e below (s₁.setTop (entryFrame m #[(.int pa), (.int pb)] 2)) t := fun t k => pre0 t (by
    show Steps p.tables e below (s₁.setTop (mkF m 0 #[.val (.int pa), .val (.int pb)] [])) t
    refine XS.iloadN X0.here hx rfl (hb hby own_d2_0) rfl ?_
    show Steps p.tables e below (s₁.setTop (mkF m 1 #[.val (.int pa), .val (.int pb)] [(.int pa)])) t
    refine XS.iloadN X0.here hx rfl (hb hby own_d2_1) rfl ?_
    exact k)
  have q11 := rng32 pa
  have q12 := rng32 pb
  by_cases hc9 : pa < pb
  · have q13 : pa.toInt < pb.toInt := Int32.lt_iff_toInt_lt.mp hc9
    have K14 : ∀ t, Steps p.tables e below (s₁.setTop (mkF m 10 #[.val (.int pa), .val (.int pb)] [(.int pb)])) t → Steps p.tables e below (s₁.setTop (entryFrame m #[(.int pa), (.int pb)] 2)) t := fun t k => K10 t (by
      show Steps p.tables e below (s₁.setTop (mkF m 2 #[.val (.int pa), .val (.int pb)] [(.int pb), (.int pa)])) t
      refine XS.icmpYes X0.here hx rfl (pc0 := 2) (pc' := 9) rfl (hb hby own_d2_2) rfl (tlt hc9).1 (by decide) (by decide) ?_
      show Steps p.tables e below (s₁.setTop (mkF m 9 #[.val (.int pa), .val (.int pb)] [])) t
      refine XS.iloadN X0.here hx rfl (hb hby own_d2_9) rfl ?_
      exact k)
    obtain ⟨fs, hr, hrun, hended, hW, hsame⟩ := X0.leave (v := some (.int pb)) (fun h => by rw [Bd.returns] at h; cases h)
    refine ⟨_, _, K14 _ ?_, hrun, hended, _, _, rfl, ?_, ⟨_, rfl⟩, hW, hsame.mono (by decide) (by decide)⟩
    · exact retI X0 hx Bd.returns (hb hby own_d2_10) hr
    · show Q_rm2 Z pa pb h0 n0 _ s₁.heap _
      rw [e0]
      exact ⟨pb, rfl, (by omega), N0, rfl⟩
  · have q15 : ¬ pa.toInt < pb.toInt := fun q => hc9 (Int32.lt_iff_toInt_lt.mpr q)
    have K16 : ∀ t, Steps p.tables e below (s₁.setTop (mkF m 10 #[.val (.int pa), .val (.int pb)] [(.int pa)])) t → Steps p.tables e below (s₁.setTop (entryFrame m #[(.int pa), (.int pb)] 2)) t := fun t k => K10 t (by
      show Steps p.tables e below (s₁.setTop (mkF m 2 #[.val (.int pa), .val (.int pb)] [(.int pb), (.int pa)])) t
      refine XS.icmpNo X0.here hx rfl (hb hby own_d2_2) rfl (flt hc9).1 ?_
      show Steps p.tables e below (s₁.setTop (mkF m 5 #[.val (.int pa), .val (.int pb)] [])) t
      refine XS.iloadN X0.here hx rfl (hb hby own_d2_5) rfl ?_
      show Steps p.tables e below (s₁.setTop (mkF m 6 #[.val (.int pa), .val (.int pb)] [(.int pa)])) t
      refine XS.goto X0.here hx rfl (pc0 := 6) (pc' := 10) rfl (hb hby own_d2_6) (by decide) (by decide) ?_
      exact k)
    obtain ⟨fs, hr, hrun, hended, hW, hsame⟩ := X0.leave (v := some (.int pa)) (fun h => by rw [Bd.returns] at h; cases h)
    refine ⟨_, _, K16 _ ?_, hrun, hended, _, _, rfl, ?_, ⟨_, rfl⟩, hW, hsame.mono (by decide) (by decide)⟩
    · exact retI X0 hx Bd.returns (hb hby own_d2_10) hr
    · show Q_rm2 Z pa pb h0 n0 _ s₁.heap _
      rw [e0]
      exact ⟨pa, rfl, (by omega), N0, rfl⟩
theorem own_d4_0 : decode jdk_30_method_1_code 0 = .ok (.aload_n 0, 1) := by decide +kernel
theorem own_d4_1 : decode jdk_30_method_1_code 1 = .ok (.invokespecial 1, 3) := by decide +kernel
theorem own_d4_4 : decode jdk_30_method_1_code 4 = .ok (.return_, 1) := by decide +kernel
theorem own_pn0 : plainName "java/lang/Record" = true := by first | (simp [plainName, overriddenIn]; done) | decide +kernel
def Q_rm4 (Z : State) (ra : Addr) (h0 : Heap) (n0 : Nat) (v : Option Value) (h : Heap) (L : List Loc) : Prop := v = none ∧ (True) ∧ Fr n0 L ∧ h = h0
theorem own_ef_rm4 (m : MethodId) (ra : Addr) : entryFrame m #[(.ref ra)] 1 = mkF m 0 #[.val (.ref ra)] [] := by first | (simp [entryFrame, mkF, argsToLocals, Value.category]; done) | rfl
set_option maxRecDepth 65536 in
set_option maxHeartbeats 40000000 in
theorem rm4 (l : Launch) (Z : State) (a0 : Array Value) (hw : ∀ d ∈ tables_1, d.before a0 Z = true) (ws : List Jvm.Cond) (ra : Addr) (h0 : Heap) (n0 : Nat) (Z0 : n0 ≤ h0.size) :
    MetFree l (⟨"java/lang/Record", "<init>", "()V"⟩ : MethodName) (head1 (Jvm.Cond.code (⟨"java/lang/Record", "<init>", "()V"⟩ : MethodName) jdk_30_method_1_code 1 none :: ws) ({ frames := 1, cells := 0, slots := 0, locals := 12 } : Room)) (fun a U => a = #[(.ref ra)] ∧ Z.Warmed39 U.vm ∧ U.heap = h0) (fun _ _ _ _ _ => True) (fun _ U o U' => ∃ v L, o = .returned v ∧ Q_rm4 Z ra h0 n0 v U'.heap L ∧ FrameEnd U o U' L ({ frames := 1, cells := 0, slots := 0, locals := 12 } : Room).cells ({ frames := 1, cells := 0, slots := 0, locals := 12 } : Room).slots) := by
  refine MetFree.of_bodySF (plainFor_of_name own_pn0) hisR ?_
  intro p e s m args below meth c s₁ Bd hml0 hP hK
  obtain ⟨rfl, hZ, hh⟩ := hP
  have hx := Bd.exec
  have hby := Bd.bytes
  have hml : c.maxLocals = 1 := hml0
  have hown : s.vm.findClass "java/lang/Record" = some m.cls := findClass_of_methodNamed Bd.named
  have hnm := (name_of_methodNamed Bd.named Bd.method).1
  have X0 : Stand p l e ({ frames := 1, cells := 0, slots := 0, locals := 12 } : Room) s m #[(.ref ra)] below meth c s₁ [] 0 0 := Stand.of_body Bd
  have e0 : s₁.heap = h0 := by rw [← hh, Bd.state]; rfl
  have N0 := Fr.nil n0
  have pre0 : ∀ t, Steps p.tables e below (s₁.setTop (mkF m 0 #[.val (.ref ra)] [])) t → Steps p.tables e below (s₁.setTop (entryFrame m #[(.ref ra)] 1)) t := fun t k => castTop (own_ef_rm4 m ra) k
  have K17 : ∀ t, Steps p.tables e below (s₁.setTop (mkF m 1 #[.val (.ref ra)] [(.ref ra)])) t → Steps p.tables e below (s₁.setTop (entryFrame m #[(.ref ra)] 1)) t := fun t k => pre0 t (by
    show Steps p.tables e below (s₁.setTop (mkF m 0 #[.val (.ref ra)] [])) t
    refine XS.aloadN X0.here hx rfl (hb hby own_d4_0) rfl rfl ?_
    exact k)
  obtain ⟨T18, X18, e18, st18⟩ := initO X0 hx hZ hown (hw _ (List.mem_of_getElem? (i := 19) rfl)) (hw _ (List.mem_of_getElem? (i := 20) rfl)) (hw _ (List.mem_of_getElem? (i := 21) rfl)) e0 (g := (mkF m 1 #[.val (.ref ra)] [(.ref ra)])) rfl (by rw [hml]; rfl) rfl (hb hby own_d4_1) (by decide) (W := 0) (by show 2 * 0 + _ ≤ _; exact Nat.le_of_eq rfl) (by decide)
  have K19 : ∀ t, Steps p.tables e below (T18.setTop (mkF m 4 #[.val (.ref ra)] [])) t → Steps p.tables e below (s₁.setTop (entryFrame m #[(.ref ra)] 1)) t := fun t k => K17 t (st18 _ k)
  obtain ⟨fs, hr, hrun, hended, hW, hsame⟩ := X18.leave (v := none) (fun _ => rfl)
  refine ⟨_, _, K19 _ ?_, hrun, hended, _, _, rfl, ?_, ⟨_, rfl⟩, hW, hsame.mono (by decide) (by decide)⟩
  · exact X18.returnOut hx Bd.returns (hb hby own_d4_4) hr
  · show Q_rm4 Z ra h0 n0 _ T18.heap _
    rw [e18]
    exact ⟨rfl, (by trivial), N0, rfl⟩
theorem own_d3_0 : decode prog_5_method_1_code 0 = .ok (.aload_n 0, 1) := by decide +kernel
theorem own_d3_1 : decode prog_5_method_1_code 1 = .ok (.invokespecial 1, 3) := by decide +kernel
theorem own_d3_4 : decode prog_5_method_1_code 4 = .ok (.iload_n 1, 1) := by decide +kernel
theorem own_d3_5 : decode prog_5_method_1_code 5 = .ok (.ifCond .lt 14, 3) := by decide +kernel
theorem own_d3_8 : decode prog_5_method_1_code 8 = .ok (.iload_n 2, 1) := by decide +kernel
theorem own_d3_9 : decode prog_5_method_1_code 9 = .ok (.ldc 9, 2) := by decide +kernel
theorem own_d3_11 : decode prog_5_method_1_code 11 = .ok (.if_icmp .ge 8, 3) := by decide +kernel
theorem own_d3_14 : decode prog_5_method_1_code 14 = .ok (.iload_n 1, 1) := by decide +kernel
theorem own_d3_15 : decode prog_5_method_1_code 15 = .ok (.iload_n 2, 1) := by decide +kernel
theorem own_d3_16 : decode prog_5_method_1_code 16 = .ok (.if_icmp .le 25, 3) := by decide +kernel
theorem own_d3_19 : decode prog_5_method_1_code 19 = .ok (.iload_n 1, 1) := by decide +kernel
theorem own_d3_20 : decode prog_5_method_1_code 20 = .ok (.iload_n 2, 1) := by decide +kernel
theorem own_d3_26 : decode prog_5_method_1_code 26 = .ok (.astore_n 3, 1) := by decide +kernel
theorem own_d3_27 : decode prog_5_method_1_code 27 = .ok (.new 14, 3) := by decide +kernel
theorem own_d3_30 : decode prog_5_method_1_code 30 = .ok (.dup, 1) := by decide +kernel
theorem own_d3_31 : decode prog_5_method_1_code 31 = .ok (.aload_n 3, 1) := by decide +kernel
theorem own_d3_37 : decode prog_5_method_1_code 37 = .ok (.invokespecial 19, 3) := by decide +kernel
theorem own_d3_41 : decode prog_5_method_1_code 41 = .ok (.aload_n 0, 1) := by decide +kernel
theorem own_d3_42 : decode prog_5_method_1_code 42 = .ok (.iload_n 1, 1) := by decide +kernel
theorem own_d3_43 : decode prog_5_method_1_code 43 = .ok (.putfield 22, 3) := by decide +kernel
theorem own_d3_46 : decode prog_5_method_1_code 46 = .ok (.aload_n 0, 1) := by decide +kernel
theorem own_d3_47 : decode prog_5_method_1_code 47 = .ok (.iload_n 2, 1) := by decide +kernel
theorem own_d3_48 : decode prog_5_method_1_code 48 = .ok (.putfield 26, 3) := by decide +kernel
theorem own_d3_51 : decode prog_5_method_1_code 51 = .ok (.return_, 1) := by decide +kernel
theorem own_pn1 : plainName "com/example/cursorweave/cursorweave/broker/HashRange" = true := by first | (simp [plainName, overriddenIn]; done) | decide +kernel
theorem own_pd0 : parseMethodDescriptor "()V" = some ⟨[], none⟩ := by decide +kernel
def Q_rm3 (Z : State) (ta : Addr) (pa : Int32) (pb : Int32) (h0 : Heap) (n0 : Nat) (v : Option Value) (h : Heap) (L : List Loc) : Prop := v = none ∧ (True) ∧ Fr n0 L ∧ Keep h0 h [ta] ∧ Exa Z h ta "com/example/cursorweave/cursorweave/broker/HashRange" ∧ Fld Z h ta "com/example/cursorweave/cursorweave/broker/HashRange" "first" "I" (.int pa) ∧ Fld Z h ta "com/example/cursorweave/cursorweave/broker/HashRange" "last" "I" (.int pb)
theorem own_ef_rm3 (m : MethodId) (ta : Addr) (pa : Int32) (pb : Int32) : entryFrame m #[(.ref ta), (.int pa), (.int pb)] 4 = mkF m 0 #[.val (.ref ta), .val (.int pa), .val (.int pb), .unset] [] := by first | (simp [entryFrame, mkF, argsToLocals, Value.category]; done) | rfl
set_option maxRecDepth 65536 in
set_option maxHeartbeats 40000000 in
theorem rm3 (l : Launch) (Z : State) (a0 : Array Value) (hw : ∀ d ∈ tables_1, d.before a0 Z = true) (ws : List Jvm.Cond) (ta : Addr) (pa : Int32) (pb : Int32) (h0 : Heap) (n0 : Nat) (Z0 : n0 ≤ h0.size) (P_0 : Exa Z h0 ta "com/example/cursorweave/cursorweave/broker/HashRange") (P_1 : Fld Z h0 ta "com/example/cursorweave/cursorweave/broker/HashRange" "first" "I" (.int (0 : Int32))) (P_2 : Fld Z h0 ta "com/example/cursorweave/cursorweave/broker/HashRange" "last" "I" (.int (0 : Int32))) (P_3 : n0 ≤ ta) (P_4 : 0 ≤ pa.toInt ∧ pb.toInt < 65536 ∧ pa.toInt ≤ pb.toInt) :
    MetFree l (⟨"com/example/cursorweave/cursorweave/broker/HashRange", "<init>", "(II)V"⟩ : MethodName) (head1 (Jvm.Cond.code (⟨"com/example/cursorweave/cursorweave/broker/HashRange", "<init>", "(II)V"⟩ : MethodName) prog_5_method_1_code 4 none :: ws) ({ frames := 2, cells := 0, slots := 0, locals := 24 } : Room)) (fun a U => a = #[(.ref ta), (.int pa), (.int pb)] ∧ Z.Warmed39 U.vm ∧ U.heap = h0) (fun _ _ _ _ _ => True) (fun _ U o U' => ∃ v L, o = .returned v ∧ Q_rm3 Z ta pa pb h0 n0 v U'.heap L ∧ FrameEnd U o U' L ({ frames := 2, cells := 0, slots := 0, locals := 24 } : Room).cells ({ frames := 2, cells := 0, slots := 0, locals := 24 } : Room).slots) := by
  refine MetFree.of_bodySF (plainFor_of_name own_pn1) hisR ?_
  intro p e s m args below meth c s₁ Bd hml0 hP hK
  obtain ⟨rfl, hZ, hh⟩ := hP
  have hx := Bd.exec
  have hby := Bd.bytes
  have hml : c.maxLocals = 4 := hml0
  have hown : s.vm.findClass "com/example/cursorweave/cursorweave/broker/HashRange" = some m.cls := findClass_of_methodNamed Bd.named
  have hnm := (name_of_methodNamed Bd.named Bd.method).1
  have X0 : Stand p l e ({ frames := 2, cells := 0, slots := 0, locals := 24 } : Room) s m #[(.ref ta), (.int pa), (.int pb)] below meth c s₁ [] 0 0 := Stand.of_body Bd
  have e0 : s₁.heap = h0 := by rw [← hh, Bd.state]; rfl
  have N0 := Fr.nil n0
  have pre0 : ∀ t, Steps p.tables e below (s₁.setTop (mkF m 0 #[.val (.ref ta), .val (.int pa), .val (.int pb), .unset] [])) t → Steps p.tables e below (s₁.setTop (entryFrame m #[(.ref ta), (.int pa), (.int pb)] 4)) t := fun t k => castTop (own_ef_rm3 m ta pa pb) k
  have K20 : ∀ t, Steps p.tables e below (s₁.setTop (mkF m 1 #[.val (.ref ta), .val (.int pa), .val (.int pb), .unset] [(.ref ta)])) t → Steps p.tables e below (s₁.setTop (entryFrame m #[(.ref ta), (.int pa), (.int pb)] 4)) t := fun t k => pre0 t (by
    show Steps p.tables e below (s₁.setTop (mkF m 0 #[.val (.ref ta), .val (.int pa), .val (.int pb), .unset] [])) t
    refine XS.aloadN X0.here hx rfl (hb hby own_d3_0) rfl rfl ?_
    exact k)
  obtain ⟨_, _, ⟨T21, L21, kk21, nn21⟩, -, X21, ⟨Lc21, hQ21, l21, y21, z21⟩, st21⟩ := X0.specialBack hx (y := (⟨"java/lang/Record", "<init>", "()V"⟩ : MethodName)) rfl hown (mvT hZ (hw _ (List.mem_of_getElem? (i := 14) rfl))) (mvT hZ (hw _ (List.mem_of_getElem? (i := 15) rfl))) (mvT hZ (hw _ (List.mem_of_getElem? (i := 18) rfl))) (by decide) (backOf (W := 0) (rm4 l Z a0 hw [] ta h0 n0 Z0) hZ (hw _ (List.mem_of_getElem? (i := 18) rfl)) (hw _ (List.mem_of_getElem? (i := 17) rfl)) (by decide) (by decide)) (g := (mkF m 1 #[.val (.ref ta), .val (.int pa), .val (.int pb), .unset] [(.ref ta)])) rfl (by rw [hml]; rfl) (Steps.refl _) (a := ta) (argsL := []) (rest := []) (lenOf own_pd0 rfl) rfl (by show 2 * 0 + _ ≤ _; exact Nat.le_of_eq rfl) (hb hby own_d3_1) (fun _ _ => ⟨rfl, e0, (by decide : 0 + 0 ≤ _), (by decide : 0 + 0 ≤ _)⟩)
  dsimp only [Pt.U, Pt.locs, Pt.cells, Pt.slots] at X21 l21 y21 z21 st21 hQ21
  subst l21 y21 z21
  obtain ⟨rfl, Sp21, Nq21, eh21⟩ := hQ21
  have N22 := Fr.app N0 Nq21
  have K23 : ∀ t, Steps p.tables e below (T21.setTop (mkF m 4 #[.val (.ref ta), .val (.int pa), .val (.int pb), .unset] [])) t → Steps p.tables e below (s₁.setTop (entryFrame m #[(.ref ta), (.int pa), (.int pb)] 4)) t := fun t k => K20 t (st21.trans k)
  have q25 := rng32 pa
  have q26 := (by decide : (0 : Int32).toInt = 0)
  have hc24 : ¬ (pa < (0 : Int32)) := by rw [Int32.lt_iff_toInt_lt]; omega
  have q27 : ¬ pa.toInt < (0 : Int32).toInt := fun q => hc24 (Int32.lt_iff_toInt_lt.mpr q)
  have q29 := rng32 pb
  have q30 := (by decide : (65536 : Int32).toInt = 65536)
  have hc28 : pb < (65536 : Int32) := by rw [Int32.lt_iff_toInt_lt]; omega
  have q31 : pb.toInt < (65536 : Int32).toInt := Int32.lt_iff_toInt_lt.mp hc28
  have hc32 : ¬ (pb < pa) := by rw [Int32.lt_iff_toInt_lt]; omega
  have q33 : ¬ pb.toInt < pa.toInt := fun q => hc32 (Int32.lt_iff_toInt_lt.mpr q)
  have K34 : ∀ t, Steps p.tables e below (T21.setTop (mkF m 43 #[.val (.ref ta), .val (.int pa), .val (.int pb), .unset] [(.int pa), (.ref ta)])) t → Steps p.tables e below (s₁.setTop (entryFrame m #[(.ref ta), (.int pa), (.int pb)] 4)) t := fun t k => K23 t (by
    show Steps p.tables e below (T21.setTop (mkF m 4 #[.val (.ref ta), .val (.int pa), .val (.int pb), .unset] [])) t
    refine XS.iloadN X21.here hx rfl (hb hby own_d3_4) rfl ?_
    show Steps p.tables e below (T21.setTop (mkF m 5 #[.val (.ref ta), .val (.int pa), .val (.int pb), .unset] [(.int pa)])) t
    refine XS.ifNo X21.here hx rfl (hb hby own_d3_5) rfl ((if0 _ _).trans (flt hc24).1) ?_
    show Steps p.tables e below (T21.setTop (mkF m 8 #[.val (.ref ta), .val (.int pa), .val (.int pb), .unset] [])) t
    refine XS.iloadN X21.here hx rfl (hb hby own_d3_8) rfl ?_
    show Steps p.tables e below (T21.setTop (mkF m 9 #[.val (.ref ta), .val (.int pa), .val (.int pb), .unset] [(.int pb)])) t
    refine X21.ldcInt hx hown (mvT hZ (hw _ (List.mem_of_getElem? (i := 22) rfl))) (g := (mkF m 9 #[.val (.ref ta), .val (.int pa), .val (.int pb), .unset] [(.int pb)])) rfl (hb hby own_d3_9) _ ?_
    show Steps p.tables e below (T21.setTop (mkF m 11 #[.val (.ref ta), .val (.int pa), .val (.int pb), .unset] [(.int (65536 : Int32)), (.int pb)])) t
    refine XS.icmpNo X21.here hx rfl (hb hby own_d3_11) rfl (tlt hc28).2.1 ?_
    show Steps p.tables e below (T21.setTop (mkF m 14 #[.val (.ref ta), .val (.int pa), .val (.int pb), .unset] [])) t
    refine XS.iloadN X21.here hx rfl (hb hby own_d3_14) rfl ?_
    show Steps p.tables e below (T21.setTop (mkF m 15 #[.val (.ref ta), .val (.int pa), .val (.int pb), .unset] [(.int pa)])) t
    refine XS.iloadN X21.here hx rfl (hb hby own_d3_15) rfl ?_
    show Steps p.tables e below (T21.setTop (mkF m 16 #[.val (.ref ta), .val (.int pa), .val (.int pb), .unset] [(.int pb), (.int pa)])) t
    refine XS.icmpYes X21.here hx rfl (pc0 := 16) (pc' := 41) rfl (hb hby own_d3_16) rfl (flt hc32).2.2.2 (by decide) (by decide) ?_
    show Steps p.tables e below (T21.setTop (mkF m 41 #[.val (.ref ta), .val (.int pa), .val (.int pb), .unset] [])) t
    refine XS.aloadN X21.here hx rfl (hb hby own_d3_41) rfl rfl ?_
    show Steps p.tables e below (T21.setTop (mkF m 42 #[.val (.ref ta), .val (.int pa), .val (.int pb), .unset] [(.ref ta)])) t
    refine XS.iloadN X21.here hx rfl (hb hby own_d3_42) rfl ?_
    exact k)
  obtain ⟨T35, h35, X35, e35, W35, st35⟩ := putF X21 hx hZ hown (host := "") (Or.inl (hw _ (List.mem_of_getElem? (i := 23) rfl))) Via.refl eh21 P_1 P_0 (Or.inr ⟨(hw _ (List.mem_of_getElem? (i := 24) rfl)), rfl, hnm⟩) (hw _ (List.mem_of_getElem? (i := 9) rfl)) (ty := .int) (by decide) rfl rfl (g := (mkF m 43 #[.val (.ref ta), .val (.int pa), .val (.int pb), .unset] [(.int pa), (.ref ta)])) rfl rfl (hb hby own_d3_43)
  have F36 := P_1.same W35
  have Kp37 : Keep h0 h35 [ta] := Keep.wr (Keep.refl h0 [ta]) W35 (Or.inl (List.mem_of_getElem? (i := 0) rfl))
  have Z38 : n0 ≤ h35.size := Nat.le_trans Z0 (Keep.of_wr W35).1
  have N39 := Fr.snoc X35 N22 P_3
  have F40 := P_0.wr W35
  have F41 := P_2.other W35 (Or.inr (slot_ne (Or.inr (hw _ (List.mem_of_getElem? (i := 26) rfl))) (Or.inr (hw _ (List.mem_of_getElem? (i := 24) rfl))) (by decide) (t := .int) (t' := .int) (by decide) (by decide)))
  have K42 : ∀ t, Steps p.tables e below (T35.setTop (mkF m 46 #[.val (.ref ta), .val (.int pa), .val (.int pb), .unset] [])) t → Steps p.tables e below (s₁.setTop (entryFrame m #[(.ref ta), (.int pa), (.int pb)] 4)) t := fun t k => K34 t (st35 _ k)
  have K43 : ∀ t, Steps p.tables e below (T35.setTop (mkF m 48 #[.val (.ref ta), .val (.int pa), .val (.int pb), .unset] [(.int pb), (.ref ta)])) t → Steps p.tables e below (s₁.setTop (entryFrame m #[(.ref ta), (.int pa), (.int pb)] 4)) t := fun t k => K42 t (by
    show Steps p.tables e below (T35.setTop (mkF m 46 #[.val (.ref ta), .val (.int pa), .val (.int pb), .unset] [])) t
    refine XS.aloadN X35.here hx rfl (hb hby own_d3_46) rfl rfl ?_
    show Steps p.tables e below (T35.setTop (mkF m 47 #[.val (.ref ta), .val (.int pa), .val (.int pb), .unset] [(.ref ta)])) t
    refine XS.iloadN X35.here hx rfl (hb hby own_d3_47) rfl ?_
    exact k)
  obtain ⟨T44, h44, X44, e44, W44, st44⟩ := putF X35 hx hZ hown (host := "") (Or.inl (hw _ (List.mem_of_getElem? (i := 25) rfl))) Via.refl e35 F41 F40 (Or.inr ⟨(hw _ (List.mem_of_getElem? (i := 26) rfl)), rfl, hnm⟩) (hw _ (List.mem_of_getElem? (i := 9) rfl)) (ty := .int) (by decide) rfl rfl (g := (mkF m 48 #[.val (.ref ta), .val (.int pa), .val (.int pb), .unset] [(.int pb), (.ref ta)])) rfl rfl (hb hby own_d3_48)
  have F45 := F41.same W44
  have Kp46 : Keep h0 h44 [ta] := Keep.wr Kp37 W44 (Or.inl (List.mem_of_getElem? (i := 0) rfl))
  have Z47 : n0 ≤ h44.size := Nat.le_trans Z38 (Keep.of_wr W44).1
  have N48 := Fr.snoc X44 N39 P_3
  have F49 := F40.wr W44
  have F50 := F36.other W44 (Or.inr (slot_ne (Or.inr (hw _ (List.mem_of_getElem? (i := 24) rfl))) (Or.inr (hw _ (List.mem_of_getElem? (i := 26) rfl))) (by decide) (t := .int) (t' := .int) (by decide) (by decide)))
  have K51 : ∀ t, Steps p.tables e below (T44.setTop (mkF m 51 #[.val (.ref ta), .val (.int pa), .val (.int pb), .unset] [])) t → Steps p.tables e below (s₁.setTop (entryFrame m #[(.ref ta), (.int pa), (.int pb)] 4)) t := fun t k => K43 t (st44 _ k)
  obtain ⟨fs, hr, hrun, hended, hW, hsame⟩ := X44.leave (v := none) (fun _ => rfl)
  refine ⟨_, _, K51 _ ?_, hrun, hended, _, _, rfl, ?_, ⟨_, rfl⟩, hW, hsame.mono (by decide) (by decide)⟩
  · exact X44.returnOut hx Bd.returns (hb hby own_d3_51) hr
  · show Q_rm3 Z ta pa pb h0 n0 _ T44.heap _
    rw [e44]
    exact ⟨rfl, (by trivial), N48, Kp46, F49, F50, F45⟩
theorem own_d6_0 : decode method_2_code 0 = .ok (.iload_n 3, 1) := by decide +kernel
theorem own_d6_1 : decode method_2_code 1 = .ok (.iconst 3, 1) := by decide +kernel
theorem own_d6_2 : decode method_2_code 2 = .ok (.iand, 1) := by decide +kernel
theorem own_d6_3 : decode method_2_code 3 = .ok (.istore 4, 2) := by decide +kernel
theorem own_d6_5 : decode method_2_code 5 = .ok (.iload 4, 2) := by decide +kernel
theorem own_d6_7 : decode method_2_code 7 = .ok (.ifCond .ne 5, 3) := by decide +kernel
theorem own_d6_10 : decode method_2_code 10 = .ok (.iload_n 2, 1) := by decide +kernel
theorem own_d6_11 : decode method_2_code 11 = .ok (.ireturn, 1) := by decide +kernel
theorem own_d6_12 : decode method_2_code 12 = .ok (.iload 4, 2) := by decide +kernel
theorem own_d6_14 : decode method_2_code 14 = .ok (.iconst 1, 1) := by decide +kernel
theorem own_d6_15 : decode method_2_code 15 = .ok (.if_icmp .ne 9, 3) := by decide +kernel
theorem own_d6_18 : decode method_2_code 18 = .ok (.iload_n 0, 1) := by decide +kernel
theorem own_d6_19 : decode method_2_code 19 = .ok (.iload_n 2, 1) := by decide +kernel
theorem own_d6_20 : decode method_2_code 20 = .ok (.iconst 3, 1) := by decide +kernel
theorem own_d6_21 : decode method_2_code 21 = .ok (.irem, 1) := by decide +kernel
theorem own_d6_22 : decode method_2_code 22 = .ok (.iadd, 1) := by decide +kernel
theorem own_d6_23 : decode method_2_code 23 = .ok (.ireturn, 1) := by decide +kernel
theorem own_d6_24 : decode method_2_code 24 = .ok (.iload 4, 2) := by decide +kernel
theorem own_d6_26 : decode method_2_code 26 = .ok (.iconst 2, 1) := by decide +kernel
theorem own_d6_27 : decode method_2_code 27 = .ok (.if_icmp .ne 9, 3) := by decide +kernel
theorem own_d6_30 : decode method_2_code 30 = .ok (.iload_n 1, 1) := by decide +kernel
theorem own_d6_31 : decode method_2_code 31 = .ok (.iload_n 2, 1) := by decide +kernel
theorem own_d6_32 : decode method_2_code 32 = .ok (.iconst 3, 1) := by decide +kernel
theorem own_d6_33 : decode method_2_code 33 = .ok (.irem, 1) := by decide +kernel
theorem own_d6_34 : decode method_2_code 34 = .ok (.iadd, 1) := by decide +kernel
theorem own_d6_35 : decode method_2_code 35 = .ok (.ireturn, 1) := by decide +kernel
theorem own_d6_36 : decode method_2_code 36 = .ok (.iload_n 2, 1) := by decide +kernel
theorem own_d6_37 : decode method_2_code 37 = .ok (.ldc 7, 2) := by decide +kernel
theorem own_d6_39 : decode method_2_code 39 = .ok (.iand, 1) := by decide +kernel
theorem own_d6_40 : decode method_2_code 40 = .ok (.ireturn, 1) := by decide +kernel
theorem own_pn2 : plainName "com/example/cursorweave/cursorweave/broker/HashRangeContainsPinLaw" = true := by first | (simp [plainName, overriddenIn]; done) | decide +kernel
def Q_rm6 (Z : State) (pa : Int32) (pb : Int32) (pc : Int32) (pd : Int32) (h0 : Heap) (n0 : Nat) (v : Option Value) (h : Heap) (L : List Loc) : Prop := ∃ r : Int32, v = some (.int r) ∧ (True) ∧ Fr n0 L ∧ h = h0
theorem own_ef_rm6 (m : MethodId) (pa : Int32) (pb : Int32) (pc : Int32) (pd : Int32) : entryFrame m #[(.int pa), (.int pb), (.int pc), (.int pd)] 5 = mkF m 0 #[.val (.int pa), .val (.int pb), .val (.int pc), .val (.int pd), .unset] [] := by first | (simp [entryFrame, mkF, argsToLocals, Value.category]; done) | rfl
set_option maxRecDepth 65536 in
set_option maxHeartbeats 40000000 in
theorem rm6 (l : Launch) (Z : State) (a0 : Array Value) (hw : ∀ d ∈ tables_1, d.before a0 Z = true) (ws : List Jvm.Cond) (pa : Int32) (pb : Int32) (pc : Int32) (pd : Int32) (h0 : Heap) (n0 : Nat) (Z0 : n0 ≤ h0.size) :
    MetFree l (⟨"com/example/cursorweave/cursorweave/broker/HashRangeContainsPinLaw", "pickSlot", "(IIII)I"⟩ : MethodName) (head1 (Jvm.Cond.code (⟨"com/example/cursorweave/cursorweave/broker/HashRangeContainsPinLaw", "pickSlot", "(IIII)I"⟩ : MethodName) method_2_code 5 (some .int) :: ws) ({ frames := 0, cells := 0, slots := 0, locals := 0 } : Room)) (fun a U => a = #[(.int pa), (.int pb), (.int pc), (.int pd)] ∧ Z.Warmed39 U.vm ∧ U.heap = h0) (fun _ _ _ _ _ => True) (fun _ U o U' => ∃ v L, o = .returned v ∧ Q_rm6 Z pa pb pc pd h0 n0 v U'.heap L ∧ FrameEnd U o U' L ({ frames := 0, cells := 0, slots := 0, locals := 0 } : Room).cells ({ frames := 0, cells := 0, slots := 0, locals := 0 } : Room).slots) := by
  refine MetFree.of_bodySF (plainFor_of_name own_pn2) hisR ?_
  intro p e s m args below meth c s₁ Bd hml0 hP hK
  obtain ⟨rfl, hZ, hh⟩ := hP
  have hx := Bd.exec
  have hby := Bd.bytes
  have hml : c.maxLocals = 5 := hml0
  have hown : s.vm.findClass "com/example/cursorweave/cursorweave/broker/HashRangeContainsPinLaw" = some m.cls := findClass_of_methodNamed Bd.named
  have hnm := (name_of_methodNamed Bd.named Bd.method).1
  have X0 : Stand p l e ({ frames := 0, cells := 0, slots := 0, locals := 0 } : Room) s m #[(.int pa), (.int pb), (.int pc), (.int pd)] below meth c s₁ [] 0 0 := Stand.of_body Bd
  have e0 : s₁.heap = h0 := by rw [← hh, Bd.state]; rfl
  have N0 := Fr.nil n0
  have pre0 : ∀ t, Steps p.tables e below (s₁.setTop (mkF m 0 #[.val (.int pa), .val (.int pb), .val (.int pc), .val (.int pd), .unset] [])) t → Steps p.tables e below (s₁.setTop (entryFrame m #[(.int pa), (.int pb), (.int pc), (.int pd)] 5)) t := fun t k => castTop (own_ef_rm6 m pa pb pc pd) k
  have K53 : ∀ t, Steps p.tables e below (s₁.setTop (mkF m 7 #[.val (.int pa), .val (.int pb), .val (.int pc), .val (.int pd), .val (.int (pd &&& (3 : Int32)))] [(.int (pd &&& (3 : Int32)))])) t → Steps p.tables e below (s₁.setTop (entryFrame m #[(.int pa), (.int pb), (.int pc), (.int pd)] 5)) t := fun t k => pre0 t (by
    show Steps p.tables e below (s₁.setTop (mkF m 0 #[.val (.int pa), .val (.int pb), .val (.int pc), .val (.int pd), .unset] [])) t
    refine XS.iloadN X0.here hx rfl (hb hby own_d6_0) rfl ?_
    show Steps p.tables e below (s₁.setTop (mkF m 1 #[.val (.int pa), .val (.int pb), .val (.int pc), .val (.int pd), .unset] [(.int pd)])) t
    refine XS.iconst X0.here hx rfl (hb hby own_d6_1) ?_
    show Steps p.tables e below (s₁.setTop (mkF m 2 #[.val (.int pa), .val (.int pb), .val (.int pc), .val (.int pd), .unset] [(.int (3 : Int32)), (.int pd)])) t
    refine XS.iand X0.here hx rfl (hb hby own_d6_2) rfl ?_
    show Steps p.tables e below (s₁.setTop (mkF m 3 #[.val (.int pa), .val (.int pb), .val (.int pc), .val (.int pd), .unset] [(.int (pd &&& (3 : Int32)))])) t
    refine XS.istore X0.here hx rfl (hb hby own_d6_3) rfl (l' := #[.val (.int pa), .val (.int pb), .val (.int pc), .val (.int pd), .val (.int (pd &&& (3 : Int32)))]) rfl ?_
    show Steps p.tables e below (s₁.setTop (mkF m 5 #[.val (.int pa), .val (.int pb), .val (.int pc), .val (.int pd), .val (.int (pd &&& (3 : Int32)))] [])) t
    refine XS.iload X0.here hx rfl (hb hby own_d6_5) rfl ?_
    exact k)
  have q54 := rng32 pd
  have q55 := (by decide : (3 : Int32).toInt = 3)
  have q56 := (show (pd &&& (3 : Int32)).toInt = pd.toInt % 4 from c_mask pd (3 : Int32) 2 (by decide) (by decide))
  have q57 := rng32 (pd &&& (3 : Int32))
  have q58 := (by decide : (0 : Int32).toInt = 0)
  by_cases hc52 : (pd &&& (3 : Int32)) = (0 : Int32)
  · have q59 : (pd &&& (3 : Int32)).toInt = (0 : Int32).toInt := congrArg Int32.toInt hc52
    have K60 : ∀ t, Steps p.tables e below (s₁.setTop (mkF m 11 #[.val (.int pa), .val (.int pb), .val (.int pc), .val (.int pd), .val (.int (pd &&& (3 : Int32)))] [(.int pc)])) t → Steps p.tables e below (s₁.setTop (entryFrame m #[(.int pa), (.int pb), (.int pc), (.int pd)] 5)) t := fun t k => K53 t (by
      show Steps p.tables e below (s₁.setTop (mkF m 7 #[.val (.int pa), .val (.int pb), .val (.int pc), .val (.int pd), .val (.int (pd &&& (3 : Int32)))] [(.int (pd &&& (3 : Int32)))])) t
      refine XS.ifNo X0.here hx rfl (hb hby own_d6_7) rfl ((if0 _ _).trans (teq hc52).2) ?_
      show Steps p.tables e below (s₁.setTop (mkF m 10 #[.val (.int pa), .val (.int pb), .val (.int pc), .val (.int pd), .val (.int (pd &&& (3 : Int32)))] [])) t
      refine XS.iloadN X0.here hx rfl (hb hby own_d6_10) rfl ?_
      exact k)
    obtain ⟨fs, hr, hrun, hended, hW, hsame⟩ := X0.leave (v := some (.int pc)) (fun h => by rw [Bd.returns] at h; cases h)
    refine ⟨_, _, K60 _ ?_, hrun, hended, _, _, rfl, ?_, ⟨_, rfl⟩, hW, hsame.mono (by decide) (by decide)⟩
    · exact retI X0 hx Bd.returns (hb hby own_d6_11) hr
    · show Q_rm6 Z pa pb pc pd h0 n0 _ s₁.heap _
      have q61 := rng32 pc
      rw [e0]
      exact ⟨pc, rfl, (by trivial), N0, rfl⟩
  · have q62 : ¬ (pd &&& (3 : Int32)).toInt = (0 : Int32).toInt := fun q => hc52 (Int32.toInt_inj.mp q)
    have K64 : ∀ t, Steps p.tables e below (s₁.setTop (mkF m 15 #[.val (.int pa), .val (.int pb), .val (.int pc), .val (.int pd), .val (.int (pd &&& (3 : Int32)))] [(.int (1 : Int32)), (.int (pd &&& (3 : Int32)))])) t → Steps p.tables e below (s₁.setTop (entryFrame m #[(.int pa), (.int pb), (.int pc), (.int pd)] 5)) t := fun t k => K53 t (by
      show Steps p.tables e below (s₁.setTop (mkF m 7 #[.val (.int pa), .val (.int pb), .val (.int pc), .val (.int pd), .val (.int (pd &&& (3 : Int32)))] [(.int (pd &&& (3 : Int32)))])) t
      refine XS.ifYes X0.here hx rfl (pc0 := 7) (pc' := 12) rfl (hb hby own_d6_7) rfl ((if0 _ _).trans (feq hc52).2) (by decide) (by decide) ?_
      show Steps p.tables e below (s₁.setTop (mkF m 12 #[.val (.int pa), .val (.int pb), .val (.int pc), .val (.int pd), .val (.int (pd &&& (3 : Int32)))] [])) t
      refine XS.iload X0.here hx rfl (hb hby own_d6_12) rfl ?_
      show Steps p.tables e below (s₁.setTop (mkF m 14 #[.val (.int pa), .val (.int pb), .val (.int pc), .val (.int pd), .val (.int (pd &&& (3 : Int32)))] [(.int (pd &&& (3 : Int32)))])) t
      refine XS.iconst X0.here hx rfl (hb hby own_d6_14) ?_
      exact k)
    have q65 := (by decide : (1 : Int32).toInt = 1)
    by_cases hc63 : (pd &&& (3 : Int32)) = (1 : Int32)
    · have q66 : (pd &&& (3 : Int32)).toInt = (1 : Int32).toInt := congrArg Int32.toInt hc63
      have q67 : (3 : Int32) ≠ 0 := by decide
      have K68 : ∀ t, Steps p.tables e below (s₁.setTop (mkF m 23 #[.val (.int pa), .val (.int pb), .val (.int pc), .val (.int pd), .val (.int (pd &&& (3 : Int32)))] [(.int (pa + (pc % (3 : Int32))))])) t → Steps p.tables e below (s₁.setTop (entryFrame m #[(.int pa), (.int pb), (.int pc), (.int pd)] 5)) t := fun t k => K64 t (by
        show Steps p.tables e below (s₁.setTop (mkF m 15 #[.val (.int pa), .val (.int pb), .val (.int pc), .val (.int pd), .val (.int (pd &&& (3 : Int32)))] [(.int (1 : Int32)), (.int (pd &&& (3 : Int32)))])) t
        refine XS.icmpNo X0.here hx rfl (hb hby own_d6_15) rfl (teq hc63).2 ?_
        show Steps p.tables e below (s₁.setTop (mkF m 18 #[.val (.int pa), .val (.int pb), .val (.int pc), .val (.int pd), .val (.int (pd &&& (3 : Int32)))] [])) t
        refine XS.iloadN X0.here hx rfl (hb hby own_d6_18) rfl ?_
        show Steps p.tables e below (s₁.setTop (mkF m 19 #[.val (.int pa), .val (.int pb), .val (.int pc), .val (.int pd), .val (.int (pd &&& (3 : Int32)))] [(.int pa)])) t
        refine XS.iloadN X0.here hx rfl (hb hby own_d6_19) rfl ?_
        show Steps p.tables e below (s₁.setTop (mkF m 20 #[.val (.int pa), .val (.int pb), .val (.int pc), .val (.int pd), .val (.int (pd &&& (3 : Int32)))] [(.int pc), (.int pa)])) t
        refine XS.iconst X0.here hx rfl (hb hby own_d6_20) ?_
        show Steps p.tables e below (s₁.setTop (mkF m 21 #[.val (.int pa), .val (.int pb), .val (.int pc), .val (.int pd), .val (.int (pd &&& (3 : Int32)))] [(.int (3 : Int32)), (.int pc), (.int pa)])) t
        refine iremM X0 hx rfl (hb hby own_d6_21) rfl q67 ?_
        show Steps p.tables e below (s₁.setTop (mkF m 22 #[.val (.int pa), .val (.int pb), .val (.int pc), .val (.int pd), .val (.int (pd &&& (3 : Int32)))] [(.int (pc % (3 : Int32))), (.int pa)])) t
        refine XS.iadd X0.here hx rfl (hb hby own_d6_22) rfl ?_
        exact k)
      obtain ⟨fs, hr, hrun, hended, hW, hsame⟩ := X0.leave (v := some (.int (pa + (pc % (3 : Int32))))) (fun h => by rw [Bd.returns] at h; cases h)
      refine ⟨_, _, K68 _ ?_, hrun, hended, _, _, rfl, ?_, ⟨_, rfl⟩, hW, hsame.mono (by decide) (by decide)⟩
      · exact retI X0 hx Bd.returns (hb hby own_d6_23) hr
      · show Q_rm6 Z pa pb pc pd h0 n0 _ s₁.heap _
        have q69 := rng32 pa
        have q70 := rng32 pc
        have q71 := c_irem pc (3 : Int32) 3 rfl
        have q72 := rng32 (pc % (3 : Int32))
        have q73 := c_iadd pa (pc % (3 : Int32))
        have q74 := rng32 (pa + (pc % (3 : Int32)))
        rw [e0]
        exact ⟨(pa + (pc % (3 : Int32))), rfl, (by trivial), N0, rfl⟩
    · have q75 : ¬ (pd &&& (3 : Int32)).toInt = (1 : Int32).toInt := fun q => hc63 (Int32.toInt_inj.mp q)
      have K77 : ∀ t, Steps p.tables e below (s₁.setTop (mkF m 27 #[.val (.int pa), .val (.int pb), .val (.int pc), .val (.int pd), .val (.int (pd &&& (3 : Int32)))] [(.int (2 : Int32)), (.int (pd &&& (3 : Int32)))])) t → Steps p.tables e below (s₁.setTop (entryFrame m #[(.int pa), (.int pb), (.int pc), (.int pd)] 5)) t := fun t k => K64 t (by
        show Steps p.tables e below (s₁.setTop (mkF m 15 #[.val (.int pa), .val (.int pb), .val (.int pc), .val (.int pd), .val (.int (pd &&& (3 : Int32)))] [(.int (1 : Int32)), (.int (pd &&& (3 : Int32)))])) t
        refine XS.icmpYes X0.here hx rfl (pc0 := 15) (pc' := 24) rfl (hb hby own_d6_15) rfl (feq hc63).2 (by decide) (by decide) ?_
        show Steps p.tables e below (s₁.setTop (mkF m 24 #[.val (.int pa), .val (.int pb), .val (.int pc), .val (.int pd), .val (.int (pd &&& (3 : Int32)))] [])) t
        refine XS.iload X0.here hx rfl (hb hby own_d6_24) rfl ?_
        show Steps p.tables e below (s₁.setTop (mkF m 26 #[.val (.int pa), .val (.int pb), .val (.int pc), .val (.int pd), .val (.int (pd &&& (3 : Int32)))] [(.int (pd &&& (3 : Int32)))])) t
        refine XS.iconst X0.here hx rfl (hb hby own_d6_26) ?_
        exact k)
      have q78 := (by decide : (2 : Int32).toInt = 2)
      by_cases hc76 : (pd &&& (3 : Int32)) = (2 : Int32)
      · have q79 : (pd &&& (3 : Int32)).toInt = (2 : Int32).toInt := congrArg Int32.toInt hc76
        have q80 : (3 : Int32) ≠ 0 := by decide
        have K81 : ∀ t, Steps p.tables e below (s₁.setTop (mkF m 35 #[.val (.int pa), .val (.int pb), .val (.int pc), .val (.int pd), .val (.int (pd &&& (3 : Int32)))] [(.int (pb + (pc % (3 : Int32))))])) t → Steps p.tables e below (s₁.setTop (entryFrame m #[(.int pa), (.int pb), (.int pc), (.int pd)] 5)) t := fun t k => K77 t (by
          show Steps p.tables e below (s₁.setTop (mkF m 27 #[.val (.int pa), .val (.int pb), .val (.int pc), .val (.int pd), .val (.int (pd &&& (3 : Int32)))] [(.int (2 : Int32)), (.int (pd &&& (3 : Int32)))])) t
          refine XS.icmpNo X0.here hx rfl (hb hby own_d6_27) rfl (teq hc76).2 ?_
          show Steps p.tables e below (s₁.setTop (mkF m 30 #[.val (.int pa), .val (.int pb), .val (.int pc), .val (.int pd), .val (.int (pd &&& (3 : Int32)))] [])) t
          refine XS.iloadN X0.here hx rfl (hb hby own_d6_30) rfl ?_
          show Steps p.tables e below (s₁.setTop (mkF m 31 #[.val (.int pa), .val (.int pb), .val (.int pc), .val (.int pd), .val (.int (pd &&& (3 : Int32)))] [(.int pb)])) t
          refine XS.iloadN X0.here hx rfl (hb hby own_d6_31) rfl ?_
          show Steps p.tables e below (s₁.setTop (mkF m 32 #[.val (.int pa), .val (.int pb), .val (.int pc), .val (.int pd), .val (.int (pd &&& (3 : Int32)))] [(.int pc), (.int pb)])) t
          refine XS.iconst X0.here hx rfl (hb hby own_d6_32) ?_
          show Steps p.tables e below (s₁.setTop (mkF m 33 #[.val (.int pa), .val (.int pb), .val (.int pc), .val (.int pd), .val (.int (pd &&& (3 : Int32)))] [(.int (3 : Int32)), (.int pc), (.int pb)])) t
          refine iremM X0 hx rfl (hb hby own_d6_33) rfl q80 ?_
          show Steps p.tables e below (s₁.setTop (mkF m 34 #[.val (.int pa), .val (.int pb), .val (.int pc), .val (.int pd), .val (.int (pd &&& (3 : Int32)))] [(.int (pc % (3 : Int32))), (.int pb)])) t
          refine XS.iadd X0.here hx rfl (hb hby own_d6_34) rfl ?_
          exact k)
        obtain ⟨fs, hr, hrun, hended, hW, hsame⟩ := X0.leave (v := some (.int (pb + (pc % (3 : Int32))))) (fun h => by rw [Bd.returns] at h; cases h)
        refine ⟨_, _, K81 _ ?_, hrun, hended, _, _, rfl, ?_, ⟨_, rfl⟩, hW, hsame.mono (by decide) (by decide)⟩
        · exact retI X0 hx Bd.returns (hb hby own_d6_35) hr
        · show Q_rm6 Z pa pb pc pd h0 n0 _ s₁.heap _
          have q82 := rng32 pb
          have q83 := rng32 pc
          have q84 := c_irem pc (3 : Int32) 3 rfl
          have q85 := rng32 (pc % (3 : Int32))
          have q86 := c_iadd pb (pc % (3 : Int32))
          have q87 := rng32 (pb + (pc % (3 : Int32)))
          rw [e0]
          exact ⟨(pb + (pc % (3 : Int32))), rfl, (by trivial), N0, rfl⟩
      · have q88 : ¬ (pd &&& (3 : Int32)).toInt = (2 : Int32).toInt := fun q => hc76 (Int32.toInt_inj.mp q)
        have K89 : ∀ t, Steps p.tables e below (s₁.setTop (mkF m 40 #[.val (.int pa), .val (.int pb), .val (.int pc), .val (.int pd), .val (.int (pd &&& (3 : Int32)))] [(.int (pc &&& (65535 : Int32)))])) t → Steps p.tables e below (s₁.setTop (entryFrame m #[(.int pa), (.int pb), (.int pc), (.int pd)] 5)) t := fun t k => K77 t (by
          show Steps p.tables e below (s₁.setTop (mkF m 27 #[.val (.int pa), .val (.int pb), .val (.int pc), .val (.int pd), .val (.int (pd &&& (3 : Int32)))] [(.int (2 : Int32)), (.int (pd &&& (3 : Int32)))])) t
          refine XS.icmpYes X0.here hx rfl (pc0 := 27) (pc' := 36) rfl (hb hby own_d6_27) rfl (feq hc76).2 (by decide) (by decide) ?_
          show Steps p.tables e below (s₁.setTop (mkF m 36 #[.val (.int pa), .val (.int pb), .val (.int pc), .val (.int pd), .val (.int (pd &&& (3 : Int32)))] [])) t
          refine XS.iloadN X0.here hx rfl (hb hby own_d6_36) rfl ?_
          show Steps p.tables e below (s₁.setTop (mkF m 37 #[.val (.int pa), .val (.int pb), .val (.int pc), .val (.int pd), .val (.int (pd &&& (3 : Int32)))] [(.int pc)])) t
          refine X0.ldcInt hx hown (mvT hZ (hw _ (List.mem_of_getElem? (i := 0) rfl))) (g := (mkF m 37 #[.val (.int pa), .val (.int pb), .val (.int pc), .val (.int pd), .val (.int (pd &&& (3 : Int32)))] [(.int pc)])) rfl (hb hby own_d6_37) _ ?_
          show Steps p.tables e below (s₁.setTop (mkF m 39 #[.val (.int pa), .val (.int pb), .val (.int pc), .val (.int pd), .val (.int (pd &&& (3 : Int32)))] [(.int (65535 : Int32)), (.int pc)])) t
          refine XS.iand X0.here hx rfl (hb hby own_d6_39) rfl ?_
          exact k)
        obtain ⟨fs, hr, hrun, hended, hW, hsame⟩ := X0.leave (v := some (.int (pc &&& (65535 : Int32)))) (fun h => by rw [Bd.returns] at h; cases h)
        refine ⟨_, _, K89 _ ?_, hrun, hended, _, _, rfl, ?_, ⟨_, rfl⟩, hW, hsame.mono (by decide) (by decide)⟩
        · exact retI X0 hx Bd.returns (hb hby own_d6_40) hr
        · show Q_rm6 Z pa pb pc pd h0 n0 _ s₁.heap _
          have q90 := rng32 pc
          have q91 := (by decide : (65535 : Int32).toInt = 65535)
          have q92 := (show (pc &&& (65535 : Int32)).toInt = pc.toInt % 65536 from c_mask pc (65535 : Int32) 16 (by decide) (by decide))
          have q93 := rng32 (pc &&& (65535 : Int32))
          rw [e0]
          exact ⟨(pc &&& (65535 : Int32)), rfl, (by trivial), N0, rfl⟩
theorem own_d7_0 : decode prog_5_method_3_code 0 = .ok (.aload_n 0, 1) := by decide +kernel
theorem own_d7_1 : decode prog_5_method_3_code 1 = .ok (.getfield 22, 3) := by decide +kernel
theorem own_d7_4 : decode prog_5_method_3_code 4 = .ok (.iload_n 1, 1) := by decide +kernel
theorem own_d7_5 : decode prog_5_method_3_code 5 = .ok (.if_icmp .gt 15, 3) := by decide +kernel
theorem own_d7_8 : decode prog_5_method_3_code 8 = .ok (.iload_n 1, 1) := by decide +kernel
theorem own_d7_9 : decode prog_5_method_3_code 9 = .ok (.aload_n 0, 1) := by decide +kernel
theorem own_d7_10 : decode prog_5_method_3_code 10 = .ok (.getfield 26, 3) := by decide +kernel
theorem own_d7_13 : decode prog_5_method_3_code 13 = .ok (.if_icmp .gt 7, 3) := by decide +kernel
theorem own_d7_16 : decode prog_5_method_3_code 16 = .ok (.iconst 1, 1) := by decide +kernel
theorem own_d7_17 : decode prog_5_method_3_code 17 = .ok (.goto 4, 3) := by decide +kernel
theorem own_d7_20 : decode prog_5_method_3_code 20 = .ok (.iconst 0, 1) := by decide +kernel
theorem own_d7_21 : decode prog_5_method_3_code 21 = .ok (.ireturn, 1) := by decide +kernel
def Q_rm7 (Z : State) (ta : Addr) (ps : Int32) (lo : Int32) (hi : Int32) (h0 : Heap) (n0 : Nat) (v : Option Value) (h : Heap) (L : List Loc) : Prop := ∃ r : Int32, v = some (.int r) ∧ ((r.toInt = 1 ∧ (lo.toInt ≤ ps.toInt ∧ ps.toInt ≤ hi.toInt)) ∨ (r.toInt = 0 ∧ ¬ (lo.toInt ≤ ps.toInt ∧ ps.toInt ≤ hi.toInt))) ∧ Fr n0 L ∧ h = h0
theorem own_ef_rm7 (m : MethodId) (ta : Addr) (ps : Int32) : entryFrame m #[(.ref ta), (.int ps)] 2 = mkF m 0 #[.val (.ref ta), .val (.int ps)] [] := by first | (simp [entryFrame, mkF, argsToLocals, Value.category]; done) | rfl
set_option maxRecDepth 65536 in
set_option maxHeartbeats 40000000 in
theorem rm7 (l : Launch) (Z : State) (a0 : Array Value) (hw : ∀ d ∈ tables_1, d.before a0 Z = true) (ws : List Jvm.Cond) (ta : Addr) (ps : Int32) (lo : Int32) (hi : Int32) (h0 : Heap) (n0 : Nat) (Z0 : n0 ≤ h0.size) (P_0 : Fld Z h0 ta "com/example/cursorweave/cursorweave/broker/HashRange" "first" "I" (.int lo)) (P_1 : Fld Z h0 ta "com/example/cursorweave/cursorweave/broker/HashRange" "last" "I" (.int hi)) :
    MetFree l (⟨"com/example/cursorweave/cursorweave/broker/HashRange", "contains", "(I)Z"⟩ : MethodName) (head1 (Jvm.Cond.code (⟨"com/example/cursorweave/cursorweave/broker/HashRange", "contains", "(I)Z"⟩ : MethodName) prog_5_method_3_code 2 (some .boolean) :: ws) ({ frames := 0, cells := 0, slots := 0, locals := 0 } : Room)) (fun a U => a = #[(.ref ta), (.int ps)] ∧ Z.Warmed39 U.vm ∧ U.heap = h0) (fun _ _ _ _ _ => True) (fun _ U o U' => ∃ v L, o = .returned v ∧ Q_rm7 Z ta ps lo hi h0 n0 v U'.heap L ∧ FrameEnd U o U' L ({ frames := 0, cells := 0, slots := 0, locals := 0 } : Room).cells ({ frames := 0, cells := 0, slots := 0, locals := 0 } : Room).slots) := by
  refine MetFree.of_bodySF (plainFor_of_name own_pn1) hisR ?_
  intro p e s m args below meth c s₁ Bd hml0 hP hK
  obtain ⟨rfl, hZ, hh⟩ := hP
  have hx := Bd.exec
  have hby := Bd.bytes
  have hml : c.maxLocals = 2 := hml0
  have hown : s.vm.findClass "com/example/cursorweave/cursorweave/broker/HashRange" = some m.cls := findClass_of_methodNamed Bd.named
  have hnm := (name_of_methodNamed Bd.named Bd.method).1
  have X0 : Stand p l e ({ frames := 0, cells := 0, slots := 0, locals := 0 } : Room) s m #[(.ref ta), (.int ps)] below meth c s₁ [] 0 0 := Stand.of_body Bd
  have e0 : s₁.heap = h0 := by rw [← hh, Bd.state]; rfl
  have N0 := Fr.nil n0
  have pre0 : ∀ t, Steps p.tables e below (s₁.setTop (mkF m 0 #[.val (.ref ta), .val (.int ps)] [])) t → Steps p.tables e below (s₁.setTop (entryFrame m #[(.ref ta), (.int ps)] 2)) t := fun t k => castTop (own_ef_rm7 m ta ps) k
  have K94 : ∀ t, Steps p.tables e below (s₁.setTop (mkF m 1 #[.val (.ref ta), .val (.int ps)] [(.ref ta)])) t → Steps p.tables e below (s₁.setTop (entryFrame m #[(.ref ta), (.int ps)] 2)) t := fun t k => pre0 t (by
    show Steps p.tables e below (s₁.setTop (mkF m 0 #[.val (.ref ta), .val (.int ps)] [])) t
    refine XS.aloadN X0.here hx rfl (hb hby own_d7_0) rfl rfl ?_
    exact k)
  obtain ⟨T95, X95, e95, st95⟩ := getF X0 hx hZ hown (host := "") (Or.inl (hw _ (List.mem_of_getElem? (i := 23) rfl))) Via.refl e0 P_0 (g := (mkF m 1 #[.val (.ref ta), .val (.int ps)] [(.ref ta)])) rfl rfl (hb hby own_d7_1)
  have K96 : ∀ t, Steps p.tables e below (T95.setTop (mkF m 4 #[.val (.ref ta), .val (.int ps)] [(.int lo)])) t → Steps p.tables e below (s₁.setTop (entryFrame m #[(.ref ta), (.int ps)] 2)) t := fun t k => K94 t (st95 _ k)
  have K98 : ∀ t, Steps p.tables e below (T95.setTop (mkF m 5 #[.val (.ref ta), .val (.int ps)] [(.int ps), (.int lo)])) t → Steps p.tables e below (s₁.setTop (entryFrame m #[(.ref ta), (.int ps)] 2)) t := fun t k => K96 t (by
    show Steps p.tables e below (T95.setTop (mkF m 4 #[.val (.ref ta), .val (.int ps)] [(.int lo)])) t
    refine XS.iloadN X95.here hx rfl (hb hby own_d7_4) rfl ?_
    exact k)
  have q99 := rng32 ps
  have q100 := rng32 lo
  by_cases hc97 : ps < lo
  · have q101 : ps.toInt < lo.toInt := Int32.lt_iff_toInt_lt.mp hc97
    have K102 : ∀ t, Steps p.tables e below (T95.setTop (mkF m 21 #[.val (.ref ta), .val (.int ps)] [(.int (0 : Int32))])) t → Steps p.tables e below (s₁.setTop (entryFrame m #[(.ref ta), (.int ps)] 2)) t := fun t k => K98 t (by
      show Steps p.tables e below (T95.setTop (mkF m 5 #[.val (.ref ta), .val (.int ps)] [(.int ps), (.int lo)])) t
      refine XS.icmpYes X95.here hx rfl (pc0 := 5) (pc' := 20) rfl (hb hby own_d7_5) rfl (tlt hc97).2.2.1 (by decide) (by decide) ?_
      show Steps p.tables e below (T95.setTop (mkF m 20 #[.val (.ref ta), .val (.int ps)] [])) t
      refine XS.iconst X95.here hx rfl (hb hby own_d7_20) ?_
      exact k)
    obtain ⟨fs, hr, hrun, hended, hW, hsame⟩ := X95.leave (v := some (.int (0 : Int32))) (fun h => by rw [Bd.returns] at h; cases h)
    refine ⟨_, _, K102 _ ?_, hrun, hended, _, _, rfl, ?_, ⟨_, rfl⟩, hW, hsame.mono (by decide) (by decide)⟩
    · exact retN X95 hx (t := .boolean) Bd.returns (by simp) (hb hby own_d7_21) hr
    · show Q_rm7 Z ta ps lo hi h0 n0 _ T95.heap _
      have q103 := (by decide : (0 : Int32).toInt = 0)
      rw [e95]
      exact ⟨(0 : Int32), rfl, (by omega), N0, rfl⟩
  · have q104 : ¬ ps.toInt < lo.toInt := fun q => hc97 (Int32.lt_iff_toInt_lt.mpr q)
    have K105 : ∀ t, Steps p.tables e below (T95.setTop (mkF m 10 #[.val (.ref ta), .val (.int ps)] [(.ref ta), (.int ps)])) t → Steps p.tables e below (s₁.setTop (entryFrame m #[(.ref ta), (.int ps)] 2)) t := fun t k => K98 t (by
      show Steps p.tables e below (T95.setTop (mkF m 5 #[.val (.ref ta), .val (.int ps)] [(.int ps), (.int lo)])) t
      refine XS.icmpNo X95.here hx rfl (hb hby own_d7_5) rfl (flt hc97).2.2.1 ?_
      show Steps p.tables e below (T95.setTop (mkF m 8 #[.val (.ref ta), .val (.int ps)] [])) t
      refine XS.iloadN X95.here hx rfl (hb hby own_d7_8) rfl ?_
      show Steps p.tables e below (T95.setTop (mkF m 9 #[.val (.ref ta), .val (.int ps)] [(.int ps)])) t
      refine XS.aloadN X95.here hx rfl (hb hby own_d7_9) rfl rfl ?_
      exact k)
    obtain ⟨T106, X106, e106, st106⟩ := getF X95 hx hZ hown (host := "") (Or.inl (hw _ (List.mem_of_getElem? (i := 25) rfl))) Via.refl e95 P_1 (g := (mkF m 10 #[.val (.ref ta), .val (.int ps)] [(.ref ta), (.int ps)])) rfl rfl (hb hby own_d7_10)
    have K107 : ∀ t, Steps p.tables e below (T106.setTop (mkF m 13 #[.val (.ref ta), .val (.int ps)] [(.int hi), (.int ps)])) t → Steps p.tables e below (s₁.setTop (entryFrame m #[(.ref ta), (.int ps)] 2)) t := fun t k => K105 t (st106 _ k)
    have q109 := rng32 hi
    by_cases hc108 : hi < ps
    · have q110 : hi.toInt < ps.toInt := Int32.lt_iff_toInt_lt.mp hc108
      have K111 : ∀ t, Steps p.tables e below (T106.setTop (mkF m 21 #[.val (.ref ta), .val (.int ps)] [(.int (0 : Int32))])) t → Steps p.tables e below (s₁.setTop (entryFrame m #[(.ref ta), (.int ps)] 2)) t := fun t k => K107 t (by
        show Steps p.tables e below (T106.setTop (mkF m 13 #[.val (.ref ta), .val (.int ps)] [(.int hi), (.int ps)])) t
        refine XS.icmpYes X106.here hx rfl (pc0 := 13) (pc' := 20) rfl (hb hby own_d7_13) rfl (tlt hc108).2.2.1 (by decide) (by decide) ?_
        show Steps p.tables e below (T106.setTop (mkF m 20 #[.val (.ref ta), .val (.int ps)] [])) t
        refine XS.iconst X106.here hx rfl (hb hby own_d7_20) ?_
        exact k)
      obtain ⟨fs, hr, hrun, hended, hW, hsame⟩ := X106.leave (v := some (.int (0 : Int32))) (fun h => by rw [Bd.returns] at h; cases h)
      refine ⟨_, _, K111 _ ?_, hrun, hended, _, _, rfl, ?_, ⟨_, rfl⟩, hW, hsame.mono (by decide) (by decide)⟩
      · exact retN X106 hx (t := .boolean) Bd.returns (by simp) (hb hby own_d7_21) hr
      · show Q_rm7 Z ta ps lo hi h0 n0 _ T106.heap _
        have q112 := (by decide : (0 : Int32).toInt = 0)
        rw [e106]
        exact ⟨(0 : Int32), rfl, (by omega), N0, rfl⟩
    · have q113 : ¬ hi.toInt < ps.toInt := fun q => hc108 (Int32.lt_iff_toInt_lt.mpr q)
      have K114 : ∀ t, Steps p.tables e below (T106.setTop (mkF m 21 #[.val (.ref ta), .val (.int ps)] [(.int (1 : Int32))])) t → Steps p.tables e below (s₁.setTop (entryFrame m #[(.ref ta), (.int ps)] 2)) t := fun t k => K107 t (by
        show Steps p.tables e below (T106.setTop (mkF m 13 #[.val (.ref ta), .val (.int ps)] [(.int hi), (.int ps)])) t
        refine XS.icmpNo X106.here hx rfl (hb hby own_d7_13) rfl (flt hc108).2.2.1 ?_
        show Steps p.tables e below (T106.setTop (mkF m 16 #[.val (.ref ta), .val (.int ps)] [])) t
        refine XS.iconst X106.here hx rfl (hb hby own_d7_16) ?_
        show Steps p.tables e below (T106.setTop (mkF m 17 #[.val (.ref ta), .val (.int ps)] [(.int (1 : Int32))])) t
        refine XS.goto X106.here hx rfl (pc0 := 17) (pc' := 21) rfl (hb hby own_d7_17) (by decide) (by decide) ?_
        exact k)
      obtain ⟨fs, hr, hrun, hended, hW, hsame⟩ := X106.leave (v := some (.int (1 : Int32))) (fun h => by rw [Bd.returns] at h; cases h)
      refine ⟨_, _, K114 _ ?_, hrun, hended, _, _, rfl, ?_, ⟨_, rfl⟩, hW, hsame.mono (by decide) (by decide)⟩
      · exact retN X106 hx (t := .boolean) Bd.returns (by simp) (hb hby own_d7_21) hr
      · show Q_rm7 Z ta ps lo hi h0 n0 _ T106.heap _
        have q115 := (by decide : (1 : Int32).toInt = 1)
        rw [e106]
        exact ⟨(1 : Int32), rfl, (by omega), N0, rfl⟩
theorem own_pd1 : parseMethodDescriptor "(II)I" = some ⟨[.int, .int], some .int⟩ := by decide +kernel
theorem own_pd2 : parseMethodDescriptor "(II)V" = some ⟨[.int, .int], none⟩ := by decide +kernel
theorem own_pd3 : parseMethodDescriptor "(IIII)I" = some ⟨[.int, .int, .int, .int], some .int⟩ := by decide +kernel
theorem own_pd4 : parseMethodDescriptor "(I)Z" = some ⟨[.int], some .boolean⟩ := by decide +kernel
def Q_rm0 (Z : State) (x0 : Int32) (x1 : Int32) (x2 : Int32) (x3 : Int32) (h0 : Heap) (n0 : Nat) (v : Option Value) (h : Heap) (L : List Loc) : Prop := v = some (.int (1 : Int32)) ∧ (True) ∧ Fr n0 L ∧ Keep h0 h []
theorem own_ef_rm0 (m : MethodId) (x0 : Int32) (x1 : Int32) (x2 : Int32) (x3 : Int32) : entryFrame m #[(.int x0), (.int x1), (.int x2), (.int x3)] maxLocals = mkF m 0 #[.val (.int x0), .val (.int x1), .val (.int x2), .val (.int x3), .unset, .unset, .unset, .unset, .unset, .unset, .unset, .unset] [] := by first | (simp [entryFrame, mkF, argsToLocals, Value.category, maxLocals]; done) | rfl
set_option maxRecDepth 65536 in
set_option maxHeartbeats 40000000 in
theorem rm0 (l : Launch) (Z : State) (a0 : Array Value) (hw : ∀ d ∈ tables_1, d.before a0 Z = true) (ws : List Jvm.Cond) (x0 : Int32) (x1 : Int32) (x2 : Int32) (x3 : Int32) (h0 : Heap) (n0 : Nat) (Z0 : n0 ≤ h0.size) :
    MetFree l x (head1 (Jvm.Cond.code x code maxLocals ret :: ws) room_1) (fun a U => a = #[(.int x0), (.int x1), (.int x2), (.int x3)] ∧ Z.Warmed39 U.vm ∧ U.heap = h0) (fun _ _ _ _ _ => True) (fun _ U o U' => ∃ v L, o = .returned v ∧ Q_rm0 Z x0 x1 x2 x3 h0 n0 v U'.heap L ∧ FrameEnd U o U' L room_1.cells room_1.slots) := by
  refine MetFree.of_bodySF (plainFor_of_name own_pn2) hisR ?_
  intro p e s m args below meth c s₁ Bd hml0 hP hK
  obtain ⟨rfl, hZ, hh⟩ := hP
  have hx := Bd.exec
  have hby := Bd.bytes
  have hml : c.maxLocals = 12 := hml0
  have hown : s.vm.findClass "com/example/cursorweave/cursorweave/broker/HashRangeContainsPinLaw" = some m.cls := findClass_of_methodNamed Bd.named
  have hnm := (name_of_methodNamed Bd.named Bd.method).1
  have X0 : Stand p l e room_1 s m #[(.int x0), (.int x1), (.int x2), (.int x3)] below meth c s₁ [] 0 0 := Stand.of_body Bd
  have e0 : s₁.heap = h0 := by rw [← hh, Bd.state]; rfl
  have N0 := Fr.nil n0
  have pre0 : ∀ t, Steps p.tables e below (s₁.setTop (mkF m 0 #[.val (.int x0), .val (.int x1), .val (.int x2), .val (.int x3), .unset, .unset, .unset, .unset, .unset, .unset, .unset, .unset] [])) t → Steps p.tables e below (s₁.setTop (entryFrame m #[(.int x0), (.int x1), (.int x2), (.int x3)] maxLocals)) t := fun t k => castTop (own_ef_rm0 m x0 x1 x2 x3) k
  have K116 : ∀ t, Steps p.tables e below (s₁.setTop (mkF m 16 #[.val (.int x0), .val (.int x1), .val (.int x2), .val (.int x3), .val (.int (x0 &&& (65535 : Int32))), .val (.int (x1 &&& (65535 : Int32))), .unset, .unset, .unset, .unset, .unset, .unset] [(.int (x1 &&& (65535 : Int32))), (.int (x0 &&& (65535 : Int32)))])) t → Steps p.tables e below (s₁.setTop (entryFrame m #[(.int x0), (.int x1), (.int x2), (.int x3)] maxLocals)) t := fun t k => pre0 t (by
    show Steps p.tables e below (s₁.setTop (mkF m 0 #[.val (.int x0), .val (.int x1), .val (.int x2), .val (.int x3), .unset, .unset, .unset, .unset, .unset, .unset, .unset, .unset] [])) t
    refine XS.iloadN X0.here hx rfl (hb hby at_0) rfl ?_
    show Steps p.tables e below (s₁.setTop (mkF m 1 #[.val (.int x0), .val (.int x1), .val (.int x2), .val (.int x3), .unset, .unset, .unset, .unset, .unset, .unset, .unset, .unset] [(.int x0)])) t
    refine X0.ldcInt hx hown (mvT hZ (hw _ (List.mem_of_getElem? (i := 0) rfl))) (g := (mkF m 1 #[.val (.int x0), .val (.int x1), .val (.int x2), .val (.int x3), .unset, .unset, .unset, .unset, .unset, .unset, .unset, .unset] [(.int x0)])) rfl (hb hby at_1) _ ?_
    show Steps p.tables e below (s₁.setTop (mkF m 3 #[.val (.int x0), .val (.int x1), .val (.int x2), .val (.int x3), .unset, .unset, .unset, .unset, .unset, .unset, .unset, .unset] [(.int (65535 : Int32)), (.int x0)])) t
    refine XS.iand X0.here hx rfl (hb hby at_3) rfl ?_
    show Steps p.tables e below (s₁.setTop (mkF m 4 #[.val (.int x0), .val (.int x1), .val (.int x2), .val (.int x3), .unset, .unset, .unset, .unset, .unset, .unset, .unset, .unset] [(.int (x0 &&& (65535 : Int32)))])) t
    refine XS.istore X0.here hx rfl (hb hby at_4) rfl (l' := #[.val (.int x0), .val (.int x1), .val (.int x2), .val (.int x3), .val (.int (x0 &&& (65535 : Int32))), .unset, .unset, .unset, .unset, .unset, .unset, .unset]) rfl ?_
    show Steps p.tables e below (s₁.setTop (mkF m 6 #[.val (.int x0), .val (.int x1), .val (.int x2), .val (.int x3), .val (.int (x0 &&& (65535 : Int32))), .unset, .unset, .unset, .unset, .unset, .unset, .unset] [])) t
    refine XS.iloadN X0.here hx rfl (hb hby at_6) rfl ?_
    show Steps p.tables e below (s₁.setTop (mkF m 7 #[.val (.int x0), .val (.int x1), .val (.int x2), .val (.int x3), .val (.int (x0 &&& (65535 : Int32))), .unset, .unset, .unset, .unset, .unset, .unset, .unset] [(.int x1)])) t
    refine X0.ldcInt hx hown (mvT hZ (hw _ (List.mem_of_getElem? (i := 0) rfl))) (g := (mkF m 7 #[.val (.int x0), .val (.int x1), .val (.int x2), .val (.int x3), .val (.int (x0 &&& (65535 : Int32))), .unset, .unset, .unset, .unset, .unset, .unset, .unset] [(.int x1)])) rfl (hb hby at_7) _ ?_
    show Steps p.tables e below (s₁.setTop (mkF m 9 #[.val (.int x0), .val (.int x1), .val (.int x2), .val (.int x3), .val (.int (x0 &&& (65535 : Int32))), .unset, .unset, .unset, .unset, .unset, .unset, .unset] [(.int (65535 : Int32)), (.int x1)])) t
    refine XS.iand X0.here hx rfl (hb hby at_9) rfl ?_
    show Steps p.tables e below (s₁.setTop (mkF m 10 #[.val (.int x0), .val (.int x1), .val (.int x2), .val (.int x3), .val (.int (x0 &&& (65535 : Int32))), .unset, .unset, .unset, .unset, .unset, .unset, .unset] [(.int (x1 &&& (65535 : Int32)))])) t
    refine XS.istore X0.here hx rfl (hb hby at_10) rfl (l' := #[.val (.int x0), .val (.int x1), .val (.int x2), .val (.int x3), .val (.int (x0 &&& (65535 : Int32))), .val (.int (x1 &&& (65535 : Int32))), .unset, .unset, .unset, .unset, .unset, .unset]) rfl ?_
    show Steps p.tables e below (s₁.setTop (mkF m 12 #[.val (.int x0), .val (.int x1), .val (.int x2), .val (.int x3), .val (.int (x0 &&& (65535 : Int32))), .val (.int (x1 &&& (65535 : Int32))), .unset, .unset, .unset, .unset, .unset, .unset] [])) t
    refine XS.iload X0.here hx rfl (hb hby at_12) rfl ?_
    show Steps p.tables e below (s₁.setTop (mkF m 14 #[.val (.int x0), .val (.int x1), .val (.int x2), .val (.int x3), .val (.int (x0 &&& (65535 : Int32))), .val (.int (x1 &&& (65535 : Int32))), .unset, .unset, .unset, .unset, .unset, .unset] [(.int (x0 &&& (65535 : Int32)))])) t
    refine XS.iload X0.here hx rfl (hb hby at_14) rfl ?_
    exact k)
  have q117 := rng32 x0
  have q118 := (by decide : (65535 : Int32).toInt = 65535)
  have q119 := (show (x0 &&& (65535 : Int32)).toInt = x0.toInt % 65536 from c_mask x0 (65535 : Int32) 16 (by decide) (by decide))
  have q120 := rng32 (x0 &&& (65535 : Int32))
  have q121 := rng32 x1
  have q122 := (show (x1 &&& (65535 : Int32)).toInt = x1.toInt % 65536 from c_mask x1 (65535 : Int32) 16 (by decide) (by decide))
  have q123 := rng32 (x1 &&& (65535 : Int32))
  obtain ⟨_, _, ⟨T124, L124, kk124, nn124⟩, -, X124, ⟨Lc124, hQ124, l124, y124, z124⟩, st124⟩ := Jvm.LawKit.callS X0 hx (y := (⟨"java/lang/Math", "min", "(II)I"⟩ : MethodName)) hown (mvT hZ (hw _ (List.mem_of_getElem? (i := 1) rfl))) (mvT hZ (hw _ (List.mem_of_getElem? (i := 2) rfl))) (mvT hZ (hw _ (List.mem_of_getElem? (i := 3) rfl))) (mvT hZ (hw _ (List.mem_of_getElem? (i := 4) rfl))) (by decide) (backOf (W := 0) (rm1 l Z a0 hw [] (x0 &&& (65535 : Int32)) (x1 &&& (65535 : Int32)) h0 n0 Z0) hZ (hw _ (List.mem_of_getElem? (i := 4) rfl)) (hw _ (List.mem_of_getElem? (i := 3) rfl)) (by decide) (by decide)) (g := (mkF m 16 #[.val (.int x0), .val (.int x1), .val (.int x2), .val (.int x3), .val (.int (x0 &&& (65535 : Int32))), .val (.int (x1 &&& (65535 : Int32))), .unset, .unset, .unset, .unset, .unset, .unset] [(.int (x1 &&& (65535 : Int32))), (.int (x0 &&& (65535 : Int32)))])) rfl (by rw [hml]; rfl) (argsL := [(.int (x0 &&& (65535 : Int32))), (.int (x1 &&& (65535 : Int32)))]) (rest := []) (lenOf own_pd1 rfl) rfl (by show 2 * 0 + _ ≤ _; exact Nat.le_of_eq rfl) (hb hby at_16) (fun _ _ => ⟨rfl, e0, (by decide : 0 + 0 ≤ _), (by decide : 0 + 0 ≤ _)⟩)
  dsimp only [Pt.U, Pt.locs, Pt.cells, Pt.slots] at X124 l124 y124 z124 st124 hQ124
  subst l124 y124 z124
  obtain ⟨r_124, rfl, Sp124, Nq124, eh124⟩ := hQ124
  have N125 := Fr.app N0 Nq124
  have K126 : ∀ t, Steps p.tables e below (T124.setTop (mkF m 19 #[.val (.int x0), .val (.int x1), .val (.int x2), .val (.int x3), .val (.int (x0 &&& (65535 : Int32))), .val (.int (x1 &&& (65535 : Int32))), .unset, .unset, .unset, .unset, .unset, .unset] [(.int r_124)])) t → Steps p.tables e below (s₁.setTop (entryFrame m #[(.int x0), (.int x1), (.int x2), (.int x3)] maxLocals)) t := fun t k => K116 t (st124 _ k)
  have K127 : ∀ t, Steps p.tables e below (T124.setTop (mkF m 25 #[.val (.int x0), .val (.int x1), .val (.int x2), .val (.int x3), .val (.int (x0 &&& (65535 : Int32))), .val (.int (x1 &&& (65535 : Int32))), .val (.int r_124), .unset, .unset, .unset, .unset, .unset] [(.int (x1 &&& (65535 : Int32))), (.int (x0 &&& (65535 : Int32)))])) t → Steps p.tables e below (s₁.setTop (entryFrame m #[(.int x0), (.int x1), (.int x2), (.int x3)] maxLocals)) t := fun t k => K126 t (by
    show Steps p.tables e below (T124.setTop (mkF m 19 #[.val (.int x0), .val (.int x1), .val (.int x2), .val (.int x3), .val (.int (x0 &&& (65535 : Int32))), .val (.int (x1 &&& (65535 : Int32))), .unset, .unset, .unset, .unset, .unset, .unset] [(.int r_124)])) t
    refine XS.istore X124.here hx rfl (hb hby at_19) rfl (l' := #[.val (.int x0), .val (.int x1), .val (.int x2), .val (.int x3), .val (.int (x0 &&& (65535 : Int32))), .val (.int (x1 &&& (65535 : Int32))), .val (.int r_124), .unset, .unset, .unset, .unset, .unset]) rfl ?_
    show Steps p.tables e below (T124.setTop (mkF m 21 #[.val (.int x0), .val (.int x1), .val (.int x2), .val (.int x3), .val (.int (x0 &&& (65535 : Int32))), .val (.int (x1 &&& (65535 : Int32))), .val (.int r_124), .unset, .unset, .unset, .unset, .unset] [])) t
    refine XS.iload X124.here hx rfl (hb hby at_21) rfl ?_
    show Steps p.tables e below (T124.setTop (mkF m 23 #[.val (.int x0), .val (.int x1), .val (.int x2), .val (.int x3), .val (.int (x0 &&& (65535 : Int32))), .val (.int (x1 &&& (65535 : Int32))), .val (.int r_124), .unset, .unset, .unset, .unset, .unset] [(.int (x0 &&& (65535 : Int32)))])) t
    refine XS.iload X124.here hx rfl (hb hby at_23) rfl ?_
    exact k)
  obtain ⟨_, _, ⟨T128, L128, kk128, nn128⟩, -, X128, ⟨Lc128, hQ128, l128, y128, z128⟩, st128⟩ := Jvm.LawKit.callS X124 hx (y := (⟨"java/lang/Math", "max", "(II)I"⟩ : MethodName)) hown (mvT hZ (hw _ (List.mem_of_getElem? (i := 5) rfl))) (mvT hZ (hw _ (List.mem_of_getElem? (i := 6) rfl))) (mvT hZ (hw _ (List.mem_of_getElem? (i := 3) rfl))) (mvT hZ (hw _ (List.mem_of_getElem? (i := 7) rfl))) (by decide) (backOf (W := 0) (rm2 l Z a0 hw [] (x0 &&& (65535 : Int32)) (x1 &&& (65535 : Int32)) h0 n0 Z0) hZ (hw _ (List.mem_of_getElem? (i := 7) rfl)) (hw _ (List.mem_of_getElem? (i := 3) rfl)) (by decide) (by decide)) (g := (mkF m 25 #[.val (.int x0), .val (.int x1), .val (.int x2), .val (.int x3), .val (.int (x0 &&& (65535 : Int32))), .val (.int (x1 &&& (65535 : Int32))), .val (.int r_124), .unset, .unset, .unset, .unset, .unset] [(.int (x1 &&& (65535 : Int32))), (.int (x0 &&& (65535 : Int32)))])) rfl (by rw [hml]; rfl) (argsL := [(.int (x0 &&& (65535 : Int32))), (.int (x1 &&& (65535 : Int32)))]) (rest := []) (lenOf own_pd1 rfl) rfl (by show 2 * 0 + _ ≤ _; exact Nat.le_of_eq rfl) (hb hby at_25) (fun _ _ => ⟨rfl, eh124, (by decide : 0 + 0 ≤ _), (by decide : 0 + 0 ≤ _)⟩)
  dsimp only [Pt.U, Pt.locs, Pt.cells, Pt.slots] at X128 l128 y128 z128 st128 hQ128
  subst l128 y128 z128
  obtain ⟨r_128, rfl, Sp128, Nq128, eh128⟩ := hQ128
  have N129 := Fr.app N125 Nq128
  have K130 : ∀ t, Steps p.tables e below (T128.setTop (mkF m 28 #[.val (.int x0), .val (.int x1), .val (.int x2), .val (.int x3), .val (.int (x0 &&& (65535 : Int32))), .val (.int (x1 &&& (65535 : Int32))), .val (.int r_124), .unset, .unset, .unset, .unset, .unset] [(.int r_128)])) t → Steps p.tables e below (s₁.setTop (entryFrame m #[(.int x0), (.int x1), (.int x2), (.int x3)] maxLocals)) t := fun t k => K127 t (st128 _ k)
  have K131 : ∀ t, Steps p.tables e below (T128.setTop (mkF m 30 #[.val (.int x0), .val (.int x1), .val (.int x2), .val (.int x3), .val (.int (x0 &&& (65535 : Int32))), .val (.int (x1 &&& (65535 : Int32))), .val (.int r_124), .val (.int r_128), .unset, .unset, .unset, .unset] [])) t → Steps p.tables e below (s₁.setTop (entryFrame m #[(.int x0), (.int x1), (.int x2), (.int x3)] maxLocals)) t := fun t k => K130 t (by
    show Steps p.tables e below (T128.setTop (mkF m 28 #[.val (.int x0), .val (.int x1), .val (.int x2), .val (.int x3), .val (.int (x0 &&& (65535 : Int32))), .val (.int (x1 &&& (65535 : Int32))), .val (.int r_124), .unset, .unset, .unset, .unset, .unset] [(.int r_128)])) t
    refine XS.istore X128.here hx rfl (hb hby at_28) rfl (l' := #[.val (.int x0), .val (.int x1), .val (.int x2), .val (.int x3), .val (.int (x0 &&& (65535 : Int32))), .val (.int (x1 &&& (65535 : Int32))), .val (.int r_124), .val (.int r_128), .unset, .unset, .unset, .unset]) rfl ?_
    exact k)
  obtain ⟨T132, h132, X132, e132, E132, A132, D132, M132, st132⟩ := newO X128 hx hZ hown (hw _ (List.mem_of_getElem? (i := 8) rfl)) (hw _ (List.mem_of_getElem? (i := 9) rfl)) (hw _ (List.mem_of_getElem? (i := 10) rfl)) eh128 (g := (mkF m 30 #[.val (.int x0), .val (.int x1), .val (.int x2), .val (.int x3), .val (.int (x0 &&& (65535 : Int32))), .val (.int (x1 &&& (65535 : Int32))), .val (.int r_124), .val (.int r_128), .unset, .unset, .unset, .unset] [])) rfl (hb hby at_30) (by decide) (by decide)
  obtain ⟨b132, g132⟩ : ∃ z, z = h0.size := ⟨_, rfl⟩
  rw [← g132] at A132 D132 M132 st132
  have gb133 : n0 ≤ b132 := Nat.le_trans Z0 (Nat.le_of_eq g132.symm)
  have sb134 : h0.size ≤ b132 := Nat.le_trans (Keep.refl h0 []).1 (Nat.le_of_eq g132.symm)
  have Z135 : n0 ≤ h132.size := Nat.le_trans Z0 E132.1
  have Kp136 : Keep h0 h132 [] := Keep.ext (Keep.refl h0 []) E132
  have F137 : Fld Z h132 b132 "com/example/cursorweave/cursorweave/broker/HashRange" "first" "I" (.int (0 : Int32)) := D132 (Or.inr (hw _ (List.mem_of_getElem? (i := 24) rfl))) (ty := .int) (by decide)
  have F138 : Fld Z h132 b132 "com/example/cursorweave/cursorweave/broker/HashRange" "last" "I" (.int (0 : Int32)) := D132 (Or.inr (hw _ (List.mem_of_getElem? (i := 26) rfl))) (ty := .int) (by decide)
  have K139 : ∀ t, Steps p.tables e below (T132.setTop (mkF m 33 #[.val (.int x0), .val (.int x1), .val (.int x2), .val (.int x3), .val (.int (x0 &&& (65535 : Int32))), .val (.int (x1 &&& (65535 : Int32))), .val (.int r_124), .val (.int r_128), .unset, .unset, .unset, .unset] [(.ref b132)])) t → Steps p.tables e below (s₁.setTop (entryFrame m #[(.int x0), (.int x1), (.int x2), (.int x3)] maxLocals)) t := fun t k => K131 t (st132 _ k)
  have K140 : ∀ t, Steps p.tables e below (T132.setTop (mkF m 38 #[.val (.int x0), .val (.int x1), .val (.int x2), .val (.int x3), .val (.int (x0 &&& (65535 : Int32))), .val (.int (x1 &&& (65535 : Int32))), .val (.int r_124), .val (.int r_128), .unset, .unset, .unset, .unset] [(.int r_128), (.int r_124), (.ref b132), (.ref b132)])) t → Steps p.tables e below (s₁.setTop (entryFrame m #[(.int x0), (.int x1), (.int x2), (.int x3)] maxLocals)) t := fun t k => K139 t (by
    show Steps p.tables e below (T132.setTop (mkF m 33 #[.val (.int x0), .val (.int x1), .val (.int x2), .val (.int x3), .val (.int (x0 &&& (65535 : Int32))), .val (.int (x1 &&& (65535 : Int32))), .val (.int r_124), .val (.int r_128), .unset, .unset, .unset, .unset] [(.ref b132)])) t
    refine XS.dup X132.here hx rfl (hb hby at_33) rfl rfl ?_
    show Steps p.tables e below (T132.setTop (mkF m 34 #[.val (.int x0), .val (.int x1), .val (.int x2), .val (.int x3), .val (.int (x0 &&& (65535 : Int32))), .val (.int (x1 &&& (65535 : Int32))), .val (.int r_124), .val (.int r_128), .unset, .unset, .unset, .unset] [(.ref b132), (.ref b132)])) t
    refine XS.iload X132.here hx rfl (hb hby at_34) rfl ?_
    show Steps p.tables e below (T132.setTop (mkF m 36 #[.val (.int x0), .val (.int x1), .val (.int x2), .val (.int x3), .val (.int (x0 &&& (65535 : Int32))), .val (.int (x1 &&& (65535 : Int32))), .val (.int r_124), .val (.int r_128), .unset, .unset, .unset, .unset] [(.int r_124), (.ref b132), (.ref b132)])) t
    refine XS.iload X132.here hx rfl (hb hby at_36) rfl ?_
    exact k)
  have q142 := rng32 r_124
  have q143 := rng32 r_128
  have q141 : 0 ≤ r_124.toInt ∧ r_128.toInt < 65536 ∧ r_124.toInt ≤ r_128.toInt := by omega
  obtain ⟨_, _, ⟨T144, L144, kk144, nn144⟩, -, X144, ⟨Lc144, hQ144, l144, y144, z144⟩, st144⟩ := X132.specialBack hx (y := (⟨"com/example/cursorweave/cursorweave/broker/HashRange", "<init>", "(II)V"⟩ : MethodName)) rfl hown (mvT hZ (hw _ (List.mem_of_getElem? (i := 11) rfl))) (mvT hZ (hw _ (List.mem_of_getElem? (i := 12) rfl))) (mvT hZ (hw _ (List.mem_of_getElem? (i := 13) rfl))) (by decide) (backOf (W := 1) (rm3 l Z a0 hw [] b132 r_124 r_128 h132 n0 Z135 A132 F137 F138 gb133 q141) hZ (hw _ (List.mem_of_getElem? (i := 13) rfl)) (hw _ (List.mem_of_getElem? (i := 10) rfl)) (by decide) (by decide)) (g := (mkF m 38 #[.val (.int x0), .val (.int x1), .val (.int x2), .val (.int x3), .val (.int (x0 &&& (65535 : Int32))), .val (.int (x1 &&& (65535 : Int32))), .val (.int r_124), .val (.int r_128), .unset, .unset, .unset, .unset] [(.int r_128), (.int r_124), (.ref b132), (.ref b132)])) rfl (by rw [hml]; rfl) (Steps.refl _) (a := b132) (argsL := [(.int r_124), (.int r_128)]) (rest := [(.ref b132)]) (lenOf own_pd2 rfl) rfl (by show 2 * 0 + _ ≤ _; exact Nat.le_of_eq rfl) (hb hby at_38) (fun _ _ => ⟨rfl, e132, (by decide : 1 + 0 ≤ _), (by decide : 2 + 0 ≤ _)⟩)
  dsimp only [Pt.U, Pt.locs, Pt.cells, Pt.slots] at X144 l144 y144 z144 st144 hQ144
  subst l144 y144 z144
  obtain ⟨rfl, Sp144, Nq144, Kc144, Pc144_0, Pc144_1, Pc144_2⟩ := hQ144
  have N145 := Fr.app N129 Nq144
  obtain ⟨h144, e144⟩ : ∃ z, z = T144.heap := ⟨_, rfl⟩
  rw [← e144] at Kc144 Pc144_0 Pc144_1 Pc144_2
  have F146 := A132.keep Kc144
  have Kp147 : Keep h0 h144 [] := Keep.trans Kp136 Kc144 (allS (Or.inr sb134) all0)
  have Z148 : n0 ≤ h144.size := Nat.le_trans Z135 Kc144.1
  have K149 : ∀ t, Steps p.tables e below (T144.setTop (mkF m 41 #[.val (.int x0), .val (.int x1), .val (.int x2), .val (.int x3), .val (.int (x0 &&& (65535 : Int32))), .val (.int (x1 &&& (65535 : Int32))), .val (.int r_124), .val (.int r_128), .unset, .unset, .unset, .unset] [(.ref b132)])) t → Steps p.tables e below (s₁.setTop (entryFrame m #[(.int x0), (.int x1), (.int x2), (.int x3)] maxLocals)) t := fun t k => K140 t (st144.trans k)
  have K150 : ∀ t, Steps p.tables e below (T144.setTop (mkF m 49 #[.val (.int x0), .val (.int x1), .val (.int x2), .val (.int x3), .val (.int (x0 &&& (65535 : Int32))), .val (.int (x1 &&& (65535 : Int32))), .val (.int r_124), .val (.int r_128), .val (.ref b132), .unset, .unset, .unset] [(.int x3), (.int x2), (.int r_128), (.int r_124)])) t → Steps p.tables e below (s₁.setTop (entryFrame m #[(.int x0), (.int x1), (.int x2), (.int x3)] maxLocals)) t := fun t k => K149 t (by
    show Steps p.tables e below (T144.setTop (mkF m 41 #[.val (.int x0), .val (.int x1), .val (.int x2), .val (.int x3), .val (.int (x0 &&& (65535 : Int32))), .val (.int (x1 &&& (65535 : Int32))), .val (.int r_124), .val (.int r_128), .unset, .unset, .unset, .unset] [(.ref b132)])) t
    refine XS.astore X144.here hx rfl (hb hby at_41) rfl rfl (l' := #[.val (.int x0), .val (.int x1), .val (.int x2), .val (.int x3), .val (.int (x0 &&& (65535 : Int32))), .val (.int (x1 &&& (65535 : Int32))), .val (.int r_124), .val (.int r_128), .val (.ref b132), .unset, .unset, .unset]) rfl ?_
    show Steps p.tables e below (T144.setTop (mkF m 43 #[.val (.int x0), .val (.int x1), .val (.int x2), .val (.int x3), .val (.int (x0 &&& (65535 : Int32))), .val (.int (x1 &&& (65535 : Int32))), .val (.int r_124), .val (.int r_128), .val (.ref b132), .unset, .unset, .unset] [])) t
    refine XS.iload X144.here hx rfl (hb hby at_43) rfl ?_
    show Steps p.tables e below (T144.setTop (mkF m 45 #[.val (.int x0), .val (.int x1), .val (.int x2), .val (.int x3), .val (.int (x0 &&& (65535 : Int32))), .val (.int (x1 &&& (65535 : Int32))), .val (.int r_124), .val (.int r_128), .val (.ref b132), .unset, .unset, .unset] [(.int r_124)])) t
    refine XS.iload X144.here hx rfl (hb hby at_45) rfl ?_
    show Steps p.tables e below (T144.setTop (mkF m 47 #[.val (.int x0), .val (.int x1), .val (.int x2), .val (.int x3), .val (.int (x0 &&& (65535 : Int32))), .val (.int (x1 &&& (65535 : Int32))), .val (.int r_124), .val (.int r_128), .val (.ref b132), .unset, .unset, .unset] [(.int r_128), (.int r_124)])) t
    refine XS.iloadN X144.here hx rfl (hb hby at_47) rfl ?_
    show Steps p.tables e below (T144.setTop (mkF m 48 #[.val (.int x0), .val (.int x1), .val (.int x2), .val (.int x3), .val (.int (x0 &&& (65535 : Int32))), .val (.int (x1 &&& (65535 : Int32))), .val (.int r_124), .val (.int r_128), .val (.ref b132), .unset, .unset, .unset] [(.int x2), (.int r_128), (.int r_124)])) t
    refine XS.iloadN X144.here hx rfl (hb hby at_48) rfl ?_
    exact k)
  have q151 := rng32 x2
  have q152 := rng32 x3
  obtain ⟨_, _, ⟨T153, L153, kk153, nn153⟩, -, X153, ⟨Lc153, hQ153, l153, y153, z153⟩, st153⟩ := Jvm.LawKit.callS X144 hx (y := (⟨"com/example/cursorweave/cursorweave/broker/HashRangeContainsPinLaw", "pickSlot", "(IIII)I"⟩ : MethodName)) hown (mvT hZ (hw _ (List.mem_of_getElem? (i := 27) rfl))) (mvT hZ (hw _ (List.mem_of_getElem? (i := 28) rfl))) (mvT hZ (hw _ (List.mem_of_getElem? (i := 29) rfl))) (mvT hZ (hw _ (List.mem_of_getElem? (i := 30) rfl))) (by decide) (backOf (W := 0) (rm6 l Z a0 hw [] r_124 r_128 x2 x3 h144 n0 Z148) hZ (hw _ (List.mem_of_getElem? (i := 30) rfl)) (hw _ (List.mem_of_getElem? (i := 29) rfl)) (by decide) (by decide)) (g := (mkF m 49 #[.val (.int x0), .val (.int x1), .val (.int x2), .val (.int x3), .val (.int (x0 &&& (65535 : Int32))), .val (.int (x1 &&& (65535 : Int32))), .val (.int r_124), .val (.int r_128), .val (.ref b132), .unset, .unset, .unset] [(.int x3), (.int x2), (.int r_128), (.int r_124)])) rfl (by rw [hml]; rfl) (argsL := [(.int r_124), (.int r_128), (.int x2), (.int x3)]) (rest := []) (lenOf own_pd3 rfl) rfl (by show 2 * 0 + _ ≤ _; exact Nat.le_of_eq rfl) (hb hby at_49) (fun _ _ => ⟨rfl, e144.symm, (by decide : 1 + 0 ≤ _), (by decide : 2 + 0 ≤ _)⟩)
  dsimp only [Pt.U, Pt.locs, Pt.cells, Pt.slots] at X153 l153 y153 z153 st153 hQ153
  subst l153 y153 z153
  obtain ⟨r_153, rfl, Sp153, Nq153, eh153⟩ := hQ153
  have N154 := Fr.app N145 Nq153
  have K155 : ∀ t, Steps p.tables e below (T153.setTop (mkF m 52 #[.val (.int x0), .val (.int x1), .val (.int x2), .val (.int x3), .val (.int (x0 &&& (65535 : Int32))), .val (.int (x1 &&& (65535 : Int32))), .val (.int r_124), .val (.int r_128), .val (.ref b132), .unset, .unset, .unset] [(.int r_153)])) t → Steps p.tables e below (s₁.setTop (entryFrame m #[(.int x0), (.int x1), (.int x2), (.int x3)] maxLocals)) t := fun t k => K150 t (st153 _ k)
  have K156 : ∀ t, Steps p.tables e below (T153.setTop (mkF m 60 #[.val (.int x0), .val (.int x1), .val (.int x2), .val (.int x3), .val (.int (x0 &&& (65535 : Int32))), .val (.int (x1 &&& (65535 : Int32))), .val (.int r_124), .val (.int r_128), .val (.ref b132), .val (.int r_153), .unset, .unset] [(.int r_128), (.int r_153), (.int r_124)])) t → Steps p.tables e below (s₁.setTop (entryFrame m #[(.int x0), (.int x1), (.int x2), (.int x3)] maxLocals)) t := fun t k => K155 t (by
    show Steps p.tables e below (T153.setTop (mkF m 52 #[.val (.int x0), .val (.int x1), .val (.int x2), .val (.int x3), .val (.int (x0 &&& (65535 : Int32))), .val (.int (x1 &&& (65535 : Int32))), .val (.int r_124), .val (.int r_128), .val (.ref b132), .unset, .unset, .unset] [(.int r_153)])) t
    refine XS.istore X153.here hx rfl (hb hby at_52) rfl (l' := #[.val (.int x0), .val (.int x1), .val (.int x2), .val (.int x3), .val (.int (x0 &&& (65535 : Int32))), .val (.int (x1 &&& (65535 : Int32))), .val (.int r_124), .val (.int r_128), .val (.ref b132), .val (.int r_153), .unset, .unset]) rfl ?_
    show Steps p.tables e below (T153.setTop (mkF m 54 #[.val (.int x0), .val (.int x1), .val (.int x2), .val (.int x3), .val (.int (x0 &&& (65535 : Int32))), .val (.int (x1 &&& (65535 : Int32))), .val (.int r_124), .val (.int r_128), .val (.ref b132), .val (.int r_153), .unset, .unset] [])) t
    refine XS.iload X153.here hx rfl (hb hby at_54) rfl ?_
    show Steps p.tables e below (T153.setTop (mkF m 56 #[.val (.int x0), .val (.int x1), .val (.int x2), .val (.int x3), .val (.int (x0 &&& (65535 : Int32))), .val (.int (x1 &&& (65535 : Int32))), .val (.int r_124), .val (.int r_128), .val (.ref b132), .val (.int r_153), .unset, .unset] [(.int r_124)])) t
    refine XS.iload X153.here hx rfl (hb hby at_56) rfl ?_
    show Steps p.tables e below (T153.setTop (mkF m 58 #[.val (.int x0), .val (.int x1), .val (.int x2), .val (.int x3), .val (.int (x0 &&& (65535 : Int32))), .val (.int (x1 &&& (65535 : Int32))), .val (.int r_124), .val (.int r_128), .val (.ref b132), .val (.int r_153), .unset, .unset] [(.int r_153), (.int r_124)])) t
    refine XS.iload X153.here hx rfl (hb hby at_58) rfl ?_
    exact k)
  have q157 := rng32 r_153
  obtain ⟨_, _, ⟨T158, L158, kk158, nn158⟩, -, X158, ⟨Lc158, hQ158, l158, y158, z158⟩, st158⟩ := Jvm.LawKit.callS X153 hx (y := (⟨"java/lang/Math", "min", "(II)I"⟩ : MethodName)) hown (mvT hZ (hw _ (List.mem_of_getElem? (i := 1) rfl))) (mvT hZ (hw _ (List.mem_of_getElem? (i := 2) rfl))) (mvT hZ (hw _ (List.mem_of_getElem? (i := 3) rfl))) (mvT hZ (hw _ (List.mem_of_getElem? (i := 4) rfl))) (by decide) (backOf (W := 1) (rm1 l Z a0 hw [] r_153 r_128 h144 n0 Z148) hZ (hw _ (List.mem_of_getElem? (i := 4) rfl)) (hw _ (List.mem_of_getElem? (i := 3) rfl)) (by decide) (by decide)) (g := (mkF m 60 #[.val (.int x0), .val (.int x1), .val (.int x2), .val (.int x3), .val (.int (x0 &&& (65535 : Int32))), .val (.int (x1 &&& (65535 : Int32))), .val (.int r_124), .val (.int r_128), .val (.ref b132), .val (.int r_153), .unset, .unset] [(.int r_128), (.int r_153), (.int r_124)])) rfl (by rw [hml]; rfl) (argsL := [(.int r_153), (.int r_128)]) (rest := [(.int r_124)]) (lenOf own_pd1 rfl) rfl (by show 2 * 0 + _ ≤ _; exact Nat.le_of_eq rfl) (hb hby at_60) (fun _ _ => ⟨rfl, eh153, (by decide : 1 + 0 ≤ _), (by decide : 2 + 0 ≤ _)⟩)
  dsimp only [Pt.U, Pt.locs, Pt.cells, Pt.slots] at X158 l158 y158 z158 st158 hQ158
  subst l158 y158 z158
  obtain ⟨r_158, rfl, Sp158, Nq158, eh158⟩ := hQ158
  have N159 := Fr.app N154 Nq158
  have K160 : ∀ t, Steps p.tables e below (T158.setTop (mkF m 63 #[.val (.int x0), .val (.int x1), .val (.int x2), .val (.int x3), .val (.int (x0 &&& (65535 : Int32))), .val (.int (x1 &&& (65535 : Int32))), .val (.int r_124), .val (.int r_128), .val (.ref b132), .val (.int r_153), .unset, .unset] [(.int r_158), (.int r_124)])) t → Steps p.tables e below (s₁.setTop (entryFrame m #[(.int x0), (.int x1), (.int x2), (.int x3)] maxLocals)) t := fun t k => K156 t (st158 _ k)
  have q161 := rng32 r_158
  obtain ⟨_, _, ⟨T162, L162, kk162, nn162⟩, -, X162, ⟨Lc162, hQ162, l162, y162, z162⟩, st162⟩ := Jvm.LawKit.callS X158 hx (y := (⟨"java/lang/Math", "max", "(II)I"⟩ : MethodName)) hown (mvT hZ (hw _ (List.mem_of_getElem? (i := 5) rfl))) (mvT hZ (hw _ (List.mem_of_getElem? (i := 6) rfl))) (mvT hZ (hw _ (List.mem_of_getElem? (i := 3) rfl))) (mvT hZ (hw _ (List.mem_of_getElem? (i := 7) rfl))) (by decide) (backOf (W := 0) (rm2 l Z a0 hw [] r_124 r_158 h144 n0 Z148) hZ (hw _ (List.mem_of_getElem? (i := 7) rfl)) (hw _ (List.mem_of_getElem? (i := 3) rfl)) (by decide) (by decide)) (g := (mkF m 63 #[.val (.int x0), .val (.int x1), .val (.int x2), .val (.int x3), .val (.int (x0 &&& (65535 : Int32))), .val (.int (x1 &&& (65535 : Int32))), .val (.int r_124), .val (.int r_128), .val (.ref b132), .val (.int r_153), .unset, .unset] [(.int r_158), (.int r_124)])) rfl (by rw [hml]; rfl) (argsL := [(.int r_124), (.int r_158)]) (rest := []) (lenOf own_pd1 rfl) rfl (by show 2 * 0 + _ ≤ _; exact Nat.le_of_eq rfl) (hb hby at_63) (fun _ _ => ⟨rfl, eh158, (by decide : 1 + 0 ≤ _), (by decide : 2 + 0 ≤ _)⟩)
  dsimp only [Pt.U, Pt.locs, Pt.cells, Pt.slots] at X162 l162 y162 z162 st162 hQ162
  subst l162 y162 z162
  obtain ⟨r_162, rfl, Sp162, Nq162, eh162⟩ := hQ162
  have N163 := Fr.app N159 Nq162
  have K164 : ∀ t, Steps p.tables e below (T162.setTop (mkF m 66 #[.val (.int x0), .val (.int x1), .val (.int x2), .val (.int x3), .val (.int (x0 &&& (65535 : Int32))), .val (.int (x1 &&& (65535 : Int32))), .val (.int r_124), .val (.int r_128), .val (.ref b132), .val (.int r_153), .unset, .unset] [(.int r_162)])) t → Steps p.tables e below (s₁.setTop (entryFrame m #[(.int x0), (.int x1), (.int x2), (.int x3)] maxLocals)) t := fun t k => K160 t (st162 _ k)
  obtain ⟨ex_165, Sp165, K166⟩ : ∃ (ex_165 : Int32), ((ex_165.toInt = 1 ∧ (r_124.toInt ≤ r_153.toInt ∧ r_153.toInt ≤ r_128.toInt)) ∨ (ex_165.toInt = 0 ∧ ¬ (r_124.toInt ≤ r_153.toInt ∧ r_153.toInt ≤ r_128.toInt))) ∧ ∀ t, Steps p.tables e below (T162.setTop (mkF m 76 #[.val (.int x0), .val (.int x1), .val (.int x2), .val (.int x3), .val (.int (x0 &&& (65535 : Int32))), .val (.int (x1 &&& (65535 : Int32))), .val (.int r_124), .val (.int r_128), .val (.ref b132), .val (.int r_153), .unset, .unset] [(.int ex_165)])) t → Steps p.tables e below (s₁.setTop (entryFrame m #[(.int x0), (.int x1), (.int x2), (.int x3)] maxLocals)) t := by
    have K168 : ∀ t, Steps p.tables e below (T162.setTop (mkF m 68 #[.val (.int x0), .val (.int x1), .val (.int x2), .val (.int x3), .val (.int (x0 &&& (65535 : Int32))), .val (.int (x1 &&& (65535 : Int32))), .val (.int r_124), .val (.int r_128), .val (.ref b132), .val (.int r_153), .unset, .unset] [(.int r_153), (.int r_162)])) t → Steps p.tables e below (s₁.setTop (entryFrame m #[(.int x0), (.int x1), (.int x2), (.int x3)] maxLocals)) t := fun t k => K164 t (by
      show Steps p.tables e below (T162.setTop (mkF m 66 #[.val (.int x0), .val (.int x1), .val (.int x2), .val (.int x3), .val (.int (x0 &&& (65535 : Int32))), .val (.int (x1 &&& (65535 : Int32))), .val (.int r_124), .val (.int r_128), .val (.ref b132), .val (.int r_153), .unset, .unset] [(.int r_162)])) t
      refine XS.iload X162.here hx rfl (hb hby at_66) rfl ?_
      exact k)
    have q169 := rng32 r_162
    by_cases hc167 : r_162 = r_153
    · have q170 : r_162.toInt = r_153.toInt := congrArg Int32.toInt hc167
      have q171 := (by decide : (1 : Int32).toInt = 1)
      refine ⟨(1 : Int32), by omega, fun t k => K168 t ?_⟩
      show Steps p.tables e below (T162.setTop (mkF m 68 #[.val (.int x0), .val (.int x1), .val (.int x2), .val (.int x3), .val (.int (x0 &&& (65535 : Int32))), .val (.int (x1 &&& (65535 : Int32))), .val (.int r_124), .val (.int r_128), .val (.ref b132), .val (.int r_153), .unset, .unset] [(.int r_153), (.int r_162)])) t
      refine XS.icmpNo X162.here hx rfl (hb hby at_68) rfl (teq hc167).2 ?_
      show Steps p.tables e below (T162.setTop (mkF m 71 #[.val (.int x0), .val (.int x1), .val (.int x2), .val (.int x3), .val (.int (x0 &&& (65535 : Int32))), .val (.int (x1 &&& (65535 : Int32))), .val (.int r_124), .val (.int r_128), .val (.ref b132), .val (.int r_153), .unset, .unset] [])) t
      refine XS.iconst X162.here hx rfl (hb hby at_71) ?_
      show Steps p.tables e below (T162.setTop (mkF m 72 #[.val (.int x0), .val (.int x1), .val (.int x2), .val (.int x3), .val (.int (x0 &&& (65535 : Int32))), .val (.int (x1 &&& (65535 : Int32))), .val (.int r_124), .val (.int r_128), .val (.ref b132), .val (.int r_153), .unset, .unset] [(.int (1 : Int32))])) t
      refine XS.goto X162.here hx rfl (pc0 := 72) (pc' := 76) rfl (hb hby at_72) (by decide) (by decide) ?_
      exact k
    · have q172 : ¬ r_162.toInt = r_153.toInt := fun q => hc167 (Int32.toInt_inj.mp q)
      have q173 := (by decide : (0 : Int32).toInt = 0)
      refine ⟨(0 : Int32), by omega, fun t k => K168 t ?_⟩
      show Steps p.tables e below (T162.setTop (mkF m 68 #[.val (.int x0), .val (.int x1), .val (.int x2), .val (.int x3), .val (.int (x0 &&& (65535 : Int32))), .val (.int (x1 &&& (65535 : Int32))), .val (.int r_124), .val (.int r_128), .val (.ref b132), .val (.int r_153), .unset, .unset] [(.int r_153), (.int r_162)])) t
      refine XS.icmpYes X162.here hx rfl (pc0 := 68) (pc' := 75) rfl (hb hby at_68) rfl (feq hc167).2 (by decide) (by decide) ?_
      show Steps p.tables e below (T162.setTop (mkF m 75 #[.val (.int x0), .val (.int x1), .val (.int x2), .val (.int x3), .val (.int (x0 &&& (65535 : Int32))), .val (.int (x1 &&& (65535 : Int32))), .val (.int r_124), .val (.int r_128), .val (.ref b132), .val (.int r_153), .unset, .unset] [])) t
      refine XS.iconst X162.here hx rfl (hb hby at_75) ?_
      exact k
  have K174 : ∀ t, Steps p.tables e below (T162.setTop (mkF m 82 #[.val (.int x0), .val (.int x1), .val (.int x2), .val (.int x3), .val (.int (x0 &&& (65535 : Int32))), .val (.int (x1 &&& (65535 : Int32))), .val (.int r_124), .val (.int r_128), .val (.ref b132), .val (.int r_153), .val (.int ex_165), .unset] [(.int r_153), (.ref b132)])) t → Steps p.tables e below (s₁.setTop (entryFrame m #[(.int x0), (.int x1), (.int x2), (.int x3)] maxLocals)) t := fun t k => K166 t (by
    show Steps p.tables e below (T162.setTop (mkF m 76 #[.val (.int x0), .val (.int x1), .val (.int x2), .val (.int x3), .val (.int (x0 &&& (65535 : Int32))), .val (.int (x1 &&& (65535 : Int32))), .val (.int r_124), .val (.int r_128), .val (.ref b132), .val (.int r_153), .unset, .unset] [(.int ex_165)])) t
    refine XS.istore X162.here hx rfl (hb hby at_76) rfl (l' := #[.val (.int x0), .val (.int x1), .val (.int x2), .val (.int x3), .val (.int (x0 &&& (65535 : Int32))), .val (.int (x1 &&& (65535 : Int32))), .val (.int r_124), .val (.int r_128), .val (.ref b132), .val (.int r_153), .val (.int ex_165), .unset]) rfl ?_
    show Steps p.tables e below (T162.setTop (mkF m 78 #[.val (.int x0), .val (.int x1), .val (.int x2), .val (.int x3), .val (.int (x0 &&& (65535 : Int32))), .val (.int (x1 &&& (65535 : Int32))), .val (.int r_124), .val (.int r_128), .val (.ref b132), .val (.int r_153), .val (.int ex_165), .unset] [])) t
    refine XS.aload X162.here hx rfl (hb hby at_78) rfl rfl ?_
    show Steps p.tables e below (T162.setTop (mkF m 80 #[.val (.int x0), .val (.int x1), .val (.int x2), .val (.int x3), .val (.int (x0 &&& (65535 : Int32))), .val (.int (x1 &&& (65535 : Int32))), .val (.int r_124), .val (.int r_128), .val (.ref b132), .val (.int r_153), .val (.int ex_165), .unset] [(.ref b132)])) t
    refine XS.iload X162.here hx rfl (hb hby at_80) rfl ?_
    exact k)
  obtain ⟨cq175, kq175, q175a, q175b, q175c⟩ := isOf hZ eh162 Pc144_0
  obtain ⟨_, _, ⟨T175, L175, kk175, nn175⟩, -, X175, ⟨Lc175, hQ175, l175, y175, z175⟩, st175⟩ := X162.virtualBack hx (y := (⟨"com/example/cursorweave/cursorweave/broker/HashRange", "contains", "(I)Z"⟩ : MethodName)) (z := (⟨"com/example/cursorweave/cursorweave/broker/HashRange", "contains", "(I)Z"⟩ : MethodName)) hown (mvT hZ (hw _ (List.mem_of_getElem? (i := 31) rfl))) (mvT hZ (hw _ (List.mem_of_getElem? (i := 32) rfl))) (notFace_of_selects (args := #[]) (mvT hZ (hw _ (List.mem_of_getElem? (i := 34) rfl)))) (mvT hZ (hw _ (List.mem_of_getElem? (i := 34) rfl))) (mvT hZ (hw _ (List.mem_of_getElem? (i := 33) rfl))) (by decide) (backOf (W := 0) (rm7 l Z a0 hw [] b132 r_153 r_124 r_128 h144 n0 Z148 Pc144_1 Pc144_2) hZ (hw _ (List.mem_of_getElem? (i := 35) rfl)) (hw _ (List.mem_of_getElem? (i := 10) rfl)) (by decide) (by decide)) q175a q175c (g := (mkF m 82 #[.val (.int x0), .val (.int x1), .val (.int x2), .val (.int x3), .val (.int (x0 &&& (65535 : Int32))), .val (.int (x1 &&& (65535 : Int32))), .val (.int r_124), .val (.int r_128), .val (.ref b132), .val (.int r_153), .val (.int ex_165), .unset] [(.int r_153), (.ref b132)])) rfl (by rw [hml]; rfl) (Steps.refl _) (argsL := [(.int r_153)]) (rest := []) (lenOf own_pd4 rfl) rfl (by show 2 * 0 + _ ≤ _; exact Nat.le_of_eq rfl) (hb hby at_82) (fun _ _ => ⟨rfl, eh162, (by decide : 1 + 0 ≤ _), (by decide : 2 + 0 ≤ _)⟩)
  dsimp only [Pt.U, Pt.locs, Pt.cells, Pt.slots] at X175 l175 y175 z175 st175 hQ175
  subst l175 y175 z175
  obtain ⟨r_175, rfl, Sp175, Nq175, eh175⟩ := hQ175
  have N176 := Fr.app N163 Nq175
  have K177 : ∀ t, Steps p.tables e below (T175.setTop (mkF m 85 #[.val (.int x0), .val (.int x1), .val (.int x2), .val (.int x3), .val (.int (x0 &&& (65535 : Int32))), .val (.int (x1 &&& (65535 : Int32))), .val (.int r_124), .val (.int r_128), .val (.ref b132), .val (.int r_153), .val (.int ex_165), .unset] [(.int r_175)])) t → Steps p.tables e below (s₁.setTop (entryFrame m #[(.int x0), (.int x1), (.int x2), (.int x3)] maxLocals)) t := fun t k => K174 t (st175.trans k)
  have q179 := rng32 r_175
  have q180 := rng32 ex_165
  have hc178 : r_175 = ex_165 := Int32.toInt_inj.mp (by omega)
  have q181 : r_175.toInt = ex_165.toInt := congrArg Int32.toInt hc178
  have q183 := (by decide : (1 : Int32).toInt = 1)
  have q184 := (by decide : (0 : Int32).toInt = 0)
  have hc182 : ¬ ((1 : Int32) = (0 : Int32)) := fun q => by have q2 := congrArg Int32.toInt q; omega
  have q185 : ¬ (1 : Int32).toInt = (0 : Int32).toInt := fun q => hc182 (Int32.toInt_inj.mp q)
  have K186 : ∀ t, Steps p.tables e below (T175.setTop (mkF m 106 #[.val (.int x0), .val (.int x1), .val (.int x2), .val (.int x3), .val (.int (x0 &&& (65535 : Int32))), .val (.int (x1 &&& (65535 : Int32))), .val (.int r_124), .val (.int r_128), .val (.ref b132), .val (.int r_153), .val (.int ex_165), .val (.int (1 : Int32))] [(.int r_124), (.ref b132)])) t → Steps p.tables e below (s₁.setTop (entryFrame m #[(.int x0), (.int x1), (.int x2), (.int x3)] maxLocals)) t := fun t k => K177 t (by
    show Steps p.tables e below (T175.setTop (mkF m 85 #[.val (.int x0), .val (.int x1), .val (.int x2), .val (.int x3), .val (.int (x0 &&& (65535 : Int32))), .val (.int (x1 &&& (65535 : Int32))), .val (.int r_124), .val (.int r_128), .val (.ref b132), .val (.int r_153), .val (.int ex_165), .unset] [(.int r_175)])) t
    refine XS.iload X175.here hx rfl (hb hby at_85) rfl ?_
    show Steps p.tables e below (T175.setTop (mkF m 87 #[.val (.int x0), .val (.int x1), .val (.int x2), .val (.int x3), .val (.int (x0 &&& (65535 : Int32))), .val (.int (x1 &&& (65535 : Int32))), .val (.int r_124), .val (.int r_128), .val (.ref b132), .val (.int r_153), .val (.int ex_165), .unset] [(.int ex_165), (.int r_175)])) t
    refine XS.icmpNo X175.here hx rfl (hb hby at_87) rfl (teq hc178).2 ?_
    show Steps p.tables e below (T175.setTop (mkF m 90 #[.val (.int x0), .val (.int x1), .val (.int x2), .val (.int x3), .val (.int (x0 &&& (65535 : Int32))), .val (.int (x1 &&& (65535 : Int32))), .val (.int r_124), .val (.int r_128), .val (.ref b132), .val (.int r_153), .val (.int ex_165), .unset] [])) t
    refine XS.iconst X175.here hx rfl (hb hby at_90) ?_
    show Steps p.tables e below (T175.setTop (mkF m 91 #[.val (.int x0), .val (.int x1), .val (.int x2), .val (.int x3), .val (.int (x0 &&& (65535 : Int32))), .val (.int (x1 &&& (65535 : Int32))), .val (.int r_124), .val (.int r_128), .val (.ref b132), .val (.int r_153), .val (.int ex_165), .unset] [(.int (1 : Int32))])) t
    refine XS.goto X175.here hx rfl (pc0 := 91) (pc' := 95) rfl (hb hby at_91) (by decide) (by decide) ?_
    show Steps p.tables e below (T175.setTop (mkF m 95 #[.val (.int x0), .val (.int x1), .val (.int x2), .val (.int x3), .val (.int (x0 &&& (65535 : Int32))), .val (.int (x1 &&& (65535 : Int32))), .val (.int r_124), .val (.int r_128), .val (.ref b132), .val (.int r_153), .val (.int ex_165), .unset] [(.int (1 : Int32))])) t
    refine XS.istore X175.here hx rfl (hb hby at_95) rfl (l' := #[.val (.int x0), .val (.int x1), .val (.int x2), .val (.int x3), .val (.int (x0 &&& (65535 : Int32))), .val (.int (x1 &&& (65535 : Int32))), .val (.int r_124), .val (.int r_128), .val (.ref b132), .val (.int r_153), .val (.int ex_165), .val (.int (1 : Int32))]) rfl ?_
    show Steps p.tables e below (T175.setTop (mkF m 97 #[.val (.int x0), .val (.int x1), .val (.int x2), .val (.int x3), .val (.int (x0 &&& (65535 : Int32))), .val (.int (x1 &&& (65535 : Int32))), .val (.int r_124), .val (.int r_128), .val (.ref b132), .val (.int r_153), .val (.int ex_165), .val (.int (1 : Int32))] [])) t
    refine XS.iload X175.here hx rfl (hb hby at_97) rfl ?_
    show Steps p.tables e below (T175.setTop (mkF m 99 #[.val (.int x0), .val (.int x1), .val (.int x2), .val (.int x3), .val (.int (x0 &&& (65535 : Int32))), .val (.int (x1 &&& (65535 : Int32))), .val (.int r_124), .val (.int r_128), .val (.ref b132), .val (.int r_153), .val (.int ex_165), .val (.int (1 : Int32))] [(.int (1 : Int32))])) t
    refine XS.ifNo X175.here hx rfl (hb hby at_99) rfl ((if0 _ _).trans (feq hc182).1) ?_
    show Steps p.tables e below (T175.setTop (mkF m 102 #[.val (.int x0), .val (.int x1), .val (.int x2), .val (.int x3), .val (.int (x0 &&& (65535 : Int32))), .val (.int (x1 &&& (65535 : Int32))), .val (.int r_124), .val (.int r_128), .val (.ref b132), .val (.int r_153), .val (.int ex_165), .val (.int (1 : Int32))] [])) t
    refine XS.aload X175.here hx rfl (hb hby at_102) rfl rfl ?_
    show Steps p.tables e below (T175.setTop (mkF m 104 #[.val (.int x0), .val (.int x1), .val (.int x2), .val (.int x3), .val (.int (x0 &&& (65535 : Int32))), .val (.int (x1 &&& (65535 : Int32))), .val (.int r_124), .val (.int r_128), .val (.ref b132), .val (.int r_153), .val (.int ex_165), .val (.int (1 : Int32))] [(.ref b132)])) t
    refine XS.iload X175.here hx rfl (hb hby at_104) rfl ?_
    exact k)
  obtain ⟨cq187, kq187, q187a, q187b, q187c⟩ := isOf hZ eh175 Pc144_0
  obtain ⟨_, _, ⟨T187, L187, kk187, nn187⟩, -, X187, ⟨Lc187, hQ187, l187, y187, z187⟩, st187⟩ := X175.virtualBack hx (y := (⟨"com/example/cursorweave/cursorweave/broker/HashRange", "contains", "(I)Z"⟩ : MethodName)) (z := (⟨"com/example/cursorweave/cursorweave/broker/HashRange", "contains", "(I)Z"⟩ : MethodName)) hown (mvT hZ (hw _ (List.mem_of_getElem? (i := 31) rfl))) (mvT hZ (hw _ (List.mem_of_getElem? (i := 32) rfl))) (notFace_of_selects (args := #[]) (mvT hZ (hw _ (List.mem_of_getElem? (i := 34) rfl)))) (mvT hZ (hw _ (List.mem_of_getElem? (i := 34) rfl))) (mvT hZ (hw _ (List.mem_of_getElem? (i := 33) rfl))) (by decide) (backOf (W := 0) (rm7 l Z a0 hw [] b132 r_124 r_124 r_128 h144 n0 Z148 Pc144_1 Pc144_2) hZ (hw _ (List.mem_of_getElem? (i := 35) rfl)) (hw _ (List.mem_of_getElem? (i := 10) rfl)) (by decide) (by decide)) q187a q187c (g := (mkF m 106 #[.val (.int x0), .val (.int x1), .val (.int x2), .val (.int x3), .val (.int (x0 &&& (65535 : Int32))), .val (.int (x1 &&& (65535 : Int32))), .val (.int r_124), .val (.int r_128), .val (.ref b132), .val (.int r_153), .val (.int ex_165), .val (.int (1 : Int32))] [(.int r_124), (.ref b132)])) rfl (by rw [hml]; rfl) (Steps.refl _) (argsL := [(.int r_124)]) (rest := []) (lenOf own_pd4 rfl) rfl (by show 2 * 0 + _ ≤ _; exact Nat.le_of_eq rfl) (hb hby at_106) (fun _ _ => ⟨rfl, eh175, (by decide : 1 + 0 ≤ _), (by decide : 2 + 0 ≤ _)⟩)
  dsimp only [Pt.U, Pt.locs, Pt.cells, Pt.slots] at X187 l187 y187 z187 st187 hQ187
  subst l187 y187 z187
  obtain ⟨r_187, rfl, Sp187, Nq187, eh187⟩ := hQ187
  have N188 := Fr.app N176 Nq187
  have K189 : ∀ t, Steps p.tables e below (T187.setTop (mkF m 109 #[.val (.int x0), .val (.int x1), .val (.int x2), .val (.int x3), .val (.int (x0 &&& (65535 : Int32))), .val (.int (x1 &&& (65535 : Int32))), .val (.int r_124), .val (.int r_128), .val (.ref b132), .val (.int r_153), .val (.int ex_165), .val (.int (1 : Int32))] [(.int r_187)])) t → Steps p.tables e below (s₁.setTop (entryFrame m #[(.int x0), (.int x1), (.int x2), (.int x3)] maxLocals)) t := fun t k => K186 t (st187.trans k)
  have q191 := rng32 r_187
  have hc190 : ¬ (r_187 = (0 : Int32)) := fun q => by have q2 := congrArg Int32.toInt q; omega
  have q192 : ¬ r_187.toInt = (0 : Int32).toInt := fun q => hc190 (Int32.toInt_inj.mp q)
  have hc193 : ¬ ((1 : Int32) = (0 : Int32)) := fun q => by have q2 := congrArg Int32.toInt q; omega
  have q194 : ¬ (1 : Int32).toInt = (0 : Int32).toInt := fun q => hc193 (Int32.toInt_inj.mp q)
  have K195 : ∀ t, Steps p.tables e below (T187.setTop (mkF m 128 #[.val (.int x0), .val (.int x1), .val (.int x2), .val (.int x3), .val (.int (x0 &&& (65535 : Int32))), .val (.int (x1 &&& (65535 : Int32))), .val (.int r_124), .val (.int r_128), .val (.ref b132), .val (.int r_153), .val (.int ex_165), .val (.int (1 : Int32))] [(.int r_128), (.ref b132)])) t → Steps p.tables e below (s₁.setTop (entryFrame m #[(.int x0), (.int x1), (.int x2), (.int x3)] maxLocals)) t := fun t k => K189 t (by
    show Steps p.tables e below (T187.setTop (mkF m 109 #[.val (.int x0), .val (.int x1), .val (.int x2), .val (.int x3), .val (.int (x0 &&& (65535 : Int32))), .val (.int (x1 &&& (65535 : Int32))), .val (.int r_124), .val (.int r_128), .val (.ref b132), .val (.int r_153), .val (.int ex_165), .val (.int (1 : Int32))] [(.int r_187)])) t
    refine XS.ifNo X187.here hx rfl (hb hby at_109) rfl ((if0 _ _).trans (feq hc190).1) ?_
    show Steps p.tables e below (T187.setTop (mkF m 112 #[.val (.int x0), .val (.int x1), .val (.int x2), .val (.int x3), .val (.int (x0 &&& (65535 : Int32))), .val (.int (x1 &&& (65535 : Int32))), .val (.int r_124), .val (.int r_128), .val (.ref b132), .val (.int r_153), .val (.int ex_165), .val (.int (1 : Int32))] [])) t
    refine XS.iconst X187.here hx rfl (hb hby at_112) ?_
    show Steps p.tables e below (T187.setTop (mkF m 113 #[.val (.int x0), .val (.int x1), .val (.int x2), .val (.int x3), .val (.int (x0 &&& (65535 : Int32))), .val (.int (x1 &&& (65535 : Int32))), .val (.int r_124), .val (.int r_128), .val (.ref b132), .val (.int r_153), .val (.int ex_165), .val (.int (1 : Int32))] [(.int (1 : Int32))])) t
    refine XS.goto X187.here hx rfl (pc0 := 113) (pc' := 117) rfl (hb hby at_113) (by decide) (by decide) ?_
    show Steps p.tables e below (T187.setTop (mkF m 117 #[.val (.int x0), .val (.int x1), .val (.int x2), .val (.int x3), .val (.int (x0 &&& (65535 : Int32))), .val (.int (x1 &&& (65535 : Int32))), .val (.int r_124), .val (.int r_128), .val (.ref b132), .val (.int r_153), .val (.int ex_165), .val (.int (1 : Int32))] [(.int (1 : Int32))])) t
    refine XS.istore X187.here hx rfl (hb hby at_117) rfl (l' := #[.val (.int x0), .val (.int x1), .val (.int x2), .val (.int x3), .val (.int (x0 &&& (65535 : Int32))), .val (.int (x1 &&& (65535 : Int32))), .val (.int r_124), .val (.int r_128), .val (.ref b132), .val (.int r_153), .val (.int ex_165), .val (.int (1 : Int32))]) rfl ?_
    show Steps p.tables e below (T187.setTop (mkF m 119 #[.val (.int x0), .val (.int x1), .val (.int x2), .val (.int x3), .val (.int (x0 &&& (65535 : Int32))), .val (.int (x1 &&& (65535 : Int32))), .val (.int r_124), .val (.int r_128), .val (.ref b132), .val (.int r_153), .val (.int ex_165), .val (.int (1 : Int32))] [])) t
    refine XS.iload X187.here hx rfl (hb hby at_119) rfl ?_
    show Steps p.tables e below (T187.setTop (mkF m 121 #[.val (.int x0), .val (.int x1), .val (.int x2), .val (.int x3), .val (.int (x0 &&& (65535 : Int32))), .val (.int (x1 &&& (65535 : Int32))), .val (.int r_124), .val (.int r_128), .val (.ref b132), .val (.int r_153), .val (.int ex_165), .val (.int (1 : Int32))] [(.int (1 : Int32))])) t
    refine XS.ifNo X187.here hx rfl (hb hby at_121) rfl ((if0 _ _).trans (feq hc193).1) ?_
    show Steps p.tables e below (T187.setTop (mkF m 124 #[.val (.int x0), .val (.int x1), .val (.int x2), .val (.int x3), .val (.int (x0 &&& (65535 : Int32))), .val (.int (x1 &&& (65535 : Int32))), .val (.int r_124), .val (.int r_128), .val (.ref b132), .val (.int r_153), .val (.int ex_165), .val (.int (1 : Int32))] [])) t
    refine XS.aload X187.here hx rfl (hb hby at_124) rfl rfl ?_
    show Steps p.tables e below (T187.setTop (mkF m 126 #[.val (.int x0), .val (.int x1), .val (.int x2), .val (.int x3), .val (.int (x0 &&& (65535 : Int32))), .val (.int (x1 &&& (65535 : Int32))), .val (.int r_124), .val (.int r_128), .val (.ref b132), .val (.int r_153), .val (.int ex_165), .val (.int (1 : Int32))] [(.ref b132)])) t
    refine XS.iload X187.here hx rfl (hb hby at_126) rfl ?_
    exact k)
  obtain ⟨cq196, kq196, q196a, q196b, q196c⟩ := isOf hZ eh187 Pc144_0
  obtain ⟨_, _, ⟨T196, L196, kk196, nn196⟩, -, X196, ⟨Lc196, hQ196, l196, y196, z196⟩, st196⟩ := X187.virtualBack hx (y := (⟨"com/example/cursorweave/cursorweave/broker/HashRange", "contains", "(I)Z"⟩ : MethodName)) (z := (⟨"com/example/cursorweave/cursorweave/broker/HashRange", "contains", "(I)Z"⟩ : MethodName)) hown (mvT hZ (hw _ (List.mem_of_getElem? (i := 31) rfl))) (mvT hZ (hw _ (List.mem_of_getElem? (i := 32) rfl))) (notFace_of_selects (args := #[]) (mvT hZ (hw _ (List.mem_of_getElem? (i := 34) rfl)))) (mvT hZ (hw _ (List.mem_of_getElem? (i := 34) rfl))) (mvT hZ (hw _ (List.mem_of_getElem? (i := 33) rfl))) (by decide) (backOf (W := 0) (rm7 l Z a0 hw [] b132 r_128 r_124 r_128 h144 n0 Z148 Pc144_1 Pc144_2) hZ (hw _ (List.mem_of_getElem? (i := 35) rfl)) (hw _ (List.mem_of_getElem? (i := 10) rfl)) (by decide) (by decide)) q196a q196c (g := (mkF m 128 #[.val (.int x0), .val (.int x1), .val (.int x2), .val (.int x3), .val (.int (x0 &&& (65535 : Int32))), .val (.int (x1 &&& (65535 : Int32))), .val (.int r_124), .val (.int r_128), .val (.ref b132), .val (.int r_153), .val (.int ex_165), .val (.int (1 : Int32))] [(.int r_128), (.ref b132)])) rfl (by rw [hml]; rfl) (Steps.refl _) (argsL := [(.int r_128)]) (rest := []) (lenOf own_pd4 rfl) rfl (by show 2 * 0 + _ ≤ _; exact Nat.le_of_eq rfl) (hb hby at_128) (fun _ _ => ⟨rfl, eh187, (by decide : 1 + 0 ≤ _), (by decide : 2 + 0 ≤ _)⟩)
  dsimp only [Pt.U, Pt.locs, Pt.cells, Pt.slots] at X196 l196 y196 z196 st196 hQ196
  subst l196 y196 z196
  obtain ⟨r_196, rfl, Sp196, Nq196, eh196⟩ := hQ196
  have N197 := Fr.app N188 Nq196
  have K198 : ∀ t, Steps p.tables e below (T196.setTop (mkF m 131 #[.val (.int x0), .val (.int x1), .val (.int x2), .val (.int x3), .val (.int (x0 &&& (65535 : Int32))), .val (.int (x1 &&& (65535 : Int32))), .val (.int r_124), .val (.int r_128), .val (.ref b132), .val (.int r_153), .val (.int ex_165), .val (.int (1 : Int32))] [(.int r_196)])) t → Steps p.tables e below (s₁.setTop (entryFrame m #[(.int x0), (.int x1), (.int x2), (.int x3)] maxLocals)) t := fun t k => K195 t (st196.trans k)
  have q200 := rng32 r_196
  have hc199 : ¬ (r_196 = (0 : Int32)) := fun q => by have q2 := congrArg Int32.toInt q; omega
  have q201 : ¬ r_196.toInt = (0 : Int32).toInt := fun q => hc199 (Int32.toInt_inj.mp q)
  have hc202 : ¬ ((1 : Int32) = (0 : Int32)) := fun q => by have q2 := congrArg Int32.toInt q; omega
  have q203 : ¬ (1 : Int32).toInt = (0 : Int32).toInt := fun q => hc202 (Int32.toInt_inj.mp q)
  have K204 : ∀ t, Steps p.tables e below (T196.setTop (mkF m 152 #[.val (.int x0), .val (.int x1), .val (.int x2), .val (.int x3), .val (.int (x0 &&& (65535 : Int32))), .val (.int (x1 &&& (65535 : Int32))), .val (.int r_124), .val (.int r_128), .val (.ref b132), .val (.int r_153), .val (.int ex_165), .val (.int (1 : Int32))] [(.int (r_124 - (1 : Int32))), (.ref b132)])) t → Steps p.tables e below (s₁.setTop (entryFrame m #[(.int x0), (.int x1), (.int x2), (.int x3)] maxLocals)) t := fun t k => K198 t (by
    show Steps p.tables e below (T196.setTop (mkF m 131 #[.val (.int x0), .val (.int x1), .val (.int x2), .val (.int x3), .val (.int (x0 &&& (65535 : Int32))), .val (.int (x1 &&& (65535 : Int32))), .val (.int r_124), .val (.int r_128), .val (.ref b132), .val (.int r_153), .val (.int ex_165), .val (.int (1 : Int32))] [(.int r_196)])) t
    refine XS.ifNo X196.here hx rfl (hb hby at_131) rfl ((if0 _ _).trans (feq hc199).1) ?_
    show Steps p.tables e below (T196.setTop (mkF m 134 #[.val (.int x0), .val (.int x1), .val (.int x2), .val (.int x3), .val (.int (x0 &&& (65535 : Int32))), .val (.int (x1 &&& (65535 : Int32))), .val (.int r_124), .val (.int r_128), .val (.ref b132), .val (.int r_153), .val (.int ex_165), .val (.int (1 : Int32))] [])) t
    refine XS.iconst X196.here hx rfl (hb hby at_134) ?_
    show Steps p.tables e below (T196.setTop (mkF m 135 #[.val (.int x0), .val (.int x1), .val (.int x2), .val (.int x3), .val (.int (x0 &&& (65535 : Int32))), .val (.int (x1 &&& (65535 : Int32))), .val (.int r_124), .val (.int r_128), .val (.ref b132), .val (.int r_153), .val (.int ex_165), .val (.int (1 : Int32))] [(.int (1 : Int32))])) t
    refine XS.goto X196.here hx rfl (pc0 := 135) (pc' := 139) rfl (hb hby at_135) (by decide) (by decide) ?_
    show Steps p.tables e below (T196.setTop (mkF m 139 #[.val (.int x0), .val (.int x1), .val (.int x2), .val (.int x3), .val (.int (x0 &&& (65535 : Int32))), .val (.int (x1 &&& (65535 : Int32))), .val (.int r_124), .val (.int r_128), .val (.ref b132), .val (.int r_153), .val (.int ex_165), .val (.int (1 : Int32))] [(.int (1 : Int32))])) t
    refine XS.istore X196.here hx rfl (hb hby at_139) rfl (l' := #[.val (.int x0), .val (.int x1), .val (.int x2), .val (.int x3), .val (.int (x0 &&& (65535 : Int32))), .val (.int (x1 &&& (65535 : Int32))), .val (.int r_124), .val (.int r_128), .val (.ref b132), .val (.int r_153), .val (.int ex_165), .val (.int (1 : Int32))]) rfl ?_
    show Steps p.tables e below (T196.setTop (mkF m 141 #[.val (.int x0), .val (.int x1), .val (.int x2), .val (.int x3), .val (.int (x0 &&& (65535 : Int32))), .val (.int (x1 &&& (65535 : Int32))), .val (.int r_124), .val (.int r_128), .val (.ref b132), .val (.int r_153), .val (.int ex_165), .val (.int (1 : Int32))] [])) t
    refine XS.iload X196.here hx rfl (hb hby at_141) rfl ?_
    show Steps p.tables e below (T196.setTop (mkF m 143 #[.val (.int x0), .val (.int x1), .val (.int x2), .val (.int x3), .val (.int (x0 &&& (65535 : Int32))), .val (.int (x1 &&& (65535 : Int32))), .val (.int r_124), .val (.int r_128), .val (.ref b132), .val (.int r_153), .val (.int ex_165), .val (.int (1 : Int32))] [(.int (1 : Int32))])) t
    refine XS.ifNo X196.here hx rfl (hb hby at_143) rfl ((if0 _ _).trans (feq hc202).1) ?_
    show Steps p.tables e below (T196.setTop (mkF m 146 #[.val (.int x0), .val (.int x1), .val (.int x2), .val (.int x3), .val (.int (x0 &&& (65535 : Int32))), .val (.int (x1 &&& (65535 : Int32))), .val (.int r_124), .val (.int r_128), .val (.ref b132), .val (.int r_153), .val (.int ex_165), .val (.int (1 : Int32))] [])) t
    refine XS.aload X196.here hx rfl (hb hby at_146) rfl rfl ?_
    show Steps p.tables e below (T196.setTop (mkF m 148 #[.val (.int x0), .val (.int x1), .val (.int x2), .val (.int x3), .val (.int (x0 &&& (65535 : Int32))), .val (.int (x1 &&& (65535 : Int32))), .val (.int r_124), .val (.int r_128), .val (.ref b132), .val (.int r_153), .val (.int ex_165), .val (.int (1 : Int32))] [(.ref b132)])) t
    refine XS.iload X196.here hx rfl (hb hby at_148) rfl ?_
    show Steps p.tables e below (T196.setTop (mkF m 150 #[.val (.int x0), .val (.int x1), .val (.int x2), .val (.int x3), .val (.int (x0 &&& (65535 : Int32))), .val (.int (x1 &&& (65535 : Int32))), .val (.int r_124), .val (.int r_128), .val (.ref b132), .val (.int r_153), .val (.int ex_165), .val (.int (1 : Int32))] [(.int r_124), (.ref b132)])) t
    refine XS.iconst X196.here hx rfl (hb hby at_150) ?_
    show Steps p.tables e below (T196.setTop (mkF m 151 #[.val (.int x0), .val (.int x1), .val (.int x2), .val (.int x3), .val (.int (x0 &&& (65535 : Int32))), .val (.int (x1 &&& (65535 : Int32))), .val (.int r_124), .val (.int r_128), .val (.ref b132), .val (.int r_153), .val (.int ex_165), .val (.int (1 : Int32))] [(.int (1 : Int32)), (.int r_124), (.ref b132)])) t
    refine XS.isub X196.here hx rfl (hb hby at_151) rfl ?_
    exact k)
  have q205 := c_isub r_124 (1 : Int32)
  have q206 := rng32 (r_124 - (1 : Int32))
  obtain ⟨cq207, kq207, q207a, q207b, q207c⟩ := isOf hZ eh196 Pc144_0
  obtain ⟨_, _, ⟨T207, L207, kk207, nn207⟩, -, X207, ⟨Lc207, hQ207, l207, y207, z207⟩, st207⟩ := X196.virtualBack hx (y := (⟨"com/example/cursorweave/cursorweave/broker/HashRange", "contains", "(I)Z"⟩ : MethodName)) (z := (⟨"com/example/cursorweave/cursorweave/broker/HashRange", "contains", "(I)Z"⟩ : MethodName)) hown (mvT hZ (hw _ (List.mem_of_getElem? (i := 31) rfl))) (mvT hZ (hw _ (List.mem_of_getElem? (i := 32) rfl))) (notFace_of_selects (args := #[]) (mvT hZ (hw _ (List.mem_of_getElem? (i := 34) rfl)))) (mvT hZ (hw _ (List.mem_of_getElem? (i := 34) rfl))) (mvT hZ (hw _ (List.mem_of_getElem? (i := 33) rfl))) (by decide) (backOf (W := 0) (rm7 l Z a0 hw [] b132 (r_124 - (1 : Int32)) r_124 r_128 h144 n0 Z148 Pc144_1 Pc144_2) hZ (hw _ (List.mem_of_getElem? (i := 35) rfl)) (hw _ (List.mem_of_getElem? (i := 10) rfl)) (by decide) (by decide)) q207a q207c (g := (mkF m 152 #[.val (.int x0), .val (.int x1), .val (.int x2), .val (.int x3), .val (.int (x0 &&& (65535 : Int32))), .val (.int (x1 &&& (65535 : Int32))), .val (.int r_124), .val (.int r_128), .val (.ref b132), .val (.int r_153), .val (.int ex_165), .val (.int (1 : Int32))] [(.int (r_124 - (1 : Int32))), (.ref b132)])) rfl (by rw [hml]; rfl) (Steps.refl _) (argsL := [(.int (r_124 - (1 : Int32)))]) (rest := []) (lenOf own_pd4 rfl) rfl (by show 2 * 0 + _ ≤ _; exact Nat.le_of_eq rfl) (hb hby at_152) (fun _ _ => ⟨rfl, eh196, (by decide : 1 + 0 ≤ _), (by decide : 2 + 0 ≤ _)⟩)
  dsimp only [Pt.U, Pt.locs, Pt.cells, Pt.slots] at X207 l207 y207 z207 st207 hQ207
  subst l207 y207 z207
  obtain ⟨r_207, rfl, Sp207, Nq207, eh207⟩ := hQ207
  have N208 := Fr.app N197 Nq207
  have K209 : ∀ t, Steps p.tables e below (T207.setTop (mkF m 155 #[.val (.int x0), .val (.int x1), .val (.int x2), .val (.int x3), .val (.int (x0 &&& (65535 : Int32))), .val (.int (x1 &&& (65535 : Int32))), .val (.int r_124), .val (.int r_128), .val (.ref b132), .val (.int r_153), .val (.int ex_165), .val (.int (1 : Int32))] [(.int r_207)])) t → Steps p.tables e below (s₁.setTop (entryFrame m #[(.int x0), (.int x1), (.int x2), (.int x3)] maxLocals)) t := fun t k => K204 t (st207.trans k)
  have q211 := rng32 r_207
  have hc210 : r_207 = (0 : Int32) := Int32.toInt_inj.mp (by omega)
  have q212 : r_207.toInt = (0 : Int32).toInt := congrArg Int32.toInt hc210
  have hc213 : ¬ ((1 : Int32) = (0 : Int32)) := fun q => by have q2 := congrArg Int32.toInt q; omega
  have q214 : ¬ (1 : Int32).toInt = (0 : Int32).toInt := fun q => hc213 (Int32.toInt_inj.mp q)
  have K215 : ∀ t, Steps p.tables e below (T207.setTop (mkF m 176 #[.val (.int x0), .val (.int x1), .val (.int x2), .val (.int x3), .val (.int (x0 &&& (65535 : Int32))), .val (.int (x1 &&& (65535 : Int32))), .val (.int r_124), .val (.int r_128), .val (.ref b132), .val (.int r_153), .val (.int ex_165), .val (.int (1 : Int32))] [(.int (r_128 + (1 : Int32))), (.ref b132)])) t → Steps p.tables e below (s₁.setTop (entryFrame m #[(.int x0), (.int x1), (.int x2), (.int x3)] maxLocals)) t := fun t k => K209 t (by
    show Steps p.tables e below (T207.setTop (mkF m 155 #[.val (.int x0), .val (.int x1), .val (.int x2), .val (.int x3), .val (.int (x0 &&& (65535 : Int32))), .val (.int (x1 &&& (65535 : Int32))), .val (.int r_124), .val (.int r_128), .val (.ref b132), .val (.int r_153), .val (.int ex_165), .val (.int (1 : Int32))] [(.int r_207)])) t
    refine XS.ifNo X207.here hx rfl (hb hby at_155) rfl ((if0 _ _).trans (teq hc210).2) ?_
    show Steps p.tables e below (T207.setTop (mkF m 158 #[.val (.int x0), .val (.int x1), .val (.int x2), .val (.int x3), .val (.int (x0 &&& (65535 : Int32))), .val (.int (x1 &&& (65535 : Int32))), .val (.int r_124), .val (.int r_128), .val (.ref b132), .val (.int r_153), .val (.int ex_165), .val (.int (1 : Int32))] [])) t
    refine XS.iconst X207.here hx rfl (hb hby at_158) ?_
    show Steps p.tables e below (T207.setTop (mkF m 159 #[.val (.int x0), .val (.int x1), .val (.int x2), .val (.int x3), .val (.int (x0 &&& (65535 : Int32))), .val (.int (x1 &&& (65535 : Int32))), .val (.int r_124), .val (.int r_128), .val (.ref b132), .val (.int r_153), .val (.int ex_165), .val (.int (1 : Int32))] [(.int (1 : Int32))])) t
    refine XS.goto X207.here hx rfl (pc0 := 159) (pc' := 163) rfl (hb hby at_159) (by decide) (by decide) ?_
    show Steps p.tables e below (T207.setTop (mkF m 163 #[.val (.int x0), .val (.int x1), .val (.int x2), .val (.int x3), .val (.int (x0 &&& (65535 : Int32))), .val (.int (x1 &&& (65535 : Int32))), .val (.int r_124), .val (.int r_128), .val (.ref b132), .val (.int r_153), .val (.int ex_165), .val (.int (1 : Int32))] [(.int (1 : Int32))])) t
    refine XS.istore X207.here hx rfl (hb hby at_163) rfl (l' := #[.val (.int x0), .val (.int x1), .val (.int x2), .val (.int x3), .val (.int (x0 &&& (65535 : Int32))), .val (.int (x1 &&& (65535 : Int32))), .val (.int r_124), .val (.int r_128), .val (.ref b132), .val (.int r_153), .val (.int ex_165), .val (.int (1 : Int32))]) rfl ?_
    show Steps p.tables e below (T207.setTop (mkF m 165 #[.val (.int x0), .val (.int x1), .val (.int x2), .val (.int x3), .val (.int (x0 &&& (65535 : Int32))), .val (.int (x1 &&& (65535 : Int32))), .val (.int r_124), .val (.int r_128), .val (.ref b132), .val (.int r_153), .val (.int ex_165), .val (.int (1 : Int32))] [])) t
    refine XS.iload X207.here hx rfl (hb hby at_165) rfl ?_
    show Steps p.tables e below (T207.setTop (mkF m 167 #[.val (.int x0), .val (.int x1), .val (.int x2), .val (.int x3), .val (.int (x0 &&& (65535 : Int32))), .val (.int (x1 &&& (65535 : Int32))), .val (.int r_124), .val (.int r_128), .val (.ref b132), .val (.int r_153), .val (.int ex_165), .val (.int (1 : Int32))] [(.int (1 : Int32))])) t
    refine XS.ifNo X207.here hx rfl (hb hby at_167) rfl ((if0 _ _).trans (feq hc213).1) ?_
    show Steps p.tables e below (T207.setTop (mkF m 170 #[.val (.int x0), .val (.int x1), .val (.int x2), .val (.int x3), .val (.int (x0 &&& (65535 : Int32))), .val (.int (x1 &&& (65535 : Int32))), .val (.int r_124), .val (.int r_128), .val (.ref b132), .val (.int r_153), .val (.int ex_165), .val (.int (1 : Int32))] [])) t
    refine XS.aload X207.here hx rfl (hb hby at_170) rfl rfl ?_
    show Steps p.tables e below (T207.setTop (mkF m 172 #[.val (.int x0), .val (.int x1), .val (.int x2), .val (.int x3), .val (.int (x0 &&& (65535 : Int32))), .val (.int (x1 &&& (65535 : Int32))), .val (.int r_124), .val (.int r_128), .val (.ref b132), .val (.int r_153), .val (.int ex_165), .val (.int (1 : Int32))] [(.ref b132)])) t
    refine XS.iload X207.here hx rfl (hb hby at_172) rfl ?_
    show Steps p.tables e below (T207.setTop (mkF m 174 #[.val (.int x0), .val (.int x1), .val (.int x2), .val (.int x3), .val (.int (x0 &&& (65535 : Int32))), .val (.int (x1 &&& (65535 : Int32))), .val (.int r_124), .val (.int r_128), .val (.ref b132), .val (.int r_153), .val (.int ex_165), .val (.int (1 : Int32))] [(.int r_128), (.ref b132)])) t
    refine XS.iconst X207.here hx rfl (hb hby at_174) ?_
    show Steps p.tables e below (T207.setTop (mkF m 175 #[.val (.int x0), .val (.int x1), .val (.int x2), .val (.int x3), .val (.int (x0 &&& (65535 : Int32))), .val (.int (x1 &&& (65535 : Int32))), .val (.int r_124), .val (.int r_128), .val (.ref b132), .val (.int r_153), .val (.int ex_165), .val (.int (1 : Int32))] [(.int (1 : Int32)), (.int r_128), (.ref b132)])) t
    refine XS.iadd X207.here hx rfl (hb hby at_175) rfl ?_
    exact k)
  have q216 := c_iadd r_128 (1 : Int32)
  have q217 := rng32 (r_128 + (1 : Int32))
  obtain ⟨cq218, kq218, q218a, q218b, q218c⟩ := isOf hZ eh207 Pc144_0
  obtain ⟨_, _, ⟨T218, L218, kk218, nn218⟩, -, X218, ⟨Lc218, hQ218, l218, y218, z218⟩, st218⟩ := X207.virtualBack hx (y := (⟨"com/example/cursorweave/cursorweave/broker/HashRange", "contains", "(I)Z"⟩ : MethodName)) (z := (⟨"com/example/cursorweave/cursorweave/broker/HashRange", "contains", "(I)Z"⟩ : MethodName)) hown (mvT hZ (hw _ (List.mem_of_getElem? (i := 31) rfl))) (mvT hZ (hw _ (List.mem_of_getElem? (i := 32) rfl))) (notFace_of_selects (args := #[]) (mvT hZ (hw _ (List.mem_of_getElem? (i := 34) rfl)))) (mvT hZ (hw _ (List.mem_of_getElem? (i := 34) rfl))) (mvT hZ (hw _ (List.mem_of_getElem? (i := 33) rfl))) (by decide) (backOf (W := 0) (rm7 l Z a0 hw [] b132 (r_128 + (1 : Int32)) r_124 r_128 h144 n0 Z148 Pc144_1 Pc144_2) hZ (hw _ (List.mem_of_getElem? (i := 35) rfl)) (hw _ (List.mem_of_getElem? (i := 10) rfl)) (by decide) (by decide)) q218a q218c (g := (mkF m 176 #[.val (.int x0), .val (.int x1), .val (.int x2), .val (.int x3), .val (.int (x0 &&& (65535 : Int32))), .val (.int (x1 &&& (65535 : Int32))), .val (.int r_124), .val (.int r_128), .val (.ref b132), .val (.int r_153), .val (.int ex_165), .val (.int (1 : Int32))] [(.int (r_128 + (1 : Int32))), (.ref b132)])) rfl (by rw [hml]; rfl) (Steps.refl _) (argsL := [(.int (r_128 + (1 : Int32)))]) (rest := []) (lenOf own_pd4 rfl) rfl (by show 2 * 0 + _ ≤ _; exact Nat.le_of_eq rfl) (hb hby at_176) (fun _ _ => ⟨rfl, eh207, (by decide : 1 + 0 ≤ _), (by decide : 2 + 0 ≤ _)⟩)
  dsimp only [Pt.U, Pt.locs, Pt.cells, Pt.slots] at X218 l218 y218 z218 st218 hQ218
  subst l218 y218 z218
  obtain ⟨r_218, rfl, Sp218, Nq218, eh218⟩ := hQ218
  have N219 := Fr.app N208 Nq218
  have K220 : ∀ t, Steps p.tables e below (T218.setTop (mkF m 179 #[.val (.int x0), .val (.int x1), .val (.int x2), .val (.int x3), .val (.int (x0 &&& (65535 : Int32))), .val (.int (x1 &&& (65535 : Int32))), .val (.int r_124), .val (.int r_128), .val (.ref b132), .val (.int r_153), .val (.int ex_165), .val (.int (1 : Int32))] [(.int r_218)])) t → Steps p.tables e below (s₁.setTop (entryFrame m #[(.int x0), (.int x1), (.int x2), (.int x3)] maxLocals)) t := fun t k => K215 t (st218.trans k)
  have q222 := rng32 r_218
  have hc221 : r_218 = (0 : Int32) := Int32.toInt_inj.mp (by omega)
  have q223 : r_218.toInt = (0 : Int32).toInt := congrArg Int32.toInt hc221
  have K224 : ∀ t, Steps p.tables e below (T218.setTop (mkF m 191 #[.val (.int x0), .val (.int x1), .val (.int x2), .val (.int x3), .val (.int (x0 &&& (65535 : Int32))), .val (.int (x1 &&& (65535 : Int32))), .val (.int r_124), .val (.int r_128), .val (.ref b132), .val (.int r_153), .val (.int ex_165), .val (.int (1 : Int32))] [(.int (1 : Int32))])) t → Steps p.tables e below (s₁.setTop (entryFrame m #[(.int x0), (.int x1), (.int x2), (.int x3)] maxLocals)) t := fun t k => K220 t (by
    show Steps p.tables e below (T218.setTop (mkF m 179 #[.val (.int x0), .val (.int x1), .val (.int x2), .val (.int x3), .val (.int (x0 &&& (65535 : Int32))), .val (.int (x1 &&& (65535 : Int32))), .val (.int r_124), .val (.int r_128), .val (.ref b132), .val (.int r_153), .val (.int ex_165), .val (.int (1 : Int32))] [(.int r_218)])) t
    refine XS.ifNo X218.here hx rfl (hb hby at_179) rfl ((if0 _ _).trans (teq hc221).2) ?_
    show Steps p.tables e below (T218.setTop (mkF m 182 #[.val (.int x0), .val (.int x1), .val (.int x2), .val (.int x3), .val (.int (x0 &&& (65535 : Int32))), .val (.int (x1 &&& (65535 : Int32))), .val (.int r_124), .val (.int r_128), .val (.ref b132), .val (.int r_153), .val (.int ex_165), .val (.int (1 : Int32))] [])) t
    refine XS.iconst X218.here hx rfl (hb hby at_182) ?_
    show Steps p.tables e below (T218.setTop (mkF m 183 #[.val (.int x0), .val (.int x1), .val (.int x2), .val (.int x3), .val (.int (x0 &&& (65535 : Int32))), .val (.int (x1 &&& (65535 : Int32))), .val (.int r_124), .val (.int r_128), .val (.ref b132), .val (.int r_153), .val (.int ex_165), .val (.int (1 : Int32))] [(.int (1 : Int32))])) t
    refine XS.goto X218.here hx rfl (pc0 := 183) (pc' := 187) rfl (hb hby at_183) (by decide) (by decide) ?_
    show Steps p.tables e below (T218.setTop (mkF m 187 #[.val (.int x0), .val (.int x1), .val (.int x2), .val (.int x3), .val (.int (x0 &&& (65535 : Int32))), .val (.int (x1 &&& (65535 : Int32))), .val (.int r_124), .val (.int r_128), .val (.ref b132), .val (.int r_153), .val (.int ex_165), .val (.int (1 : Int32))] [(.int (1 : Int32))])) t
    refine XS.istore X218.here hx rfl (hb hby at_187) rfl (l' := #[.val (.int x0), .val (.int x1), .val (.int x2), .val (.int x3), .val (.int (x0 &&& (65535 : Int32))), .val (.int (x1 &&& (65535 : Int32))), .val (.int r_124), .val (.int r_128), .val (.ref b132), .val (.int r_153), .val (.int ex_165), .val (.int (1 : Int32))]) rfl ?_
    show Steps p.tables e below (T218.setTop (mkF m 189 #[.val (.int x0), .val (.int x1), .val (.int x2), .val (.int x3), .val (.int (x0 &&& (65535 : Int32))), .val (.int (x1 &&& (65535 : Int32))), .val (.int r_124), .val (.int r_128), .val (.ref b132), .val (.int r_153), .val (.int ex_165), .val (.int (1 : Int32))] [])) t
    refine XS.iload X218.here hx rfl (hb hby at_189) rfl ?_
    exact k)
  obtain ⟨fs, hr, hrun, hended, hW, hsame⟩ := X218.leave (v := some (.int (1 : Int32))) (fun h => by rw [Bd.returns] at h; cases h)
  refine ⟨_, _, K224 _ ?_, hrun, hended, _, _, rfl, ?_, ⟨_, rfl⟩, hW, hsame.mono (by decide) (by decide)⟩
  · exact retN X218 hx (t := .boolean) Bd.returns (by simp) (hb hby at_191) hr
  · show Q_rm0 Z x0 x1 x2 x3 h0 n0 _ T218.heap _
    rw [eh218]
    exact ⟨rfl, (by trivial), N219, Kp147⟩
set_option maxRecDepth 65536 in
set_option maxHeartbeats 40000000 in
theorem comes_1 {Post : Tables → Env → Array Value → State → Outcome → State → Prop} (hpost : ∀ tb e args s v u, (limb_1_1.after args s (.returned v) u = true ∧ limb_1_2.after args s (.returned v) u = true ∧ True) → FrameEnd s (.returned v) u (Jvm.fieldLocs frame_1_writes args s ++ Jvm.arrayLocs frame_1_arrays args s ++ Jvm.staticLocs frame_1_statics s) 16 128 → Post tb e args s (.returned v) u) :
    ArmFor flags0 classFile x code maxLocals ret World_1 tables_1 room_1 Calls_1 rest_1 Pre_1 Post := by
  intro l hfl _ _ p e ha hc hk s m args below hf hA hF happ hP
  obtain ⟨hcalls, hrest, hpre⟩ := hP
  obtain ⟨-, -, -, hnamed, -, -, -, hat⟩ := (Spec.applies_iff hf).mp happ
  obtain ⟨hg, hn⟩ := and_e (Cond.before_iff.mp (show (Jvm.Cond.and given_1 narrow_1).before args s = true from hpre))
  obtain ⟨gg1, gg2⟩ := and_e hg
  obtain ⟨gg3, gg4⟩ := and_e gg2
  obtain ⟨gg5, gg6⟩ := and_e gg4
  obtain ⟨gg7, gg8⟩ := and_e gg6
  obtain ⟨w0, w1, w2, w3, rfl⟩ : ∃ w0 w1 w2 w3 : Value, args = #[w0, w1, w2, w3] := by
    have hs : args.size = 4 := by simpa [Cond.value, given_1] using gg1
    obtain ⟨L⟩ := args
    match L, hs with
    | [w0, w1, w2, w3], _ => exact ⟨w0, w1, w2, w3, rfl⟩
  have hw := fun d (hd : d ∈ tables_1) => atoms_spec (ws := Jvm.Cond.code x code maxLocals ret :: tables_1) hat d (List.mem_cons_of_mem _ hd)
  obtain ⟨i0, ei0⟩ := is_v gg3
  obtain rfl : w0 = (.int i0) := Option.some.inj ei0
  obtain ⟨i1, ei1⟩ := is_v gg5
  obtain rfl : w1 = (.int i1) := Option.some.inj ei1
  obtain ⟨i2, ei2⟩ := is_v gg7
  obtain rfl : w2 = (.int i2) := Option.some.inj ei2
  obtain ⟨i3, ei3⟩ := is_v gg8
  obtain rfl : w3 = (.int i3) := Option.some.inj ei3
  obtain ⟨n, o, h1, h2, h3, _, L, rfl, ⟨rfl, -, N, -⟩, hq⟩ := rm0 l s _ hw tables_1 i0 i1 i2 i3 s.heap s.heap.size (Nat.le_refl _) p e ha hc hk s m _ below hf ((Spec.applies_iff_loose hf).mp happ).1 ⟨rfl, State.Warmed39.refl s, rfl⟩ trivial
  refine ⟨n, _, h1, h2, h3, hpost _ _ _ _ _ _ ⟨Cond.after_iff.mpr rfl, Cond.after_iff.mpr (eq_i res_at (Term.int_eval (1)) rfl), trivial⟩ ⟨hq.1, hq.2.1, (hq.2.2.sift fun y hy => Or.inr (N y hy)).mono (by decide) (by decide)⟩⟩
theorem main_1_1 : Claimed_1_1 := comes_1 fun _ _ _ _ _ _ h hF => ⟨h.1, hF⟩
theorem main_1_2 : Claimed_1_2 := comes_1 fun _ _ _ _ _ _ h hF => ⟨h.2.1, hF⟩
end Jvm.Pilot.@@N@@
namespace Jvm.Pilot.@@N@@
open Jvm Jvm.ClassFile Sem Op Lib Jvm.Free Jvm.Stand Jvm.Pilot.@@N@@.Jvm.D
/-! MADE BY PROGRAM (witnessworld.py) out of the Statement's table words and the real class files: 9 classes; the members and pool entries that the words name. The judged class is class 1, her method 2. -/
namespace start1
open Jvm.ClassFile
def u (s : String) : CpInfo := .utf8 (stringToUtf16 s)
/-- a pool by its gaps: so many unusable entries, then the entry; so many at the end -/
def gap : Nat → List CpInfo → List CpInfo
  | 0, r => r
  | n + 1, r => .unusable :: gap n r
def poolList (es : List (Nat × CpInfo)) (last : Nat) : List CpInfo := es.foldr (fun e r => gap e.1 (e.2 :: r)) (gap last [])
def pool (es : List (Nat × CpInfo)) (last : Nat) : Array CpInfo := ⟨poolList es last⟩
def fileOf (pool : Array CpInfo) (this : Nat) (attrs : Array Attribute := #[]) (ms : Array MethodInfo := #[]) (fl : Nat := 33) (sup : Nat := 0) (ifs : Array Nat := #[]) (fds : Array FieldInfo := #[]) : ClassFile where
  minorVersion := 0
  majorVersion := 65
  constantPool := pool
  accessFlags := fl
  thisClass := this
  superClass := sup
  interfaces := ifs
  fields := fds
  methods := ms
  attributes := attrs
def plain (name : String) (sup : Option ClassId) : Class where
  name := name
  kind := .ordinary
  loader := none
  accessFlags := 33
  super := sup
  interfaces := #[]
  cf := none
  fields := #[]
  methods := #[]
  instanceTypes := #[]
  staticTypes := #[]
  resolved := #[]
  callSites := []
  init := .initialized
  statics := none
  mirror := none

def pool0 : Array CpInfo := pool [(5, u "<init>"), (0, u "()V"), (1, .class_ 10), (1, u "java/lang/Object")] 113

def k0c0 : Code := { maxStack := 0, maxLocals := 1, code := object_method_1_code, exceptionTable := #[], attributes := #[] }
def k0m0 : Method := { name := "<init>", desc := "()V", sig := { parameters := [], returnType := none }, accessFlags := 1, code := some k0c0 }
/-- java/lang/Object -/
def k0 : Class := { plain "java/lang/Object" none with
  accessFlags := 33
  interfaces := #[]
  cf := some (fileOf pool0 8 #[] #[{ accessFlags := 1, nameIndex := 5, descriptorIndex := 6, attributes := #[] }] 33 0 #[] #[])
  fields := #[]
  methods := #[k0m0]
  instanceTypes := #[]
  staticTypes := #[]
  resolved := Array.replicate 124 none
  statics := none }

def pool1 : Array CpInfo := pool [(2, .class_ 4), (1, u "java/lang/Object"), (0, u "<init>"), (0, u "()V"), (0, .integer 65535), (0, .methodref 9 10), (0, .class_ 11), (0, .nameAndType 12 13), (0, u "java/lang/Math"), (0, u "min"), (0, u "(II)I"), (0, .methodref 9 15), (0, .nameAndType 16 13), (0, u "max"), (0, .class_ 18), (0, u "com/example/cursorweave/cursorweave/broker/HashRange"), (0, .methodref 17 20), (0, .nameAndType 5 21), (0, u "(II)V"), (0, .methodref 23 24), (0, .class_ 25), (0, .nameAndType 26 27), (0, u "com/example/cursorweave/cursorweave/broker/HashRangeContainsPinLaw"), (0, u "pickSlot"), (0, u "(IIII)I"), (0, .methodref 17 29), (0, .nameAndType 30 31), (0, u "contains"), (0, u "(I)Z"), (3, u "law"), (0, u "(IIII)Z")] 2

def k1m0 : Method := { name := "<init>", desc := "()V", sig := { parameters := [], returnType := none }, accessFlags := 2, code := none }
def k1c1 : Code := { maxStack := 3, maxLocals := 5, code := method_2_code, exceptionTable := #[], attributes := #[] }
def k1m1 : Method := { name := "pickSlot", desc := "(IIII)I", sig := { parameters := [.int, .int, .int, .int], returnType := some .int }, accessFlags := 10, code := some k1c1 }
def k1c2 : Code := { maxStack := 4, maxLocals := 12, code := code, exceptionTable := #[], attributes := #[] }
def k1m2 : Method := { name := "law", desc := "(IIII)Z", sig := { parameters := [.int, .int, .int, .int], returnType := some .boolean }, accessFlags := 9, code := some k1c2 }
/-- com/example/cursorweave/cursorweave/broker/HashRangeContainsPinLaw -/
def k1 : Class := { plain "com/example/cursorweave/cursorweave/broker/HashRangeContainsPinLaw" (some 0) with
  accessFlags := 49
  interfaces := #[]
  cf := some (fileOf pool1 23 #[] #[{ accessFlags := 2, nameIndex := 5, descriptorIndex := 6, attributes := #[] }, { accessFlags := 10, nameIndex := 26, descriptorIndex := 27, attributes := #[] }, { accessFlags := 9, nameIndex := 35, descriptorIndex := 36, attributes := #[] }] 49 2 #[] #[])
  fields := #[]
  methods := #[k1m0, k1m1, k1m2]
  instanceTypes := #[]
  staticTypes := #[]
  resolved := Array.replicate 39 none
  statics := none }

def pool2 : Array CpInfo := pool [(1, .class_ 2), (0, u "java/lang/Math"), (1, .class_ 6), (1, u "java/lang/Object"), (0, u "<init>"), (0, u "()V"), (89, .class_ 100), (1, u "java/lang/Math$RandomNumberGeneratorHolder"), (71, u "negativeZeroFloatBits"), (0, u "J"), (2, u "negativeZeroDoubleBits"), (21, u "max"), (2, u "min"), (43, u "$assertionsDisabled"), (0, u "Z"), (88, u "(II)I"), (2, u "twoToTheDoubleScaleDown"), (0, u "D"), (4, u "twoToTheDoubleScaleUp"), (9, u "E"), (3, u "PI"), (2, u "TAU"), (2, u "DEGREES_TO_RADIANS"), (0, u "RADIANS_TO_DEGREES")] 94

def k2m0 : Method := { name := "<init>", desc := "()V", sig := { parameters := [], returnType := none }, accessFlags := 2, code := none }
def k2c1 : Code := { maxStack := 2, maxLocals := 2, code := jdk_29_method_65_code, exceptionTable := #[], attributes := #[] }
def k2m1 : Method := { name := "max", desc := "(II)I", sig := { parameters := [.int, .int], returnType := some .int }, accessFlags := 9, code := some k2c1 }
def k2c2 : Code := { maxStack := 2, maxLocals := 2, code := jdk_29_method_69_code, exceptionTable := #[], attributes := #[] }
def k2m2 : Method := { name := "min", desc := "(II)I", sig := { parameters := [.int, .int], returnType := some .int }, accessFlags := 9, code := some k2c2 }
/-- java/lang/Math -/
def k2 : Class := { plain "java/lang/Math" (some 0) with
  accessFlags := 49
  interfaces := #[]
  cf := some (fileOf pool2 1 #[.nestMembers #[98]] #[{ accessFlags := 2, nameIndex := 7, descriptorIndex := 8, attributes := #[] }, { accessFlags := 9, nameIndex := 198, descriptorIndex := 335, attributes := #[] }, { accessFlags := 9, nameIndex := 201, descriptorIndex := 335, attributes := #[] }] 49 4 #[] #[{ accessFlags := 25, nameIndex := 354, descriptorIndex := 339, attributes := #[] }, { accessFlags := 25, nameIndex := 358, descriptorIndex := 339, attributes := #[] }, { accessFlags := 25, nameIndex := 361, descriptorIndex := 339, attributes := #[] }, { accessFlags := 26, nameIndex := 364, descriptorIndex := 339, attributes := #[] }, { accessFlags := 26, nameIndex := 365, descriptorIndex := 339, attributes := #[] }, { accessFlags := 26, nameIndex := 172, descriptorIndex := 173, attributes := #[] }, { accessFlags := 26, nameIndex := 176, descriptorIndex := 173, attributes := #[] }, { accessFlags := 8, nameIndex := 344, descriptorIndex := 339, attributes := #[] }, { accessFlags := 8, nameIndex := 338, descriptorIndex := 339, attributes := #[] }, { accessFlags := 4120, nameIndex := 245, descriptorIndex := 246, attributes := #[] }])
  fields := #[{ name := "E", type := .double, accessFlags := 25, slot := 0, constantValue := 0 }, { name := "PI", type := .double, accessFlags := 25, slot := 1, constantValue := 0 }, { name := "TAU", type := .double, accessFlags := 25, slot := 2, constantValue := 0 }, { name := "DEGREES_TO_RADIANS", type := .double, accessFlags := 26, slot := 3, constantValue := 0 }, { name := "RADIANS_TO_DEGREES", type := .double, accessFlags := 26, slot := 4, constantValue := 0 }, { name := "negativeZeroFloatBits", type := .long, accessFlags := 26, slot := 5, constantValue := 0 }, { name := "negativeZeroDoubleBits", type := .long, accessFlags := 26, slot := 6, constantValue := 0 }, { name := "twoToTheDoubleScaleUp", type := .double, accessFlags := 8, slot := 7, constantValue := 0 }, { name := "twoToTheDoubleScaleDown", type := .double, accessFlags := 8, slot := 8, constantValue := 0 }, { name := "$assertionsDisabled", type := .boolean, accessFlags := 4120, slot := 9, constantValue := 0 }]
  methods := #[k2m0, k2m1, k2m2]
  instanceTypes := #[]
  staticTypes := #[.double, .double, .double, .double, .double, .long, .long, .double, .double, .boolean]
  resolved := Array.replicate 460 none
  statics := none }

def pool3 : Array CpInfo := pool [(1, .methodref 2 3), (0, .class_ 4), (0, .nameAndType 5 6), (0, u "java/lang/Object"), (0, u "<init>"), (0, u "()V"), (0, .class_ 8), (0, u "java/lang/Record")] 13

def k3c0 : Code := { maxStack := 1, maxLocals := 1, code := jdk_30_method_1_code, exceptionTable := #[], attributes := #[] }
def k3m0 : Method := { name := "<init>", desc := "()V", sig := { parameters := [], returnType := none }, accessFlags := 4, code := some k3c0 }
/-- java/lang/Record -/
def k3 : Class := { plain "java/lang/Record" (some 0) with
  accessFlags := 1057
  interfaces := #[]
  cf := some (fileOf pool3 7 #[] #[{ accessFlags := 4, nameIndex := 5, descriptorIndex := 6, attributes := #[] }] 1057 2 #[] #[])
  fields := #[]
  methods := #[k3m0]
  instanceTypes := #[]
  staticTypes := #[]
  resolved := Array.replicate 22 none
  statics := none }

def pool4 : Array CpInfo := pool [(1, .methodref 2 3), (0, .class_ 4), (0, .nameAndType 5 6), (0, u "java/lang/Record"), (0, u "<init>"), (0, u "()V"), (0, .class_ 8), (0, u "com/example/cursorweave/cursorweave/broker/HashRange"), (0, .integer 65536), (12, .fieldref 7 23), (0, .nameAndType 24 25), (0, u "first"), (0, u "I"), (0, .fieldref 7 27), (0, .nameAndType 28 25), (0, u "last"), (22, u "SLOTS"), (1, u "(II)V"), (5, u "contains"), (0, u "(I)Z")] 35

def k4c0 : Code := { maxStack := 3, maxLocals := 4, code := prog_5_method_1_code, exceptionTable := #[], attributes := #[] }
def k4m0 : Method := { name := "<init>", desc := "(II)V", sig := { parameters := [.int, .int], returnType := none }, accessFlags := 1, code := some k4c0 }
def k4c1 : Code := { maxStack := 2, maxLocals := 2, code := prog_5_method_3_code, exceptionTable := #[], attributes := #[] }
def k4m1 : Method := { name := "contains", desc := "(I)Z", sig := { parameters := [.int], returnType := some .boolean }, accessFlags := 0, code := some k4c1 }
/-- com/example/cursorweave/cursorweave/broker/HashRange -/
def k4 : Class := { plain "com/example/cursorweave/cursorweave/broker/HashRange" (some 3) with
  accessFlags := 49
  interfaces := #[]
  cf := some (fileOf pool4 7 #[] #[{ accessFlags := 1, nameIndex := 5, descriptorIndex := 53, attributes := #[] }, { accessFlags := 0, nameIndex := 59, descriptorIndex := 60, attributes := #[] }] 49 2 #[] #[{ accessFlags := 18, nameIndex := 24, descriptorIndex := 25, attributes := #[] }, { accessFlags := 18, nameIndex := 28, descriptorIndex := 25, attributes := #[] }, { accessFlags := 25, nameIndex := 51, descriptorIndex := 25, attributes := #[] }])
  fields := #[{ name := "first", type := .int, accessFlags := 18, slot := 0, constantValue := 0 }, { name := "last", type := .int, accessFlags := 18, slot := 1, constantValue := 0 }, { name := "SLOTS", type := .int, accessFlags := 25, slot := 0, constantValue := 0 }]
  methods := #[k4m0, k4m1]
  instanceTypes := #[.int, .int]
  staticTypes := #[.int]
  resolved := Array.replicate 96 none
  statics := none }

def pool5 : Array CpInfo := pool [(1, u "java/lang/Cloneable"), (0, .class_ 1), (0, u "java/lang/Object"), (0, .class_ 3)] 3

/-- java/lang/Cloneable -/
def k5 : Class := { plain "java/lang/Cloneable" (some 0) with
  accessFlags := 1537
  interfaces := #[]
  cf := some (fileOf pool5 2 #[] #[] 1537 4 #[] #[])
  fields := #[]
  methods := #[]
  instanceTypes := #[]
  staticTypes := #[]
  resolved := Array.replicate 8 none
  statics := none }

def pool6 : Array CpInfo := pool [(1, u "java/io/Serializable"), (0, .class_ 1), (0, u "java/lang/Object"), (0, .class_ 3)] 3

/-- java/io/Serializable -/
def k6 : Class := { plain "java/io/Serializable" (some 0) with
  accessFlags := 1537
  interfaces := #[]
  cf := some (fileOf pool6 2 #[] #[] 1537 4 #[] #[])
  fields := #[]
  methods := #[]
  instanceTypes := #[]
  staticTypes := #[]
  resolved := Array.replicate 8 none
  statics := none }

/-- the primitive byte -/
def k7 : Class := { plain "byte" none with kind := .primitive 'B', accessFlags := 0x411 }
/-- [B -/
def k8 : Class := { plain "[B" (some 0) with kind := .array 7 .byte, interfaces := #[5, 6], accessFlags := 1041 }

def heap : Heap := #[]
def classes : Array Class := #[k0, k1, k2, k3, k4, k5, k6, k7, k8]
def interned : List (Array UInt16 × Addr) := []
def slotsUsed : Nat := 0
def theMethod : MethodId := ⟨1, 2⟩
def args0 : Array Value := #[.int 5, .int 7, .int 9, .int 3]
def aboutOver (below : List Frame) : State where
  vm := { classes := classes, interned := interned.toArray }
  heap := heap
  slotsUsed := slotsUsed
  threads := #[{ frames := .invoking theMethod args0 :: below }]
def below0 : List Frame := [.native { method := ⟨0, 0⟩, args := #[] }]
def about1 : State := aboutOver below0
def p0 : Program := .bare "" "" ""
def e0 : Env := launch0.env 0 0 0
theorem w_frames : about1.frames = Frame.invoking theMethod args0 :: below0 := rfl
set_option maxRecDepth 65536 in
theorem w_args : argsFit about1.vm theMethod args0 = true := by decide +kernel
set_option maxRecDepth 65536 in
theorem w_heap : heapFits about1 = true := by decide +kernel
set_option maxRecDepth 65536 in
theorem w_runnable : about1.curStatus? = some .runnable := by decide +kernel
set_option maxRecDepth 65536 in
theorem w_alone : about1.alone = true := by decide +kernel
set_option maxRecDepth 65536 in
theorem w_named : about1.methodNamed? x = some theMethod := by decide +kernel
set_option maxRecDepth 65536 in
theorem w_hears : about1.hears theMethod below0 = true := by decide +kernel
set_option maxRecDepth 65536 in
theorem w_ripe : about1.ripe theMethod args0 below0 = true := by decide +kernel
theorem w_running : about1.status = .running := rfl
set_option maxRecDepth 65536 in
theorem w_room : about1.hasRoom e0.platform room_1 = true :=
  launch0.hasRoom_least _ room_1 (by decide +kernel) (by decide +kernel) (by decide +kernel) (by decide +kernel) (by decide +kernel) (by decide +kernel)
theorem allAtoms_all (ts : List Jvm.Cond) (a : Array Jvm.Value) (st : Jvm.State) : (allAtoms ts).before a st = ts.all (fun c => c.before a st) := by
  induction ts with
  | nil => rfl
  | cons c t ih =>
    show (Jvm.Cond.and c (allAtoms t)).before a st = _
    rw [Jvm.Cond.before_and, ih, List.all_cons]
def words1 : List Jvm.Cond := Jvm.Cond.code x code maxLocals ret :: tables_1
/-- a 'code' word, met by the world's own term for the bytes: nothing is compared byte by byte -/
theorem code_word {y : MethodName} {bytes : ByteArray} {mx : Nat} {rt : Option FieldType} {a : Array Value} {s : State} {m : MethodId} {meth : Method} {c : Code} (h1 : s.methodNamed? y = some m) (h2 : s.vm.method? m = some meth) (h3 : meth.code = some c) (h4 : c.code = bytes)
    (h5 : (c.maxLocals == mx && c.exceptionTable.isEmpty && decide (c.maxStack ≤ mostOperands) && decide (meth.sig.returnType = rt) && !meth.locks && decide (parseMethodDescriptor y.desc = some meth.sig)) = true) : (Jvm.Cond.code y bytes mx rt).before a s = true := by
  simp only [Bool.and_eq_true, beq_iff_eq, Bool.not_eq_true', decide_eq_true_eq] at h5
  obtain ⟨⟨⟨⟨⟨g1, g2⟩, g3⟩, g4⟩, g5⟩, g6⟩ := h5
  simp [Cond.before, Cond.holds, Cond.value, h1, h2, h3, h4, g1, g2, g3, g4, g5, g6]
def isCode : Jvm.Cond → Bool
  | .code _ _ _ _ => true
  | _ => false
theorem all_split {L : List Jvm.Cond} {P : Jvm.Cond → Bool} (h1 : L.all (fun c => isCode c || P c) = true) (h2 : ∀ c ∈ L.filter isCode, P c = true) : L.all P = true := by
  refine List.all_eq_true.mpr fun c hc => ?_
  have h := List.all_eq_true.mp h1 c hc
  rcases Bool.eq_false_or_eq_true (isCode c) with hi | hi
  · exact h2 c (List.mem_filter.mpr ⟨hc, hi⟩)
  · simpa [hi] using h
set_option maxRecDepth 65536 in
theorem w_c0 : (Jvm.Cond.code x code maxLocals ret).before args0 about1 = true := code_word (m := ⟨1, 2⟩) (meth := k1m2) (c := k1c2) (by decide +kernel) rfl rfl rfl (by decide +kernel)
set_option maxRecDepth 65536 in
theorem w_c1 : (Jvm.Cond.code ({ cls := "java/lang/Math", name := "min", desc := "(II)I" } : Jvm.MethodName) jdk_29_method_69_code (2 : Nat) (Option.some Jvm.ClassFile.FieldType.int)).before args0 about1 = true := code_word (m := ⟨2, 2⟩) (meth := k2m2) (c := k2c2) (by decide +kernel) rfl rfl rfl (by decide +kernel)
set_option maxRecDepth 65536 in
theorem w_c2 : (Jvm.Cond.code ({ cls := "java/lang/Math", name := "max", desc := "(II)I" } : Jvm.MethodName) jdk_29_method_65_code (2 : Nat) (Option.some Jvm.ClassFile.FieldType.int)).before args0 about1 = true := code_word (m := ⟨2, 1⟩) (meth := k2m1) (c := k2c1) (by decide +kernel) rfl rfl rfl (by decide +kernel)
set_option maxRecDepth 65536 in
theorem w_c3 : (Jvm.Cond.code ({ cls := "com/example/cursorweave/cursorweave/broker/HashRange", name := "<init>", desc := "(II)V" } : Jvm.MethodName) prog_5_method_1_code (4 : Nat) (Option.none : Option Jvm.ClassFile.FieldType)).before args0 about1 = true := code_word (m := ⟨4, 0⟩) (meth := k4m0) (c := k4c0) (by decide +kernel) rfl rfl rfl (by decide +kernel)
set_option maxRecDepth 65536 in
theorem w_c4 : (Jvm.Cond.code ({ cls := "java/lang/Record", name := "<init>", desc := "()V" } : Jvm.MethodName) jdk_30_method_1_code (1 : Nat) (Option.none : Option Jvm.ClassFile.FieldType)).before args0 about1 = true := code_word (m := ⟨3, 0⟩) (meth := k3m0) (c := k3c0) (by decide +kernel) rfl rfl rfl (by decide +kernel)
set_option maxRecDepth 65536 in
theorem w_c5 : (Jvm.Cond.code ({ cls := "java/lang/Object", name := "<init>", desc := "()V" } : Jvm.MethodName) object_method_1_code (1 : Nat) (Option.none : Option Jvm.ClassFile.FieldType)).before args0 about1 = true := code_word (m := ⟨0, 0⟩) (meth := k0m0) (c := k0c0) (by decide +kernel) rfl rfl rfl (by decide +kernel)
set_option maxRecDepth 65536 in
theorem w_c6 : (Jvm.Cond.code ({ cls := "com/example/cursorweave/cursorweave/broker/HashRangeContainsPinLaw", name := "pickSlot", desc := "(IIII)I" } : Jvm.MethodName) method_2_code (5 : Nat) (Option.some Jvm.ClassFile.FieldType.int)).before args0 about1 = true := code_word (m := ⟨1, 1⟩) (meth := k1m1) (c := k1c1) (by decide +kernel) rfl rfl rfl (by decide +kernel)
set_option maxRecDepth 65536 in
theorem w_c7 : (Jvm.Cond.code ({ cls := "com/example/cursorweave/cursorweave/broker/HashRange", name := "contains", desc := "(I)Z" } : Jvm.MethodName) prog_5_method_3_code (2 : Nat) (Option.some Jvm.ClassFile.FieldType.boolean)).before args0 about1 = true := code_word (m := ⟨4, 1⟩) (meth := k4m1) (c := k4c1) (by decide +kernel) rfl rfl rfl (by decide +kernel)
def codes1 : List Jvm.Cond := [Jvm.Cond.code x code maxLocals ret, Jvm.Cond.code ({ cls := "java/lang/Math", name := "min", desc := "(II)I" } : Jvm.MethodName) jdk_29_method_69_code (2 : Nat) (Option.some Jvm.ClassFile.FieldType.int), Jvm.Cond.code ({ cls := "java/lang/Math", name := "max", desc := "(II)I" } : Jvm.MethodName) jdk_29_method_65_code (2 : Nat) (Option.some Jvm.ClassFile.FieldType.int), Jvm.Cond.code ({ cls := "com/example/cursorweave/cursorweave/broker/HashRange", name := "<init>", desc := "(II)V" } : Jvm.MethodName) prog_5_method_1_code (4 : Nat) (Option.none : Option Jvm.ClassFile.FieldType), Jvm.Cond.code ({ cls := "java/lang/Record", name := "<init>", desc := "()V" } : Jvm.MethodName) jdk_30_method_1_code (1 : Nat) (Option.none : Option Jvm.ClassFile.FieldType), Jvm.Cond.code ({ cls := "java/lang/Object", name := "<init>", desc := "()V" } : Jvm.MethodName) object_method_1_code (1 : Nat) (Option.none : Option Jvm.ClassFile.FieldType), Jvm.Cond.code ({ cls := "com/example/cursorweave/cursorweave/broker/HashRangeContainsPinLaw", name := "pickSlot", desc := "(IIII)I" } : Jvm.MethodName) method_2_code (5 : Nat) (Option.some Jvm.ClassFile.FieldType.int), Jvm.Cond.code ({ cls := "com/example/cursorweave/cursorweave/broker/HashRange", name := "contains", desc := "(I)Z" } : Jvm.MethodName) prog_5_method_3_code (2 : Nat) (Option.some Jvm.ClassFile.FieldType.boolean)]
set_option maxRecDepth 65536 in
theorem codes_eq : words1.filter isCode = codes1 := rfl
theorem w_codes : ∀ c ∈ words1.filter isCode, c.before args0 about1 = true := by
  rw [codes_eq]
  intro c hc
  simp only [codes1, List.mem_cons, List.not_mem_nil, or_false] at hc
  rcases hc with rfl | rfl | rfl | rfl | rfl | rfl | rfl | rfl
  · exact w_c0
  · exact w_c1
  · exact w_c2
  · exact w_c3
  · exact w_c4
  · exact w_c5
  · exact w_c6
  · exact w_c7
set_option maxRecDepth 65536 in
theorem w_t1 : (words1.take 24).all (fun c => isCode c || c.before args0 about1) = true := by decide +kernel
set_option maxRecDepth 65536 in
theorem w_t2 : (words1.drop 24).all (fun c => isCode c || c.before args0 about1) = true := by decide +kernel
theorem w_tables : (allAtoms (Jvm.Cond.code x code maxLocals ret :: tables_1)).before args0 about1 = true := by
  rw [allAtoms_all]
  show words1.all (fun c => c.before args0 about1) = true
  refine all_split ?_ w_codes
  rw [← List.take_append_drop 24 words1, List.all_append, w_t1, w_t2]
  rfl
set_option maxRecDepth 65536 in
theorem w_case : (Jvm.Cond.and given_1 narrow_1).before args0 about1 = true := by decide +kernel
theorem w_applies : (headSpec (Jvm.Cond.code x code maxLocals ret :: tables_1) room_1).applies x e0.platform about1 = true :=
  (Spec.applies_iff w_frames).mpr ⟨w_running, w_runnable, w_alone, w_named, w_hears, w_ripe, w_room, w_tables⟩
theorem atStart : AtStart classFile x code maxLocals ret World_1 tables_1 room_1 Calls_1 rest_1 Pre_1 launch0 p0 e0 about1 theMethod args0 below0 :=
  ⟨lists_1, trivial, launch0.admits_env _ _ _, launch0.least_env, fairChoices_fair.cas, fairChoices_fair.clock, w_frames, w_args, w_heap, w_applies, trivial, trivial, w_case⟩
end start1
theorem witness_1 : WitnessClaimed_1 := ⟨start1.p0, start1.e0, start1.about1, start1.theMethod, start1.args0, start1.below0, start1.atStart⟩
end Jvm.Pilot.@@N@@
