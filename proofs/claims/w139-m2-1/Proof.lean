import JvmDerived
import JvmDerived.Pilot.@@N@@Statement
import JvmDerived.Pilot.@@N@@Code
set_option linter.unusedVariables false
set_option linter.unusedSimpArgs false
namespace Jvm.RoadKit
open Sem ClassFile Op Lib Jvm.Stand Jvm.Free Jvm.LawKit
section New
variable {p : Program} {l : Launch} {e : Env} {R : Room} {s : State} {m : MethodId} {args : Array Value} {below : List Frame} {meth : Method} {c : Code} {T : State} {locs : List Loc} {cells slots : Nat}
theorem retI (X : Stand p l e R s m args below meth c T locs cells slots) (hx : p.tables.exec = Jvm.exec) {pc : Nat} {Ls : Array Slot} {z : Int32} {rest : List Value} (hret : meth.sig.returnType = some .int) (hd : decode c.code pc = .ok (.ireturn, 1)) {fs : List Frame}
    (hl : ∀ (f : JFrame) (acts : List Action), f.method = m → f.locked = none → f.entered = [] → (doReturn e (T.setTop f) acts (some (.int z))).1 = T.setFrames fs) : Steps p.tables e below (T.setTop (mkF m pc Ls (.int z :: rest))) (T.setFrames fs) := by
  have hm' : T.vm.method? m = some meth := X.method'
  have hn : narrow .int (.int z) = .int z := rfl
  show Steps p.tables e below (T.setTop { method := m, pc := pc, locals := Ls, stack := _ :: rest, locked := none }) _
  jvm_step X.here [X.here.top, hx, hd, hm', hret, hn]
  first | (intro acts; rw [hl _ acts rfl rfl rfl]) | rw [hl _ _ rfl rfl rfl]
  exact Steps.refl _
end New
end Jvm.RoadKit
namespace Jvm.Pilot.@@N@@
open Jvm Jvm.ClassFile Sem Op Lib Jvm.Free Jvm.Stand Jvm.LawKit Jvm.RoadKit Bundle Jvm.Pilot.@@N@@.Jvm.D
theorem own_lswIn {tb : Tables} [Ours tb] {e : Env} {below : List Frame} {T target : State} {m : MethodId} {c : Code} {g : JFrame} (h : At T m c below) (hx : tb.exec = Jvm.exec) (hg : g.method = m) {dflt : Int} {prs : Array (Int × Int)} {len : Nat} {k o : Int} {pc0 pc' : Nat} (hpc : g.pc = pc0) (hd : decode c.code g.pc = .ok (.lookupswitch dflt prs, len)) {i : Int32} {rest : List Value} (hs : g.stack = .int i :: rest)
    (hf : prs.find? (·.1 == i.toInt) = some (k, o)) (hsrt : ∀ (a b a_1 b_1 : Int), ((a, b), a_1, b_1) ∈ prs.toList.zip prs.toList.tail → a < a_1) (ho : 0 ≤ (pc0 : Int) + o) (hp : ((pc0 : Int) + o).toNat = pc')
    (hr : Steps tb e below (T.setTop { g with pc := pc', stack := rest }) target) : Steps tb e below (T.setTop g) target := by
  subst hg hpc hp
  jvm_step h [h.top, hx, hd, hs, hf, ho, lookupswitch.wp_whole]
  exact ⟨hsrt, hr⟩
theorem own_lswOut {tb : Tables} [Ours tb] {e : Env} {below : List Frame} {T target : State} {m : MethodId} {c : Code} {g : JFrame} (h : At T m c below) (hx : tb.exec = Jvm.exec) (hg : g.method = m) {dflt : Int} {prs : Array (Int × Int)} {len : Nat} {pc0 pc' : Nat} (hpc : g.pc = pc0) (hd : decode c.code g.pc = .ok (.lookupswitch dflt prs, len)) {i : Int32} {rest : List Value} (hs : g.stack = .int i :: rest)
    (hf : prs.find? (·.1 == i.toInt) = none) (hsrt : ∀ (a b a_1 b_1 : Int), ((a, b), a_1, b_1) ∈ prs.toList.zip prs.toList.tail → a < a_1) (ho : 0 ≤ (pc0 : Int) + dflt) (hp : ((pc0 : Int) + dflt).toNat = pc')
    (hr : Steps tb e below (T.setTop { g with pc := pc', stack := rest }) target) : Steps tb e below (T.setTop g) target := by
  subst hg hpc hp
  jvm_step h [h.top, hx, hd, hs, hf, ho, lookupswitch.wp_whole]
  exact ⟨hsrt, hr⟩
theorem own_d1_0 : decode prog_11_method_2_code 0 = .ok (.iload_n 0, 1) := by decide +kernel
theorem own_d1_1 : decode prog_11_method_2_code 1 = .ok (.lookupswitch 31 #[(1, 27), (2, 29)], 27) := by decide +kernel
theorem own_d1_28 : decode prog_11_method_2_code 28 = .ok (.iconst 1, 1) := by decide +kernel
theorem own_d1_29 : decode prog_11_method_2_code 29 = .ok (.ireturn, 1) := by decide +kernel
theorem own_d1_30 : decode prog_11_method_2_code 30 = .ok (.iconst 2, 1) := by decide +kernel
theorem own_d1_31 : decode prog_11_method_2_code 31 = .ok (.ireturn, 1) := by decide +kernel
theorem own_d1_32 : decode prog_11_method_2_code 32 = .ok (.iconst 0, 1) := by decide +kernel
theorem own_d1_33 : decode prog_11_method_2_code 33 = .ok (.ireturn, 1) := by decide +kernel
theorem own_pn0 : plainName "com/example/bitsieve/bitsieve/FileForm" = true := by first | (simp [plainName, overriddenIn]; done) | decide +kernel
def Q_rm1 (Z : State) (pa : Int32) (h0 : Heap) (n0 : Nat) (v : Option Value) (h : Heap) (L : List Loc) : Prop := ∃ (r : Int32), v = some (.int r) ∧ (((pa.toInt = 1 → r.toInt = 1) ∧ (pa.toInt = 2 → r.toInt = 2) ∧ (¬ pa.toInt = 1 → ¬ pa.toInt = 2 → r.toInt = 0))) ∧ Fr n0 L ∧ h = h0
theorem own_ef_rm1 (m : MethodId) (pa : Int32) : entryFrame m #[(.int pa)] 1 = mkF m 0 #[.val (.int pa)] [] := by first | (simp [entryFrame, mkF, argsToLocals, Value.category]; done) | rfl
set_option maxRecDepth 65536 in
set_option maxHeartbeats 40000000 in
theorem rm1 (l : Launch) (Z : State) (a0 : Array Value) (hw : ∀ d ∈ tables_1, d.before a0 Z = true) (ws : List Jvm.Cond) (pa : Int32) (h0 : Heap) (n0 : Nat) (Z0 : n0 ≤ h0.size) :
    MetFree l (⟨"com/example/bitsieve/bitsieve/FileForm", "firstVersion", "(I)I"⟩ : MethodName) (head1 (Jvm.Cond.code (⟨"com/example/bitsieve/bitsieve/FileForm", "firstVersion", "(I)I"⟩ : MethodName) prog_11_method_2_code 1 (some .int) :: ws) ({ frames := 0, cells := 0, slots := 0, locals := 0 } : Room)) (fun a U => a = #[(.int pa)] ∧ Z.Warmed39 U.vm ∧ U.heap = h0) (fun _ _ _ _ _ => True) (fun _ U o U' => ∃ v L, o = .returned v ∧ Q_rm1 Z pa h0 n0 v U'.heap L ∧ FrameEnd U o U' L ({ frames := 0, cells := 0, slots := 0, locals := 0 } : Room).cells ({ frames := 0, cells := 0, slots := 0, locals := 0 } : Room).slots) := by
  refine MetFree.of_bodySF (plainFor_of_name own_pn0) hisR ?_
  intro p e s m args below meth c s₁ Bd hml0 hP hK
  obtain ⟨rfl, hZ, hh⟩ := hP
  have hx := Bd.exec
  have hby := Bd.bytes
  have hml : c.maxLocals = 1 := hml0
  have hown : s.vm.findClass "com/example/bitsieve/bitsieve/FileForm" = some m.cls := findClass_of_methodNamed Bd.named
  have hnm := (name_of_methodNamed Bd.named Bd.method).1
  have X0 : Stand p l e ({ frames := 0, cells := 0, slots := 0, locals := 0 } : Room) s m #[(.int pa)] below meth c s₁ [] 0 0 := Stand.of_body Bd
  have e0 : s₁.heap = h0 := by rw [← hh, Bd.state]; rfl
  have N0 := Fr.nil n0
  have pre0 : ∀ t, Steps p.tables e below (s₁.setTop (mkF m 0 #[.val (.int pa)] [])) t → Steps p.tables e below (s₁.setTop (entryFrame m #[(.int pa)] 1)) t := fun t k => castTop (own_ef_rm1 m pa) k
  have K1 : ∀ t, Steps p.tables e below (s₁.setTop (mkF m 1 #[.val (.int pa)] [(.int pa)])) t → Steps p.tables e below (s₁.setTop (entryFrame m #[(.int pa)] 1)) t := fun t k => pre0 t (by
    show Steps p.tables e below (s₁.setTop (mkF m 0 #[.val (.int pa)] [])) t
    refine XS.iloadN X0.here hx rfl (hb hby own_d1_0) rfl ?_
    exact k)
  have q2 := rng32 pa
  by_cases hs1_0 : pa.toInt = 1
  · have K3 : ∀ t, Steps p.tables e below (s₁.setTop (mkF m 29 #[.val (.int pa)] [(.int (1 : Int32))])) t → Steps p.tables e below (s₁.setTop (entryFrame m #[(.int pa)] 1)) t := fun t k => K1 t (by
      show Steps p.tables e below (s₁.setTop (mkF m 1 #[.val (.int pa)] [(.int pa)])) t
      refine own_lswIn X0.here hx rfl (pc0 := 1) (pc' := 28) rfl (hb hby own_d1_1) rfl (k := 1) (o := 27) (by simp [hs1_0]) (by intro a b a1 b1 h; simp at h; omega) (by decide) (by decide) ?_
      show Steps p.tables e below (s₁.setTop (mkF m 28 #[.val (.int pa)] [])) t
      refine XS.iconst X0.here hx rfl (hb hby own_d1_28) ?_
      exact k)
    obtain ⟨fs, hr, hrun, hended, hW, hsame⟩ := X0.leave (v := some (.int (1 : Int32))) (fun h => by rw [Bd.returns] at h; cases h)
    refine ⟨_, _, K3 _ ?_, hrun, hended, _, _, rfl, ?_, ⟨_, rfl⟩, hW, hsame.mono (by decide) (by decide)⟩
    · exact retI X0 hx Bd.returns (hb hby own_d1_29) hr
    · show Q_rm1 Z pa h0 n0 _ s₁.heap _
      have q4 := (by decide : (1 : Int32).toInt = 1)
      rw [e0]
      exact ⟨(1 : Int32), rfl, (by omega), N0, rfl⟩
  · by_cases hs1_1 : pa.toInt = 2
    · have K5 : ∀ t, Steps p.tables e below (s₁.setTop (mkF m 31 #[.val (.int pa)] [(.int (2 : Int32))])) t → Steps p.tables e below (s₁.setTop (entryFrame m #[(.int pa)] 1)) t := fun t k => K1 t (by
        show Steps p.tables e below (s₁.setTop (mkF m 1 #[.val (.int pa)] [(.int pa)])) t
        refine own_lswIn X0.here hx rfl (pc0 := 1) (pc' := 30) rfl (hb hby own_d1_1) rfl (k := 2) (o := 29) (by simp [hs1_1]) (by intro a b a1 b1 h; simp at h; omega) (by decide) (by decide) ?_
        show Steps p.tables e below (s₁.setTop (mkF m 30 #[.val (.int pa)] [])) t
        refine XS.iconst X0.here hx rfl (hb hby own_d1_30) ?_
        exact k)
      obtain ⟨fs, hr, hrun, hended, hW, hsame⟩ := X0.leave (v := some (.int (2 : Int32))) (fun h => by rw [Bd.returns] at h; cases h)
      refine ⟨_, _, K5 _ ?_, hrun, hended, _, _, rfl, ?_, ⟨_, rfl⟩, hW, hsame.mono (by decide) (by decide)⟩
      · exact retI X0 hx Bd.returns (hb hby own_d1_31) hr
      · show Q_rm1 Z pa h0 n0 _ s₁.heap _
        have q6 := (by decide : (2 : Int32).toInt = 2)
        rw [e0]
        exact ⟨(2 : Int32), rfl, (by omega), N0, rfl⟩
    · have K7 : ∀ t, Steps p.tables e below (s₁.setTop (mkF m 33 #[.val (.int pa)] [(.int (0 : Int32))])) t → Steps p.tables e below (s₁.setTop (entryFrame m #[(.int pa)] 1)) t := fun t k => K1 t (by
        show Steps p.tables e below (s₁.setTop (mkF m 1 #[.val (.int pa)] [(.int pa)])) t
        refine own_lswOut X0.here hx rfl (pc0 := 1) (pc' := 32) rfl (hb hby own_d1_1) rfl (by simp [Ne.symm hs1_0, Ne.symm hs1_1]) (by intro a b a1 b1 h; simp at h; omega) (by decide) (by decide) ?_
        show Steps p.tables e below (s₁.setTop (mkF m 32 #[.val (.int pa)] [])) t
        refine XS.iconst X0.here hx rfl (hb hby own_d1_32) ?_
        exact k)
      obtain ⟨fs, hr, hrun, hended, hW, hsame⟩ := X0.leave (v := some (.int (0 : Int32))) (fun h => by rw [Bd.returns] at h; cases h)
      refine ⟨_, _, K7 _ ?_, hrun, hended, _, _, rfl, ?_, ⟨_, rfl⟩, hW, hsame.mono (by decide) (by decide)⟩
      · exact retI X0 hx Bd.returns (hb hby own_d1_33) hr
      · show Q_rm1 Z pa h0 n0 _ s₁.heap _
        have q8 := (by decide : (0 : Int32).toInt = 0)
        rw [e0]
        exact ⟨(0 : Int32), rfl, (by omega), N0, rfl⟩
theorem own_d2_0 : decode prog_11_method_3_code 0 = .ok (.iload_n 0, 1) := by decide +kernel
theorem own_d2_1 : decode prog_11_method_3_code 1 = .ok (.iconst 2, 1) := by decide +kernel
theorem own_d2_2 : decode prog_11_method_3_code 2 = .ok (.if_icmp .ne 7, 3) := by decide +kernel
theorem own_d2_5 : decode prog_11_method_3_code 5 = .ok (.iconst 3, 1) := by decide +kernel
theorem own_d2_6 : decode prog_11_method_3_code 6 = .ok (.goto 7, 3) := by decide +kernel
theorem own_d2_9 : decode prog_11_method_3_code 9 = .ok (.iload_n 0, 1) := by decide +kernel
theorem own_d2_10 : decode prog_11_method_3_code 10 = .ok (.invokestatic 9, 3) := by decide +kernel
theorem own_d2_13 : decode prog_11_method_3_code 13 = .ok (.ireturn, 1) := by decide +kernel
theorem own_pd0 : parseMethodDescriptor "(I)I" = some ⟨[.int], some .int⟩ := by decide +kernel
def Q_rm2 (Z : State) (pa : Int32) (h0 : Heap) (n0 : Nat) (v : Option Value) (h : Heap) (L : List Loc) : Prop := ∃ (r : Int32), v = some (.int r) ∧ (((pa.toInt = 1 → r.toInt = 1) ∧ (pa.toInt = 2 → r.toInt = 3) ∧ (¬ pa.toInt = 1 → ¬ pa.toInt = 2 → r.toInt = 0))) ∧ Fr n0 L ∧ h = h0
theorem own_ef_rm2 (m : MethodId) (pa : Int32) : entryFrame m #[(.int pa)] 1 = mkF m 0 #[.val (.int pa)] [] := by first | (simp [entryFrame, mkF, argsToLocals, Value.category]; done) | rfl
set_option maxRecDepth 65536 in
set_option maxHeartbeats 40000000 in
theorem rm2 (l : Launch) (Z : State) (a0 : Array Value) (hw : ∀ d ∈ tables_1, d.before a0 Z = true) (ws : List Jvm.Cond) (pa : Int32) (h0 : Heap) (n0 : Nat) (Z0 : n0 ≤ h0.size) :
    MetFree l (⟨"com/example/bitsieve/bitsieve/FileForm", "writtenVersion", "(I)I"⟩ : MethodName) (head1 (Jvm.Cond.code (⟨"com/example/bitsieve/bitsieve/FileForm", "writtenVersion", "(I)I"⟩ : MethodName) prog_11_method_3_code 1 (some .int) :: ws) ({ frames := 1, cells := 0, slots := 0, locals := 12 } : Room)) (fun a U => a = #[(.int pa)] ∧ Z.Warmed39 U.vm ∧ U.heap = h0) (fun _ _ _ _ _ => True) (fun _ U o U' => ∃ v L, o = .returned v ∧ Q_rm2 Z pa h0 n0 v U'.heap L ∧ FrameEnd U o U' L ({ frames := 1, cells := 0, slots := 0, locals := 12 } : Room).cells ({ frames := 1, cells := 0, slots := 0, locals := 12 } : Room).slots) := by
  refine MetFree.of_bodySF (plainFor_of_name own_pn0) hisR ?_
  intro p e s m args below meth c s₁ Bd hml0 hP hK
  obtain ⟨rfl, hZ, hh⟩ := hP
  have hx := Bd.exec
  have hby := Bd.bytes
  have hml : c.maxLocals = 1 := hml0
  have hown : s.vm.findClass "com/example/bitsieve/bitsieve/FileForm" = some m.cls := findClass_of_methodNamed Bd.named
  have hnm := (name_of_methodNamed Bd.named Bd.method).1
  have X0 : Stand p l e ({ frames := 1, cells := 0, slots := 0, locals := 12 } : Room) s m #[(.int pa)] below meth c s₁ [] 0 0 := Stand.of_body Bd
  have e0 : s₁.heap = h0 := by rw [← hh, Bd.state]; rfl
  have N0 := Fr.nil n0
  have pre0 : ∀ t, Steps p.tables e below (s₁.setTop (mkF m 0 #[.val (.int pa)] [])) t → Steps p.tables e below (s₁.setTop (entryFrame m #[(.int pa)] 1)) t := fun t k => castTop (own_ef_rm2 m pa) k
  have K10 : ∀ t, Steps p.tables e below (s₁.setTop (mkF m 2 #[.val (.int pa)] [(.int (2 : Int32)), (.int pa)])) t → Steps p.tables e below (s₁.setTop (entryFrame m #[(.int pa)] 1)) t := fun t k => pre0 t (by
    show Steps p.tables e below (s₁.setTop (mkF m 0 #[.val (.int pa)] [])) t
    refine XS.iloadN X0.here hx rfl (hb hby own_d2_0) rfl ?_
    show Steps p.tables e below (s₁.setTop (mkF m 1 #[.val (.int pa)] [(.int pa)])) t
    refine XS.iconst X0.here hx rfl (hb hby own_d2_1) ?_
    exact k)
  have q11 := rng32 pa
  have q12 := (by decide : (2 : Int32).toInt = 2)
  by_cases hc9 : pa = (2 : Int32)
  · have q13 : pa.toInt = (2 : Int32).toInt := congrArg Int32.toInt hc9
    have K14 : ∀ t, Steps p.tables e below (s₁.setTop (mkF m 13 #[.val (.int pa)] [(.int (3 : Int32))])) t → Steps p.tables e below (s₁.setTop (entryFrame m #[(.int pa)] 1)) t := fun t k => K10 t (by
      show Steps p.tables e below (s₁.setTop (mkF m 2 #[.val (.int pa)] [(.int (2 : Int32)), (.int pa)])) t
      refine XS.icmpNo X0.here hx rfl (hb hby own_d2_2) rfl (teq hc9).2 ?_
      show Steps p.tables e below (s₁.setTop (mkF m 5 #[.val (.int pa)] [])) t
      refine XS.iconst X0.here hx rfl (hb hby own_d2_5) ?_
      show Steps p.tables e below (s₁.setTop (mkF m 6 #[.val (.int pa)] [(.int (3 : Int32))])) t
      refine XS.goto X0.here hx rfl (pc0 := 6) (pc' := 13) rfl (hb hby own_d2_6) (by decide) (by decide) ?_
      exact k)
    obtain ⟨fs, hr, hrun, hended, hW, hsame⟩ := X0.leave (v := some (.int (3 : Int32))) (fun h => by rw [Bd.returns] at h; cases h)
    refine ⟨_, _, K14 _ ?_, hrun, hended, _, _, rfl, ?_, ⟨_, rfl⟩, hW, hsame.mono (by decide) (by decide)⟩
    · exact retI X0 hx Bd.returns (hb hby own_d2_13) hr
    · show Q_rm2 Z pa h0 n0 _ s₁.heap _
      have q15 := (by decide : (3 : Int32).toInt = 3)
      rw [e0]
      exact ⟨(3 : Int32), rfl, (by omega), N0, rfl⟩
  · have q16 : ¬ pa.toInt = (2 : Int32).toInt := fun q => hc9 (Int32.toInt_inj.mp q)
    have K17 : ∀ t, Steps p.tables e below (s₁.setTop (mkF m 10 #[.val (.int pa)] [(.int pa)])) t → Steps p.tables e below (s₁.setTop (entryFrame m #[(.int pa)] 1)) t := fun t k => K10 t (by
      show Steps p.tables e below (s₁.setTop (mkF m 2 #[.val (.int pa)] [(.int (2 : Int32)), (.int pa)])) t
      refine XS.icmpYes X0.here hx rfl (pc0 := 2) (pc' := 9) rfl (hb hby own_d2_2) rfl (feq hc9).2 (by decide) (by decide) ?_
      show Steps p.tables e below (s₁.setTop (mkF m 9 #[.val (.int pa)] [])) t
      refine XS.iloadN X0.here hx rfl (hb hby own_d2_9) rfl ?_
      exact k)
    obtain ⟨_, _, ⟨T18, L18, kk18, nn18⟩, -, X18, ⟨Lc18, hQ18, l18, y18, z18⟩, st18⟩ := Jvm.LawKit.callS X0 hx (y := (⟨"com/example/bitsieve/bitsieve/FileForm", "firstVersion", "(I)I"⟩ : MethodName)) hown (mvT hZ (hw _ (List.mem_of_getElem? (i := 7) rfl))) (mvT hZ (hw _ (List.mem_of_getElem? (i := 1) rfl))) (mvT hZ (hw _ (List.mem_of_getElem? (i := 2) rfl))) (mvT hZ (hw _ (List.mem_of_getElem? (i := 3) rfl))) (by decide) (backOf (W := 0) (rm1 l Z a0 hw [] pa h0 n0 Z0) hZ (hw _ (List.mem_of_getElem? (i := 3) rfl)) (hw _ (List.mem_of_getElem? (i := 2) rfl)) (by decide) (by decide)) (g := (mkF m 10 #[.val (.int pa)] [(.int pa)])) rfl (by rw [hml]; rfl) (argsL := [(.int pa)]) (rest := []) (lenOf own_pd0 rfl) rfl (by show 2 * 0 + _ ≤ _; exact Nat.le_of_eq rfl) (hb hby own_d2_10) (fun _ _ => ⟨rfl, e0, (by decide : 0 + 0 ≤ _), (by decide : 0 + 0 ≤ _)⟩)
    dsimp only [Pt.U, Pt.locs, Pt.cells, Pt.slots] at X18 l18 y18 z18 st18 hQ18
    subst l18 y18 z18
    obtain ⟨r_18, rfl, Sp18, Nq18, eh18⟩ := hQ18
    have N19 := Fr.app N0 Nq18
    have K20 : ∀ t, Steps p.tables e below (T18.setTop (mkF m 13 #[.val (.int pa)] [(.int r_18)])) t → Steps p.tables e below (s₁.setTop (entryFrame m #[(.int pa)] 1)) t := fun t k => K17 t (st18 _ k)
    obtain ⟨fs, hr, hrun, hended, hW, hsame⟩ := X18.leave (v := some (.int r_18)) (fun h => by rw [Bd.returns] at h; cases h)
    refine ⟨_, _, K20 _ ?_, hrun, hended, _, _, rfl, ?_, ⟨_, rfl⟩, hW, hsame.mono (by decide) (by decide)⟩
    · exact retI X18 hx Bd.returns (hb hby own_d2_13) hr
    · show Q_rm2 Z pa h0 n0 _ T18.heap _
      have q21 := rng32 r_18
      rw [eh18]
      exact ⟨r_18, rfl, (by omega), N19, rfl⟩
theorem own_pn1 : plainName "com/example/bitsieve/bitsieve/FileFormFirstVersionPinLaw" = true := by first | (simp [plainName, overriddenIn]; done) | decide +kernel
def Q_rm0 (Z : State) (x0 : Int32) (x1 : Int32) (h0 : Heap) (n0 : Nat) (v : Option Value) (h : Heap) (L : List Loc) : Prop := v = some (.int (1 : Int32)) ∧ (True) ∧ Fr n0 L ∧ h = h0
theorem own_ef_rm0 (m : MethodId) (x0 : Int32) (x1 : Int32) : entryFrame m #[(.int x0), (.int x1)] maxLocals = mkF m 0 #[.val (.int x0), .val (.int x1), .unset, .unset, .unset, .unset, .unset, .unset, .unset, .unset] [] := by first | (simp [entryFrame, mkF, argsToLocals, Value.category, maxLocals]; done) | rfl
set_option maxRecDepth 65536 in
set_option maxHeartbeats 40000000 in
theorem rm0 (l : Launch) (Z : State) (a0 : Array Value) (hw : ∀ d ∈ tables_1, d.before a0 Z = true) (ws : List Jvm.Cond) (x0 : Int32) (x1 : Int32) (h0 : Heap) (n0 : Nat) (Z0 : n0 ≤ h0.size) :
    MetFree l x (head1 (Jvm.Cond.code x code maxLocals ret :: ws) room_1) (fun a U => a = #[(.int x0), (.int x1)] ∧ Z.Warmed39 U.vm ∧ U.heap = h0) (fun _ _ _ _ _ => True) (fun _ U o U' => ∃ v L, o = .returned v ∧ Q_rm0 Z x0 x1 h0 n0 v U'.heap L ∧ FrameEnd U o U' L room_1.cells room_1.slots) := by
  refine MetFree.of_bodySF (plainFor_of_name own_pn1) hisR ?_
  intro p e s m args below meth c s₁ Bd hml0 hP hK
  obtain ⟨rfl, hZ, hh⟩ := hP
  have hx := Bd.exec
  have hby := Bd.bytes
  have hml : c.maxLocals = 10 := hml0
  have hown : s.vm.findClass "com/example/bitsieve/bitsieve/FileFormFirstVersionPinLaw" = some m.cls := findClass_of_methodNamed Bd.named
  have hnm := (name_of_methodNamed Bd.named Bd.method).1
  have X0 : Stand p l e room_1 s m #[(.int x0), (.int x1)] below meth c s₁ [] 0 0 := Stand.of_body Bd
  have e0 : s₁.heap = h0 := by rw [← hh, Bd.state]; rfl
  have N0 := Fr.nil n0
  have pre0 : ∀ t, Steps p.tables e below (s₁.setTop (mkF m 0 #[.val (.int x0), .val (.int x1), .unset, .unset, .unset, .unset, .unset, .unset, .unset, .unset] [])) t → Steps p.tables e below (s₁.setTop (entryFrame m #[(.int x0), (.int x1)] maxLocals)) t := fun t k => castTop (own_ef_rm0 m x0 x1) k
  have K22 : ∀ t, Steps p.tables e below (s₁.setTop (mkF m 4 #[.val (.int x0), .val (.int x1), .val (.int (x1 &&& (3 : Int32))), .unset, .unset, .unset, .unset, .unset, .unset, .unset] [])) t → Steps p.tables e below (s₁.setTop (entryFrame m #[(.int x0), (.int x1)] maxLocals)) t := fun t k => pre0 t (by
    show Steps p.tables e below (s₁.setTop (mkF m 0 #[.val (.int x0), .val (.int x1), .unset, .unset, .unset, .unset, .unset, .unset, .unset, .unset] [])) t
    refine XS.iloadN X0.here hx rfl (hb hby at_0) rfl ?_
    show Steps p.tables e below (s₁.setTop (mkF m 1 #[.val (.int x0), .val (.int x1), .unset, .unset, .unset, .unset, .unset, .unset, .unset, .unset] [(.int x1)])) t
    refine XS.iconst X0.here hx rfl (hb hby at_1) ?_
    show Steps p.tables e below (s₁.setTop (mkF m 2 #[.val (.int x0), .val (.int x1), .unset, .unset, .unset, .unset, .unset, .unset, .unset, .unset] [(.int (3 : Int32)), (.int x1)])) t
    refine XS.iand X0.here hx rfl (hb hby at_2) rfl ?_
    show Steps p.tables e below (s₁.setTop (mkF m 3 #[.val (.int x0), .val (.int x1), .unset, .unset, .unset, .unset, .unset, .unset, .unset, .unset] [(.int (x1 &&& (3 : Int32)))])) t
    refine XS.istoreN X0.here hx rfl (hb hby at_3) rfl (l' := #[.val (.int x0), .val (.int x1), .val (.int (x1 &&& (3 : Int32))), .unset, .unset, .unset, .unset, .unset, .unset, .unset]) rfl ?_
    exact k)
  obtain ⟨kd_23, Sp23, K24⟩ : ∃ (kd_23 : Int32), (True) ∧ ∀ t, Steps p.tables e below (s₁.setTop (mkF m 38 #[.val (.int x0), .val (.int x1), .val (.int (x1 &&& (3 : Int32))), .val (.int kd_23), .unset, .unset, .unset, .unset, .unset, .unset] [])) t → Steps p.tables e below (s₁.setTop (entryFrame m #[(.int x0), (.int x1)] maxLocals)) t := by
    have K26 : ∀ t, Steps p.tables e below (s₁.setTop (mkF m 5 #[.val (.int x0), .val (.int x1), .val (.int (x1 &&& (3 : Int32))), .unset, .unset, .unset, .unset, .unset, .unset, .unset] [(.int (x1 &&& (3 : Int32)))])) t → Steps p.tables e below (s₁.setTop (entryFrame m #[(.int x0), (.int x1)] maxLocals)) t := fun t k => K22 t (by
      show Steps p.tables e below (s₁.setTop (mkF m 4 #[.val (.int x0), .val (.int x1), .val (.int (x1 &&& (3 : Int32))), .unset, .unset, .unset, .unset, .unset, .unset, .unset] [])) t
      refine XS.iloadN X0.here hx rfl (hb hby at_4) rfl ?_
      exact k)
    have q27 := rng32 x1
    have q28 := (by decide : (3 : Int32).toInt = 3)
    have q29 := (show (x1 &&& (3 : Int32)).toInt = x1.toInt % 4 from c_mask x1 (3 : Int32) 2 (by decide) (by decide))
    have q30 := rng32 (x1 &&& (3 : Int32))
    have q31 := (by decide : (0 : Int32).toInt = 0)
    by_cases hc25 : (x1 &&& (3 : Int32)) = (0 : Int32)
    · have q32 : (x1 &&& (3 : Int32)).toInt = (0 : Int32).toInt := congrArg Int32.toInt hc25
      have q33 := (by decide : (1 : Int32).toInt = 1)
      refine ⟨(1 : Int32), ?_, fun t k => K26 t ?_⟩
      · trivial
      show Steps p.tables e below (s₁.setTop (mkF m 5 #[.val (.int x0), .val (.int x1), .val (.int (x1 &&& (3 : Int32))), .unset, .unset, .unset, .unset, .unset, .unset, .unset] [(.int (x1 &&& (3 : Int32)))])) t
      refine XS.ifNo X0.here hx rfl (hb hby at_5) rfl ((if0 _ _).trans (teq hc25).2) ?_
      show Steps p.tables e below (s₁.setTop (mkF m 8 #[.val (.int x0), .val (.int x1), .val (.int (x1 &&& (3 : Int32))), .unset, .unset, .unset, .unset, .unset, .unset, .unset] [])) t
      refine XS.iconst X0.here hx rfl (hb hby at_8) ?_
      show Steps p.tables e below (s₁.setTop (mkF m 9 #[.val (.int x0), .val (.int x1), .val (.int (x1 &&& (3 : Int32))), .unset, .unset, .unset, .unset, .unset, .unset, .unset] [(.int (1 : Int32))])) t
      refine XS.istoreN X0.here hx rfl (hb hby at_9) rfl (l' := #[.val (.int x0), .val (.int x1), .val (.int (x1 &&& (3 : Int32))), .val (.int (1 : Int32)), .unset, .unset, .unset, .unset, .unset, .unset]) rfl ?_
      show Steps p.tables e below (s₁.setTop (mkF m 10 #[.val (.int x0), .val (.int x1), .val (.int (x1 &&& (3 : Int32))), .val (.int (1 : Int32)), .unset, .unset, .unset, .unset, .unset, .unset] [])) t
      refine XS.goto X0.here hx rfl (pc0 := 10) (pc' := 38) rfl (hb hby at_10) (by decide) (by decide) ?_
      exact k
    · have q34 : ¬ (x1 &&& (3 : Int32)).toInt = (0 : Int32).toInt := fun q => hc25 (Int32.toInt_inj.mp q)
      have K36 : ∀ t, Steps p.tables e below (s₁.setTop (mkF m 15 #[.val (.int x0), .val (.int x1), .val (.int (x1 &&& (3 : Int32))), .unset, .unset, .unset, .unset, .unset, .unset, .unset] [(.int (1 : Int32)), (.int (x1 &&& (3 : Int32)))])) t → Steps p.tables e below (s₁.setTop (entryFrame m #[(.int x0), (.int x1)] maxLocals)) t := fun t k => K26 t (by
        show Steps p.tables e below (s₁.setTop (mkF m 5 #[.val (.int x0), .val (.int x1), .val (.int (x1 &&& (3 : Int32))), .unset, .unset, .unset, .unset, .unset, .unset, .unset] [(.int (x1 &&& (3 : Int32)))])) t
        refine XS.ifYes X0.here hx rfl (pc0 := 5) (pc' := 13) rfl (hb hby at_5) rfl ((if0 _ _).trans (feq hc25).2) (by decide) (by decide) ?_
        show Steps p.tables e below (s₁.setTop (mkF m 13 #[.val (.int x0), .val (.int x1), .val (.int (x1 &&& (3 : Int32))), .unset, .unset, .unset, .unset, .unset, .unset, .unset] [])) t
        refine XS.iloadN X0.here hx rfl (hb hby at_13) rfl ?_
        show Steps p.tables e below (s₁.setTop (mkF m 14 #[.val (.int x0), .val (.int x1), .val (.int (x1 &&& (3 : Int32))), .unset, .unset, .unset, .unset, .unset, .unset, .unset] [(.int (x1 &&& (3 : Int32)))])) t
        refine XS.iconst X0.here hx rfl (hb hby at_14) ?_
        exact k)
      have q37 := (by decide : (1 : Int32).toInt = 1)
      by_cases hc35 : (x1 &&& (3 : Int32)) = (1 : Int32)
      · have q38 : (x1 &&& (3 : Int32)).toInt = (1 : Int32).toInt := congrArg Int32.toInt hc35
        have q39 := (by decide : (2 : Int32).toInt = 2)
        refine ⟨(2 : Int32), ?_, fun t k => K36 t ?_⟩
        · trivial
        show Steps p.tables e below (s₁.setTop (mkF m 15 #[.val (.int x0), .val (.int x1), .val (.int (x1 &&& (3 : Int32))), .unset, .unset, .unset, .unset, .unset, .unset, .unset] [(.int (1 : Int32)), (.int (x1 &&& (3 : Int32)))])) t
        refine XS.icmpNo X0.here hx rfl (hb hby at_15) rfl (teq hc35).2 ?_
        show Steps p.tables e below (s₁.setTop (mkF m 18 #[.val (.int x0), .val (.int x1), .val (.int (x1 &&& (3 : Int32))), .unset, .unset, .unset, .unset, .unset, .unset, .unset] [])) t
        refine XS.iconst X0.here hx rfl (hb hby at_18) ?_
        show Steps p.tables e below (s₁.setTop (mkF m 19 #[.val (.int x0), .val (.int x1), .val (.int (x1 &&& (3 : Int32))), .unset, .unset, .unset, .unset, .unset, .unset, .unset] [(.int (2 : Int32))])) t
        refine XS.istoreN X0.here hx rfl (hb hby at_19) rfl (l' := #[.val (.int x0), .val (.int x1), .val (.int (x1 &&& (3 : Int32))), .val (.int (2 : Int32)), .unset, .unset, .unset, .unset, .unset, .unset]) rfl ?_
        show Steps p.tables e below (s₁.setTop (mkF m 20 #[.val (.int x0), .val (.int x1), .val (.int (x1 &&& (3 : Int32))), .val (.int (2 : Int32)), .unset, .unset, .unset, .unset, .unset, .unset] [])) t
        refine XS.goto X0.here hx rfl (pc0 := 20) (pc' := 38) rfl (hb hby at_20) (by decide) (by decide) ?_
        exact k
      · have q40 : ¬ (x1 &&& (3 : Int32)).toInt = (1 : Int32).toInt := fun q => hc35 (Int32.toInt_inj.mp q)
        have K42 : ∀ t, Steps p.tables e below (s₁.setTop (mkF m 25 #[.val (.int x0), .val (.int x1), .val (.int (x1 &&& (3 : Int32))), .unset, .unset, .unset, .unset, .unset, .unset, .unset] [(.int (2 : Int32)), (.int (x1 &&& (3 : Int32)))])) t → Steps p.tables e below (s₁.setTop (entryFrame m #[(.int x0), (.int x1)] maxLocals)) t := fun t k => K36 t (by
          show Steps p.tables e below (s₁.setTop (mkF m 15 #[.val (.int x0), .val (.int x1), .val (.int (x1 &&& (3 : Int32))), .unset, .unset, .unset, .unset, .unset, .unset, .unset] [(.int (1 : Int32)), (.int (x1 &&& (3 : Int32)))])) t
          refine XS.icmpYes X0.here hx rfl (pc0 := 15) (pc' := 23) rfl (hb hby at_15) rfl (feq hc35).2 (by decide) (by decide) ?_
          show Steps p.tables e below (s₁.setTop (mkF m 23 #[.val (.int x0), .val (.int x1), .val (.int (x1 &&& (3 : Int32))), .unset, .unset, .unset, .unset, .unset, .unset, .unset] [])) t
          refine XS.iloadN X0.here hx rfl (hb hby at_23) rfl ?_
          show Steps p.tables e below (s₁.setTop (mkF m 24 #[.val (.int x0), .val (.int x1), .val (.int (x1 &&& (3 : Int32))), .unset, .unset, .unset, .unset, .unset, .unset, .unset] [(.int (x1 &&& (3 : Int32)))])) t
          refine XS.iconst X0.here hx rfl (hb hby at_24) ?_
          exact k)
        have q43 := (by decide : (2 : Int32).toInt = 2)
        by_cases hc41 : (x1 &&& (3 : Int32)) = (2 : Int32)
        · have q44 : (x1 &&& (3 : Int32)).toInt = (2 : Int32).toInt := congrArg Int32.toInt hc41
          have q45 := rng32 x0
          have q46 := (by decide : (65535 : Int32).toInt = 65535)
          have q47 := (show (x0 &&& (65535 : Int32)).toInt = x0.toInt % 65536 from c_mask x0 (65535 : Int32) 16 (by decide) (by decide))
          have q48 := rng32 (x0 &&& (65535 : Int32))
          refine ⟨(x0 &&& (65535 : Int32)), ?_, fun t k => K42 t ?_⟩
          · trivial
          show Steps p.tables e below (s₁.setTop (mkF m 25 #[.val (.int x0), .val (.int x1), .val (.int (x1 &&& (3 : Int32))), .unset, .unset, .unset, .unset, .unset, .unset, .unset] [(.int (2 : Int32)), (.int (x1 &&& (3 : Int32)))])) t
          refine XS.icmpNo X0.here hx rfl (hb hby at_25) rfl (teq hc41).2 ?_
          show Steps p.tables e below (s₁.setTop (mkF m 28 #[.val (.int x0), .val (.int x1), .val (.int (x1 &&& (3 : Int32))), .unset, .unset, .unset, .unset, .unset, .unset, .unset] [])) t
          refine XS.iloadN X0.here hx rfl (hb hby at_28) rfl ?_
          show Steps p.tables e below (s₁.setTop (mkF m 29 #[.val (.int x0), .val (.int x1), .val (.int (x1 &&& (3 : Int32))), .unset, .unset, .unset, .unset, .unset, .unset, .unset] [(.int x0)])) t
          refine X0.ldcInt hx hown (mvT hZ (hw _ (List.mem_of_getElem? (i := 8) rfl))) (g := (mkF m 29 #[.val (.int x0), .val (.int x1), .val (.int (x1 &&& (3 : Int32))), .unset, .unset, .unset, .unset, .unset, .unset, .unset] [(.int x0)])) rfl (hb hby at_29) _ ?_
          show Steps p.tables e below (s₁.setTop (mkF m 31 #[.val (.int x0), .val (.int x1), .val (.int (x1 &&& (3 : Int32))), .unset, .unset, .unset, .unset, .unset, .unset, .unset] [(.int (65535 : Int32)), (.int x0)])) t
          refine XS.iand X0.here hx rfl (hb hby at_31) rfl ?_
          show Steps p.tables e below (s₁.setTop (mkF m 32 #[.val (.int x0), .val (.int x1), .val (.int (x1 &&& (3 : Int32))), .unset, .unset, .unset, .unset, .unset, .unset, .unset] [(.int (x0 &&& (65535 : Int32)))])) t
          refine XS.istoreN X0.here hx rfl (hb hby at_32) rfl (l' := #[.val (.int x0), .val (.int x1), .val (.int (x1 &&& (3 : Int32))), .val (.int (x0 &&& (65535 : Int32))), .unset, .unset, .unset, .unset, .unset, .unset]) rfl ?_
          show Steps p.tables e below (s₁.setTop (mkF m 33 #[.val (.int x0), .val (.int x1), .val (.int (x1 &&& (3 : Int32))), .val (.int (x0 &&& (65535 : Int32))), .unset, .unset, .unset, .unset, .unset, .unset] [])) t
          refine XS.goto X0.here hx rfl (pc0 := 33) (pc' := 38) rfl (hb hby at_33) (by decide) (by decide) ?_
          exact k
        · have q49 : ¬ (x1 &&& (3 : Int32)).toInt = (2 : Int32).toInt := fun q => hc41 (Int32.toInt_inj.mp q)
          have q50 := rng32 x0
          refine ⟨x0, ?_, fun t k => K42 t ?_⟩
          · trivial
          show Steps p.tables e below (s₁.setTop (mkF m 25 #[.val (.int x0), .val (.int x1), .val (.int (x1 &&& (3 : Int32))), .unset, .unset, .unset, .unset, .unset, .unset, .unset] [(.int (2 : Int32)), (.int (x1 &&& (3 : Int32)))])) t
          refine XS.icmpYes X0.here hx rfl (pc0 := 25) (pc' := 36) rfl (hb hby at_25) rfl (feq hc41).2 (by decide) (by decide) ?_
          show Steps p.tables e below (s₁.setTop (mkF m 36 #[.val (.int x0), .val (.int x1), .val (.int (x1 &&& (3 : Int32))), .unset, .unset, .unset, .unset, .unset, .unset, .unset] [])) t
          refine XS.iloadN X0.here hx rfl (hb hby at_36) rfl ?_
          show Steps p.tables e below (s₁.setTop (mkF m 37 #[.val (.int x0), .val (.int x1), .val (.int (x1 &&& (3 : Int32))), .unset, .unset, .unset, .unset, .unset, .unset, .unset] [(.int x0)])) t
          refine XS.istoreN X0.here hx rfl (hb hby at_37) rfl (l' := #[.val (.int x0), .val (.int x1), .val (.int (x1 &&& (3 : Int32))), .val (.int x0), .unset, .unset, .unset, .unset, .unset, .unset]) rfl ?_
          exact k
  have K51 : ∀ t, Steps p.tables e below (s₁.setTop (mkF m 39 #[.val (.int x0), .val (.int x1), .val (.int (x1 &&& (3 : Int32))), .val (.int kd_23), .unset, .unset, .unset, .unset, .unset, .unset] [(.int kd_23)])) t → Steps p.tables e below (s₁.setTop (entryFrame m #[(.int x0), (.int x1)] maxLocals)) t := fun t k => K24 t (by
    show Steps p.tables e below (s₁.setTop (mkF m 38 #[.val (.int x0), .val (.int x1), .val (.int (x1 &&& (3 : Int32))), .val (.int kd_23), .unset, .unset, .unset, .unset, .unset, .unset] [])) t
    refine XS.iloadN X0.here hx rfl (hb hby at_38) rfl ?_
    exact k)
  have q52 := rng32 kd_23
  obtain ⟨_, _, ⟨T53, L53, kk53, nn53⟩, -, X53, ⟨Lc53, hQ53, l53, y53, z53⟩, st53⟩ := Jvm.LawKit.callS X0 hx (y := (⟨"com/example/bitsieve/bitsieve/FileForm", "firstVersion", "(I)I"⟩ : MethodName)) hown (mvT hZ (hw _ (List.mem_of_getElem? (i := 0) rfl))) (mvT hZ (hw _ (List.mem_of_getElem? (i := 1) rfl))) (mvT hZ (hw _ (List.mem_of_getElem? (i := 2) rfl))) (mvT hZ (hw _ (List.mem_of_getElem? (i := 3) rfl))) (by decide) (backOf (W := 0) (rm1 l Z a0 hw [] kd_23 h0 n0 Z0) hZ (hw _ (List.mem_of_getElem? (i := 3) rfl)) (hw _ (List.mem_of_getElem? (i := 2) rfl)) (by decide) (by decide)) (g := (mkF m 39 #[.val (.int x0), .val (.int x1), .val (.int (x1 &&& (3 : Int32))), .val (.int kd_23), .unset, .unset, .unset, .unset, .unset, .unset] [(.int kd_23)])) rfl (by rw [hml]; rfl) (argsL := [(.int kd_23)]) (rest := []) (lenOf own_pd0 rfl) rfl (by show 2 * 0 + _ ≤ _; exact Nat.le_of_eq rfl) (hb hby at_39) (fun _ _ => ⟨rfl, e0, (by decide : 0 + 0 ≤ _), (by decide : 0 + 0 ≤ _)⟩)
  dsimp only [Pt.U, Pt.locs, Pt.cells, Pt.slots] at X53 l53 y53 z53 st53 hQ53
  subst l53 y53 z53
  obtain ⟨r_53, rfl, Sp53, Nq53, eh53⟩ := hQ53
  have N54 := Fr.app N0 Nq53
  have K55 : ∀ t, Steps p.tables e below (T53.setTop (mkF m 42 #[.val (.int x0), .val (.int x1), .val (.int (x1 &&& (3 : Int32))), .val (.int kd_23), .unset, .unset, .unset, .unset, .unset, .unset] [(.int r_53)])) t → Steps p.tables e below (s₁.setTop (entryFrame m #[(.int x0), (.int x1)] maxLocals)) t := fun t k => K51 t (st53 _ k)
  have K57 : ∀ t, Steps p.tables e below (T53.setTop (mkF m 46 #[.val (.int x0), .val (.int x1), .val (.int (x1 &&& (3 : Int32))), .val (.int kd_23), .val (.int r_53), .unset, .unset, .unset, .unset, .unset] [(.int (1 : Int32)), (.int kd_23)])) t → Steps p.tables e below (s₁.setTop (entryFrame m #[(.int x0), (.int x1)] maxLocals)) t := fun t k => K55 t (by
    show Steps p.tables e below (T53.setTop (mkF m 42 #[.val (.int x0), .val (.int x1), .val (.int (x1 &&& (3 : Int32))), .val (.int kd_23), .unset, .unset, .unset, .unset, .unset, .unset] [(.int r_53)])) t
    refine XS.istore X53.here hx rfl (hb hby at_42) rfl (l' := #[.val (.int x0), .val (.int x1), .val (.int (x1 &&& (3 : Int32))), .val (.int kd_23), .val (.int r_53), .unset, .unset, .unset, .unset, .unset]) rfl ?_
    show Steps p.tables e below (T53.setTop (mkF m 44 #[.val (.int x0), .val (.int x1), .val (.int (x1 &&& (3 : Int32))), .val (.int kd_23), .val (.int r_53), .unset, .unset, .unset, .unset, .unset] [])) t
    refine XS.iloadN X53.here hx rfl (hb hby at_44) rfl ?_
    show Steps p.tables e below (T53.setTop (mkF m 45 #[.val (.int x0), .val (.int x1), .val (.int (x1 &&& (3 : Int32))), .val (.int kd_23), .val (.int r_53), .unset, .unset, .unset, .unset, .unset] [(.int kd_23)])) t
    refine XS.iconst X53.here hx rfl (hb hby at_45) ?_
    exact k)
  have q58 := (by decide : (1 : Int32).toInt = 1)
  by_cases hc56 : kd_23 = (1 : Int32)
  · have q59 : kd_23.toInt = (1 : Int32).toInt := congrArg Int32.toInt hc56
    have q61 := rng32 r_53
    have hc60 : r_53 = (1 : Int32) := Int32.toInt_inj.mp (by omega)
    have q62 : r_53.toInt = (1 : Int32).toInt := congrArg Int32.toInt hc60
    have q64 := (by decide : (0 : Int32).toInt = 0)
    have hc63 : ¬ (r_53 = (0 : Int32)) := fun q => by have q2 := congrArg Int32.toInt q; omega
    have q65 : ¬ r_53.toInt = (0 : Int32).toInt := fun q => hc63 (Int32.toInt_inj.mp q)
    have hc66 : ¬ (r_53 < (1 : Int32)) := by rw [Int32.lt_iff_toInt_lt]; omega
    have q67 : ¬ r_53.toInt < (1 : Int32).toInt := fun q => hc66 (Int32.lt_iff_toInt_lt.mpr q)
    have q69 := (by decide : (3 : Int32).toInt = 3)
    have hc68 : ¬ ((3 : Int32) < r_53) := by rw [Int32.lt_iff_toInt_lt]; omega
    have q70 : ¬ (3 : Int32).toInt < r_53.toInt := fun q => hc68 (Int32.lt_iff_toInt_lt.mpr q)
    have hc71 : ¬ (r_53 = (0 : Int32)) := fun q => by have q2 := congrArg Int32.toInt q; omega
    have q72 : ¬ r_53.toInt = (0 : Int32).toInt := fun q => hc71 (Int32.toInt_inj.mp q)
    have K73 : ∀ t, Steps p.tables e below (T53.setTop (mkF m 116 #[.val (.int x0), .val (.int x1), .val (.int (x1 &&& (3 : Int32))), .val (.int kd_23), .val (.int r_53), .val (.int (1 : Int32)), .val (.int (1 : Int32)), .val (.int (1 : Int32)), .val (.int (1 : Int32)), .unset] [(.int kd_23)])) t → Steps p.tables e below (s₁.setTop (entryFrame m #[(.int x0), (.int x1)] maxLocals)) t := fun t k => K57 t (by
      show Steps p.tables e below (T53.setTop (mkF m 46 #[.val (.int x0), .val (.int x1), .val (.int (x1 &&& (3 : Int32))), .val (.int kd_23), .val (.int r_53), .unset, .unset, .unset, .unset, .unset] [(.int (1 : Int32)), (.int kd_23)])) t
      refine XS.icmpNo X53.here hx rfl (hb hby at_46) rfl (teq hc56).2 ?_
      show Steps p.tables e below (T53.setTop (mkF m 49 #[.val (.int x0), .val (.int x1), .val (.int (x1 &&& (3 : Int32))), .val (.int kd_23), .val (.int r_53), .unset, .unset, .unset, .unset, .unset] [])) t
      refine XS.iconst X53.here hx rfl (hb hby at_49) ?_
      show Steps p.tables e below (T53.setTop (mkF m 50 #[.val (.int x0), .val (.int x1), .val (.int (x1 &&& (3 : Int32))), .val (.int kd_23), .val (.int r_53), .unset, .unset, .unset, .unset, .unset] [(.int (1 : Int32))])) t
      refine XS.istore X53.here hx rfl (hb hby at_50) rfl (l' := #[.val (.int x0), .val (.int x1), .val (.int (x1 &&& (3 : Int32))), .val (.int kd_23), .val (.int r_53), .val (.int (1 : Int32)), .unset, .unset, .unset, .unset]) rfl ?_
      show Steps p.tables e below (T53.setTop (mkF m 52 #[.val (.int x0), .val (.int x1), .val (.int (x1 &&& (3 : Int32))), .val (.int kd_23), .val (.int r_53), .val (.int (1 : Int32)), .unset, .unset, .unset, .unset] [])) t
      refine XS.goto X53.here hx rfl (pc0 := 52) (pc' := 69) rfl (hb hby at_52) (by decide) (by decide) ?_
      show Steps p.tables e below (T53.setTop (mkF m 69 #[.val (.int x0), .val (.int x1), .val (.int (x1 &&& (3 : Int32))), .val (.int kd_23), .val (.int r_53), .val (.int (1 : Int32)), .unset, .unset, .unset, .unset] [])) t
      refine XS.iload X53.here hx rfl (hb hby at_69) rfl ?_
      show Steps p.tables e below (T53.setTop (mkF m 71 #[.val (.int x0), .val (.int x1), .val (.int (x1 &&& (3 : Int32))), .val (.int kd_23), .val (.int r_53), .val (.int (1 : Int32)), .unset, .unset, .unset, .unset] [(.int r_53)])) t
      refine XS.iload X53.here hx rfl (hb hby at_71) rfl ?_
      show Steps p.tables e below (T53.setTop (mkF m 73 #[.val (.int x0), .val (.int x1), .val (.int (x1 &&& (3 : Int32))), .val (.int kd_23), .val (.int r_53), .val (.int (1 : Int32)), .unset, .unset, .unset, .unset] [(.int (1 : Int32)), (.int r_53)])) t
      refine XS.icmpNo X53.here hx rfl (hb hby at_73) rfl (teq hc60).2 ?_
      show Steps p.tables e below (T53.setTop (mkF m 76 #[.val (.int x0), .val (.int x1), .val (.int (x1 &&& (3 : Int32))), .val (.int kd_23), .val (.int r_53), .val (.int (1 : Int32)), .unset, .unset, .unset, .unset] [])) t
      refine XS.iconst X53.here hx rfl (hb hby at_76) ?_
      show Steps p.tables e below (T53.setTop (mkF m 77 #[.val (.int x0), .val (.int x1), .val (.int (x1 &&& (3 : Int32))), .val (.int kd_23), .val (.int r_53), .val (.int (1 : Int32)), .unset, .unset, .unset, .unset] [(.int (1 : Int32))])) t
      refine XS.goto X53.here hx rfl (pc0 := 77) (pc' := 81) rfl (hb hby at_77) (by decide) (by decide) ?_
      show Steps p.tables e below (T53.setTop (mkF m 81 #[.val (.int x0), .val (.int x1), .val (.int (x1 &&& (3 : Int32))), .val (.int kd_23), .val (.int r_53), .val (.int (1 : Int32)), .unset, .unset, .unset, .unset] [(.int (1 : Int32))])) t
      refine XS.istore X53.here hx rfl (hb hby at_81) rfl (l' := #[.val (.int x0), .val (.int x1), .val (.int (x1 &&& (3 : Int32))), .val (.int kd_23), .val (.int r_53), .val (.int (1 : Int32)), .val (.int (1 : Int32)), .unset, .unset, .unset]) rfl ?_
      show Steps p.tables e below (T53.setTop (mkF m 83 #[.val (.int x0), .val (.int x1), .val (.int (x1 &&& (3 : Int32))), .val (.int kd_23), .val (.int r_53), .val (.int (1 : Int32)), .val (.int (1 : Int32)), .unset, .unset, .unset] [])) t
      refine XS.iload X53.here hx rfl (hb hby at_83) rfl ?_
      show Steps p.tables e below (T53.setTop (mkF m 85 #[.val (.int x0), .val (.int x1), .val (.int (x1 &&& (3 : Int32))), .val (.int kd_23), .val (.int r_53), .val (.int (1 : Int32)), .val (.int (1 : Int32)), .unset, .unset, .unset] [(.int r_53)])) t
      refine XS.ifNo X53.here hx rfl (hb hby at_85) rfl ((if0 _ _).trans (feq hc63).1) ?_
      show Steps p.tables e below (T53.setTop (mkF m 88 #[.val (.int x0), .val (.int x1), .val (.int (x1 &&& (3 : Int32))), .val (.int kd_23), .val (.int r_53), .val (.int (1 : Int32)), .val (.int (1 : Int32)), .unset, .unset, .unset] [])) t
      refine XS.iload X53.here hx rfl (hb hby at_88) rfl ?_
      show Steps p.tables e below (T53.setTop (mkF m 90 #[.val (.int x0), .val (.int x1), .val (.int (x1 &&& (3 : Int32))), .val (.int kd_23), .val (.int r_53), .val (.int (1 : Int32)), .val (.int (1 : Int32)), .unset, .unset, .unset] [(.int r_53)])) t
      refine XS.iconst X53.here hx rfl (hb hby at_90) ?_
      show Steps p.tables e below (T53.setTop (mkF m 91 #[.val (.int x0), .val (.int x1), .val (.int (x1 &&& (3 : Int32))), .val (.int kd_23), .val (.int r_53), .val (.int (1 : Int32)), .val (.int (1 : Int32)), .unset, .unset, .unset] [(.int (1 : Int32)), (.int r_53)])) t
      refine XS.icmpNo X53.here hx rfl (hb hby at_91) rfl (flt hc66).1 ?_
      show Steps p.tables e below (T53.setTop (mkF m 94 #[.val (.int x0), .val (.int x1), .val (.int (x1 &&& (3 : Int32))), .val (.int kd_23), .val (.int r_53), .val (.int (1 : Int32)), .val (.int (1 : Int32)), .unset, .unset, .unset] [])) t
      refine XS.iload X53.here hx rfl (hb hby at_94) rfl ?_
      show Steps p.tables e below (T53.setTop (mkF m 96 #[.val (.int x0), .val (.int x1), .val (.int (x1 &&& (3 : Int32))), .val (.int kd_23), .val (.int r_53), .val (.int (1 : Int32)), .val (.int (1 : Int32)), .unset, .unset, .unset] [(.int r_53)])) t
      refine XS.iconst X53.here hx rfl (hb hby at_96) ?_
      show Steps p.tables e below (T53.setTop (mkF m 97 #[.val (.int x0), .val (.int x1), .val (.int (x1 &&& (3 : Int32))), .val (.int kd_23), .val (.int r_53), .val (.int (1 : Int32)), .val (.int (1 : Int32)), .unset, .unset, .unset] [(.int (3 : Int32)), (.int r_53)])) t
      refine XS.icmpNo X53.here hx rfl (hb hby at_97) rfl (flt hc68).2.2.1 ?_
      show Steps p.tables e below (T53.setTop (mkF m 100 #[.val (.int x0), .val (.int x1), .val (.int (x1 &&& (3 : Int32))), .val (.int kd_23), .val (.int r_53), .val (.int (1 : Int32)), .val (.int (1 : Int32)), .unset, .unset, .unset] [])) t
      refine XS.iconst X53.here hx rfl (hb hby at_100) ?_
      show Steps p.tables e below (T53.setTop (mkF m 101 #[.val (.int x0), .val (.int x1), .val (.int (x1 &&& (3 : Int32))), .val (.int kd_23), .val (.int r_53), .val (.int (1 : Int32)), .val (.int (1 : Int32)), .unset, .unset, .unset] [(.int (1 : Int32))])) t
      refine XS.goto X53.here hx rfl (pc0 := 101) (pc' := 105) rfl (hb hby at_101) (by decide) (by decide) ?_
      show Steps p.tables e below (T53.setTop (mkF m 105 #[.val (.int x0), .val (.int x1), .val (.int (x1 &&& (3 : Int32))), .val (.int kd_23), .val (.int r_53), .val (.int (1 : Int32)), .val (.int (1 : Int32)), .unset, .unset, .unset] [(.int (1 : Int32))])) t
      refine XS.istore X53.here hx rfl (hb hby at_105) rfl (l' := #[.val (.int x0), .val (.int x1), .val (.int (x1 &&& (3 : Int32))), .val (.int kd_23), .val (.int r_53), .val (.int (1 : Int32)), .val (.int (1 : Int32)), .val (.int (1 : Int32)), .unset, .unset]) rfl ?_
      show Steps p.tables e below (T53.setTop (mkF m 107 #[.val (.int x0), .val (.int x1), .val (.int (x1 &&& (3 : Int32))), .val (.int kd_23), .val (.int r_53), .val (.int (1 : Int32)), .val (.int (1 : Int32)), .val (.int (1 : Int32)), .unset, .unset] [])) t
      refine XS.iconst X53.here hx rfl (hb hby at_107) ?_
      show Steps p.tables e below (T53.setTop (mkF m 108 #[.val (.int x0), .val (.int x1), .val (.int (x1 &&& (3 : Int32))), .val (.int kd_23), .val (.int r_53), .val (.int (1 : Int32)), .val (.int (1 : Int32)), .val (.int (1 : Int32)), .unset, .unset] [(.int (1 : Int32))])) t
      refine XS.istore X53.here hx rfl (hb hby at_108) rfl (l' := #[.val (.int x0), .val (.int x1), .val (.int (x1 &&& (3 : Int32))), .val (.int kd_23), .val (.int r_53), .val (.int (1 : Int32)), .val (.int (1 : Int32)), .val (.int (1 : Int32)), .val (.int (1 : Int32)), .unset]) rfl ?_
      show Steps p.tables e below (T53.setTop (mkF m 110 #[.val (.int x0), .val (.int x1), .val (.int (x1 &&& (3 : Int32))), .val (.int kd_23), .val (.int r_53), .val (.int (1 : Int32)), .val (.int (1 : Int32)), .val (.int (1 : Int32)), .val (.int (1 : Int32)), .unset] [])) t
      refine XS.iload X53.here hx rfl (hb hby at_110) rfl ?_
      show Steps p.tables e below (T53.setTop (mkF m 112 #[.val (.int x0), .val (.int x1), .val (.int (x1 &&& (3 : Int32))), .val (.int kd_23), .val (.int r_53), .val (.int (1 : Int32)), .val (.int (1 : Int32)), .val (.int (1 : Int32)), .val (.int (1 : Int32)), .unset] [(.int r_53)])) t
      refine XS.ifNo X53.here hx rfl (hb hby at_112) rfl ((if0 _ _).trans (feq hc71).1) ?_
      show Steps p.tables e below (T53.setTop (mkF m 115 #[.val (.int x0), .val (.int x1), .val (.int (x1 &&& (3 : Int32))), .val (.int kd_23), .val (.int r_53), .val (.int (1 : Int32)), .val (.int (1 : Int32)), .val (.int (1 : Int32)), .val (.int (1 : Int32)), .unset] [])) t
      refine XS.iloadN X53.here hx rfl (hb hby at_115) rfl ?_
      exact k)
    obtain ⟨_, _, ⟨T74, L74, kk74, nn74⟩, -, X74, ⟨Lc74, hQ74, l74, y74, z74⟩, st74⟩ := Jvm.LawKit.callS X53 hx (y := (⟨"com/example/bitsieve/bitsieve/FileForm", "writtenVersion", "(I)I"⟩ : MethodName)) hown (mvT hZ (hw _ (List.mem_of_getElem? (i := 4) rfl))) (mvT hZ (hw _ (List.mem_of_getElem? (i := 5) rfl))) (mvT hZ (hw _ (List.mem_of_getElem? (i := 2) rfl))) (mvT hZ (hw _ (List.mem_of_getElem? (i := 6) rfl))) (by decide) (backOf (W := 0) (rm2 l Z a0 hw [] kd_23 h0 n0 Z0) hZ (hw _ (List.mem_of_getElem? (i := 6) rfl)) (hw _ (List.mem_of_getElem? (i := 2) rfl)) (by decide) (by decide)) (g := (mkF m 116 #[.val (.int x0), .val (.int x1), .val (.int (x1 &&& (3 : Int32))), .val (.int kd_23), .val (.int r_53), .val (.int (1 : Int32)), .val (.int (1 : Int32)), .val (.int (1 : Int32)), .val (.int (1 : Int32)), .unset] [(.int kd_23)])) rfl (by rw [hml]; rfl) (argsL := [(.int kd_23)]) (rest := []) (lenOf own_pd0 rfl) rfl (by show 2 * 0 + _ ≤ _; exact Nat.le_of_eq rfl) (hb hby at_116) (fun _ _ => ⟨rfl, eh53, (by decide : 0 + 0 ≤ _), (by decide : 0 + 0 ≤ _)⟩)
    dsimp only [Pt.U, Pt.locs, Pt.cells, Pt.slots] at X74 l74 y74 z74 st74 hQ74
    subst l74 y74 z74
    obtain ⟨r_74, rfl, Sp74, Nq74, eh74⟩ := hQ74
    have N75 := Fr.app N54 Nq74
    have K76 : ∀ t, Steps p.tables e below (T74.setTop (mkF m 119 #[.val (.int x0), .val (.int x1), .val (.int (x1 &&& (3 : Int32))), .val (.int kd_23), .val (.int r_53), .val (.int (1 : Int32)), .val (.int (1 : Int32)), .val (.int (1 : Int32)), .val (.int (1 : Int32)), .unset] [(.int r_74)])) t → Steps p.tables e below (s₁.setTop (entryFrame m #[(.int x0), (.int x1)] maxLocals)) t := fun t k => K73 t (st74 _ k)
    have q78 := rng32 r_74
    have hc77 : ¬ (r_74 < r_53) := by rw [Int32.lt_iff_toInt_lt]; omega
    have q79 : ¬ r_74.toInt < r_53.toInt := fun q => hc77 (Int32.lt_iff_toInt_lt.mpr q)
    have hc80 : ¬ ((3 : Int32) < r_74) := by rw [Int32.lt_iff_toInt_lt]; omega
    have q81 : ¬ (3 : Int32).toInt < r_74.toInt := fun q => hc80 (Int32.lt_iff_toInt_lt.mpr q)
    have hc82 : ¬ ((1 : Int32) = (0 : Int32)) := fun q => by have q2 := congrArg Int32.toInt q; omega
    have q83 : ¬ (1 : Int32).toInt = (0 : Int32).toInt := fun q => hc82 (Int32.toInt_inj.mp q)
    have hc84 : ¬ ((1 : Int32) = (0 : Int32)) := fun q => by have q2 := congrArg Int32.toInt q; omega
    have q85 : ¬ (1 : Int32).toInt = (0 : Int32).toInt := fun q => hc84 (Int32.toInt_inj.mp q)
    have hc86 : ¬ ((1 : Int32) = (0 : Int32)) := fun q => by have q2 := congrArg Int32.toInt q; omega
    have q87 : ¬ (1 : Int32).toInt = (0 : Int32).toInt := fun q => hc86 (Int32.toInt_inj.mp q)
    have K88 : ∀ t, Steps p.tables e below (T74.setTop (mkF m 161 #[.val (.int x0), .val (.int x1), .val (.int (x1 &&& (3 : Int32))), .val (.int kd_23), .val (.int r_53), .val (.int (1 : Int32)), .val (.int (1 : Int32)), .val (.int (1 : Int32)), .val (.int (1 : Int32)), .val (.int r_74)] [(.int (1 : Int32))])) t → Steps p.tables e below (s₁.setTop (entryFrame m #[(.int x0), (.int x1)] maxLocals)) t := fun t k => K76 t (by
      show Steps p.tables e below (T74.setTop (mkF m 119 #[.val (.int x0), .val (.int x1), .val (.int (x1 &&& (3 : Int32))), .val (.int kd_23), .val (.int r_53), .val (.int (1 : Int32)), .val (.int (1 : Int32)), .val (.int (1 : Int32)), .val (.int (1 : Int32)), .unset] [(.int r_74)])) t
      refine XS.istore X74.here hx rfl (hb hby at_119) rfl (l' := #[.val (.int x0), .val (.int x1), .val (.int (x1 &&& (3 : Int32))), .val (.int kd_23), .val (.int r_53), .val (.int (1 : Int32)), .val (.int (1 : Int32)), .val (.int (1 : Int32)), .val (.int (1 : Int32)), .val (.int r_74)]) rfl ?_
      show Steps p.tables e below (T74.setTop (mkF m 121 #[.val (.int x0), .val (.int x1), .val (.int (x1 &&& (3 : Int32))), .val (.int kd_23), .val (.int r_53), .val (.int (1 : Int32)), .val (.int (1 : Int32)), .val (.int (1 : Int32)), .val (.int (1 : Int32)), .val (.int r_74)] [])) t
      refine XS.iload X74.here hx rfl (hb hby at_121) rfl ?_
      show Steps p.tables e below (T74.setTop (mkF m 123 #[.val (.int x0), .val (.int x1), .val (.int (x1 &&& (3 : Int32))), .val (.int kd_23), .val (.int r_53), .val (.int (1 : Int32)), .val (.int (1 : Int32)), .val (.int (1 : Int32)), .val (.int (1 : Int32)), .val (.int r_74)] [(.int r_53)])) t
      refine XS.iload X74.here hx rfl (hb hby at_123) rfl ?_
      show Steps p.tables e below (T74.setTop (mkF m 125 #[.val (.int x0), .val (.int x1), .val (.int (x1 &&& (3 : Int32))), .val (.int kd_23), .val (.int r_53), .val (.int (1 : Int32)), .val (.int (1 : Int32)), .val (.int (1 : Int32)), .val (.int (1 : Int32)), .val (.int r_74)] [(.int r_74), (.int r_53)])) t
      refine XS.icmpNo X74.here hx rfl (hb hby at_125) rfl (flt hc77).2.2.1 ?_
      show Steps p.tables e below (T74.setTop (mkF m 128 #[.val (.int x0), .val (.int x1), .val (.int (x1 &&& (3 : Int32))), .val (.int kd_23), .val (.int r_53), .val (.int (1 : Int32)), .val (.int (1 : Int32)), .val (.int (1 : Int32)), .val (.int (1 : Int32)), .val (.int r_74)] [])) t
      refine XS.iload X74.here hx rfl (hb hby at_128) rfl ?_
      show Steps p.tables e below (T74.setTop (mkF m 130 #[.val (.int x0), .val (.int x1), .val (.int (x1 &&& (3 : Int32))), .val (.int kd_23), .val (.int r_53), .val (.int (1 : Int32)), .val (.int (1 : Int32)), .val (.int (1 : Int32)), .val (.int (1 : Int32)), .val (.int r_74)] [(.int r_74)])) t
      refine XS.iconst X74.here hx rfl (hb hby at_130) ?_
      show Steps p.tables e below (T74.setTop (mkF m 131 #[.val (.int x0), .val (.int x1), .val (.int (x1 &&& (3 : Int32))), .val (.int kd_23), .val (.int r_53), .val (.int (1 : Int32)), .val (.int (1 : Int32)), .val (.int (1 : Int32)), .val (.int (1 : Int32)), .val (.int r_74)] [(.int (3 : Int32)), (.int r_74)])) t
      refine XS.icmpNo X74.here hx rfl (hb hby at_131) rfl (flt hc80).2.2.1 ?_
      show Steps p.tables e below (T74.setTop (mkF m 134 #[.val (.int x0), .val (.int x1), .val (.int (x1 &&& (3 : Int32))), .val (.int kd_23), .val (.int r_53), .val (.int (1 : Int32)), .val (.int (1 : Int32)), .val (.int (1 : Int32)), .val (.int (1 : Int32)), .val (.int r_74)] [])) t
      refine XS.iconst X74.here hx rfl (hb hby at_134) ?_
      show Steps p.tables e below (T74.setTop (mkF m 135 #[.val (.int x0), .val (.int x1), .val (.int (x1 &&& (3 : Int32))), .val (.int kd_23), .val (.int r_53), .val (.int (1 : Int32)), .val (.int (1 : Int32)), .val (.int (1 : Int32)), .val (.int (1 : Int32)), .val (.int r_74)] [(.int (1 : Int32))])) t
      refine XS.goto X74.here hx rfl (pc0 := 135) (pc' := 139) rfl (hb hby at_135) (by decide) (by decide) ?_
      show Steps p.tables e below (T74.setTop (mkF m 139 #[.val (.int x0), .val (.int x1), .val (.int (x1 &&& (3 : Int32))), .val (.int kd_23), .val (.int r_53), .val (.int (1 : Int32)), .val (.int (1 : Int32)), .val (.int (1 : Int32)), .val (.int (1 : Int32)), .val (.int r_74)] [(.int (1 : Int32))])) t
      refine XS.istore X74.here hx rfl (hb hby at_139) rfl (l' := #[.val (.int x0), .val (.int x1), .val (.int (x1 &&& (3 : Int32))), .val (.int kd_23), .val (.int r_53), .val (.int (1 : Int32)), .val (.int (1 : Int32)), .val (.int (1 : Int32)), .val (.int (1 : Int32)), .val (.int r_74)]) rfl ?_
      show Steps p.tables e below (T74.setTop (mkF m 141 #[.val (.int x0), .val (.int x1), .val (.int (x1 &&& (3 : Int32))), .val (.int kd_23), .val (.int r_53), .val (.int (1 : Int32)), .val (.int (1 : Int32)), .val (.int (1 : Int32)), .val (.int (1 : Int32)), .val (.int r_74)] [])) t
      refine XS.iload X74.here hx rfl (hb hby at_141) rfl ?_
      show Steps p.tables e below (T74.setTop (mkF m 143 #[.val (.int x0), .val (.int x1), .val (.int (x1 &&& (3 : Int32))), .val (.int kd_23), .val (.int r_53), .val (.int (1 : Int32)), .val (.int (1 : Int32)), .val (.int (1 : Int32)), .val (.int (1 : Int32)), .val (.int r_74)] [(.int (1 : Int32))])) t
      refine XS.ifNo X74.here hx rfl (hb hby at_143) rfl ((if0 _ _).trans (feq hc82).1) ?_
      show Steps p.tables e below (T74.setTop (mkF m 146 #[.val (.int x0), .val (.int x1), .val (.int (x1 &&& (3 : Int32))), .val (.int kd_23), .val (.int r_53), .val (.int (1 : Int32)), .val (.int (1 : Int32)), .val (.int (1 : Int32)), .val (.int (1 : Int32)), .val (.int r_74)] [])) t
      refine XS.iload X74.here hx rfl (hb hby at_146) rfl ?_
      show Steps p.tables e below (T74.setTop (mkF m 148 #[.val (.int x0), .val (.int x1), .val (.int (x1 &&& (3 : Int32))), .val (.int kd_23), .val (.int r_53), .val (.int (1 : Int32)), .val (.int (1 : Int32)), .val (.int (1 : Int32)), .val (.int (1 : Int32)), .val (.int r_74)] [(.int (1 : Int32))])) t
      refine XS.ifNo X74.here hx rfl (hb hby at_148) rfl ((if0 _ _).trans (feq hc84).1) ?_
      show Steps p.tables e below (T74.setTop (mkF m 151 #[.val (.int x0), .val (.int x1), .val (.int (x1 &&& (3 : Int32))), .val (.int kd_23), .val (.int r_53), .val (.int (1 : Int32)), .val (.int (1 : Int32)), .val (.int (1 : Int32)), .val (.int (1 : Int32)), .val (.int r_74)] [])) t
      refine XS.iload X74.here hx rfl (hb hby at_151) rfl ?_
      show Steps p.tables e below (T74.setTop (mkF m 153 #[.val (.int x0), .val (.int x1), .val (.int (x1 &&& (3 : Int32))), .val (.int kd_23), .val (.int r_53), .val (.int (1 : Int32)), .val (.int (1 : Int32)), .val (.int (1 : Int32)), .val (.int (1 : Int32)), .val (.int r_74)] [(.int (1 : Int32))])) t
      refine XS.ifNo X74.here hx rfl (hb hby at_153) rfl ((if0 _ _).trans (feq hc86).1) ?_
      show Steps p.tables e below (T74.setTop (mkF m 156 #[.val (.int x0), .val (.int x1), .val (.int (x1 &&& (3 : Int32))), .val (.int kd_23), .val (.int r_53), .val (.int (1 : Int32)), .val (.int (1 : Int32)), .val (.int (1 : Int32)), .val (.int (1 : Int32)), .val (.int r_74)] [])) t
      refine XS.iconst X74.here hx rfl (hb hby at_156) ?_
      show Steps p.tables e below (T74.setTop (mkF m 157 #[.val (.int x0), .val (.int x1), .val (.int (x1 &&& (3 : Int32))), .val (.int kd_23), .val (.int r_53), .val (.int (1 : Int32)), .val (.int (1 : Int32)), .val (.int (1 : Int32)), .val (.int (1 : Int32)), .val (.int r_74)] [(.int (1 : Int32))])) t
      refine XS.goto X74.here hx rfl (pc0 := 157) (pc' := 161) rfl (hb hby at_157) (by decide) (by decide) ?_
      exact k)
    obtain ⟨fs, hr, hrun, hended, hW, hsame⟩ := X74.leave (v := some (.int (1 : Int32))) (fun h => by rw [Bd.returns] at h; cases h)
    refine ⟨_, _, K88 _ ?_, hrun, hended, _, _, rfl, ?_, ⟨_, rfl⟩, hW, hsame.mono (by decide) (by decide)⟩
    · exact retN X74 hx (t := .boolean) Bd.returns (by simp) (hb hby at_161) hr
    · show Q_rm0 Z x0 x1 h0 n0 _ T74.heap _
      rw [eh74]
      exact ⟨rfl, (by trivial), N75, rfl⟩
  · have q89 : ¬ kd_23.toInt = (1 : Int32).toInt := fun q => hc56 (Int32.toInt_inj.mp q)
    have K91 : ∀ t, Steps p.tables e below (T53.setTop (mkF m 57 #[.val (.int x0), .val (.int x1), .val (.int (x1 &&& (3 : Int32))), .val (.int kd_23), .val (.int r_53), .unset, .unset, .unset, .unset, .unset] [(.int (2 : Int32)), (.int kd_23)])) t → Steps p.tables e below (s₁.setTop (entryFrame m #[(.int x0), (.int x1)] maxLocals)) t := fun t k => K57 t (by
      show Steps p.tables e below (T53.setTop (mkF m 46 #[.val (.int x0), .val (.int x1), .val (.int (x1 &&& (3 : Int32))), .val (.int kd_23), .val (.int r_53), .unset, .unset, .unset, .unset, .unset] [(.int (1 : Int32)), (.int kd_23)])) t
      refine XS.icmpYes X53.here hx rfl (pc0 := 46) (pc' := 55) rfl (hb hby at_46) rfl (feq hc56).2 (by decide) (by decide) ?_
      show Steps p.tables e below (T53.setTop (mkF m 55 #[.val (.int x0), .val (.int x1), .val (.int (x1 &&& (3 : Int32))), .val (.int kd_23), .val (.int r_53), .unset, .unset, .unset, .unset, .unset] [])) t
      refine XS.iloadN X53.here hx rfl (hb hby at_55) rfl ?_
      show Steps p.tables e below (T53.setTop (mkF m 56 #[.val (.int x0), .val (.int x1), .val (.int (x1 &&& (3 : Int32))), .val (.int kd_23), .val (.int r_53), .unset, .unset, .unset, .unset, .unset] [(.int kd_23)])) t
      refine XS.iconst X53.here hx rfl (hb hby at_56) ?_
      exact k)
    have q92 := (by decide : (2 : Int32).toInt = 2)
    by_cases hc90 : kd_23 = (2 : Int32)
    · have q93 : kd_23.toInt = (2 : Int32).toInt := congrArg Int32.toInt hc90
      have q95 := rng32 r_53
      have hc94 : r_53 = (2 : Int32) := Int32.toInt_inj.mp (by omega)
      have q96 : r_53.toInt = (2 : Int32).toInt := congrArg Int32.toInt hc94
      have q98 := (by decide : (0 : Int32).toInt = 0)
      have hc97 : ¬ (r_53 = (0 : Int32)) := fun q => by have q2 := congrArg Int32.toInt q; omega
      have q99 : ¬ r_53.toInt = (0 : Int32).toInt := fun q => hc97 (Int32.toInt_inj.mp q)
      have hc100 : ¬ (r_53 < (1 : Int32)) := by rw [Int32.lt_iff_toInt_lt]; omega
      have q101 : ¬ r_53.toInt < (1 : Int32).toInt := fun q => hc100 (Int32.lt_iff_toInt_lt.mpr q)
      have q103 := (by decide : (3 : Int32).toInt = 3)
      have hc102 : ¬ ((3 : Int32) < r_53) := by rw [Int32.lt_iff_toInt_lt]; omega
      have q104 : ¬ (3 : Int32).toInt < r_53.toInt := fun q => hc102 (Int32.lt_iff_toInt_lt.mpr q)
      have hc105 : ¬ (r_53 = (0 : Int32)) := fun q => by have q2 := congrArg Int32.toInt q; omega
      have q106 : ¬ r_53.toInt = (0 : Int32).toInt := fun q => hc105 (Int32.toInt_inj.mp q)
      have K107 : ∀ t, Steps p.tables e below (T53.setTop (mkF m 116 #[.val (.int x0), .val (.int x1), .val (.int (x1 &&& (3 : Int32))), .val (.int kd_23), .val (.int r_53), .val (.int (2 : Int32)), .val (.int (1 : Int32)), .val (.int (1 : Int32)), .val (.int (1 : Int32)), .unset] [(.int kd_23)])) t → Steps p.tables e below (s₁.setTop (entryFrame m #[(.int x0), (.int x1)] maxLocals)) t := fun t k => K91 t (by
        show Steps p.tables e below (T53.setTop (mkF m 57 #[.val (.int x0), .val (.int x1), .val (.int (x1 &&& (3 : Int32))), .val (.int kd_23), .val (.int r_53), .unset, .unset, .unset, .unset, .unset] [(.int (2 : Int32)), (.int kd_23)])) t
        refine XS.icmpNo X53.here hx rfl (hb hby at_57) rfl (teq hc90).2 ?_
        show Steps p.tables e below (T53.setTop (mkF m 60 #[.val (.int x0), .val (.int x1), .val (.int (x1 &&& (3 : Int32))), .val (.int kd_23), .val (.int r_53), .unset, .unset, .unset, .unset, .unset] [])) t
        refine XS.iconst X53.here hx rfl (hb hby at_60) ?_
        show Steps p.tables e below (T53.setTop (mkF m 61 #[.val (.int x0), .val (.int x1), .val (.int (x1 &&& (3 : Int32))), .val (.int kd_23), .val (.int r_53), .unset, .unset, .unset, .unset, .unset] [(.int (2 : Int32))])) t
        refine XS.istore X53.here hx rfl (hb hby at_61) rfl (l' := #[.val (.int x0), .val (.int x1), .val (.int (x1 &&& (3 : Int32))), .val (.int kd_23), .val (.int r_53), .val (.int (2 : Int32)), .unset, .unset, .unset, .unset]) rfl ?_
        show Steps p.tables e below (T53.setTop (mkF m 63 #[.val (.int x0), .val (.int x1), .val (.int (x1 &&& (3 : Int32))), .val (.int kd_23), .val (.int r_53), .val (.int (2 : Int32)), .unset, .unset, .unset, .unset] [])) t
        refine XS.goto X53.here hx rfl (pc0 := 63) (pc' := 69) rfl (hb hby at_63) (by decide) (by decide) ?_
        show Steps p.tables e below (T53.setTop (mkF m 69 #[.val (.int x0), .val (.int x1), .val (.int (x1 &&& (3 : Int32))), .val (.int kd_23), .val (.int r_53), .val (.int (2 : Int32)), .unset, .unset, .unset, .unset] [])) t
        refine XS.iload X53.here hx rfl (hb hby at_69) rfl ?_
        show Steps p.tables e below (T53.setTop (mkF m 71 #[.val (.int x0), .val (.int x1), .val (.int (x1 &&& (3 : Int32))), .val (.int kd_23), .val (.int r_53), .val (.int (2 : Int32)), .unset, .unset, .unset, .unset] [(.int r_53)])) t
        refine XS.iload X53.here hx rfl (hb hby at_71) rfl ?_
        show Steps p.tables e below (T53.setTop (mkF m 73 #[.val (.int x0), .val (.int x1), .val (.int (x1 &&& (3 : Int32))), .val (.int kd_23), .val (.int r_53), .val (.int (2 : Int32)), .unset, .unset, .unset, .unset] [(.int (2 : Int32)), (.int r_53)])) t
        refine XS.icmpNo X53.here hx rfl (hb hby at_73) rfl (teq hc94).2 ?_
        show Steps p.tables e below (T53.setTop (mkF m 76 #[.val (.int x0), .val (.int x1), .val (.int (x1 &&& (3 : Int32))), .val (.int kd_23), .val (.int r_53), .val (.int (2 : Int32)), .unset, .unset, .unset, .unset] [])) t
        refine XS.iconst X53.here hx rfl (hb hby at_76) ?_
        show Steps p.tables e below (T53.setTop (mkF m 77 #[.val (.int x0), .val (.int x1), .val (.int (x1 &&& (3 : Int32))), .val (.int kd_23), .val (.int r_53), .val (.int (2 : Int32)), .unset, .unset, .unset, .unset] [(.int (1 : Int32))])) t
        refine XS.goto X53.here hx rfl (pc0 := 77) (pc' := 81) rfl (hb hby at_77) (by decide) (by decide) ?_
        show Steps p.tables e below (T53.setTop (mkF m 81 #[.val (.int x0), .val (.int x1), .val (.int (x1 &&& (3 : Int32))), .val (.int kd_23), .val (.int r_53), .val (.int (2 : Int32)), .unset, .unset, .unset, .unset] [(.int (1 : Int32))])) t
        refine XS.istore X53.here hx rfl (hb hby at_81) rfl (l' := #[.val (.int x0), .val (.int x1), .val (.int (x1 &&& (3 : Int32))), .val (.int kd_23), .val (.int r_53), .val (.int (2 : Int32)), .val (.int (1 : Int32)), .unset, .unset, .unset]) rfl ?_
        show Steps p.tables e below (T53.setTop (mkF m 83 #[.val (.int x0), .val (.int x1), .val (.int (x1 &&& (3 : Int32))), .val (.int kd_23), .val (.int r_53), .val (.int (2 : Int32)), .val (.int (1 : Int32)), .unset, .unset, .unset] [])) t
        refine XS.iload X53.here hx rfl (hb hby at_83) rfl ?_
        show Steps p.tables e below (T53.setTop (mkF m 85 #[.val (.int x0), .val (.int x1), .val (.int (x1 &&& (3 : Int32))), .val (.int kd_23), .val (.int r_53), .val (.int (2 : Int32)), .val (.int (1 : Int32)), .unset, .unset, .unset] [(.int r_53)])) t
        refine XS.ifNo X53.here hx rfl (hb hby at_85) rfl ((if0 _ _).trans (feq hc97).1) ?_
        show Steps p.tables e below (T53.setTop (mkF m 88 #[.val (.int x0), .val (.int x1), .val (.int (x1 &&& (3 : Int32))), .val (.int kd_23), .val (.int r_53), .val (.int (2 : Int32)), .val (.int (1 : Int32)), .unset, .unset, .unset] [])) t
        refine XS.iload X53.here hx rfl (hb hby at_88) rfl ?_
        show Steps p.tables e below (T53.setTop (mkF m 90 #[.val (.int x0), .val (.int x1), .val (.int (x1 &&& (3 : Int32))), .val (.int kd_23), .val (.int r_53), .val (.int (2 : Int32)), .val (.int (1 : Int32)), .unset, .unset, .unset] [(.int r_53)])) t
        refine XS.iconst X53.here hx rfl (hb hby at_90) ?_
        show Steps p.tables e below (T53.setTop (mkF m 91 #[.val (.int x0), .val (.int x1), .val (.int (x1 &&& (3 : Int32))), .val (.int kd_23), .val (.int r_53), .val (.int (2 : Int32)), .val (.int (1 : Int32)), .unset, .unset, .unset] [(.int (1 : Int32)), (.int r_53)])) t
        refine XS.icmpNo X53.here hx rfl (hb hby at_91) rfl (flt hc100).1 ?_
        show Steps p.tables e below (T53.setTop (mkF m 94 #[.val (.int x0), .val (.int x1), .val (.int (x1 &&& (3 : Int32))), .val (.int kd_23), .val (.int r_53), .val (.int (2 : Int32)), .val (.int (1 : Int32)), .unset, .unset, .unset] [])) t
        refine XS.iload X53.here hx rfl (hb hby at_94) rfl ?_
        show Steps p.tables e below (T53.setTop (mkF m 96 #[.val (.int x0), .val (.int x1), .val (.int (x1 &&& (3 : Int32))), .val (.int kd_23), .val (.int r_53), .val (.int (2 : Int32)), .val (.int (1 : Int32)), .unset, .unset, .unset] [(.int r_53)])) t
        refine XS.iconst X53.here hx rfl (hb hby at_96) ?_
        show Steps p.tables e below (T53.setTop (mkF m 97 #[.val (.int x0), .val (.int x1), .val (.int (x1 &&& (3 : Int32))), .val (.int kd_23), .val (.int r_53), .val (.int (2 : Int32)), .val (.int (1 : Int32)), .unset, .unset, .unset] [(.int (3 : Int32)), (.int r_53)])) t
        refine XS.icmpNo X53.here hx rfl (hb hby at_97) rfl (flt hc102).2.2.1 ?_
        show Steps p.tables e below (T53.setTop (mkF m 100 #[.val (.int x0), .val (.int x1), .val (.int (x1 &&& (3 : Int32))), .val (.int kd_23), .val (.int r_53), .val (.int (2 : Int32)), .val (.int (1 : Int32)), .unset, .unset, .unset] [])) t
        refine XS.iconst X53.here hx rfl (hb hby at_100) ?_
        show Steps p.tables e below (T53.setTop (mkF m 101 #[.val (.int x0), .val (.int x1), .val (.int (x1 &&& (3 : Int32))), .val (.int kd_23), .val (.int r_53), .val (.int (2 : Int32)), .val (.int (1 : Int32)), .unset, .unset, .unset] [(.int (1 : Int32))])) t
        refine XS.goto X53.here hx rfl (pc0 := 101) (pc' := 105) rfl (hb hby at_101) (by decide) (by decide) ?_
        show Steps p.tables e below (T53.setTop (mkF m 105 #[.val (.int x0), .val (.int x1), .val (.int (x1 &&& (3 : Int32))), .val (.int kd_23), .val (.int r_53), .val (.int (2 : Int32)), .val (.int (1 : Int32)), .unset, .unset, .unset] [(.int (1 : Int32))])) t
        refine XS.istore X53.here hx rfl (hb hby at_105) rfl (l' := #[.val (.int x0), .val (.int x1), .val (.int (x1 &&& (3 : Int32))), .val (.int kd_23), .val (.int r_53), .val (.int (2 : Int32)), .val (.int (1 : Int32)), .val (.int (1 : Int32)), .unset, .unset]) rfl ?_
        show Steps p.tables e below (T53.setTop (mkF m 107 #[.val (.int x0), .val (.int x1), .val (.int (x1 &&& (3 : Int32))), .val (.int kd_23), .val (.int r_53), .val (.int (2 : Int32)), .val (.int (1 : Int32)), .val (.int (1 : Int32)), .unset, .unset] [])) t
        refine XS.iconst X53.here hx rfl (hb hby at_107) ?_
        show Steps p.tables e below (T53.setTop (mkF m 108 #[.val (.int x0), .val (.int x1), .val (.int (x1 &&& (3 : Int32))), .val (.int kd_23), .val (.int r_53), .val (.int (2 : Int32)), .val (.int (1 : Int32)), .val (.int (1 : Int32)), .unset, .unset] [(.int (1 : Int32))])) t
        refine XS.istore X53.here hx rfl (hb hby at_108) rfl (l' := #[.val (.int x0), .val (.int x1), .val (.int (x1 &&& (3 : Int32))), .val (.int kd_23), .val (.int r_53), .val (.int (2 : Int32)), .val (.int (1 : Int32)), .val (.int (1 : Int32)), .val (.int (1 : Int32)), .unset]) rfl ?_
        show Steps p.tables e below (T53.setTop (mkF m 110 #[.val (.int x0), .val (.int x1), .val (.int (x1 &&& (3 : Int32))), .val (.int kd_23), .val (.int r_53), .val (.int (2 : Int32)), .val (.int (1 : Int32)), .val (.int (1 : Int32)), .val (.int (1 : Int32)), .unset] [])) t
        refine XS.iload X53.here hx rfl (hb hby at_110) rfl ?_
        show Steps p.tables e below (T53.setTop (mkF m 112 #[.val (.int x0), .val (.int x1), .val (.int (x1 &&& (3 : Int32))), .val (.int kd_23), .val (.int r_53), .val (.int (2 : Int32)), .val (.int (1 : Int32)), .val (.int (1 : Int32)), .val (.int (1 : Int32)), .unset] [(.int r_53)])) t
        refine XS.ifNo X53.here hx rfl (hb hby at_112) rfl ((if0 _ _).trans (feq hc105).1) ?_
        show Steps p.tables e below (T53.setTop (mkF m 115 #[.val (.int x0), .val (.int x1), .val (.int (x1 &&& (3 : Int32))), .val (.int kd_23), .val (.int r_53), .val (.int (2 : Int32)), .val (.int (1 : Int32)), .val (.int (1 : Int32)), .val (.int (1 : Int32)), .unset] [])) t
        refine XS.iloadN X53.here hx rfl (hb hby at_115) rfl ?_
        exact k)
      obtain ⟨_, _, ⟨T108, L108, kk108, nn108⟩, -, X108, ⟨Lc108, hQ108, l108, y108, z108⟩, st108⟩ := Jvm.LawKit.callS X53 hx (y := (⟨"com/example/bitsieve/bitsieve/FileForm", "writtenVersion", "(I)I"⟩ : MethodName)) hown (mvT hZ (hw _ (List.mem_of_getElem? (i := 4) rfl))) (mvT hZ (hw _ (List.mem_of_getElem? (i := 5) rfl))) (mvT hZ (hw _ (List.mem_of_getElem? (i := 2) rfl))) (mvT hZ (hw _ (List.mem_of_getElem? (i := 6) rfl))) (by decide) (backOf (W := 0) (rm2 l Z a0 hw [] kd_23 h0 n0 Z0) hZ (hw _ (List.mem_of_getElem? (i := 6) rfl)) (hw _ (List.mem_of_getElem? (i := 2) rfl)) (by decide) (by decide)) (g := (mkF m 116 #[.val (.int x0), .val (.int x1), .val (.int (x1 &&& (3 : Int32))), .val (.int kd_23), .val (.int r_53), .val (.int (2 : Int32)), .val (.int (1 : Int32)), .val (.int (1 : Int32)), .val (.int (1 : Int32)), .unset] [(.int kd_23)])) rfl (by rw [hml]; rfl) (argsL := [(.int kd_23)]) (rest := []) (lenOf own_pd0 rfl) rfl (by show 2 * 0 + _ ≤ _; exact Nat.le_of_eq rfl) (hb hby at_116) (fun _ _ => ⟨rfl, eh53, (by decide : 0 + 0 ≤ _), (by decide : 0 + 0 ≤ _)⟩)
      dsimp only [Pt.U, Pt.locs, Pt.cells, Pt.slots] at X108 l108 y108 z108 st108 hQ108
      subst l108 y108 z108
      obtain ⟨r_108, rfl, Sp108, Nq108, eh108⟩ := hQ108
      have N109 := Fr.app N54 Nq108
      have K110 : ∀ t, Steps p.tables e below (T108.setTop (mkF m 119 #[.val (.int x0), .val (.int x1), .val (.int (x1 &&& (3 : Int32))), .val (.int kd_23), .val (.int r_53), .val (.int (2 : Int32)), .val (.int (1 : Int32)), .val (.int (1 : Int32)), .val (.int (1 : Int32)), .unset] [(.int r_108)])) t → Steps p.tables e below (s₁.setTop (entryFrame m #[(.int x0), (.int x1)] maxLocals)) t := fun t k => K107 t (st108 _ k)
      have q112 := rng32 r_108
      have hc111 : ¬ (r_108 < r_53) := by rw [Int32.lt_iff_toInt_lt]; omega
      have q113 : ¬ r_108.toInt < r_53.toInt := fun q => hc111 (Int32.lt_iff_toInt_lt.mpr q)
      have hc114 : ¬ ((3 : Int32) < r_108) := by rw [Int32.lt_iff_toInt_lt]; omega
      have q115 : ¬ (3 : Int32).toInt < r_108.toInt := fun q => hc114 (Int32.lt_iff_toInt_lt.mpr q)
      have hc116 : ¬ ((1 : Int32) = (0 : Int32)) := fun q => by have q2 := congrArg Int32.toInt q; omega
      have q117 : ¬ (1 : Int32).toInt = (0 : Int32).toInt := fun q => hc116 (Int32.toInt_inj.mp q)
      have hc118 : ¬ ((1 : Int32) = (0 : Int32)) := fun q => by have q2 := congrArg Int32.toInt q; omega
      have q119 : ¬ (1 : Int32).toInt = (0 : Int32).toInt := fun q => hc118 (Int32.toInt_inj.mp q)
      have hc120 : ¬ ((1 : Int32) = (0 : Int32)) := fun q => by have q2 := congrArg Int32.toInt q; omega
      have q121 : ¬ (1 : Int32).toInt = (0 : Int32).toInt := fun q => hc120 (Int32.toInt_inj.mp q)
      have K122 : ∀ t, Steps p.tables e below (T108.setTop (mkF m 161 #[.val (.int x0), .val (.int x1), .val (.int (x1 &&& (3 : Int32))), .val (.int kd_23), .val (.int r_53), .val (.int (2 : Int32)), .val (.int (1 : Int32)), .val (.int (1 : Int32)), .val (.int (1 : Int32)), .val (.int r_108)] [(.int (1 : Int32))])) t → Steps p.tables e below (s₁.setTop (entryFrame m #[(.int x0), (.int x1)] maxLocals)) t := fun t k => K110 t (by
        show Steps p.tables e below (T108.setTop (mkF m 119 #[.val (.int x0), .val (.int x1), .val (.int (x1 &&& (3 : Int32))), .val (.int kd_23), .val (.int r_53), .val (.int (2 : Int32)), .val (.int (1 : Int32)), .val (.int (1 : Int32)), .val (.int (1 : Int32)), .unset] [(.int r_108)])) t
        refine XS.istore X108.here hx rfl (hb hby at_119) rfl (l' := #[.val (.int x0), .val (.int x1), .val (.int (x1 &&& (3 : Int32))), .val (.int kd_23), .val (.int r_53), .val (.int (2 : Int32)), .val (.int (1 : Int32)), .val (.int (1 : Int32)), .val (.int (1 : Int32)), .val (.int r_108)]) rfl ?_
        show Steps p.tables e below (T108.setTop (mkF m 121 #[.val (.int x0), .val (.int x1), .val (.int (x1 &&& (3 : Int32))), .val (.int kd_23), .val (.int r_53), .val (.int (2 : Int32)), .val (.int (1 : Int32)), .val (.int (1 : Int32)), .val (.int (1 : Int32)), .val (.int r_108)] [])) t
        refine XS.iload X108.here hx rfl (hb hby at_121) rfl ?_
        show Steps p.tables e below (T108.setTop (mkF m 123 #[.val (.int x0), .val (.int x1), .val (.int (x1 &&& (3 : Int32))), .val (.int kd_23), .val (.int r_53), .val (.int (2 : Int32)), .val (.int (1 : Int32)), .val (.int (1 : Int32)), .val (.int (1 : Int32)), .val (.int r_108)] [(.int r_53)])) t
        refine XS.iload X108.here hx rfl (hb hby at_123) rfl ?_
        show Steps p.tables e below (T108.setTop (mkF m 125 #[.val (.int x0), .val (.int x1), .val (.int (x1 &&& (3 : Int32))), .val (.int kd_23), .val (.int r_53), .val (.int (2 : Int32)), .val (.int (1 : Int32)), .val (.int (1 : Int32)), .val (.int (1 : Int32)), .val (.int r_108)] [(.int r_108), (.int r_53)])) t
        refine XS.icmpNo X108.here hx rfl (hb hby at_125) rfl (flt hc111).2.2.1 ?_
        show Steps p.tables e below (T108.setTop (mkF m 128 #[.val (.int x0), .val (.int x1), .val (.int (x1 &&& (3 : Int32))), .val (.int kd_23), .val (.int r_53), .val (.int (2 : Int32)), .val (.int (1 : Int32)), .val (.int (1 : Int32)), .val (.int (1 : Int32)), .val (.int r_108)] [])) t
        refine XS.iload X108.here hx rfl (hb hby at_128) rfl ?_
        show Steps p.tables e below (T108.setTop (mkF m 130 #[.val (.int x0), .val (.int x1), .val (.int (x1 &&& (3 : Int32))), .val (.int kd_23), .val (.int r_53), .val (.int (2 : Int32)), .val (.int (1 : Int32)), .val (.int (1 : Int32)), .val (.int (1 : Int32)), .val (.int r_108)] [(.int r_108)])) t
        refine XS.iconst X108.here hx rfl (hb hby at_130) ?_
        show Steps p.tables e below (T108.setTop (mkF m 131 #[.val (.int x0), .val (.int x1), .val (.int (x1 &&& (3 : Int32))), .val (.int kd_23), .val (.int r_53), .val (.int (2 : Int32)), .val (.int (1 : Int32)), .val (.int (1 : Int32)), .val (.int (1 : Int32)), .val (.int r_108)] [(.int (3 : Int32)), (.int r_108)])) t
        refine XS.icmpNo X108.here hx rfl (hb hby at_131) rfl (flt hc114).2.2.1 ?_
        show Steps p.tables e below (T108.setTop (mkF m 134 #[.val (.int x0), .val (.int x1), .val (.int (x1 &&& (3 : Int32))), .val (.int kd_23), .val (.int r_53), .val (.int (2 : Int32)), .val (.int (1 : Int32)), .val (.int (1 : Int32)), .val (.int (1 : Int32)), .val (.int r_108)] [])) t
        refine XS.iconst X108.here hx rfl (hb hby at_134) ?_
        show Steps p.tables e below (T108.setTop (mkF m 135 #[.val (.int x0), .val (.int x1), .val (.int (x1 &&& (3 : Int32))), .val (.int kd_23), .val (.int r_53), .val (.int (2 : Int32)), .val (.int (1 : Int32)), .val (.int (1 : Int32)), .val (.int (1 : Int32)), .val (.int r_108)] [(.int (1 : Int32))])) t
        refine XS.goto X108.here hx rfl (pc0 := 135) (pc' := 139) rfl (hb hby at_135) (by decide) (by decide) ?_
        show Steps p.tables e below (T108.setTop (mkF m 139 #[.val (.int x0), .val (.int x1), .val (.int (x1 &&& (3 : Int32))), .val (.int kd_23), .val (.int r_53), .val (.int (2 : Int32)), .val (.int (1 : Int32)), .val (.int (1 : Int32)), .val (.int (1 : Int32)), .val (.int r_108)] [(.int (1 : Int32))])) t
        refine XS.istore X108.here hx rfl (hb hby at_139) rfl (l' := #[.val (.int x0), .val (.int x1), .val (.int (x1 &&& (3 : Int32))), .val (.int kd_23), .val (.int r_53), .val (.int (2 : Int32)), .val (.int (1 : Int32)), .val (.int (1 : Int32)), .val (.int (1 : Int32)), .val (.int r_108)]) rfl ?_
        show Steps p.tables e below (T108.setTop (mkF m 141 #[.val (.int x0), .val (.int x1), .val (.int (x1 &&& (3 : Int32))), .val (.int kd_23), .val (.int r_53), .val (.int (2 : Int32)), .val (.int (1 : Int32)), .val (.int (1 : Int32)), .val (.int (1 : Int32)), .val (.int r_108)] [])) t
        refine XS.iload X108.here hx rfl (hb hby at_141) rfl ?_
        show Steps p.tables e below (T108.setTop (mkF m 143 #[.val (.int x0), .val (.int x1), .val (.int (x1 &&& (3 : Int32))), .val (.int kd_23), .val (.int r_53), .val (.int (2 : Int32)), .val (.int (1 : Int32)), .val (.int (1 : Int32)), .val (.int (1 : Int32)), .val (.int r_108)] [(.int (1 : Int32))])) t
        refine XS.ifNo X108.here hx rfl (hb hby at_143) rfl ((if0 _ _).trans (feq hc116).1) ?_
        show Steps p.tables e below (T108.setTop (mkF m 146 #[.val (.int x0), .val (.int x1), .val (.int (x1 &&& (3 : Int32))), .val (.int kd_23), .val (.int r_53), .val (.int (2 : Int32)), .val (.int (1 : Int32)), .val (.int (1 : Int32)), .val (.int (1 : Int32)), .val (.int r_108)] [])) t
        refine XS.iload X108.here hx rfl (hb hby at_146) rfl ?_
        show Steps p.tables e below (T108.setTop (mkF m 148 #[.val (.int x0), .val (.int x1), .val (.int (x1 &&& (3 : Int32))), .val (.int kd_23), .val (.int r_53), .val (.int (2 : Int32)), .val (.int (1 : Int32)), .val (.int (1 : Int32)), .val (.int (1 : Int32)), .val (.int r_108)] [(.int (1 : Int32))])) t
        refine XS.ifNo X108.here hx rfl (hb hby at_148) rfl ((if0 _ _).trans (feq hc118).1) ?_
        show Steps p.tables e below (T108.setTop (mkF m 151 #[.val (.int x0), .val (.int x1), .val (.int (x1 &&& (3 : Int32))), .val (.int kd_23), .val (.int r_53), .val (.int (2 : Int32)), .val (.int (1 : Int32)), .val (.int (1 : Int32)), .val (.int (1 : Int32)), .val (.int r_108)] [])) t
        refine XS.iload X108.here hx rfl (hb hby at_151) rfl ?_
        show Steps p.tables e below (T108.setTop (mkF m 153 #[.val (.int x0), .val (.int x1), .val (.int (x1 &&& (3 : Int32))), .val (.int kd_23), .val (.int r_53), .val (.int (2 : Int32)), .val (.int (1 : Int32)), .val (.int (1 : Int32)), .val (.int (1 : Int32)), .val (.int r_108)] [(.int (1 : Int32))])) t
        refine XS.ifNo X108.here hx rfl (hb hby at_153) rfl ((if0 _ _).trans (feq hc120).1) ?_
        show Steps p.tables e below (T108.setTop (mkF m 156 #[.val (.int x0), .val (.int x1), .val (.int (x1 &&& (3 : Int32))), .val (.int kd_23), .val (.int r_53), .val (.int (2 : Int32)), .val (.int (1 : Int32)), .val (.int (1 : Int32)), .val (.int (1 : Int32)), .val (.int r_108)] [])) t
        refine XS.iconst X108.here hx rfl (hb hby at_156) ?_
        show Steps p.tables e below (T108.setTop (mkF m 157 #[.val (.int x0), .val (.int x1), .val (.int (x1 &&& (3 : Int32))), .val (.int kd_23), .val (.int r_53), .val (.int (2 : Int32)), .val (.int (1 : Int32)), .val (.int (1 : Int32)), .val (.int (1 : Int32)), .val (.int r_108)] [(.int (1 : Int32))])) t
        refine XS.goto X108.here hx rfl (pc0 := 157) (pc' := 161) rfl (hb hby at_157) (by decide) (by decide) ?_
        exact k)
      obtain ⟨fs, hr, hrun, hended, hW, hsame⟩ := X108.leave (v := some (.int (1 : Int32))) (fun h => by rw [Bd.returns] at h; cases h)
      refine ⟨_, _, K122 _ ?_, hrun, hended, _, _, rfl, ?_, ⟨_, rfl⟩, hW, hsame.mono (by decide) (by decide)⟩
      · exact retN X108 hx (t := .boolean) Bd.returns (by simp) (hb hby at_161) hr
      · show Q_rm0 Z x0 x1 h0 n0 _ T108.heap _
        rw [eh108]
        exact ⟨rfl, (by trivial), N109, rfl⟩
    · have q123 : ¬ kd_23.toInt = (2 : Int32).toInt := fun q => hc90 (Int32.toInt_inj.mp q)
      have q125 := rng32 r_53
      have q126 := (by decide : (0 : Int32).toInt = 0)
      have hc124 : r_53 = (0 : Int32) := Int32.toInt_inj.mp (by omega)
      have q127 : r_53.toInt = (0 : Int32).toInt := congrArg Int32.toInt hc124
      have hc128 : r_53 = (0 : Int32) := Int32.toInt_inj.mp (by omega)
      have q129 : r_53.toInt = (0 : Int32).toInt := congrArg Int32.toInt hc128
      have hc130 : r_53 = (0 : Int32) := Int32.toInt_inj.mp (by omega)
      have q131 : r_53.toInt = (0 : Int32).toInt := congrArg Int32.toInt hc130
      have hc132 : ¬ ((1 : Int32) = (0 : Int32)) := fun q => by have q2 := congrArg Int32.toInt q; omega
      have q133 : ¬ (1 : Int32).toInt = (0 : Int32).toInt := fun q => hc132 (Int32.toInt_inj.mp q)
      have hc134 : ¬ ((1 : Int32) = (0 : Int32)) := fun q => by have q2 := congrArg Int32.toInt q; omega
      have q135 : ¬ (1 : Int32).toInt = (0 : Int32).toInt := fun q => hc134 (Int32.toInt_inj.mp q)
      have hc136 : ¬ ((1 : Int32) = (0 : Int32)) := fun q => by have q2 := congrArg Int32.toInt q; omega
      have q137 : ¬ (1 : Int32).toInt = (0 : Int32).toInt := fun q => hc136 (Int32.toInt_inj.mp q)
      have K138 : ∀ t, Steps p.tables e below (T53.setTop (mkF m 161 #[.val (.int x0), .val (.int x1), .val (.int (x1 &&& (3 : Int32))), .val (.int kd_23), .val (.int r_53), .val (.int (0 : Int32)), .val (.int (1 : Int32)), .val (.int (1 : Int32)), .val (.int (1 : Int32)), .unset] [(.int (1 : Int32))])) t → Steps p.tables e below (s₁.setTop (entryFrame m #[(.int x0), (.int x1)] maxLocals)) t := fun t k => K91 t (by
        show Steps p.tables e below (T53.setTop (mkF m 57 #[.val (.int x0), .val (.int x1), .val (.int (x1 &&& (3 : Int32))), .val (.int kd_23), .val (.int r_53), .unset, .unset, .unset, .unset, .unset] [(.int (2 : Int32)), (.int kd_23)])) t
        refine XS.icmpYes X53.here hx rfl (pc0 := 57) (pc' := 66) rfl (hb hby at_57) rfl (feq hc90).2 (by decide) (by decide) ?_
        show Steps p.tables e below (T53.setTop (mkF m 66 #[.val (.int x0), .val (.int x1), .val (.int (x1 &&& (3 : Int32))), .val (.int kd_23), .val (.int r_53), .unset, .unset, .unset, .unset, .unset] [])) t
        refine XS.iconst X53.here hx rfl (hb hby at_66) ?_
        show Steps p.tables e below (T53.setTop (mkF m 67 #[.val (.int x0), .val (.int x1), .val (.int (x1 &&& (3 : Int32))), .val (.int kd_23), .val (.int r_53), .unset, .unset, .unset, .unset, .unset] [(.int (0 : Int32))])) t
        refine XS.istore X53.here hx rfl (hb hby at_67) rfl (l' := #[.val (.int x0), .val (.int x1), .val (.int (x1 &&& (3 : Int32))), .val (.int kd_23), .val (.int r_53), .val (.int (0 : Int32)), .unset, .unset, .unset, .unset]) rfl ?_
        show Steps p.tables e below (T53.setTop (mkF m 69 #[.val (.int x0), .val (.int x1), .val (.int (x1 &&& (3 : Int32))), .val (.int kd_23), .val (.int r_53), .val (.int (0 : Int32)), .unset, .unset, .unset, .unset] [])) t
        refine XS.iload X53.here hx rfl (hb hby at_69) rfl ?_
        show Steps p.tables e below (T53.setTop (mkF m 71 #[.val (.int x0), .val (.int x1), .val (.int (x1 &&& (3 : Int32))), .val (.int kd_23), .val (.int r_53), .val (.int (0 : Int32)), .unset, .unset, .unset, .unset] [(.int r_53)])) t
        refine XS.iload X53.here hx rfl (hb hby at_71) rfl ?_
        show Steps p.tables e below (T53.setTop (mkF m 73 #[.val (.int x0), .val (.int x1), .val (.int (x1 &&& (3 : Int32))), .val (.int kd_23), .val (.int r_53), .val (.int (0 : Int32)), .unset, .unset, .unset, .unset] [(.int (0 : Int32)), (.int r_53)])) t
        refine XS.icmpNo X53.here hx rfl (hb hby at_73) rfl (teq hc124).2 ?_
        show Steps p.tables e below (T53.setTop (mkF m 76 #[.val (.int x0), .val (.int x1), .val (.int (x1 &&& (3 : Int32))), .val (.int kd_23), .val (.int r_53), .val (.int (0 : Int32)), .unset, .unset, .unset, .unset] [])) t
        refine XS.iconst X53.here hx rfl (hb hby at_76) ?_
        show Steps p.tables e below (T53.setTop (mkF m 77 #[.val (.int x0), .val (.int x1), .val (.int (x1 &&& (3 : Int32))), .val (.int kd_23), .val (.int r_53), .val (.int (0 : Int32)), .unset, .unset, .unset, .unset] [(.int (1 : Int32))])) t
        refine XS.goto X53.here hx rfl (pc0 := 77) (pc' := 81) rfl (hb hby at_77) (by decide) (by decide) ?_
        show Steps p.tables e below (T53.setTop (mkF m 81 #[.val (.int x0), .val (.int x1), .val (.int (x1 &&& (3 : Int32))), .val (.int kd_23), .val (.int r_53), .val (.int (0 : Int32)), .unset, .unset, .unset, .unset] [(.int (1 : Int32))])) t
        refine XS.istore X53.here hx rfl (hb hby at_81) rfl (l' := #[.val (.int x0), .val (.int x1), .val (.int (x1 &&& (3 : Int32))), .val (.int kd_23), .val (.int r_53), .val (.int (0 : Int32)), .val (.int (1 : Int32)), .unset, .unset, .unset]) rfl ?_
        show Steps p.tables e below (T53.setTop (mkF m 83 #[.val (.int x0), .val (.int x1), .val (.int (x1 &&& (3 : Int32))), .val (.int kd_23), .val (.int r_53), .val (.int (0 : Int32)), .val (.int (1 : Int32)), .unset, .unset, .unset] [])) t
        refine XS.iload X53.here hx rfl (hb hby at_83) rfl ?_
        show Steps p.tables e below (T53.setTop (mkF m 85 #[.val (.int x0), .val (.int x1), .val (.int (x1 &&& (3 : Int32))), .val (.int kd_23), .val (.int r_53), .val (.int (0 : Int32)), .val (.int (1 : Int32)), .unset, .unset, .unset] [(.int r_53)])) t
        refine XS.ifYes X53.here hx rfl (pc0 := 85) (pc' := 100) rfl (hb hby at_85) rfl ((if0 _ _).trans (teq hc128).1) (by decide) (by decide) ?_
        show Steps p.tables e below (T53.setTop (mkF m 100 #[.val (.int x0), .val (.int x1), .val (.int (x1 &&& (3 : Int32))), .val (.int kd_23), .val (.int r_53), .val (.int (0 : Int32)), .val (.int (1 : Int32)), .unset, .unset, .unset] [])) t
        refine XS.iconst X53.here hx rfl (hb hby at_100) ?_
        show Steps p.tables e below (T53.setTop (mkF m 101 #[.val (.int x0), .val (.int x1), .val (.int (x1 &&& (3 : Int32))), .val (.int kd_23), .val (.int r_53), .val (.int (0 : Int32)), .val (.int (1 : Int32)), .unset, .unset, .unset] [(.int (1 : Int32))])) t
        refine XS.goto X53.here hx rfl (pc0 := 101) (pc' := 105) rfl (hb hby at_101) (by decide) (by decide) ?_
        show Steps p.tables e below (T53.setTop (mkF m 105 #[.val (.int x0), .val (.int x1), .val (.int (x1 &&& (3 : Int32))), .val (.int kd_23), .val (.int r_53), .val (.int (0 : Int32)), .val (.int (1 : Int32)), .unset, .unset, .unset] [(.int (1 : Int32))])) t
        refine XS.istore X53.here hx rfl (hb hby at_105) rfl (l' := #[.val (.int x0), .val (.int x1), .val (.int (x1 &&& (3 : Int32))), .val (.int kd_23), .val (.int r_53), .val (.int (0 : Int32)), .val (.int (1 : Int32)), .val (.int (1 : Int32)), .unset, .unset]) rfl ?_
        show Steps p.tables e below (T53.setTop (mkF m 107 #[.val (.int x0), .val (.int x1), .val (.int (x1 &&& (3 : Int32))), .val (.int kd_23), .val (.int r_53), .val (.int (0 : Int32)), .val (.int (1 : Int32)), .val (.int (1 : Int32)), .unset, .unset] [])) t
        refine XS.iconst X53.here hx rfl (hb hby at_107) ?_
        show Steps p.tables e below (T53.setTop (mkF m 108 #[.val (.int x0), .val (.int x1), .val (.int (x1 &&& (3 : Int32))), .val (.int kd_23), .val (.int r_53), .val (.int (0 : Int32)), .val (.int (1 : Int32)), .val (.int (1 : Int32)), .unset, .unset] [(.int (1 : Int32))])) t
        refine XS.istore X53.here hx rfl (hb hby at_108) rfl (l' := #[.val (.int x0), .val (.int x1), .val (.int (x1 &&& (3 : Int32))), .val (.int kd_23), .val (.int r_53), .val (.int (0 : Int32)), .val (.int (1 : Int32)), .val (.int (1 : Int32)), .val (.int (1 : Int32)), .unset]) rfl ?_
        show Steps p.tables e below (T53.setTop (mkF m 110 #[.val (.int x0), .val (.int x1), .val (.int (x1 &&& (3 : Int32))), .val (.int kd_23), .val (.int r_53), .val (.int (0 : Int32)), .val (.int (1 : Int32)), .val (.int (1 : Int32)), .val (.int (1 : Int32)), .unset] [])) t
        refine XS.iload X53.here hx rfl (hb hby at_110) rfl ?_
        show Steps p.tables e below (T53.setTop (mkF m 112 #[.val (.int x0), .val (.int x1), .val (.int (x1 &&& (3 : Int32))), .val (.int kd_23), .val (.int r_53), .val (.int (0 : Int32)), .val (.int (1 : Int32)), .val (.int (1 : Int32)), .val (.int (1 : Int32)), .unset] [(.int r_53)])) t
        refine XS.ifYes X53.here hx rfl (pc0 := 112) (pc' := 141) rfl (hb hby at_112) rfl ((if0 _ _).trans (teq hc130).1) (by decide) (by decide) ?_
        show Steps p.tables e below (T53.setTop (mkF m 141 #[.val (.int x0), .val (.int x1), .val (.int (x1 &&& (3 : Int32))), .val (.int kd_23), .val (.int r_53), .val (.int (0 : Int32)), .val (.int (1 : Int32)), .val (.int (1 : Int32)), .val (.int (1 : Int32)), .unset] [])) t
        refine XS.iload X53.here hx rfl (hb hby at_141) rfl ?_
        show Steps p.tables e below (T53.setTop (mkF m 143 #[.val (.int x0), .val (.int x1), .val (.int (x1 &&& (3 : Int32))), .val (.int kd_23), .val (.int r_53), .val (.int (0 : Int32)), .val (.int (1 : Int32)), .val (.int (1 : Int32)), .val (.int (1 : Int32)), .unset] [(.int (1 : Int32))])) t
        refine XS.ifNo X53.here hx rfl (hb hby at_143) rfl ((if0 _ _).trans (feq hc132).1) ?_
        show Steps p.tables e below (T53.setTop (mkF m 146 #[.val (.int x0), .val (.int x1), .val (.int (x1 &&& (3 : Int32))), .val (.int kd_23), .val (.int r_53), .val (.int (0 : Int32)), .val (.int (1 : Int32)), .val (.int (1 : Int32)), .val (.int (1 : Int32)), .unset] [])) t
        refine XS.iload X53.here hx rfl (hb hby at_146) rfl ?_
        show Steps p.tables e below (T53.setTop (mkF m 148 #[.val (.int x0), .val (.int x1), .val (.int (x1 &&& (3 : Int32))), .val (.int kd_23), .val (.int r_53), .val (.int (0 : Int32)), .val (.int (1 : Int32)), .val (.int (1 : Int32)), .val (.int (1 : Int32)), .unset] [(.int (1 : Int32))])) t
        refine XS.ifNo X53.here hx rfl (hb hby at_148) rfl ((if0 _ _).trans (feq hc134).1) ?_
        show Steps p.tables e below (T53.setTop (mkF m 151 #[.val (.int x0), .val (.int x1), .val (.int (x1 &&& (3 : Int32))), .val (.int kd_23), .val (.int r_53), .val (.int (0 : Int32)), .val (.int (1 : Int32)), .val (.int (1 : Int32)), .val (.int (1 : Int32)), .unset] [])) t
        refine XS.iload X53.here hx rfl (hb hby at_151) rfl ?_
        show Steps p.tables e below (T53.setTop (mkF m 153 #[.val (.int x0), .val (.int x1), .val (.int (x1 &&& (3 : Int32))), .val (.int kd_23), .val (.int r_53), .val (.int (0 : Int32)), .val (.int (1 : Int32)), .val (.int (1 : Int32)), .val (.int (1 : Int32)), .unset] [(.int (1 : Int32))])) t
        refine XS.ifNo X53.here hx rfl (hb hby at_153) rfl ((if0 _ _).trans (feq hc136).1) ?_
        show Steps p.tables e below (T53.setTop (mkF m 156 #[.val (.int x0), .val (.int x1), .val (.int (x1 &&& (3 : Int32))), .val (.int kd_23), .val (.int r_53), .val (.int (0 : Int32)), .val (.int (1 : Int32)), .val (.int (1 : Int32)), .val (.int (1 : Int32)), .unset] [])) t
        refine XS.iconst X53.here hx rfl (hb hby at_156) ?_
        show Steps p.tables e below (T53.setTop (mkF m 157 #[.val (.int x0), .val (.int x1), .val (.int (x1 &&& (3 : Int32))), .val (.int kd_23), .val (.int r_53), .val (.int (0 : Int32)), .val (.int (1 : Int32)), .val (.int (1 : Int32)), .val (.int (1 : Int32)), .unset] [(.int (1 : Int32))])) t
        refine XS.goto X53.here hx rfl (pc0 := 157) (pc' := 161) rfl (hb hby at_157) (by decide) (by decide) ?_
        exact k)
      obtain ⟨fs, hr, hrun, hended, hW, hsame⟩ := X53.leave (v := some (.int (1 : Int32))) (fun h => by rw [Bd.returns] at h; cases h)
      refine ⟨_, _, K138 _ ?_, hrun, hended, _, _, rfl, ?_, ⟨_, rfl⟩, hW, hsame.mono (by decide) (by decide)⟩
      · exact retN X53 hx (t := .boolean) Bd.returns (by simp) (hb hby at_161) hr
      · show Q_rm0 Z x0 x1 h0 n0 _ T53.heap _
        rw [eh53]
        exact ⟨rfl, (by trivial), N54, rfl⟩
set_option maxRecDepth 65536 in
set_option maxHeartbeats 40000000 in
theorem comes_1 {Post : Tables → Env → Array Value → State → Outcome → State → Prop} (hpost : ∀ tb e args s v u, (limb_1_1.after args s (.returned v) u = true ∧ limb_1_2.after args s (.returned v) u = true ∧ True) → FrameEnd s (.returned v) u (Jvm.fieldLocs frame_1_writes args s ++ Jvm.arrayLocs frame_1_arrays args s ++ Jvm.staticLocs frame_1_statics s) 0 0 → Post tb e args s (.returned v) u) :
    ArmFor flags0 classFile x code maxLocals ret World_1 tables_1 room_1 Calls_1 rest_1 Pre_1 Post := by
  intro l hfl _ _ p e ha hc hk s m args below hf hA hF happ hP
  obtain ⟨hcalls, hrest, hpre⟩ := hP
  obtain ⟨-, -, -, hnamed, -, -, -, hat⟩ := (Spec.applies_iff hf).mp happ
  obtain ⟨hg, hn⟩ := and_e (Cond.before_iff.mp (show (Jvm.Cond.and given_1 narrow_1).before args s = true from hpre))
  obtain ⟨gg1, gg2⟩ := and_e hg
  obtain ⟨gg3, gg4⟩ := and_e gg2
  obtain ⟨w0, w1, rfl⟩ : ∃ w0 w1 : Value, args = #[w0, w1] := by
    have hs : args.size = 2 := by simpa [Cond.value, given_1] using gg1
    obtain ⟨L⟩ := args
    match L, hs with
    | [w0, w1], _ => exact ⟨w0, w1, rfl⟩
  have hw := fun d (hd : d ∈ tables_1) => atoms_spec (ws := Jvm.Cond.code x code maxLocals ret :: tables_1) hat d (List.mem_cons_of_mem _ hd)
  obtain ⟨i0, ei0⟩ := is_v gg3
  obtain rfl : w0 = (.int i0) := Option.some.inj ei0
  obtain ⟨i1, ei1⟩ := is_v gg4
  obtain rfl : w1 = (.int i1) := Option.some.inj ei1
  obtain ⟨n, o, h1, h2, h3, _, L, rfl, ⟨rfl, -, N, -⟩, hq⟩ := rm0 l s _ hw tables_1 i0 i1 s.heap s.heap.size (Nat.le_refl _) p e ha hc hk s m _ below hf ((Spec.applies_iff_loose hf).mp happ).1 ⟨rfl, State.Warmed39.refl s, rfl⟩ trivial
  refine ⟨n, _, h1, h2, h3, hpost _ _ _ _ _ _ ⟨Cond.after_iff.mpr rfl, Cond.after_iff.mpr (eq_i res_at (Term.int_eval (1)) rfl), trivial⟩ ⟨hq.1, hq.2.1, (hq.2.2.sift fun y hy => Or.inr (N y hy)).mono (by decide) (by decide)⟩⟩
theorem main_1_1 : Claimed_1_1 := comes_1 fun _ _ _ _ _ _ h hF => ⟨h.1, hF⟩
theorem main_1_2 : Claimed_1_2 := comes_1 fun _ _ _ _ _ _ h hF => ⟨h.2.1, hF⟩
end Jvm.Pilot.@@N@@
namespace Jvm.Pilot.@@N@@
open Jvm Jvm.ClassFile Sem Op Lib Jvm.Free Jvm.Stand Jvm.Pilot.@@N@@.Jvm.D
/-! MADE BY PROGRAM (witnessworld.py) out of the Statement's table words and the real class files: 9 classes; the members and pool entries that the words name. The judged class is class 1, her method 1. -/
namespace start1
open Jvm.ClassFile
def u (s : String) : CpInfo := .utf8 (stringToUtf16 s)
/-- a pool by its gaps: so many unusable entries, then the entry; so many at the end -/
def gap : Nat → List CpInfo → List CpInfo
  | 0, r => r
  | n + 1, r => .unusable :: gap n r
def poolList (es : List (Nat × CpInfo)) (last : Nat) : List CpInfo := es.foldr (fun e r => gap e.1 (e.2 :: r)) (gap last [])
def pool (es : List (Nat × CpInfo)) (last : Nat) : Array CpInfo := ⟨poolList es last⟩
def fileOf (pool : Array CpInfo) (this : Nat) (attrs : Array Attribute := #[]) (ms : Array MethodInfo := #[]) (fl : Nat := 33) (sup : Nat := 0) (ifs : Array Nat := #[]) (fds : Array FieldInfo := #[]) : ClassFile where
  minorVersion := 0
  majorVersion := 65
  constantPool := pool
  accessFlags := fl
  thisClass := this
  superClass := sup
  interfaces := ifs
  fields := fds
  methods := ms
  attributes := attrs
def plain (name : String) (sup : Option ClassId) : Class where
  name := name
  kind := .ordinary
  loader := none
  accessFlags := 33
  super := sup
  interfaces := #[]
  cf := none
  fields := #[]
  methods := #[]
  instanceTypes := #[]
  staticTypes := #[]
  resolved := #[]
  callSites := []
  init := .initialized
  statics := none
  mirror := none

def pool0 : Array CpInfo := pool [(5, u "<init>"), (0, u "()V"), (1, .class_ 10), (1, u "java/lang/Object")] 113

def k0m0 : Method := { name := "<init>", desc := "()V", sig := { parameters := [], returnType := none }, accessFlags := 1, code := none }
/-- java/lang/Object -/
def k0 : Class := { plain "java/lang/Object" none with
  accessFlags := 33
  interfaces := #[]
  cf := some (fileOf pool0 8 #[] #[{ accessFlags := 1, nameIndex := 5, descriptorIndex := 6, attributes := #[] }] 33 0 #[] #[])
  fields := #[]
  methods := #[k0m0]
  instanceTypes := #[]
  staticTypes := #[]
  resolved := Array.replicate 124 none
  statics := none }

def pool1 : Array CpInfo := pool [(2, .class_ 4), (1, u "java/lang/Object"), (0, u "<init>"), (0, u "()V"), (0, .class_ 8), (0, u "com/example/bitsieve/bitsieve/FileForm"), (0, .integer 65535), (0, .methodref 7 11), (0, .nameAndType 12 13), (0, u "firstVersion"), (0, u "(I)I"), (0, .methodref 7 15), (0, .nameAndType 16 13), (0, u "writtenVersion"), (0, .class_ 18), (0, u "com/example/bitsieve/bitsieve/FileFormFirstVersionPinLaw"), (2, u "law"), (0, u "(II)Z")] 3

def k1m0 : Method := { name := "<init>", desc := "()V", sig := { parameters := [], returnType := none }, accessFlags := 2, code := none }
def k1c1 : Code := { maxStack := 2, maxLocals := 10, code := code, exceptionTable := #[], attributes := #[] }
def k1m1 : Method := { name := "law", desc := "(II)Z", sig := { parameters := [.int, .int], returnType := some .boolean }, accessFlags := 9, code := some k1c1 }
/-- com/example/bitsieve/bitsieve/FileFormFirstVersionPinLaw -/
def k1 : Class := { plain "com/example/bitsieve/bitsieve/FileFormFirstVersionPinLaw" (some 0) with
  accessFlags := 49
  interfaces := #[]
  cf := some (fileOf pool1 17 #[] #[{ accessFlags := 2, nameIndex := 5, descriptorIndex := 6, attributes := #[] }, { accessFlags := 9, nameIndex := 21, descriptorIndex := 22, attributes := #[] }] 49 2 #[] #[])
  fields := #[]
  methods := #[k1m0, k1m1]
  instanceTypes := #[]
  staticTypes := #[]
  resolved := Array.replicate 26 none
  statics := none }

def pool2 : Array CpInfo := pool [(2, .class_ 4), (1, u "java/lang/Object"), (0, u "<init>"), (0, u "()V"), (0, .class_ 8), (0, u "com/example/bitsieve/bitsieve/FileForm"), (0, .methodref 7 10), (0, .nameAndType 11 12), (0, u "firstVersion"), (0, u "(I)I"), (2, u "MAGIC"), (0, u "[B"), (0, u "VERSION"), (0, u "I"), (2, u "SET_INDEX_VERSION"), (0, u "KIND_BLOOM"), (1, u "KIND_GCS"), (1, u "BUFFER_BYTES"), (4, u "writtenVersion"), (4, .class_ 37), (0, u "com/example/bitsieve/bitsieve/FileForm$Reader"), (0, .class_ 39), (0, u "com/example/bitsieve/bitsieve/FileForm$Writer")] 3

def k2m0 : Method := { name := "<init>", desc := "()V", sig := { parameters := [], returnType := none }, accessFlags := 2, code := none }
def k2c1 : Code := { maxStack := 1, maxLocals := 1, code := prog_11_method_2_code, exceptionTable := #[], attributes := #[] }
def k2m1 : Method := { name := "firstVersion", desc := "(I)I", sig := { parameters := [.int], returnType := some .int }, accessFlags := 8, code := some k2c1 }
def k2c2 : Code := { maxStack := 2, maxLocals := 1, code := prog_11_method_3_code, exceptionTable := #[], attributes := #[] }
def k2m2 : Method := { name := "writtenVersion", desc := "(I)I", sig := { parameters := [.int], returnType := some .int }, accessFlags := 8, code := some k2c2 }
/-- com/example/bitsieve/bitsieve/FileForm -/
def k2 : Class := { plain "com/example/bitsieve/bitsieve/FileForm" (some 0) with
  accessFlags := 48
  interfaces := #[]
  cf := some (fileOf pool2 7 #[.nestMembers #[36, 38]] #[{ accessFlags := 2, nameIndex := 5, descriptorIndex := 6, attributes := #[] }, { accessFlags := 8, nameIndex := 11, descriptorIndex := 12, attributes := #[] }, { accessFlags := 8, nameIndex := 31, descriptorIndex := 12, attributes := #[] }] 48 2 #[] #[{ accessFlags := 24, nameIndex := 17, descriptorIndex := 18, attributes := #[] }, { accessFlags := 24, nameIndex := 21, descriptorIndex := 18, attributes := #[] }, { accessFlags := 24, nameIndex := 22, descriptorIndex := 18, attributes := #[] }, { accessFlags := 24, nameIndex := 24, descriptorIndex := 18, attributes := #[] }, { accessFlags := 26, nameIndex := 15, descriptorIndex := 16, attributes := #[] }, { accessFlags := 26, nameIndex := 26, descriptorIndex := 18, attributes := #[] }])
  fields := #[{ name := "VERSION", type := .int, accessFlags := 24, slot := 0, constantValue := 0 }, { name := "SET_INDEX_VERSION", type := .int, accessFlags := 24, slot := 1, constantValue := 0 }, { name := "KIND_BLOOM", type := .int, accessFlags := 24, slot := 2, constantValue := 0 }, { name := "KIND_GCS", type := .int, accessFlags := 24, slot := 3, constantValue := 0 }, { name := "MAGIC", type := (.array .byte), accessFlags := 26, slot := 4, constantValue := 0 }, { name := "BUFFER_BYTES", type := .int, accessFlags := 26, slot := 5, constantValue := 0 }]
  methods := #[k2m0, k2m1, k2m2]
  instanceTypes := #[]
  staticTypes := #[.int, .int, .int, .int, (.array .byte), .int]
  resolved := Array.replicate 43 none
  statics := none }

def pool3 : Array CpInfo := pool [(1, u "java/lang/Cloneable"), (0, .class_ 1), (0, u "java/lang/Object"), (0, .class_ 3)] 3

/-- java/lang/Cloneable -/
def k3 : Class := { plain "java/lang/Cloneable" (some 0) with
  accessFlags := 1537
  interfaces := #[]
  cf := some (fileOf pool3 2 #[] #[] 1537 4 #[] #[])
  fields := #[]
  methods := #[]
  instanceTypes := #[]
  staticTypes := #[]
  resolved := Array.replicate 8 none
  statics := none }

def pool4 : Array CpInfo := pool [(1, u "java/io/Serializable"), (0, .class_ 1), (0, u "java/lang/Object"), (0, .class_ 3)] 3

/-- java/io/Serializable -/
def k4 : Class := { plain "java/io/Serializable" (some 0) with
  accessFlags := 1537
  interfaces := #[]
  cf := some (fileOf pool4 2 #[] #[] 1537 4 #[] #[])
  fields := #[]
  methods := #[]
  instanceTypes := #[]
  staticTypes := #[]
  resolved := Array.replicate 8 none
  statics := none }

/-- the primitive byte -/
def k5 : Class := { plain "byte" none with kind := .primitive 'B', accessFlags := 0x411 }
/-- [B -/
def k6 : Class := { plain "[B" (some 0) with kind := .array 5 .byte, interfaces := #[3, 4], accessFlags := 1041 }

/-- the primitive int -/
def k7 : Class := { plain "int" none with kind := .primitive 'I', accessFlags := 0x411 }
/-- [I -/
def k8 : Class := { plain "[I" (some 0) with kind := .array 7 .int, interfaces := #[3, 4], accessFlags := 1041 }

def heap : Heap := #[]
def classes : Array Class := #[k0, k1, k2, k3, k4, k5, k6, k7, k8]
def interned : List (Array UInt16 × Addr) := []
def slotsUsed : Nat := 0
def theMethod : MethodId := ⟨1, 1⟩
def args0 : Array Value := #[.int 2, .int 3]
def aboutOver (below : List Frame) : State where
  vm := { classes := classes, interned := interned.toArray }
  heap := heap
  slotsUsed := slotsUsed
  threads := #[{ frames := .invoking theMethod args0 :: below }]
def below0 : List Frame := [.native { method := ⟨0, 0⟩, args := #[] }]
def about1 : State := aboutOver below0
def p0 : Program := .bare "" "" ""
def e0 : Env := launch0.env 0 0 0
theorem w_frames : about1.frames = Frame.invoking theMethod args0 :: below0 := rfl
set_option maxRecDepth 65536 in
theorem w_args : argsFit about1.vm theMethod args0 = true := by decide +kernel
set_option maxRecDepth 65536 in
theorem w_heap : heapFits about1 = true := by decide +kernel
set_option maxRecDepth 65536 in
theorem w_runnable : about1.curStatus? = some .runnable := by decide +kernel
set_option maxRecDepth 65536 in
theorem w_alone : about1.alone = true := by decide +kernel
set_option maxRecDepth 65536 in
theorem w_named : about1.methodNamed? x = some theMethod := by decide +kernel
set_option maxRecDepth 65536 in
theorem w_hears : about1.hears theMethod below0 = true := by decide +kernel
set_option maxRecDepth 65536 in
theorem w_ripe : about1.ripe theMethod args0 below0 = true := by decide +kernel
theorem w_running : about1.status = .running := rfl
set_option maxRecDepth 65536 in
theorem w_room : about1.hasRoom e0.platform room_1 = true :=
  launch0.hasRoom_least _ room_1 (by decide +kernel) (by decide +kernel) (by decide +kernel) (by decide +kernel) (by decide +kernel) (by decide +kernel)
theorem allAtoms_all (ts : List Jvm.Cond) (a : Array Jvm.Value) (st : Jvm.State) : (allAtoms ts).before a st = ts.all (fun c => c.before a st) := by
  induction ts with
  | nil => rfl
  | cons c t ih =>
    show (Jvm.Cond.and c (allAtoms t)).before a st = _
    rw [Jvm.Cond.before_and, ih, List.all_cons]
def words1 : List Jvm.Cond := Jvm.Cond.code x code maxLocals ret :: tables_1
/-- a 'code' word, met by the world's own term for the bytes: nothing is compared byte by byte -/
theorem code_word {y : MethodName} {bytes : ByteArray} {mx : Nat} {rt : Option FieldType} {a : Array Value} {s : State} {m : MethodId} {meth : Method} {c : Code} (h1 : s.methodNamed? y = some m) (h2 : s.vm.method? m = some meth) (h3 : meth.code = some c) (h4 : c.code = bytes)
    (h5 : (c.maxLocals == mx && c.exceptionTable.isEmpty && decide (c.maxStack ≤ mostOperands) && decide (meth.sig.returnType = rt) && !meth.locks && decide (parseMethodDescriptor y.desc = some meth.sig)) = true) : (Jvm.Cond.code y bytes mx rt).before a s = true := by
  simp only [Bool.and_eq_true, beq_iff_eq, Bool.not_eq_true', decide_eq_true_eq] at h5
  obtain ⟨⟨⟨⟨⟨g1, g2⟩, g3⟩, g4⟩, g5⟩, g6⟩ := h5
  simp [Cond.before, Cond.holds, Cond.value, h1, h2, h3, h4, g1, g2, g3, g4, g5, g6]
def isCode : Jvm.Cond → Bool
  | .code _ _ _ _ => true
  | _ => false
theorem all_split {L : List Jvm.Cond} {P : Jvm.Cond → Bool} (h1 : L.all (fun c => isCode c || P c) = true) (h2 : ∀ c ∈ L.filter isCode, P c = true) : L.all P = true := by
  refine List.all_eq_true.mpr fun c hc => ?_
  have h := List.all_eq_true.mp h1 c hc
  rcases Bool.eq_false_or_eq_true (isCode c) with hi | hi
  · exact h2 c (List.mem_filter.mpr ⟨hc, hi⟩)
  · simpa [hi] using h
set_option maxRecDepth 65536 in
theorem w_c0 : (Jvm.Cond.code x code maxLocals ret).before args0 about1 = true := code_word (m := ⟨1, 1⟩) (meth := k1m1) (c := k1c1) (by decide +kernel) rfl rfl rfl (by decide +kernel)
set_option maxRecDepth 65536 in
theorem w_c1 : (Jvm.Cond.code ({ cls := "com/example/bitsieve/bitsieve/FileForm", name := "firstVersion", desc := "(I)I" } : Jvm.MethodName) prog_11_method_2_code (1 : Nat) (Option.some Jvm.ClassFile.FieldType.int)).before args0 about1 = true := code_word (m := ⟨2, 1⟩) (meth := k2m1) (c := k2c1) (by decide +kernel) rfl rfl rfl (by decide +kernel)
set_option maxRecDepth 65536 in
theorem w_c2 : (Jvm.Cond.code ({ cls := "com/example/bitsieve/bitsieve/FileForm", name := "writtenVersion", desc := "(I)I" } : Jvm.MethodName) prog_11_method_3_code (1 : Nat) (Option.some Jvm.ClassFile.FieldType.int)).before args0 about1 = true := code_word (m := ⟨2, 2⟩) (meth := k2m2) (c := k2c2) (by decide +kernel) rfl rfl rfl (by decide +kernel)
def codes1 : List Jvm.Cond := [Jvm.Cond.code x code maxLocals ret, Jvm.Cond.code ({ cls := "com/example/bitsieve/bitsieve/FileForm", name := "firstVersion", desc := "(I)I" } : Jvm.MethodName) prog_11_method_2_code (1 : Nat) (Option.some Jvm.ClassFile.FieldType.int), Jvm.Cond.code ({ cls := "com/example/bitsieve/bitsieve/FileForm", name := "writtenVersion", desc := "(I)I" } : Jvm.MethodName) prog_11_method_3_code (1 : Nat) (Option.some Jvm.ClassFile.FieldType.int)]
set_option maxRecDepth 65536 in
theorem codes_eq : words1.filter isCode = codes1 := rfl
theorem w_codes : ∀ c ∈ words1.filter isCode, c.before args0 about1 = true := by
  rw [codes_eq]
  intro c hc
  simp only [codes1, List.mem_cons, List.not_mem_nil, or_false] at hc
  rcases hc with rfl | rfl | rfl
  · exact w_c0
  · exact w_c1
  · exact w_c2
set_option maxRecDepth 65536 in
theorem w_t1 : words1.all (fun c => isCode c || c.before args0 about1) = true := by decide +kernel
theorem w_tables : (allAtoms (Jvm.Cond.code x code maxLocals ret :: tables_1)).before args0 about1 = true := by
  rw [allAtoms_all]
  show words1.all (fun c => c.before args0 about1) = true
  refine all_split ?_ w_codes
  rw [w_t1]
set_option maxRecDepth 65536 in
theorem w_case : (Jvm.Cond.and given_1 narrow_1).before args0 about1 = true := by decide +kernel
theorem w_applies : (headSpec (Jvm.Cond.code x code maxLocals ret :: tables_1) room_1).applies x e0.platform about1 = true :=
  (Spec.applies_iff w_frames).mpr ⟨w_running, w_runnable, w_alone, w_named, w_hears, w_ripe, w_room, w_tables⟩
theorem atStart : AtStart classFile x code maxLocals ret World_1 tables_1 room_1 Calls_1 rest_1 Pre_1 launch0 p0 e0 about1 theMethod args0 below0 :=
  ⟨lists_1, trivial, launch0.admits_env _ _ _, launch0.least_env, fairChoices_fair.cas, fairChoices_fair.clock, w_frames, w_args, w_heap, w_applies, trivial, trivial, w_case⟩
end start1
theorem witness_1 : WitnessClaimed_1 := ⟨start1.p0, start1.e0, start1.about1, start1.theMethod, start1.args0, start1.below0, start1.atStart⟩
end Jvm.Pilot.@@N@@
