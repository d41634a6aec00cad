import JvmDerived
import JvmDerived.Pilot.@@N@@Statement
import JvmDerived.Pilot.@@N@@Code
set_option linter.unusedVariables false
set_option linter.unusedSimpArgs false
namespace Jvm.RoadKit
open Sem ClassFile Op Lib Jvm.Stand Jvm.Free Jvm.LawKit
section New
variable {p : Program} {l : Launch} {e : Env} {R : Room} {s : State} {m : MethodId} {args : Array Value} {below : List Frame} {meth : Method} {c : Code} {T : State} {locs : List Loc} {cells slots : Nat}
theorem retI (X : Stand p l e R s m args below meth c T locs cells slots) (hx : p.tables.exec = Jvm.exec) {pc : Nat} {Ls : Array Slot} {z : Int32} {rest : List Value} (hret : meth.sig.returnType = some .int) (hd : decode c.code pc = .ok (.ireturn, 1)) {fs : List Frame}
    (hl : ∀ (f : JFrame) (acts : List Action), f.method = m → f.locked = none → f.entered = [] → (doReturn e (T.setTop f) acts (some (.int z))).1 = T.setFrames fs) : Steps p.tables e below (T.setTop (mkF m pc Ls (.int z :: rest))) (T.setFrames fs) := by
  have hm' : T.vm.method? m = some meth := X.method'
  have hn : narrow .int (.int z) = .int z := rfl
  show Steps p.tables e below (T.setTop { method := m, pc := pc, locals := Ls, stack := _ :: rest, locked := none }) _
  jvm_step X.here [X.here.top, hx, hd, hm', hret, hn]
  first | (intro acts; rw [hl _ acts rfl rfl rfl]) | rw [hl _ _ rfl rfl rfl]
  exact Steps.refl _
end New
end Jvm.RoadKit
namespace Jvm.Pilot.@@N@@
open Jvm Jvm.ClassFile Sem Op Lib Jvm.Free Jvm.Stand Jvm.LawKit Jvm.RoadKit Bundle Jvm.Pilot.@@N@@.Jvm.D
theorem own_or32n (n : Nat) : n ||| 32 = n + 32 * (1 - n / 32 % 2) := by
  have h1 : (n ||| 32) % 2 ^ 6 = (n % 2 ^ 6) ||| (32 % 2 ^ 6) := Nat.or_mod_two_pow
  have h2 : (n ||| 32) / 2 ^ 6 = (n / 2 ^ 6) ||| (32 / 2 ^ 6) := Nat.or_div_two_pow
  have h3 : n / 2 ^ 6 ||| 32 / 2 ^ 6 = n / 2 ^ 6 := by simp
  have h4 : ∀ r : Fin 64, r.val ||| 32 = r.val + 32 * (1 - r.val / 32 % 2) := by decide
  have h5 := h4 ⟨n % 64, Nat.mod_lt _ (by decide)⟩
  simp only at h5
  have h6 : 32 % 2 ^ 6 = 32 := rfl
  rw [h6] at h1
  rw [h3] at h2
  have e6 : (2 : Nat) ^ 6 = 64 := rfl
  rw [e6] at h1 h2
  rw [h5] at h1
  omega
theorem own_or32 (c : Int32) : (c ||| 32).toInt = c.toInt + 32 * (1 - c.toInt / 32 % 2) := by
  have h1 : (c ||| 32).toBitVec = c.toBitVec ||| 32#32 := rfl
  have h2 : (c ||| 32).toBitVec.toNat = c.toBitVec.toNat ||| 32 := by rw [h1, BitVec.toNat_or]; rfl
  rw [own_or32n] at h2
  have h3 : (c ||| 32).toInt = (c ||| 32).toBitVec.toInt := rfl
  have h4 : c.toInt = c.toBitVec.toInt := rfl
  rw [h3, h4, BitVec.toInt_eq_toNat_cond, BitVec.toInt_eq_toNat_cond, h2]
  have h5 := c.toBitVec.isLt
  split <;> split <;> omega
theorem own_d1_0 : decode prog_24_method_10_code 0 = .ok (.iload_n 0, 1) := by decide +kernel
theorem own_d1_1 : decode prog_24_method_10_code 1 = .ok (.bipush 97, 2) := by decide +kernel
theorem own_d1_3 : decode prog_24_method_10_code 3 = .ok (.if_icmp .lt 9, 3) := by decide +kernel
theorem own_d1_6 : decode prog_24_method_10_code 6 = .ok (.iload_n 0, 1) := by decide +kernel
theorem own_d1_7 : decode prog_24_method_10_code 7 = .ok (.bipush 122, 2) := by decide +kernel
theorem own_d1_9 : decode prog_24_method_10_code 9 = .ok (.if_icmp .le 15, 3) := by decide +kernel
theorem own_d1_12 : decode prog_24_method_10_code 12 = .ok (.iload_n 0, 1) := by decide +kernel
theorem own_d1_13 : decode prog_24_method_10_code 13 = .ok (.bipush 65, 2) := by decide +kernel
theorem own_d1_15 : decode prog_24_method_10_code 15 = .ok (.if_icmp .lt 13, 3) := by decide +kernel
theorem own_d1_18 : decode prog_24_method_10_code 18 = .ok (.iload_n 0, 1) := by decide +kernel
theorem own_d1_19 : decode prog_24_method_10_code 19 = .ok (.bipush 90, 2) := by decide +kernel
theorem own_d1_21 : decode prog_24_method_10_code 21 = .ok (.if_icmp .gt 7, 3) := by decide +kernel
theorem own_d1_24 : decode prog_24_method_10_code 24 = .ok (.iconst 1, 1) := by decide +kernel
theorem own_d1_25 : decode prog_24_method_10_code 25 = .ok (.goto 4, 3) := by decide +kernel
theorem own_d1_28 : decode prog_24_method_10_code 28 = .ok (.iconst 0, 1) := by decide +kernel
theorem own_d1_29 : decode prog_24_method_10_code 29 = .ok (.ireturn, 1) := by decide +kernel
theorem own_pn0 : plainName "com/example/covary/covary/url/Url" = true := by first | (simp [plainName, overriddenIn]; done) | decide +kernel
def Q_rm1 (Z : State) (pa : Int32) (h0 : Heap) (n0 : Nat) (v : Option Value) (h : Heap) (L : List Loc) : Prop := ∃ r : Int32, v = some (.int r) ∧ ((r.toInt = 1 ∧ ((65 ≤ pa.toInt ∧ pa.toInt ≤ 90) ∨ (97 ≤ pa.toInt ∧ pa.toInt ≤ 122))) ∨ (r.toInt = 0 ∧ ¬ ((65 ≤ pa.toInt ∧ pa.toInt ≤ 90) ∨ (97 ≤ pa.toInt ∧ pa.toInt ≤ 122)))) ∧ Fr n0 L ∧ h = h0
theorem own_ef_rm1 (m : MethodId) (pa : Int32) : entryFrame m #[(.int pa)] 1 = mkF m 0 #[.val (.int pa)] [] := by first | (simp [entryFrame, mkF, argsToLocals, Value.category]; done) | rfl
set_option maxRecDepth 65536 in
set_option maxHeartbeats 40000000 in
theorem rm1 (l : Launch) (Z : State) (a0 : Array Value) (hw : ∀ d ∈ tables_1, d.before a0 Z = true) (ws : List Jvm.Cond) (pa : Int32) (h0 : Heap) (n0 : Nat) (Z0 : n0 ≤ h0.size) :
    MetFree l (⟨"com/example/covary/covary/url/Url", "isAsciiAlpha", "(I)Z"⟩ : MethodName) (head1 (Jvm.Cond.code (⟨"com/example/covary/covary/url/Url", "isAsciiAlpha", "(I)Z"⟩ : MethodName) prog_24_method_10_code 1 (some .boolean) :: ws) ({ frames := 0, cells := 0, slots := 0, locals := 0 } : Room)) (fun a U => a = #[(.int pa)] ∧ Z.Warmed39 U.vm ∧ U.heap = h0) (fun _ _ _ _ _ => True) (fun _ U o U' => ∃ v L, o = .returned v ∧ Q_rm1 Z pa h0 n0 v U'.heap L ∧ FrameEnd U o U' L ({ frames := 0, cells := 0, slots := 0, locals := 0 } : Room).cells ({ frames := 0, cells := 0, slots := 0, locals := 0 } : Room).slots) := by
  refine MetFree.of_bodySF (plainFor_of_name own_pn0) hisR ?_
  intro p e s m args below meth c s₁ Bd hml0 hP hK
  obtain ⟨rfl, hZ, hh⟩ := hP
  have hx := Bd.exec
  have hby := Bd.bytes
  have hml : c.maxLocals = 1 := hml0
  have hown : s.vm.findClass "com/example/covary/covary/url/Url" = some m.cls := findClass_of_methodNamed Bd.named
  have hnm := (name_of_methodNamed Bd.named Bd.method).1
  have X0 : Stand p l e ({ frames := 0, cells := 0, slots := 0, locals := 0 } : Room) s m #[(.int pa)] below meth c s₁ [] 0 0 := Stand.of_body Bd
  have e0 : s₁.heap = h0 := by rw [← hh, Bd.state]; rfl
  have N0 := Fr.nil n0
  have pre0 : ∀ t, Steps p.tables e below (s₁.setTop (mkF m 0 #[.val (.int pa)] [])) t → Steps p.tables e below (s₁.setTop (entryFrame m #[(.int pa)] 1)) t := fun t k => castTop (own_ef_rm1 m pa) k
  have K2 : ∀ t, Steps p.tables e below (s₁.setTop (mkF m 3 #[.val (.int pa)] [(.int (97 : Int32)), (.int pa)])) t → Steps p.tables e below (s₁.setTop (entryFrame m #[(.int pa)] 1)) t := fun t k => pre0 t (by
    show Steps p.tables e below (s₁.setTop (mkF m 0 #[.val (.int pa)] [])) t
    refine XS.iloadN X0.here hx rfl (hb hby own_d1_0) rfl ?_
    show Steps p.tables e below (s₁.setTop (mkF m 1 #[.val (.int pa)] [(.int pa)])) t
    refine XS.bipush X0.here hx rfl (hb hby own_d1_1) ?_
    exact k)
  have q3 := rng32 pa
  have q4 := (by decide : (97 : Int32).toInt = 97)
  by_cases hc1 : pa < (97 : Int32)
  · have q5 : pa.toInt < (97 : Int32).toInt := Int32.lt_iff_toInt_lt.mp hc1
    have K7 : ∀ t, Steps p.tables e below (s₁.setTop (mkF m 15 #[.val (.int pa)] [(.int (65 : Int32)), (.int pa)])) t → Steps p.tables e below (s₁.setTop (entryFrame m #[(.int pa)] 1)) t := fun t k => K2 t (by
      show Steps p.tables e below (s₁.setTop (mkF m 3 #[.val (.int pa)] [(.int (97 : Int32)), (.int pa)])) t
      refine XS.icmpYes X0.here hx rfl (pc0 := 3) (pc' := 12) rfl (hb hby own_d1_3) rfl (tlt hc1).1 (by decide) (by decide) ?_
      show Steps p.tables e below (s₁.setTop (mkF m 12 #[.val (.int pa)] [])) t
      refine XS.iloadN X0.here hx rfl (hb hby own_d1_12) rfl ?_
      show Steps p.tables e below (s₁.setTop (mkF m 13 #[.val (.int pa)] [(.int pa)])) t
      refine XS.bipush X0.here hx rfl (hb hby own_d1_13) ?_
      exact k)
    have q8 := (by decide : (65 : Int32).toInt = 65)
    by_cases hc6 : pa < (65 : Int32)
    · have q9 : pa.toInt < (65 : Int32).toInt := Int32.lt_iff_toInt_lt.mp hc6
      have K10 : ∀ t, Steps p.tables e below (s₁.setTop (mkF m 29 #[.val (.int pa)] [(.int (0 : Int32))])) t → Steps p.tables e below (s₁.setTop (entryFrame m #[(.int pa)] 1)) t := fun t k => K7 t (by
        show Steps p.tables e below (s₁.setTop (mkF m 15 #[.val (.int pa)] [(.int (65 : Int32)), (.int pa)])) t
        refine XS.icmpYes X0.here hx rfl (pc0 := 15) (pc' := 28) rfl (hb hby own_d1_15) rfl (tlt hc6).1 (by decide) (by decide) ?_
        show Steps p.tables e below (s₁.setTop (mkF m 28 #[.val (.int pa)] [])) t
        refine XS.iconst X0.here hx rfl (hb hby own_d1_28) ?_
        exact k)
      obtain ⟨fs, hr, hrun, hended, hW, hsame⟩ := X0.leave (v := some (.int (0 : Int32))) (fun h => by rw [Bd.returns] at h; cases h)
      refine ⟨_, _, K10 _ ?_, hrun, hended, _, _, rfl, ?_, ⟨_, rfl⟩, hW, hsame.mono (by decide) (by decide)⟩
      · exact retN X0 hx (t := .boolean) Bd.returns (by simp) (hb hby own_d1_29) hr
      · show Q_rm1 Z pa h0 n0 _ s₁.heap _
        have q11 := (by decide : (0 : Int32).toInt = 0)
        rw [e0]
        exact ⟨(0 : Int32), rfl, (by omega), N0, rfl⟩
    · have q12 : ¬ pa.toInt < (65 : Int32).toInt := fun q => hc6 (Int32.lt_iff_toInt_lt.mpr q)
      have K14 : ∀ t, Steps p.tables e below (s₁.setTop (mkF m 21 #[.val (.int pa)] [(.int (90 : Int32)), (.int pa)])) t → Steps p.tables e below (s₁.setTop (entryFrame m #[(.int pa)] 1)) t := fun t k => K7 t (by
        show Steps p.tables e below (s₁.setTop (mkF m 15 #[.val (.int pa)] [(.int (65 : Int32)), (.int pa)])) t
        refine XS.icmpNo X0.here hx rfl (hb hby own_d1_15) rfl (flt hc6).1 ?_
        show Steps p.tables e below (s₁.setTop (mkF m 18 #[.val (.int pa)] [])) t
        refine XS.iloadN X0.here hx rfl (hb hby own_d1_18) rfl ?_
        show Steps p.tables e below (s₁.setTop (mkF m 19 #[.val (.int pa)] [(.int pa)])) t
        refine XS.bipush X0.here hx rfl (hb hby own_d1_19) ?_
        exact k)
      have q15 := (by decide : (90 : Int32).toInt = 90)
      by_cases hc13 : (90 : Int32) < pa
      · have q16 : (90 : Int32).toInt < pa.toInt := Int32.lt_iff_toInt_lt.mp hc13
        have K17 : ∀ t, Steps p.tables e below (s₁.setTop (mkF m 29 #[.val (.int pa)] [(.int (0 : Int32))])) t → Steps p.tables e below (s₁.setTop (entryFrame m #[(.int pa)] 1)) t := fun t k => K14 t (by
          show Steps p.tables e below (s₁.setTop (mkF m 21 #[.val (.int pa)] [(.int (90 : Int32)), (.int pa)])) t
          refine XS.icmpYes X0.here hx rfl (pc0 := 21) (pc' := 28) rfl (hb hby own_d1_21) rfl (tlt hc13).2.2.1 (by decide) (by decide) ?_
          show Steps p.tables e below (s₁.setTop (mkF m 28 #[.val (.int pa)] [])) t
          refine XS.iconst X0.here hx rfl (hb hby own_d1_28) ?_
          exact k)
        obtain ⟨fs, hr, hrun, hended, hW, hsame⟩ := X0.leave (v := some (.int (0 : Int32))) (fun h => by rw [Bd.returns] at h; cases h)
        refine ⟨_, _, K17 _ ?_, hrun, hended, _, _, rfl, ?_, ⟨_, rfl⟩, hW, hsame.mono (by decide) (by decide)⟩
        · exact retN X0 hx (t := .boolean) Bd.returns (by simp) (hb hby own_d1_29) hr
        · show Q_rm1 Z pa h0 n0 _ s₁.heap _
          have q18 := (by decide : (0 : Int32).toInt = 0)
          rw [e0]
          exact ⟨(0 : Int32), rfl, (by omega), N0, rfl⟩
      · have q19 : ¬ (90 : Int32).toInt < pa.toInt := fun q => hc13 (Int32.lt_iff_toInt_lt.mpr q)
        have K20 : ∀ t, Steps p.tables e below (s₁.setTop (mkF m 29 #[.val (.int pa)] [(.int (1 : Int32))])) t → Steps p.tables e below (s₁.setTop (entryFrame m #[(.int pa)] 1)) t := fun t k => K14 t (by
          show Steps p.tables e below (s₁.setTop (mkF m 21 #[.val (.int pa)] [(.int (90 : Int32)), (.int pa)])) t
          refine XS.icmpNo X0.here hx rfl (hb hby own_d1_21) rfl (flt hc13).2.2.1 ?_
          show Steps p.tables e below (s₁.setTop (mkF m 24 #[.val (.int pa)] [])) t
          refine XS.iconst X0.here hx rfl (hb hby own_d1_24) ?_
          show Steps p.tables e below (s₁.setTop (mkF m 25 #[.val (.int pa)] [(.int (1 : Int32))])) t
          refine XS.goto X0.here hx rfl (pc0 := 25) (pc' := 29) rfl (hb hby own_d1_25) (by decide) (by decide) ?_
          exact k)
        obtain ⟨fs, hr, hrun, hended, hW, hsame⟩ := X0.leave (v := some (.int (1 : Int32))) (fun h => by rw [Bd.returns] at h; cases h)
        refine ⟨_, _, K20 _ ?_, hrun, hended, _, _, rfl, ?_, ⟨_, rfl⟩, hW, hsame.mono (by decide) (by decide)⟩
        · exact retN X0 hx (t := .boolean) Bd.returns (by simp) (hb hby own_d1_29) hr
        · show Q_rm1 Z pa h0 n0 _ s₁.heap _
          have q21 := (by decide : (1 : Int32).toInt = 1)
          rw [e0]
          exact ⟨(1 : Int32), rfl, (by omega), N0, rfl⟩
  · have q22 : ¬ pa.toInt < (97 : Int32).toInt := fun q => hc1 (Int32.lt_iff_toInt_lt.mpr q)
    have K24 : ∀ t, Steps p.tables e below (s₁.setTop (mkF m 9 #[.val (.int pa)] [(.int (122 : Int32)), (.int pa)])) t → Steps p.tables e below (s₁.setTop (entryFrame m #[(.int pa)] 1)) t := fun t k => K2 t (by
      show Steps p.tables e below (s₁.setTop (mkF m 3 #[.val (.int pa)] [(.int (97 : Int32)), (.int pa)])) t
      refine XS.icmpNo X0.here hx rfl (hb hby own_d1_3) rfl (flt hc1).1 ?_
      show Steps p.tables e below (s₁.setTop (mkF m 6 #[.val (.int pa)] [])) t
      refine XS.iloadN X0.here hx rfl (hb hby own_d1_6) rfl ?_
      show Steps p.tables e below (s₁.setTop (mkF m 7 #[.val (.int pa)] [(.int pa)])) t
      refine XS.bipush X0.here hx rfl (hb hby own_d1_7) ?_
      exact k)
    have q25 := (by decide : (122 : Int32).toInt = 122)
    by_cases hc23 : (122 : Int32) < pa
    · have q26 : (122 : Int32).toInt < pa.toInt := Int32.lt_iff_toInt_lt.mp hc23
      have K28 : ∀ t, Steps p.tables e below (s₁.setTop (mkF m 15 #[.val (.int pa)] [(.int (65 : Int32)), (.int pa)])) t → Steps p.tables e below (s₁.setTop (entryFrame m #[(.int pa)] 1)) t := fun t k => K24 t (by
        show Steps p.tables e below (s₁.setTop (mkF m 9 #[.val (.int pa)] [(.int (122 : Int32)), (.int pa)])) t
        refine XS.icmpNo X0.here hx rfl (hb hby own_d1_9) rfl (tlt hc23).2.2.2 ?_
        show Steps p.tables e below (s₁.setTop (mkF m 12 #[.val (.int pa)] [])) t
        refine XS.iloadN X0.here hx rfl (hb hby own_d1_12) rfl ?_
        show Steps p.tables e below (s₁.setTop (mkF m 13 #[.val (.int pa)] [(.int pa)])) t
        refine XS.bipush X0.here hx rfl (hb hby own_d1_13) ?_
        exact k)
      have q29 := (by decide : (65 : Int32).toInt = 65)
      by_cases hc27 : pa < (65 : Int32)
      · have q30 : pa.toInt < (65 : Int32).toInt := Int32.lt_iff_toInt_lt.mp hc27
        have K31 : ∀ t, Steps p.tables e below (s₁.setTop (mkF m 29 #[.val (.int pa)] [(.int (0 : Int32))])) t → Steps p.tables e below (s₁.setTop (entryFrame m #[(.int pa)] 1)) t := fun t k => K28 t (by
          show Steps p.tables e below (s₁.setTop (mkF m 15 #[.val (.int pa)] [(.int (65 : Int32)), (.int pa)])) t
          refine XS.icmpYes X0.here hx rfl (pc0 := 15) (pc' := 28) rfl (hb hby own_d1_15) rfl (tlt hc27).1 (by decide) (by decide) ?_
          show Steps p.tables e below (s₁.setTop (mkF m 28 #[.val (.int pa)] [])) t
          refine XS.iconst X0.here hx rfl (hb hby own_d1_28) ?_
          exact k)
        obtain ⟨fs, hr, hrun, hended, hW, hsame⟩ := X0.leave (v := some (.int (0 : Int32))) (fun h => by rw [Bd.returns] at h; cases h)
        refine ⟨_, _, K31 _ ?_, hrun, hended, _, _, rfl, ?_, ⟨_, rfl⟩, hW, hsame.mono (by decide) (by decide)⟩
        · exact retN X0 hx (t := .boolean) Bd.returns (by simp) (hb hby own_d1_29) hr
        · show Q_rm1 Z pa h0 n0 _ s₁.heap _
          have q32 := (by decide : (0 : Int32).toInt = 0)
          rw [e0]
          exact ⟨(0 : Int32), rfl, (by omega), N0, rfl⟩
      · have q33 : ¬ pa.toInt < (65 : Int32).toInt := fun q => hc27 (Int32.lt_iff_toInt_lt.mpr q)
        have K35 : ∀ t, Steps p.tables e below (s₁.setTop (mkF m 21 #[.val (.int pa)] [(.int (90 : Int32)), (.int pa)])) t → Steps p.tables e below (s₁.setTop (entryFrame m #[(.int pa)] 1)) t := fun t k => K28 t (by
          show Steps p.tables e below (s₁.setTop (mkF m 15 #[.val (.int pa)] [(.int (65 : Int32)), (.int pa)])) t
          refine XS.icmpNo X0.here hx rfl (hb hby own_d1_15) rfl (flt hc27).1 ?_
          show Steps p.tables e below (s₁.setTop (mkF m 18 #[.val (.int pa)] [])) t
          refine XS.iloadN X0.here hx rfl (hb hby own_d1_18) rfl ?_
          show Steps p.tables e below (s₁.setTop (mkF m 19 #[.val (.int pa)] [(.int pa)])) t
          refine XS.bipush X0.here hx rfl (hb hby own_d1_19) ?_
          exact k)
        have q36 := (by decide : (90 : Int32).toInt = 90)
        by_cases hc34 : (90 : Int32) < pa
        · have q37 : (90 : Int32).toInt < pa.toInt := Int32.lt_iff_toInt_lt.mp hc34
          have K38 : ∀ t, Steps p.tables e below (s₁.setTop (mkF m 29 #[.val (.int pa)] [(.int (0 : Int32))])) t → Steps p.tables e below (s₁.setTop (entryFrame m #[(.int pa)] 1)) t := fun t k => K35 t (by
            show Steps p.tables e below (s₁.setTop (mkF m 21 #[.val (.int pa)] [(.int (90 : Int32)), (.int pa)])) t
            refine XS.icmpYes X0.here hx rfl (pc0 := 21) (pc' := 28) rfl (hb hby own_d1_21) rfl (tlt hc34).2.2.1 (by decide) (by decide) ?_
            show Steps p.tables e below (s₁.setTop (mkF m 28 #[.val (.int pa)] [])) t
            refine XS.iconst X0.here hx rfl (hb hby own_d1_28) ?_
            exact k)
          obtain ⟨fs, hr, hrun, hended, hW, hsame⟩ := X0.leave (v := some (.int (0 : Int32))) (fun h => by rw [Bd.returns] at h; cases h)
          refine ⟨_, _, K38 _ ?_, hrun, hended, _, _, rfl, ?_, ⟨_, rfl⟩, hW, hsame.mono (by decide) (by decide)⟩
          · exact retN X0 hx (t := .boolean) Bd.returns (by simp) (hb hby own_d1_29) hr
          · show Q_rm1 Z pa h0 n0 _ s₁.heap _
            have q39 := (by decide : (0 : Int32).toInt = 0)
            rw [e0]
            exact ⟨(0 : Int32), rfl, (by omega), N0, rfl⟩
        · have q40 : ¬ (90 : Int32).toInt < pa.toInt := fun q => hc34 (Int32.lt_iff_toInt_lt.mpr q)
          have K41 : ∀ t, Steps p.tables e below (s₁.setTop (mkF m 29 #[.val (.int pa)] [(.int (1 : Int32))])) t → Steps p.tables e below (s₁.setTop (entryFrame m #[(.int pa)] 1)) t := fun t k => K35 t (by
            show Steps p.tables e below (s₁.setTop (mkF m 21 #[.val (.int pa)] [(.int (90 : Int32)), (.int pa)])) t
            refine XS.icmpNo X0.here hx rfl (hb hby own_d1_21) rfl (flt hc34).2.2.1 ?_
            show Steps p.tables e below (s₁.setTop (mkF m 24 #[.val (.int pa)] [])) t
            refine XS.iconst X0.here hx rfl (hb hby own_d1_24) ?_
            show Steps p.tables e below (s₁.setTop (mkF m 25 #[.val (.int pa)] [(.int (1 : Int32))])) t
            refine XS.goto X0.here hx rfl (pc0 := 25) (pc' := 29) rfl (hb hby own_d1_25) (by decide) (by decide) ?_
            exact k)
          obtain ⟨fs, hr, hrun, hended, hW, hsame⟩ := X0.leave (v := some (.int (1 : Int32))) (fun h => by rw [Bd.returns] at h; cases h)
          refine ⟨_, _, K41 _ ?_, hrun, hended, _, _, rfl, ?_, ⟨_, rfl⟩, hW, hsame.mono (by decide) (by decide)⟩
          · exact retN X0 hx (t := .boolean) Bd.returns (by simp) (hb hby own_d1_29) hr
          · show Q_rm1 Z pa h0 n0 _ s₁.heap _
            have q42 := (by decide : (1 : Int32).toInt = 1)
            rw [e0]
            exact ⟨(1 : Int32), rfl, (by omega), N0, rfl⟩
    · have q43 : ¬ (122 : Int32).toInt < pa.toInt := fun q => hc23 (Int32.lt_iff_toInt_lt.mpr q)
      have K44 : ∀ t, Steps p.tables e below (s₁.setTop (mkF m 29 #[.val (.int pa)] [(.int (1 : Int32))])) t → Steps p.tables e below (s₁.setTop (entryFrame m #[(.int pa)] 1)) t := fun t k => K24 t (by
        show Steps p.tables e below (s₁.setTop (mkF m 9 #[.val (.int pa)] [(.int (122 : Int32)), (.int pa)])) t
        refine XS.icmpYes X0.here hx rfl (pc0 := 9) (pc' := 24) rfl (hb hby own_d1_9) rfl (flt hc23).2.2.2 (by decide) (by decide) ?_
        show Steps p.tables e below (s₁.setTop (mkF m 24 #[.val (.int pa)] [])) t
        refine XS.iconst X0.here hx rfl (hb hby own_d1_24) ?_
        show Steps p.tables e below (s₁.setTop (mkF m 25 #[.val (.int pa)] [(.int (1 : Int32))])) t
        refine XS.goto X0.here hx rfl (pc0 := 25) (pc' := 29) rfl (hb hby own_d1_25) (by decide) (by decide) ?_
        exact k)
      obtain ⟨fs, hr, hrun, hended, hW, hsame⟩ := X0.leave (v := some (.int (1 : Int32))) (fun h => by rw [Bd.returns] at h; cases h)
      refine ⟨_, _, K44 _ ?_, hrun, hended, _, _, rfl, ?_, ⟨_, rfl⟩, hW, hsame.mono (by decide) (by decide)⟩
      · exact retN X0 hx (t := .boolean) Bd.returns (by simp) (hb hby own_d1_29) hr
      · show Q_rm1 Z pa h0 n0 _ s₁.heap _
        have q45 := (by decide : (1 : Int32).toInt = 1)
        rw [e0]
        exact ⟨(1 : Int32), rfl, (by omega), N0, rfl⟩
theorem own_d2_0 : decode method_3_code 0 = .ok (.iload_n 0, 1) := by decide +kernel
theorem own_d2_1 : decode method_3_code 1 = .ok (.bipush 32, 2) := by decide +kernel
theorem own_d2_3 : decode method_3_code 3 = .ok (.ior, 1) := by decide +kernel
theorem own_d2_4 : decode method_3_code 4 = .ok (.bipush 97, 2) := by decide +kernel
theorem own_d2_6 : decode method_3_code 6 = .ok (.isub, 1) := by decide +kernel
theorem own_d2_7 : decode method_3_code 7 = .ok (.istore_n 1, 1) := by decide +kernel
theorem own_d2_8 : decode method_3_code 8 = .ok (.iload_n 1, 1) := by decide +kernel
theorem own_d2_9 : decode method_3_code 9 = .ok (.ifCond .lt 13, 3) := by decide +kernel
theorem own_d2_12 : decode method_3_code 12 = .ok (.iload_n 1, 1) := by decide +kernel
theorem own_d2_13 : decode method_3_code 13 = .ok (.bipush 26, 2) := by decide +kernel
theorem own_d2_15 : decode method_3_code 15 = .ok (.if_icmp .ge 7, 3) := by decide +kernel
theorem own_d2_18 : decode method_3_code 18 = .ok (.iconst 1, 1) := by decide +kernel
theorem own_d2_19 : decode method_3_code 19 = .ok (.goto 4, 3) := by decide +kernel
theorem own_d2_22 : decode method_3_code 22 = .ok (.iconst 0, 1) := by decide +kernel
theorem own_d2_23 : decode method_3_code 23 = .ok (.ireturn, 1) := by decide +kernel
theorem own_pn1 : plainName "com/example/covary/covary/url/UrlIsAsciiAlphaPinLaw" = true := by first | (simp [plainName, overriddenIn]; done) | decide +kernel
def Q_rm2 (Z : State) (pa : Int32) (h0 : Heap) (n0 : Nat) (v : Option Value) (h : Heap) (L : List Loc) : Prop := ∃ r : Int32, v = some (.int r) ∧ ((r.toInt = 1 ∧ ((65 ≤ pa.toInt ∧ pa.toInt ≤ 90) ∨ (97 ≤ pa.toInt ∧ pa.toInt ≤ 122))) ∨ (r.toInt = 0 ∧ ¬ ((65 ≤ pa.toInt ∧ pa.toInt ≤ 90) ∨ (97 ≤ pa.toInt ∧ pa.toInt ≤ 122)))) ∧ Fr n0 L ∧ h = h0
theorem own_ef_rm2 (m : MethodId) (pa : Int32) : entryFrame m #[(.int pa)] 2 = mkF m 0 #[.val (.int pa), .unset] [] := by first | (simp [entryFrame, mkF, argsToLocals, Value.category]; done) | rfl
set_option maxRecDepth 65536 in
set_option maxHeartbeats 40000000 in
theorem rm2 (l : Launch) (Z : State) (a0 : Array Value) (hw : ∀ d ∈ tables_1, d.before a0 Z = true) (ws : List Jvm.Cond) (pa : Int32) (h0 : Heap) (n0 : Nat) (Z0 : n0 ≤ h0.size) :
    MetFree l (⟨"com/example/covary/covary/url/UrlIsAsciiAlphaPinLaw", "ref", "(I)Z"⟩ : MethodName) (head1 (Jvm.Cond.code (⟨"com/example/covary/covary/url/UrlIsAsciiAlphaPinLaw", "ref", "(I)Z"⟩ : MethodName) method_3_code 2 (some .boolean) :: ws) ({ frames := 0, cells := 0, slots := 0, locals := 0 } : Room)) (fun a U => a = #[(.int pa)] ∧ Z.Warmed39 U.vm ∧ U.heap = h0) (fun _ _ _ _ _ => True) (fun _ U o U' => ∃ v L, o = .returned v ∧ Q_rm2 Z pa h0 n0 v U'.heap L ∧ FrameEnd U o U' L ({ frames := 0, cells := 0, slots := 0, locals := 0 } : Room).cells ({ frames := 0, cells := 0, slots := 0, locals := 0 } : Room).slots) := by
  refine MetFree.of_bodySF (plainFor_of_name own_pn1) hisR ?_
  intro p e s m args below meth c s₁ Bd hml0 hP hK
  obtain ⟨rfl, hZ, hh⟩ := hP
  have hx := Bd.exec
  have hby := Bd.bytes
  have hml : c.maxLocals = 2 := hml0
  have hown : s.vm.findClass "com/example/covary/covary/url/UrlIsAsciiAlphaPinLaw" = some m.cls := findClass_of_methodNamed Bd.named
  have hnm := (name_of_methodNamed Bd.named Bd.method).1
  have X0 : Stand p l e ({ frames := 0, cells := 0, slots := 0, locals := 0 } : Room) s m #[(.int pa)] below meth c s₁ [] 0 0 := Stand.of_body Bd
  have e0 : s₁.heap = h0 := by rw [← hh, Bd.state]; rfl
  have N0 := Fr.nil n0
  have pre0 : ∀ t, Steps p.tables e below (s₁.setTop (mkF m 0 #[.val (.int pa), .unset] [])) t → Steps p.tables e below (s₁.setTop (entryFrame m #[(.int pa)] 2)) t := fun t k => castTop (own_ef_rm2 m pa) k
  have K47 : ∀ t, Steps p.tables e below (s₁.setTop (mkF m 9 #[.val (.int pa), .val (.int ((pa ||| (32 : Int32)) - (97 : Int32)))] [(.int ((pa ||| (32 : Int32)) - (97 : Int32)))])) t → Steps p.tables e below (s₁.setTop (entryFrame m #[(.int pa)] 2)) t := fun t k => pre0 t (by
    show Steps p.tables e below (s₁.setTop (mkF m 0 #[.val (.int pa), .unset] [])) t
    refine XS.iloadN X0.here hx rfl (hb hby own_d2_0) rfl ?_
    show Steps p.tables e below (s₁.setTop (mkF m 1 #[.val (.int pa), .unset] [(.int pa)])) t
    refine XS.bipush X0.here hx rfl (hb hby own_d2_1) ?_
    show Steps p.tables e below (s₁.setTop (mkF m 3 #[.val (.int pa), .unset] [(.int (32 : Int32)), (.int pa)])) t
    refine XS.ior X0.here hx rfl (hb hby own_d2_3) rfl ?_
    show Steps p.tables e below (s₁.setTop (mkF m 4 #[.val (.int pa), .unset] [(.int (pa ||| (32 : Int32)))])) t
    refine XS.bipush X0.here hx rfl (hb hby own_d2_4) ?_
    show Steps p.tables e below (s₁.setTop (mkF m 6 #[.val (.int pa), .unset] [(.int (97 : Int32)), (.int (pa ||| (32 : Int32)))])) t
    refine XS.isub X0.here hx rfl (hb hby own_d2_6) rfl ?_
    show Steps p.tables e below (s₁.setTop (mkF m 7 #[.val (.int pa), .unset] [(.int ((pa ||| (32 : Int32)) - (97 : Int32)))])) t
    refine XS.istoreN X0.here hx rfl (hb hby own_d2_7) rfl (l' := #[.val (.int pa), .val (.int ((pa ||| (32 : Int32)) - (97 : Int32)))]) rfl ?_
    show Steps p.tables e below (s₁.setTop (mkF m 8 #[.val (.int pa), .val (.int ((pa ||| (32 : Int32)) - (97 : Int32)))] [])) t
    refine XS.iloadN X0.here hx rfl (hb hby own_d2_8) rfl ?_
    exact k)
  have q48 := rng32 pa
  have q49 := (by decide : (32 : Int32).toInt = 32)
  have q50 := own_or32 pa
  have q51 := rng32 (pa ||| (32 : Int32))
  have q52 := (by decide : (97 : Int32).toInt = 97)
  have q53 := c_isub (pa ||| (32 : Int32)) (97 : Int32)
  have q54 := rng32 ((pa ||| (32 : Int32)) - (97 : Int32))
  have q55 := (by decide : (0 : Int32).toInt = 0)
  by_cases hc46 : ((pa ||| (32 : Int32)) - (97 : Int32)) < (0 : Int32)
  · have q56 : ((pa ||| (32 : Int32)) - (97 : Int32)).toInt < (0 : Int32).toInt := Int32.lt_iff_toInt_lt.mp hc46
    have K57 : ∀ t, Steps p.tables e below (s₁.setTop (mkF m 23 #[.val (.int pa), .val (.int ((pa ||| (32 : Int32)) - (97 : Int32)))] [(.int (0 : Int32))])) t → Steps p.tables e below (s₁.setTop (entryFrame m #[(.int pa)] 2)) t := fun t k => K47 t (by
      show Steps p.tables e below (s₁.setTop (mkF m 9 #[.val (.int pa), .val (.int ((pa ||| (32 : Int32)) - (97 : Int32)))] [(.int ((pa ||| (32 : Int32)) - (97 : Int32)))])) t
      refine XS.ifYes X0.here hx rfl (pc0 := 9) (pc' := 22) rfl (hb hby own_d2_9) rfl ((if0 _ _).trans (tlt hc46).1) (by decide) (by decide) ?_
      show Steps p.tables e below (s₁.setTop (mkF m 22 #[.val (.int pa), .val (.int ((pa ||| (32 : Int32)) - (97 : Int32)))] [])) t
      refine XS.iconst X0.here hx rfl (hb hby own_d2_22) ?_
      exact k)
    obtain ⟨fs, hr, hrun, hended, hW, hsame⟩ := X0.leave (v := some (.int (0 : Int32))) (fun h => by rw [Bd.returns] at h; cases h)
    refine ⟨_, _, K57 _ ?_, hrun, hended, _, _, rfl, ?_, ⟨_, rfl⟩, hW, hsame.mono (by decide) (by decide)⟩
    · exact retN X0 hx (t := .boolean) Bd.returns (by simp) (hb hby own_d2_23) hr
    · show Q_rm2 Z pa h0 n0 _ s₁.heap _
      rw [e0]
      exact ⟨(0 : Int32), rfl, (by omega), N0, rfl⟩
  · have q58 : ¬ ((pa ||| (32 : Int32)) - (97 : Int32)).toInt < (0 : Int32).toInt := fun q => hc46 (Int32.lt_iff_toInt_lt.mpr q)
    have K60 : ∀ t, Steps p.tables e below (s₁.setTop (mkF m 15 #[.val (.int pa), .val (.int ((pa ||| (32 : Int32)) - (97 : Int32)))] [(.int (26 : Int32)), (.int ((pa ||| (32 : Int32)) - (97 : Int32)))])) t → Steps p.tables e below (s₁.setTop (entryFrame m #[(.int pa)] 2)) t := fun t k => K47 t (by
      show Steps p.tables e below (s₁.setTop (mkF m 9 #[.val (.int pa), .val (.int ((pa ||| (32 : Int32)) - (97 : Int32)))] [(.int ((pa ||| (32 : Int32)) - (97 : Int32)))])) t
      refine XS.ifNo X0.here hx rfl (hb hby own_d2_9) rfl ((if0 _ _).trans (flt hc46).1) ?_
      show Steps p.tables e below (s₁.setTop (mkF m 12 #[.val (.int pa), .val (.int ((pa ||| (32 : Int32)) - (97 : Int32)))] [])) t
      refine XS.iloadN X0.here hx rfl (hb hby own_d2_12) rfl ?_
      show Steps p.tables e below (s₁.setTop (mkF m 13 #[.val (.int pa), .val (.int ((pa ||| (32 : Int32)) - (97 : Int32)))] [(.int ((pa ||| (32 : Int32)) - (97 : Int32)))])) t
      refine XS.bipush X0.here hx rfl (hb hby own_d2_13) ?_
      exact k)
    have q61 := (by decide : (26 : Int32).toInt = 26)
    by_cases hc59 : ((pa ||| (32 : Int32)) - (97 : Int32)) < (26 : Int32)
    · have q62 : ((pa ||| (32 : Int32)) - (97 : Int32)).toInt < (26 : Int32).toInt := Int32.lt_iff_toInt_lt.mp hc59
      have K63 : ∀ t, Steps p.tables e below (s₁.setTop (mkF m 23 #[.val (.int pa), .val (.int ((pa ||| (32 : Int32)) - (97 : Int32)))] [(.int (1 : Int32))])) t → Steps p.tables e below (s₁.setTop (entryFrame m #[(.int pa)] 2)) t := fun t k => K60 t (by
        show Steps p.tables e below (s₁.setTop (mkF m 15 #[.val (.int pa), .val (.int ((pa ||| (32 : Int32)) - (97 : Int32)))] [(.int (26 : Int32)), (.int ((pa ||| (32 : Int32)) - (97 : Int32)))])) t
        refine XS.icmpNo X0.here hx rfl (hb hby own_d2_15) rfl (tlt hc59).2.1 ?_
        show Steps p.tables e below (s₁.setTop (mkF m 18 #[.val (.int pa), .val (.int ((pa ||| (32 : Int32)) - (97 : Int32)))] [])) t
        refine XS.iconst X0.here hx rfl (hb hby own_d2_18) ?_
        show Steps p.tables e below (s₁.setTop (mkF m 19 #[.val (.int pa), .val (.int ((pa ||| (32 : Int32)) - (97 : Int32)))] [(.int (1 : Int32))])) t
        refine XS.goto X0.here hx rfl (pc0 := 19) (pc' := 23) rfl (hb hby own_d2_19) (by decide) (by decide) ?_
        exact k)
      obtain ⟨fs, hr, hrun, hended, hW, hsame⟩ := X0.leave (v := some (.int (1 : Int32))) (fun h => by rw [Bd.returns] at h; cases h)
      refine ⟨_, _, K63 _ ?_, hrun, hended, _, _, rfl, ?_, ⟨_, rfl⟩, hW, hsame.mono (by decide) (by decide)⟩
      · exact retN X0 hx (t := .boolean) Bd.returns (by simp) (hb hby own_d2_23) hr
      · show Q_rm2 Z pa h0 n0 _ s₁.heap _
        have q64 := (by decide : (1 : Int32).toInt = 1)
        rw [e0]
        exact ⟨(1 : Int32), rfl, (by omega), N0, rfl⟩
    · have q65 : ¬ ((pa ||| (32 : Int32)) - (97 : Int32)).toInt < (26 : Int32).toInt := fun q => hc59 (Int32.lt_iff_toInt_lt.mpr q)
      have K66 : ∀ t, Steps p.tables e below (s₁.setTop (mkF m 23 #[.val (.int pa), .val (.int ((pa ||| (32 : Int32)) - (97 : Int32)))] [(.int (0 : Int32))])) t → Steps p.tables e below (s₁.setTop (entryFrame m #[(.int pa)] 2)) t := fun t k => K60 t (by
        show Steps p.tables e below (s₁.setTop (mkF m 15 #[.val (.int pa), .val (.int ((pa ||| (32 : Int32)) - (97 : Int32)))] [(.int (26 : Int32)), (.int ((pa ||| (32 : Int32)) - (97 : Int32)))])) t
        refine XS.icmpYes X0.here hx rfl (pc0 := 15) (pc' := 22) rfl (hb hby own_d2_15) rfl (flt hc59).2.1 (by decide) (by decide) ?_
        show Steps p.tables e below (s₁.setTop (mkF m 22 #[.val (.int pa), .val (.int ((pa ||| (32 : Int32)) - (97 : Int32)))] [])) t
        refine XS.iconst X0.here hx rfl (hb hby own_d2_22) ?_
        exact k)
      obtain ⟨fs, hr, hrun, hended, hW, hsame⟩ := X0.leave (v := some (.int (0 : Int32))) (fun h => by rw [Bd.returns] at h; cases h)
      refine ⟨_, _, K66 _ ?_, hrun, hended, _, _, rfl, ?_, ⟨_, rfl⟩, hW, hsame.mono (by decide) (by decide)⟩
      · exact retN X0 hx (t := .boolean) Bd.returns (by simp) (hb hby own_d2_23) hr
      · show Q_rm2 Z pa h0 n0 _ s₁.heap _
        rw [e0]
        exact ⟨(0 : Int32), rfl, (by omega), N0, rfl⟩
theorem own_pd0 : parseMethodDescriptor "(I)Z" = some ⟨[.int], some .boolean⟩ := by decide +kernel
def Q_rm0 (Z : State) (x0 : Int32) (x1 : Int32) (h0 : Heap) (n0 : Nat) (v : Option Value) (h : Heap) (L : List Loc) : Prop := v = some (.int (1 : Int32)) ∧ (True) ∧ Fr n0 L ∧ h = h0
theorem own_ef_rm0 (m : MethodId) (x0 : Int32) (x1 : Int32) : entryFrame m #[(.int x0), (.int x1)] maxLocals = mkF m 0 #[.val (.int x0), .val (.int x1), .unset] [] := by first | (simp [entryFrame, mkF, argsToLocals, Value.category, maxLocals]; done) | rfl
set_option maxRecDepth 65536 in
set_option maxHeartbeats 40000000 in
theorem rm0 (l : Launch) (Z : State) (a0 : Array Value) (hw : ∀ d ∈ tables_1, d.before a0 Z = true) (ws : List Jvm.Cond) (x0 : Int32) (x1 : Int32) (h0 : Heap) (n0 : Nat) (Z0 : n0 ≤ h0.size) :
    MetFree l x (head1 (Jvm.Cond.code x code maxLocals ret :: ws) room_1) (fun a U => a = #[(.int x0), (.int x1)] ∧ Z.Warmed39 U.vm ∧ U.heap = h0) (fun _ _ _ _ _ => True) (fun _ U o U' => ∃ v L, o = .returned v ∧ Q_rm0 Z x0 x1 h0 n0 v U'.heap L ∧ FrameEnd U o U' L room_1.cells room_1.slots) := by
  refine MetFree.of_bodySF (plainFor_of_name own_pn1) hisR ?_
  intro p e s m args below meth c s₁ Bd hml0 hP hK
  obtain ⟨rfl, hZ, hh⟩ := hP
  have hx := Bd.exec
  have hby := Bd.bytes
  have hml : c.maxLocals = 3 := hml0
  have hown : s.vm.findClass "com/example/covary/covary/url/UrlIsAsciiAlphaPinLaw" = some m.cls := findClass_of_methodNamed Bd.named
  have hnm := (name_of_methodNamed Bd.named Bd.method).1
  have X0 : Stand p l e room_1 s m #[(.int x0), (.int x1)] below meth c s₁ [] 0 0 := Stand.of_body Bd
  have e0 : s₁.heap = h0 := by rw [← hh, Bd.state]; rfl
  have N0 := Fr.nil n0
  have pre0 : ∀ t, Steps p.tables e below (s₁.setTop (mkF m 0 #[.val (.int x0), .val (.int x1), .unset] [])) t → Steps p.tables e below (s₁.setTop (entryFrame m #[(.int x0), (.int x1)] maxLocals)) t := fun t k => castTop (own_ef_rm0 m x0 x1) k
  have K67 : ∀ t, Steps p.tables e below (s₁.setTop (mkF m 9 #[.val (.int x0), .val (.int x1), .val (.int ((64 : Int32) + (x1 &&& (63 : Int32))))] [(.int x0)])) t → Steps p.tables e below (s₁.setTop (entryFrame m #[(.int x0), (.int x1)] maxLocals)) t := fun t k => pre0 t (by
    show Steps p.tables e below (s₁.setTop (mkF m 0 #[.val (.int x0), .val (.int x1), .unset] [])) t
    refine XS.bipush X0.here hx rfl (hb hby at_0) ?_
    show Steps p.tables e below (s₁.setTop (mkF m 2 #[.val (.int x0), .val (.int x1), .unset] [(.int (64 : Int32))])) t
    refine XS.iloadN X0.here hx rfl (hb hby at_2) rfl ?_
    show Steps p.tables e below (s₁.setTop (mkF m 3 #[.val (.int x0), .val (.int x1), .unset] [(.int x1), (.int (64 : Int32))])) t
    refine XS.bipush X0.here hx rfl (hb hby at_3) ?_
    show Steps p.tables e below (s₁.setTop (mkF m 5 #[.val (.int x0), .val (.int x1), .unset] [(.int (63 : Int32)), (.int x1), (.int (64 : Int32))])) t
    refine XS.iand X0.here hx rfl (hb hby at_5) rfl ?_
    show Steps p.tables e below (s₁.setTop (mkF m 6 #[.val (.int x0), .val (.int x1), .unset] [(.int (x1 &&& (63 : Int32))), (.int (64 : Int32))])) t
    refine XS.iadd X0.here hx rfl (hb hby at_6) rfl ?_
    show Steps p.tables e below (s₁.setTop (mkF m 7 #[.val (.int x0), .val (.int x1), .unset] [(.int ((64 : Int32) + (x1 &&& (63 : Int32))))])) t
    refine XS.istoreN X0.here hx rfl (hb hby at_7) rfl (l' := #[.val (.int x0), .val (.int x1), .val (.int ((64 : Int32) + (x1 &&& (63 : Int32))))]) rfl ?_
    show Steps p.tables e below (s₁.setTop (mkF m 8 #[.val (.int x0), .val (.int x1), .val (.int ((64 : Int32) + (x1 &&& (63 : Int32))))] [])) t
    refine XS.iloadN X0.here hx rfl (hb hby at_8) rfl ?_
    exact k)
  have q68 := rng32 x0
  obtain ⟨_, _, ⟨T69, L69, kk69, nn69⟩, -, X69, ⟨Lc69, hQ69, l69, y69, z69⟩, st69⟩ := Jvm.LawKit.callS X0 hx (y := (⟨"com/example/covary/covary/url/Url", "isAsciiAlpha", "(I)Z"⟩ : MethodName)) hown (mvT hZ (hw _ (List.mem_of_getElem? (i := 0) rfl))) (mvT hZ (hw _ (List.mem_of_getElem? (i := 1) rfl))) (mvT hZ (hw _ (List.mem_of_getElem? (i := 2) rfl))) (mvT hZ (hw _ (List.mem_of_getElem? (i := 3) rfl))) (by decide) (backOf (W := 0) (rm1 l Z a0 hw [] x0 h0 n0 Z0) hZ (hw _ (List.mem_of_getElem? (i := 3) rfl)) (hw _ (List.mem_of_getElem? (i := 2) rfl)) (by decide) (by decide)) (g := (mkF m 9 #[.val (.int x0), .val (.int x1), .val (.int ((64 : Int32) + (x1 &&& (63 : Int32))))] [(.int x0)])) rfl (by rw [hml]; rfl) (argsL := [(.int x0)]) (rest := []) (lenOf own_pd0 rfl) rfl (by show 2 * 0 + _ ≤ _; exact Nat.le_of_eq rfl) (hb hby at_9) (fun _ _ => ⟨rfl, e0, (by decide : 0 + 0 ≤ _), (by decide : 0 + 0 ≤ _)⟩)
  dsimp only [Pt.U, Pt.locs, Pt.cells, Pt.slots] at X69 l69 y69 z69 st69 hQ69
  subst l69 y69 z69
  obtain ⟨r_69, rfl, Sp69, Nq69, eh69⟩ := hQ69
  have N70 := Fr.app N0 Nq69
  have K71 : ∀ t, Steps p.tables e below (T69.setTop (mkF m 12 #[.val (.int x0), .val (.int x1), .val (.int ((64 : Int32) + (x1 &&& (63 : Int32))))] [(.int r_69)])) t → Steps p.tables e below (s₁.setTop (entryFrame m #[(.int x0), (.int x1)] maxLocals)) t := fun t k => K67 t (st69 _ k)
  have K72 : ∀ t, Steps p.tables e below (T69.setTop (mkF m 13 #[.val (.int x0), .val (.int x1), .val (.int ((64 : Int32) + (x1 &&& (63 : Int32))))] [(.int x0), (.int r_69)])) t → Steps p.tables e below (s₁.setTop (entryFrame m #[(.int x0), (.int x1)] maxLocals)) t := fun t k => K71 t (by
    show Steps p.tables e below (T69.setTop (mkF m 12 #[.val (.int x0), .val (.int x1), .val (.int ((64 : Int32) + (x1 &&& (63 : Int32))))] [(.int r_69)])) t
    refine XS.iloadN X69.here hx rfl (hb hby at_12) rfl ?_
    exact k)
  obtain ⟨_, _, ⟨T73, L73, kk73, nn73⟩, -, X73, ⟨Lc73, hQ73, l73, y73, z73⟩, st73⟩ := Jvm.LawKit.callS X69 hx (y := (⟨"com/example/covary/covary/url/UrlIsAsciiAlphaPinLaw", "ref", "(I)Z"⟩ : MethodName)) hown (mvT hZ (hw _ (List.mem_of_getElem? (i := 4) rfl))) (mvT hZ (hw _ (List.mem_of_getElem? (i := 5) rfl))) (mvT hZ (hw _ (List.mem_of_getElem? (i := 6) rfl))) (mvT hZ (hw _ (List.mem_of_getElem? (i := 7) rfl))) (by decide) (backOf (W := 1) (rm2 l Z a0 hw [] x0 h0 n0 Z0) hZ (hw _ (List.mem_of_getElem? (i := 7) rfl)) (hw _ (List.mem_of_getElem? (i := 6) rfl)) (by decide) (by decide)) (g := (mkF m 13 #[.val (.int x0), .val (.int x1), .val (.int ((64 : Int32) + (x1 &&& (63 : Int32))))] [(.int x0), (.int r_69)])) rfl (by rw [hml]; rfl) (argsL := [(.int x0)]) (rest := [(.int r_69)]) (lenOf own_pd0 rfl) rfl (by show 2 * 0 + _ ≤ _; exact Nat.le_of_eq rfl) (hb hby at_13) (fun _ _ => ⟨rfl, eh69, (by decide : 0 + 0 ≤ _), (by decide : 0 + 0 ≤ _)⟩)
  dsimp only [Pt.U, Pt.locs, Pt.cells, Pt.slots] at X73 l73 y73 z73 st73 hQ73
  subst l73 y73 z73
  obtain ⟨r_73, rfl, Sp73, Nq73, eh73⟩ := hQ73
  have N74 := Fr.app N70 Nq73
  have K75 : ∀ t, Steps p.tables e below (T73.setTop (mkF m 16 #[.val (.int x0), .val (.int x1), .val (.int ((64 : Int32) + (x1 &&& (63 : Int32))))] [(.int r_73), (.int r_69)])) t → Steps p.tables e below (s₁.setTop (entryFrame m #[(.int x0), (.int x1)] maxLocals)) t := fun t k => K72 t (st73 _ k)
  have q77 := rng32 r_69
  have q78 := rng32 r_73
  have hc76 : r_69 = r_73 := Int32.toInt_inj.mp (by omega)
  have q79 : r_69.toInt = r_73.toInt := congrArg Int32.toInt hc76
  have K80 : ∀ t, Steps p.tables e below (T73.setTop (mkF m 20 #[.val (.int x0), .val (.int x1), .val (.int ((64 : Int32) + (x1 &&& (63 : Int32))))] [(.int ((64 : Int32) + (x1 &&& (63 : Int32))))])) t → Steps p.tables e below (s₁.setTop (entryFrame m #[(.int x0), (.int x1)] maxLocals)) t := fun t k => K75 t (by
    show Steps p.tables e below (T73.setTop (mkF m 16 #[.val (.int x0), .val (.int x1), .val (.int ((64 : Int32) + (x1 &&& (63 : Int32))))] [(.int r_73), (.int r_69)])) t
    refine XS.icmpNo X73.here hx rfl (hb hby at_16) rfl (teq hc76).2 ?_
    show Steps p.tables e below (T73.setTop (mkF m 19 #[.val (.int x0), .val (.int x1), .val (.int ((64 : Int32) + (x1 &&& (63 : Int32))))] [])) t
    refine XS.iloadN X73.here hx rfl (hb hby at_19) rfl ?_
    exact k)
  have q81 := (by decide : (64 : Int32).toInt = 64)
  have q82 := rng32 x1
  have q83 := (by decide : (63 : Int32).toInt = 63)
  have q84 := (show (x1 &&& (63 : Int32)).toInt = x1.toInt % 64 from c_mask x1 (63 : Int32) 6 (by decide) (by decide))
  have q85 := rng32 (x1 &&& (63 : Int32))
  have q86 := c_iadd (64 : Int32) (x1 &&& (63 : Int32))
  have q87 := rng32 ((64 : Int32) + (x1 &&& (63 : Int32)))
  obtain ⟨_, _, ⟨T88, L88, kk88, nn88⟩, -, X88, ⟨Lc88, hQ88, l88, y88, z88⟩, st88⟩ := Jvm.LawKit.callS X73 hx (y := (⟨"com/example/covary/covary/url/Url", "isAsciiAlpha", "(I)Z"⟩ : MethodName)) hown (mvT hZ (hw _ (List.mem_of_getElem? (i := 0) rfl))) (mvT hZ (hw _ (List.mem_of_getElem? (i := 1) rfl))) (mvT hZ (hw _ (List.mem_of_getElem? (i := 2) rfl))) (mvT hZ (hw _ (List.mem_of_getElem? (i := 3) rfl))) (by decide) (backOf (W := 0) (rm1 l Z a0 hw [] ((64 : Int32) + (x1 &&& (63 : Int32))) h0 n0 Z0) hZ (hw _ (List.mem_of_getElem? (i := 3) rfl)) (hw _ (List.mem_of_getElem? (i := 2) rfl)) (by decide) (by decide)) (g := (mkF m 20 #[.val (.int x0), .val (.int x1), .val (.int ((64 : Int32) + (x1 &&& (63 : Int32))))] [(.int ((64 : Int32) + (x1 &&& (63 : Int32))))])) rfl (by rw [hml]; rfl) (argsL := [(.int ((64 : Int32) + (x1 &&& (63 : Int32))))]) (rest := []) (lenOf own_pd0 rfl) rfl (by show 2 * 0 + _ ≤ _; exact Nat.le_of_eq rfl) (hb hby at_20) (fun _ _ => ⟨rfl, eh73, (by decide : 0 + 0 ≤ _), (by decide : 0 + 0 ≤ _)⟩)
  dsimp only [Pt.U, Pt.locs, Pt.cells, Pt.slots] at X88 l88 y88 z88 st88 hQ88
  subst l88 y88 z88
  obtain ⟨r_88, rfl, Sp88, Nq88, eh88⟩ := hQ88
  have N89 := Fr.app N74 Nq88
  have K90 : ∀ t, Steps p.tables e below (T88.setTop (mkF m 23 #[.val (.int x0), .val (.int x1), .val (.int ((64 : Int32) + (x1 &&& (63 : Int32))))] [(.int r_88)])) t → Steps p.tables e below (s₁.setTop (entryFrame m #[(.int x0), (.int x1)] maxLocals)) t := fun t k => K80 t (st88 _ k)
  have K91 : ∀ t, Steps p.tables e below (T88.setTop (mkF m 24 #[.val (.int x0), .val (.int x1), .val (.int ((64 : Int32) + (x1 &&& (63 : Int32))))] [(.int ((64 : Int32) + (x1 &&& (63 : Int32)))), (.int r_88)])) t → Steps p.tables e below (s₁.setTop (entryFrame m #[(.int x0), (.int x1)] maxLocals)) t := fun t k => K90 t (by
    show Steps p.tables e below (T88.setTop (mkF m 23 #[.val (.int x0), .val (.int x1), .val (.int ((64 : Int32) + (x1 &&& (63 : Int32))))] [(.int r_88)])) t
    refine XS.iloadN X88.here hx rfl (hb hby at_23) rfl ?_
    exact k)
  obtain ⟨_, _, ⟨T92, L92, kk92, nn92⟩, -, X92, ⟨Lc92, hQ92, l92, y92, z92⟩, st92⟩ := Jvm.LawKit.callS X88 hx (y := (⟨"com/example/covary/covary/url/UrlIsAsciiAlphaPinLaw", "ref", "(I)Z"⟩ : MethodName)) hown (mvT hZ (hw _ (List.mem_of_getElem? (i := 4) rfl))) (mvT hZ (hw _ (List.mem_of_getElem? (i := 5) rfl))) (mvT hZ (hw _ (List.mem_of_getElem? (i := 6) rfl))) (mvT hZ (hw _ (List.mem_of_getElem? (i := 7) rfl))) (by decide) (backOf (W := 1) (rm2 l Z a0 hw [] ((64 : Int32) + (x1 &&& (63 : Int32))) h0 n0 Z0) hZ (hw _ (List.mem_of_getElem? (i := 7) rfl)) (hw _ (List.mem_of_getElem? (i := 6) rfl)) (by decide) (by decide)) (g := (mkF m 24 #[.val (.int x0), .val (.int x1), .val (.int ((64 : Int32) + (x1 &&& (63 : Int32))))] [(.int ((64 : Int32) + (x1 &&& (63 : Int32)))), (.int r_88)])) rfl (by rw [hml]; rfl) (argsL := [(.int ((64 : Int32) + (x1 &&& (63 : Int32))))]) (rest := [(.int r_88)]) (lenOf own_pd0 rfl) rfl (by show 2 * 0 + _ ≤ _; exact Nat.le_of_eq rfl) (hb hby at_24) (fun _ _ => ⟨rfl, eh88, (by decide : 0 + 0 ≤ _), (by decide : 0 + 0 ≤ _)⟩)
  dsimp only [Pt.U, Pt.locs, Pt.cells, Pt.slots] at X92 l92 y92 z92 st92 hQ92
  subst l92 y92 z92
  obtain ⟨r_92, rfl, Sp92, Nq92, eh92⟩ := hQ92
  have N93 := Fr.app N89 Nq92
  have K94 : ∀ t, Steps p.tables e below (T92.setTop (mkF m 27 #[.val (.int x0), .val (.int x1), .val (.int ((64 : Int32) + (x1 &&& (63 : Int32))))] [(.int r_92), (.int r_88)])) t → Steps p.tables e below (s₁.setTop (entryFrame m #[(.int x0), (.int x1)] maxLocals)) t := fun t k => K91 t (st92 _ k)
  have q96 := rng32 r_88
  have q97 := rng32 r_92
  have hc95 : r_88 = r_92 := Int32.toInt_inj.mp (by omega)
  have q98 : r_88.toInt = r_92.toInt := congrArg Int32.toInt hc95
  have K99 : ∀ t, Steps p.tables e below (T92.setTop (mkF m 35 #[.val (.int x0), .val (.int x1), .val (.int ((64 : Int32) + (x1 &&& (63 : Int32))))] [(.int (1 : Int32))])) t → Steps p.tables e below (s₁.setTop (entryFrame m #[(.int x0), (.int x1)] maxLocals)) t := fun t k => K94 t (by
    show Steps p.tables e below (T92.setTop (mkF m 27 #[.val (.int x0), .val (.int x1), .val (.int ((64 : Int32) + (x1 &&& (63 : Int32))))] [(.int r_92), (.int r_88)])) t
    refine XS.icmpNo X92.here hx rfl (hb hby at_27) rfl (teq hc95).2 ?_
    show Steps p.tables e below (T92.setTop (mkF m 30 #[.val (.int x0), .val (.int x1), .val (.int ((64 : Int32) + (x1 &&& (63 : Int32))))] [])) t
    refine XS.iconst X92.here hx rfl (hb hby at_30) ?_
    show Steps p.tables e below (T92.setTop (mkF m 31 #[.val (.int x0), .val (.int x1), .val (.int ((64 : Int32) + (x1 &&& (63 : Int32))))] [(.int (1 : Int32))])) t
    refine XS.goto X92.here hx rfl (pc0 := 31) (pc' := 35) rfl (hb hby at_31) (by decide) (by decide) ?_
    exact k)
  obtain ⟨fs, hr, hrun, hended, hW, hsame⟩ := X92.leave (v := some (.int (1 : Int32))) (fun h => by rw [Bd.returns] at h; cases h)
  refine ⟨_, _, K99 _ ?_, hrun, hended, _, _, rfl, ?_, ⟨_, rfl⟩, hW, hsame.mono (by decide) (by decide)⟩
  · exact retN X92 hx (t := .boolean) Bd.returns (by simp) (hb hby at_35) hr
  · show Q_rm0 Z x0 x1 h0 n0 _ T92.heap _
    have q100 := (by decide : (1 : Int32).toInt = 1)
    rw [eh92]
    exact ⟨rfl, (by trivial), N93, rfl⟩
set_option maxRecDepth 65536 in
set_option maxHeartbeats 40000000 in
theorem comes_1 {Post : Tables → Env → Array Value → State → Outcome → State → Prop} (hpost : ∀ tb e args s v u, (limb_1_1.after args s (.returned v) u = true ∧ limb_1_2.after args s (.returned v) u = true ∧ True) → FrameEnd s (.returned v) u (Jvm.fieldLocs frame_1_writes args s ++ Jvm.arrayLocs frame_1_arrays args s ++ Jvm.staticLocs frame_1_statics s) 0 0 → Post tb e args s (.returned v) u) :
    ArmFor flags0 classFile x code maxLocals ret World_1 tables_1 room_1 Calls_1 rest_1 Pre_1 Post := by
  intro l hfl _ _ p e ha hc hk s m args below hf hA hF happ hP
  obtain ⟨hcalls, hrest, hpre⟩ := hP
  obtain ⟨-, -, -, hnamed, -, -, -, hat⟩ := (Spec.applies_iff hf).mp happ
  obtain ⟨hg, hn⟩ := and_e (Cond.before_iff.mp (show (Jvm.Cond.and given_1 narrow_1).before args s = true from hpre))
  obtain ⟨gg1, gg2⟩ := and_e hg
  obtain ⟨gg3, gg4⟩ := and_e gg2
  obtain ⟨w0, w1, rfl⟩ : ∃ w0 w1 : Value, args = #[w0, w1] := by
    have hs : args.size = 2 := by simpa [Cond.value, given_1] using gg1
    obtain ⟨L⟩ := args
    match L, hs with
    | [w0, w1], _ => exact ⟨w0, w1, rfl⟩
  have hw := fun d (hd : d ∈ tables_1) => atoms_spec (ws := Jvm.Cond.code x code maxLocals ret :: tables_1) hat d (List.mem_cons_of_mem _ hd)
  obtain ⟨i0, ei0⟩ := is_v gg3
  obtain rfl : w0 = (.int i0) := Option.some.inj ei0
  obtain ⟨i1, ei1⟩ := is_v gg4
  obtain rfl : w1 = (.int i1) := Option.some.inj ei1
  obtain ⟨n, o, h1, h2, h3, _, L, rfl, ⟨rfl, -, N, -⟩, hq⟩ := rm0 l s _ hw tables_1 i0 i1 s.heap s.heap.size (Nat.le_refl _) p e ha hc hk s m _ below hf ((Spec.applies_iff_loose hf).mp happ).1 ⟨rfl, State.Warmed39.refl s, rfl⟩ trivial
  refine ⟨n, _, h1, h2, h3, hpost _ _ _ _ _ _ ⟨Cond.after_iff.mpr rfl, Cond.after_iff.mpr (eq_i res_at (Term.int_eval (1)) rfl), trivial⟩ ⟨hq.1, hq.2.1, (hq.2.2.sift fun y hy => Or.inr (N y hy)).mono (by decide) (by decide)⟩⟩
theorem main_1_1 : Claimed_1_1 := comes_1 fun _ _ _ _ _ _ h hF => ⟨h.1, hF⟩
theorem main_1_2 : Claimed_1_2 := comes_1 fun _ _ _ _ _ _ h hF => ⟨h.2.1, hF⟩
end Jvm.Pilot.@@N@@
namespace Jvm.Pilot.@@N@@
open Jvm Jvm.ClassFile Sem Op Lib Jvm.Free Jvm.Stand Jvm.Pilot.@@N@@.Jvm.D
/-! MADE BY PROGRAM (witnessworld.py) out of the Statement's table words and the real class files: 8 classes; the members and pool entries that the words name. The judged class is class 1, her method 1. -/
namespace start1
open Jvm.ClassFile
def u (s : String) : CpInfo := .utf8 (stringToUtf16 s)
/-- a pool by its gaps: so many unusable entries, then the entry; so many at the end -/
def gap : Nat → List CpInfo → List CpInfo
  | 0, r => r
  | n + 1, r => .unusable :: gap n r
def poolList (es : List (Nat × CpInfo)) (last : Nat) : List CpInfo := es.foldr (fun e r => gap e.1 (e.2 :: r)) (gap last [])
def pool (es : List (Nat × CpInfo)) (last : Nat) : Array CpInfo := ⟨poolList es last⟩
def fileOf (pool : Array CpInfo) (this : Nat) (attrs : Array Attribute := #[]) (ms : Array MethodInfo := #[]) (fl : Nat := 33) (sup : Nat := 0) (ifs : Array Nat := #[]) (fds : Array FieldInfo := #[]) : ClassFile where
  minorVersion := 0
  majorVersion := 65
  constantPool := pool
  accessFlags := fl
  thisClass := this
  superClass := sup
  interfaces := ifs
  fields := fds
  methods := ms
  attributes := attrs
def plain (name : String) (sup : Option ClassId) : Class where
  name := name
  kind := .ordinary
  loader := none
  accessFlags := 33
  super := sup
  interfaces := #[]
  cf := none
  fields := #[]
  methods := #[]
  instanceTypes := #[]
  staticTypes := #[]
  resolved := #[]
  callSites := []
  init := .initialized
  statics := none
  mirror := none

def pool0 : Array CpInfo := pool [(5, u "<init>"), (0, u "()V"), (1, .class_ 10), (1, u "java/lang/Object")] 113

def k0m0 : Method := { name := "<init>", desc := "()V", sig := { parameters := [], returnType := none }, accessFlags := 1, code := none }
/-- java/lang/Object -/
def k0 : Class := { plain "java/lang/Object" none with
  accessFlags := 33
  interfaces := #[]
  cf := some (fileOf pool0 8 #[] #[{ accessFlags := 1, nameIndex := 5, descriptorIndex := 6, attributes := #[] }] 33 0 #[] #[])
  fields := #[]
  methods := #[k0m0]
  instanceTypes := #[]
  staticTypes := #[]
  resolved := Array.replicate 124 none
  statics := none }

def pool1 : Array CpInfo := pool [(2, .class_ 4), (1, u "java/lang/Object"), (0, u "<init>"), (0, u "()V"), (0, .methodref 8 9), (0, .class_ 10), (0, .nameAndType 11 12), (0, u "com/example/covary/covary/url/Url"), (0, u "isAsciiAlpha"), (0, u "(I)Z"), (0, .methodref 14 15), (0, .class_ 16), (0, .nameAndType 17 12), (0, u "com/example/covary/covary/url/UrlIsAsciiAlphaPinLaw"), (0, u "ref"), (2, u "law"), (0, u "(II)Z")] 3

def k1m0 : Method := { name := "<init>", desc := "()V", sig := { parameters := [], returnType := none }, accessFlags := 1, code := none }
def k1c1 : Code := { maxStack := 3, maxLocals := 3, code := code, exceptionTable := #[], attributes := #[] }
def k1m1 : Method := { name := "law", desc := "(II)Z", sig := { parameters := [.int, .int], returnType := some .boolean }, accessFlags := 9, code := some k1c1 }
def k1c2 : Code := { maxStack := 2, maxLocals := 2, code := method_3_code, exceptionTable := #[], attributes := #[] }
def k1m2 : Method := { name := "ref", desc := "(I)Z", sig := { parameters := [.int], returnType := some .boolean }, accessFlags := 10, code := some k1c2 }
/-- com/example/covary/covary/url/UrlIsAsciiAlphaPinLaw -/
def k1 : Class := { plain "com/example/covary/covary/url/UrlIsAsciiAlphaPinLaw" (some 0) with
  accessFlags := 49
  interfaces := #[]
  cf := some (fileOf pool1 14 #[] #[{ accessFlags := 1, nameIndex := 5, descriptorIndex := 6, attributes := #[] }, { accessFlags := 9, nameIndex := 20, descriptorIndex := 21, attributes := #[] }, { accessFlags := 10, nameIndex := 17, descriptorIndex := 12, attributes := #[] }] 49 2 #[] #[])
  fields := #[]
  methods := #[k1m0, k1m1, k1m2]
  instanceTypes := #[]
  staticTypes := #[]
  resolved := Array.replicate 25 none
  statics := none }

def pool2 : Array CpInfo := pool [(2, .class_ 4), (1, u "java/lang/Object"), (0, u "<init>"), (0, u "()V"), (0, .class_ 8), (0, u "java/lang/Record")] 13

def k2m0 : Method := { name := "<init>", desc := "()V", sig := { parameters := [], returnType := none }, accessFlags := 4, code := none }
/-- java/lang/Record -/
def k2 : Class := { plain "java/lang/Record" (some 0) with
  accessFlags := 1057
  interfaces := #[]
  cf := some (fileOf pool2 7 #[] #[{ accessFlags := 4, nameIndex := 5, descriptorIndex := 6, attributes := #[] }] 1057 2 #[] #[])
  fields := #[]
  methods := #[k2m0]
  instanceTypes := #[]
  staticTypes := #[]
  resolved := Array.replicate 22 none
  statics := none }

def pool3 : Array CpInfo := pool [(2, .class_ 4), (1, u "java/lang/Record"), (9, .class_ 16), (1, u "com/example/covary/covary/url/Url"), (0, u "scheme"), (0, u "Ljava/lang/String;"), (2, u "username"), (2, u "password"), (2, u "host"), (2, u "port"), (0, u "I"), (2, u "path"), (0, u "Ljava/util/List;"), (2, u "opaquePath"), (2, u "query"), (2, u "fragment"), (10, .class_ 56), (0, u "com/example/covary/covary/url/Url$Parser"), (14, u "SPECIAL"), (0, u "Ljava/util/Map;"), (61, .class_ 136), (1, u "com/example/covary/covary/url/Url$EncodeSet"), (1, u "(I)Z"), (20, .class_ 160), (0, u "com/example/covary/covary/url/Url$1"), (9, u "HEX"), (0, u "[C"), (56, u "isAsciiAlpha"), (7, .class_ 237), (0, u "com/example/covary/covary/url/Url$State")] 32

def k3c0 : Code := { maxStack := 2, maxLocals := 1, code := prog_24_method_10_code, exceptionTable := #[], attributes := #[] }
def k3m0 : Method := { name := "isAsciiAlpha", desc := "(I)Z", sig := { parameters := [.int], returnType := some .boolean }, accessFlags := 9, code := some k3c0 }
/-- com/example/covary/covary/url/Url -/
def k3 : Class := { plain "com/example/covary/covary/url/Url" (some 2) with
  accessFlags := 49
  interfaces := #[]
  cf := some (fileOf pool3 14 #[.nestMembers #[55, 236, 134, 159]] #[{ accessFlags := 9, nameIndex := 228, descriptorIndex := 138, attributes := #[] }] 49 2 #[] #[{ accessFlags := 18, nameIndex := 17, descriptorIndex := 18, attributes := #[] }, { accessFlags := 18, nameIndex := 21, descriptorIndex := 18, attributes := #[] }, { accessFlags := 18, nameIndex := 24, descriptorIndex := 18, attributes := #[] }, { accessFlags := 18, nameIndex := 27, descriptorIndex := 18, attributes := #[] }, { accessFlags := 18, nameIndex := 30, descriptorIndex := 31, attributes := #[] }, { accessFlags := 18, nameIndex := 34, descriptorIndex := 35, attributes := #[] }, { accessFlags := 18, nameIndex := 38, descriptorIndex := 18, attributes := #[] }, { accessFlags := 18, nameIndex := 41, descriptorIndex := 18, attributes := #[] }, { accessFlags := 18, nameIndex := 44, descriptorIndex := 18, attributes := #[] }, { accessFlags := 26, nameIndex := 71, descriptorIndex := 72, attributes := #[] }, { accessFlags := 26, nameIndex := 170, descriptorIndex := 171, attributes := #[] }])
  fields := #[{ name := "scheme", type := (.object "java/lang/String"), accessFlags := 18, slot := 0, constantValue := 0 }, { name := "username", type := (.object "java/lang/String"), accessFlags := 18, slot := 1, constantValue := 0 }, { name := "password", type := (.object "java/lang/String"), accessFlags := 18, slot := 2, constantValue := 0 }, { name := "host", type := (.object "java/lang/String"), accessFlags := 18, slot := 3, constantValue := 0 }, { name := "port", type := .int, accessFlags := 18, slot := 4, constantValue := 0 }, { name := "path", type := (.object "java/util/List"), accessFlags := 18, slot := 5, constantValue := 0 }, { name := "opaquePath", type := (.object "java/lang/String"), accessFlags := 18, slot := 6, constantValue := 0 }, { name := "query", type := (.object "java/lang/String"), accessFlags := 18, slot := 7, constantValue := 0 }, { name := "fragment", type := (.object "java/lang/String"), accessFlags := 18, slot := 8, constantValue := 0 }, { name := "SPECIAL", type := (.object "java/util/Map"), accessFlags := 26, slot := 0, constantValue := 0 }, { name := "HEX", type := (.array .char), accessFlags := 26, slot := 1, constantValue := 0 }]
  methods := #[k3m0]
  instanceTypes := #[(.object "java/lang/String"), (.object "java/lang/String"), (.object "java/lang/String"), (.object "java/lang/String"), .int, (.object "java/util/List"), (.object "java/lang/String"), (.object "java/lang/String"), (.object "java/lang/String")]
  staticTypes := #[(.object "java/util/Map"), (.array .char)]
  resolved := Array.replicate 270 none
  statics := none }

def pool4 : Array CpInfo := pool [(1, u "java/lang/Cloneable"), (0, .class_ 1), (0, u "java/lang/Object"), (0, .class_ 3)] 3

/-- java/lang/Cloneable -/
def k4 : Class := { plain "java/lang/Cloneable" (some 0) with
  accessFlags := 1537
  interfaces := #[]
  cf := some (fileOf pool4 2 #[] #[] 1537 4 #[] #[])
  fields := #[]
  methods := #[]
  instanceTypes := #[]
  staticTypes := #[]
  resolved := Array.replicate 8 none
  statics := none }

def pool5 : Array CpInfo := pool [(1, u "java/io/Serializable"), (0, .class_ 1), (0, u "java/lang/Object"), (0, .class_ 3)] 3

/-- java/io/Serializable -/
def k5 : Class := { plain "java/io/Serializable" (some 0) with
  accessFlags := 1537
  interfaces := #[]
  cf := some (fileOf pool5 2 #[] #[] 1537 4 #[] #[])
  fields := #[]
  methods := #[]
  instanceTypes := #[]
  staticTypes := #[]
  resolved := Array.replicate 8 none
  statics := none }

/-- the primitive byte -/
def k6 : Class := { plain "byte" none with kind := .primitive 'B', accessFlags := 0x411 }
/-- [B -/
def k7 : Class := { plain "[B" (some 0) with kind := .array 6 .byte, interfaces := #[4, 5], accessFlags := 1041 }

def heap : Heap := #[]
def classes : Array Class := #[k0, k1, k2, k3, k4, k5, k6, k7]
def interned : List (Array UInt16 × Addr) := []
def slotsUsed : Nat := 0
def theMethod : MethodId := ⟨1, 1⟩
def args0 : Array Value := #[.int 70, .int 5]
def aboutOver (below : List Frame) : State where
  vm := { classes := classes, interned := interned.toArray }
  heap := heap
  slotsUsed := slotsUsed
  threads := #[{ frames := .invoking theMethod args0 :: below }]
def below0 : List Frame := [.native { method := ⟨0, 0⟩, args := #[] }]
def about1 : State := aboutOver below0
def p0 : Program := .bare "" "" ""
def e0 : Env := launch0.env 0 0 0
theorem w_frames : about1.frames = Frame.invoking theMethod args0 :: below0 := rfl
set_option maxRecDepth 65536 in
theorem w_args : argsFit about1.vm theMethod args0 = true := by decide +kernel
set_option maxRecDepth 65536 in
theorem w_heap : heapFits about1 = true := by decide +kernel
set_option maxRecDepth 65536 in
theorem w_runnable : about1.curStatus? = some .runnable := by decide +kernel
set_option maxRecDepth 65536 in
theorem w_alone : about1.alone = true := by decide +kernel
set_option maxRecDepth 65536 in
theorem w_named : about1.methodNamed? x = some theMethod := by decide +kernel
set_option maxRecDepth 65536 in
theorem w_hears : about1.hears theMethod below0 = true := by decide +kernel
set_option maxRecDepth 65536 in
theorem w_ripe : about1.ripe theMethod args0 below0 = true := by decide +kernel
theorem w_running : about1.status = .running := rfl
set_option maxRecDepth 65536 in
theorem w_room : about1.hasRoom e0.platform room_1 = true :=
  launch0.hasRoom_least _ room_1 (by decide +kernel) (by decide +kernel) (by decide +kernel) (by decide +kernel) (by decide +kernel) (by decide +kernel)
theorem allAtoms_all (ts : List Jvm.Cond) (a : Array Jvm.Value) (st : Jvm.State) : (allAtoms ts).before a st = ts.all (fun c => c.before a st) := by
  induction ts with
  | nil => rfl
  | cons c t ih =>
    show (Jvm.Cond.and c (allAtoms t)).before a st = _
    rw [Jvm.Cond.before_and, ih, List.all_cons]
def words1 : List Jvm.Cond := Jvm.Cond.code x code maxLocals ret :: tables_1
/-- a 'code' word, met by the world's own term for the bytes: nothing is compared byte by byte -/
theorem code_word {y : MethodName} {bytes : ByteArray} {mx : Nat} {rt : Option FieldType} {a : Array Value} {s : State} {m : MethodId} {meth : Method} {c : Code} (h1 : s.methodNamed? y = some m) (h2 : s.vm.method? m = some meth) (h3 : meth.code = some c) (h4 : c.code = bytes)
    (h5 : (c.maxLocals == mx && c.exceptionTable.isEmpty && decide (c.maxStack ≤ mostOperands) && decide (meth.sig.returnType = rt) && !meth.locks && decide (parseMethodDescriptor y.desc = some meth.sig)) = true) : (Jvm.Cond.code y bytes mx rt).before a s = true := by
  simp only [Bool.and_eq_true, beq_iff_eq, Bool.not_eq_true', decide_eq_true_eq] at h5
  obtain ⟨⟨⟨⟨⟨g1, g2⟩, g3⟩, g4⟩, g5⟩, g6⟩ := h5
  simp [Cond.before, Cond.holds, Cond.value, h1, h2, h3, h4, g1, g2, g3, g4, g5, g6]
def isCode : Jvm.Cond → Bool
  | .code _ _ _ _ => true
  | _ => false
theorem all_split {L : List Jvm.Cond} {P : Jvm.Cond → Bool} (h1 : L.all (fun c => isCode c || P c) = true) (h2 : ∀ c ∈ L.filter isCode, P c = true) : L.all P = true := by
  refine List.all_eq_true.mpr fun c hc => ?_
  have h := List.all_eq_true.mp h1 c hc
  rcases Bool.eq_false_or_eq_true (isCode c) with hi | hi
  · exact h2 c (List.mem_filter.mpr ⟨hc, hi⟩)
  · simpa [hi] using h
set_option maxRecDepth 65536 in
theorem w_c0 : (Jvm.Cond.code x code maxLocals ret).before args0 about1 = true := code_word (m := ⟨1, 1⟩) (meth := k1m1) (c := k1c1) (by decide +kernel) rfl rfl rfl (by decide +kernel)
set_option maxRecDepth 65536 in
theorem w_c1 : (Jvm.Cond.code ({ cls := "com/example/covary/covary/url/Url", name := "isAsciiAlpha", desc := "(I)Z" } : Jvm.MethodName) prog_24_method_10_code (1 : Nat) (Option.some Jvm.ClassFile.FieldType.boolean)).before args0 about1 = true := code_word (m := ⟨3, 0⟩) (meth := k3m0) (c := k3c0) (by decide +kernel) rfl rfl rfl (by decide +kernel)
set_option maxRecDepth 65536 in
theorem w_c2 : (Jvm.Cond.code ({ cls := "com/example/covary/covary/url/UrlIsAsciiAlphaPinLaw", name := "ref", desc := "(I)Z" } : Jvm.MethodName) method_3_code (2 : Nat) (Option.some Jvm.ClassFile.FieldType.boolean)).before args0 about1 = true := code_word (m := ⟨1, 2⟩) (meth := k1m2) (c := k1c2) (by decide +kernel) rfl rfl rfl (by decide +kernel)
def codes1 : List Jvm.Cond := [Jvm.Cond.code x code maxLocals ret, Jvm.Cond.code ({ cls := "com/example/covary/covary/url/Url", name := "isAsciiAlpha", desc := "(I)Z" } : Jvm.MethodName) prog_24_method_10_code (1 : Nat) (Option.some Jvm.ClassFile.FieldType.boolean), Jvm.Cond.code ({ cls := "com/example/covary/covary/url/UrlIsAsciiAlphaPinLaw", name := "ref", desc := "(I)Z" } : Jvm.MethodName) method_3_code (2 : Nat) (Option.some Jvm.ClassFile.FieldType.boolean)]
set_option maxRecDepth 65536 in
theorem codes_eq : words1.filter isCode = codes1 := rfl
theorem w_codes : ∀ c ∈ words1.filter isCode, c.before args0 about1 = true := by
  rw [codes_eq]
  intro c hc
  simp only [codes1, List.mem_cons, List.not_mem_nil, or_false] at hc
  rcases hc with rfl | rfl | rfl
  · exact w_c0
  · exact w_c1
  · exact w_c2
set_option maxRecDepth 65536 in
theorem w_t1 : words1.all (fun c => isCode c || c.before args0 about1) = true := by decide +kernel
theorem w_tables : (allAtoms (Jvm.Cond.code x code maxLocals ret :: tables_1)).before args0 about1 = true := by
  rw [allAtoms_all]
  show words1.all (fun c => c.before args0 about1) = true
  refine all_split ?_ w_codes
  rw [w_t1]
set_option maxRecDepth 65536 in
theorem w_case : (Jvm.Cond.and given_1 narrow_1).before args0 about1 = true := by decide +kernel
theorem w_applies : (headSpec (Jvm.Cond.code x code maxLocals ret :: tables_1) room_1).applies x e0.platform about1 = true :=
  (Spec.applies_iff w_frames).mpr ⟨w_running, w_runnable, w_alone, w_named, w_hears, w_ripe, w_room, w_tables⟩
theorem atStart : AtStart classFile x code maxLocals ret World_1 tables_1 room_1 Calls_1 rest_1 Pre_1 launch0 p0 e0 about1 theMethod args0 below0 :=
  ⟨lists_1, trivial, launch0.admits_env _ _ _, launch0.least_env, fairChoices_fair.cas, fairChoices_fair.clock, w_frames, w_args, w_heap, w_applies, trivial, trivial, w_case⟩
end start1
theorem witness_1 : WitnessClaimed_1 := ⟨start1.p0, start1.e0, start1.about1, start1.theMethod, start1.args0, start1.below0, start1.atStart⟩
end Jvm.Pilot.@@N@@
