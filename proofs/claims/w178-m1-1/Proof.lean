import JvmDerived
import JvmDerived.Pilot.@@N@@Statement
import JvmDerived.Pilot.@@N@@Code
set_option linter.unusedVariables false
set_option linter.unusedSimpArgs false
namespace Jvm.RoadKit
open Sem ClassFile Op Lib Jvm.Stand Jvm.Free Jvm.LawKit
section New
variable {p : Program} {l : Launch} {e : Env} {R : Room} {s : State} {m : MethodId} {args : Array Value} {below : List Frame} {meth : Method} {c : Code} {T : State} {locs : List Loc} {cells slots : Nat}
theorem retI (X : Stand p l e R s m args below meth c T locs cells slots) (hx : p.tables.exec = Jvm.exec) {pc : Nat} {Ls : Array Slot} {z : Int32} {rest : List Value} (hret : meth.sig.returnType = some .int) (hd : decode c.code pc = .ok (.ireturn, 1)) {fs : List Frame}
    (hl : ∀ (f : JFrame) (acts : List Action), f.method = m → f.locked = none → f.entered = [] → (doReturn e (T.setTop f) acts (some (.int z))).1 = T.setFrames fs) : Steps p.tables e below (T.setTop (mkF m pc Ls (.int z :: rest))) (T.setFrames fs) := by
  have hm' : T.vm.method? m = some meth := X.method'
  have hn : narrow .int (.int z) = .int z := rfl
  show Steps p.tables e below (T.setTop { method := m, pc := pc, locals := Ls, stack := _ :: rest, locked := none }) _
  jvm_step X.here [X.here.top, hx, hd, hm', hret, hn]
  first | (intro acts; rw [hl _ acts rfl rfl rfl]) | rw [hl _ _ rfl rfl rfl]
  exact Steps.refl _
end New
end Jvm.RoadKit
namespace Jvm.Pilot.@@N@@
open Jvm Jvm.ClassFile Sem Op Lib Jvm.Free Jvm.Stand Jvm.LawKit Jvm.RoadKit Bundle Jvm.Pilot.@@N@@.Jvm.D
theorem own_d2_0 : decode jdk_30_method_1_code 0 = .ok (.aload_n 0, 1) := by decide +kernel
theorem own_d2_1 : decode jdk_30_method_1_code 1 = .ok (.invokespecial 1, 3) := by decide +kernel
theorem own_d2_4 : decode jdk_30_method_1_code 4 = .ok (.return_, 1) := by decide +kernel
theorem own_pn0 : plainName "java/lang/Record" = true := by first | (simp [plainName, overriddenIn]; done) | decide +kernel
def Q_rm2 (Z : State) (ra : Addr) (h0 : Heap) (n0 : Nat) (v : Option Value) (h : Heap) (L : List Loc) : Prop := v = none ∧ (True) ∧ Fr n0 L ∧ h = h0
theorem own_ef_rm2 (m : MethodId) (ra : Addr) : entryFrame m #[(.ref ra)] 1 = mkF m 0 #[.val (.ref ra)] [] := by first | (simp [entryFrame, mkF, argsToLocals, Value.category]; done) | rfl
set_option maxRecDepth 65536 in
set_option maxHeartbeats 40000000 in
theorem rm2 (l : Launch) (Z : State) (a0 : Array Value) (hw : ∀ d ∈ tables_1, d.before a0 Z = true) (ws : List Jvm.Cond) (ra : Addr) (h0 : Heap) (n0 : Nat) (Z0 : n0 ≤ h0.size) :
    MetFree l (⟨"java/lang/Record", "<init>", "()V"⟩ : MethodName) (head1 (Jvm.Cond.code (⟨"java/lang/Record", "<init>", "()V"⟩ : MethodName) jdk_30_method_1_code 1 none :: ws) ({ frames := 1, cells := 0, slots := 0, locals := 12 } : Room)) (fun a U => a = #[(.ref ra)] ∧ Z.Warmed39 U.vm ∧ U.heap = h0) (fun _ _ _ _ _ => True) (fun _ U o U' => ∃ v L, o = .returned v ∧ Q_rm2 Z ra h0 n0 v U'.heap L ∧ FrameEnd U o U' L ({ frames := 1, cells := 0, slots := 0, locals := 12 } : Room).cells ({ frames := 1, cells := 0, slots := 0, locals := 12 } : Room).slots) := by
  refine MetFree.of_bodySF (plainFor_of_name own_pn0) hisR ?_
  intro p e s m args below meth c s₁ Bd hml0 hP hK
  obtain ⟨rfl, hZ, hh⟩ := hP
  have hx := Bd.exec
  have hby := Bd.bytes
  have hml : c.maxLocals = 1 := hml0
  have hown : s.vm.findClass "java/lang/Record" = some m.cls := findClass_of_methodNamed Bd.named
  have hnm := (name_of_methodNamed Bd.named Bd.method).1
  have X0 : Stand p l e ({ frames := 1, cells := 0, slots := 0, locals := 12 } : Room) s m #[(.ref ra)] below meth c s₁ [] 0 0 := Stand.of_body Bd
  have e0 : s₁.heap = h0 := by rw [← hh, Bd.state]; rfl
  have N0 := Fr.nil n0
  have pre0 : ∀ t, Steps p.tables e below (s₁.setTop (mkF m 0 #[.val (.ref ra)] [])) t → Steps p.tables e below (s₁.setTop (entryFrame m #[(.ref ra)] 1)) t := fun t k => castTop (own_ef_rm2 m ra) k
  have K1 : ∀ t, Steps p.tables e below (s₁.setTop (mkF m 1 #[.val (.ref ra)] [(.ref ra)])) t → Steps p.tables e below (s₁.setTop (entryFrame m #[(.ref ra)] 1)) t := fun t k => pre0 t (by
    show Steps p.tables e below (s₁.setTop (mkF m 0 #[.val (.ref ra)] [])) t
    refine XS.aloadN X0.here hx rfl (hb hby own_d2_0) rfl rfl ?_
    exact k)
  obtain ⟨T2, X2, e2, st2⟩ := initO X0 hx hZ hown (hw _ (List.mem_of_getElem? (i := 11) rfl)) (hw _ (List.mem_of_getElem? (i := 12) rfl)) (hw _ (List.mem_of_getElem? (i := 13) rfl)) e0 (g := (mkF m 1 #[.val (.ref ra)] [(.ref ra)])) rfl (by rw [hml]; rfl) rfl (hb hby own_d2_1) (by decide) (W := 0) (by show 2 * 0 + _ ≤ _; exact Nat.le_of_eq rfl) (by decide)
  have K3 : ∀ t, Steps p.tables e below (T2.setTop (mkF m 4 #[.val (.ref ra)] [])) t → Steps p.tables e below (s₁.setTop (entryFrame m #[(.ref ra)] 1)) t := fun t k => K1 t (st2 _ k)
  obtain ⟨fs, hr, hrun, hended, hW, hsame⟩ := X2.leave (v := none) (fun _ => rfl)
  refine ⟨_, _, K3 _ ?_, hrun, hended, _, _, rfl, ?_, ⟨_, rfl⟩, hW, hsame.mono (by decide) (by decide)⟩
  · exact X2.returnOut hx Bd.returns (hb hby own_d2_4) hr
  · show Q_rm2 Z ra h0 n0 _ T2.heap _
    rw [e2]
    exact ⟨rfl, (by trivial), N0, rfl⟩
theorem own_d1_0 : decode prog_21_method_1_code 0 = .ok (.aload_n 0, 1) := by decide +kernel
theorem own_d1_1 : decode prog_21_method_1_code 1 = .ok (.invokespecial 1, 3) := by decide +kernel
theorem own_d1_4 : decode prog_21_method_1_code 4 = .ok (.aload_n 0, 1) := by decide +kernel
theorem own_d1_5 : decode prog_21_method_1_code 5 = .ok (.lload_n 1, 1) := by decide +kernel
theorem own_d1_6 : decode prog_21_method_1_code 6 = .ok (.putfield 7, 3) := by decide +kernel
theorem own_d1_9 : decode prog_21_method_1_code 9 = .ok (.aload_n 0, 1) := by decide +kernel
theorem own_d1_10 : decode prog_21_method_1_code 10 = .ok (.lload_n 3, 1) := by decide +kernel
theorem own_d1_11 : decode prog_21_method_1_code 11 = .ok (.putfield 13, 3) := by decide +kernel
theorem own_d1_14 : decode prog_21_method_1_code 14 = .ok (.aload_n 0, 1) := by decide +kernel
theorem own_d1_15 : decode prog_21_method_1_code 15 = .ok (.lload 5, 2) := by decide +kernel
theorem own_d1_17 : decode prog_21_method_1_code 17 = .ok (.putfield 16, 3) := by decide +kernel
theorem own_d1_20 : decode prog_21_method_1_code 20 = .ok (.aload_n 0, 1) := by decide +kernel
theorem own_d1_21 : decode prog_21_method_1_code 21 = .ok (.lload 7, 2) := by decide +kernel
theorem own_d1_23 : decode prog_21_method_1_code 23 = .ok (.putfield 19, 3) := by decide +kernel
theorem own_d1_26 : decode prog_21_method_1_code 26 = .ok (.return_, 1) := by decide +kernel
theorem own_pn1 : plainName "turnstile/bench/Tally" = true := by first | (simp [plainName, overriddenIn]; done) | decide +kernel
theorem own_pd0 : parseMethodDescriptor "()V" = some ⟨[], none⟩ := by decide +kernel
def Q_rm1 (Z : State) (ta : Addr) (u0 : Int64) (u1 : Int64) (u2 : Int64) (u3 : Int64) (h0 : Heap) (n0 : Nat) (v : Option Value) (h : Heap) (L : List Loc) : Prop := v = none ∧ (True) ∧ Fr n0 L ∧ Keep h0 h [ta] ∧ Exa Z h ta "turnstile/bench/Tally" ∧ Fld Z h ta "turnstile/bench/Tally" "iterations" "J" (.long u0) ∧ Fld Z h ta "turnstile/bench/Tally" "nanos" "J" (.long u1) ∧ Fld Z h ta "turnstile/bench/Tally" "counter" "J" (.long u2) ∧ Fld Z h ta "turnstile/bench/Tally" "acquisitions" "J" (.long u3)
theorem own_ef_rm1 (m : MethodId) (ta : Addr) (u0 : Int64) (u1 : Int64) (u2 : Int64) (u3 : Int64) : entryFrame m #[(.ref ta), (.long u0), (.long u1), (.long u2), (.long u3)] 9 = mkF m 0 #[.val (.ref ta), .val (.long u0), .second, .val (.long u1), .second, .val (.long u2), .second, .val (.long u3), .second] [] := by first | (simp [entryFrame, mkF, argsToLocals, Value.category]; done) | rfl
set_option maxRecDepth 65536 in
set_option maxHeartbeats 40000000 in
theorem rm1 (l : Launch) (Z : State) (a0 : Array Value) (hw : ∀ d ∈ tables_1, d.before a0 Z = true) (ws : List Jvm.Cond) (ta : Addr) (u0 : Int64) (u1 : Int64) (u2 : Int64) (u3 : Int64) (h0 : Heap) (n0 : Nat) (Z0 : n0 ≤ h0.size) (P_0 : Exa Z h0 ta "turnstile/bench/Tally") (P_1 : Fld Z h0 ta "turnstile/bench/Tally" "iterations" "J" (.long (0 : Int64))) (P_2 : Fld Z h0 ta "turnstile/bench/Tally" "nanos" "J" (.long (0 : Int64))) (P_3 : Fld Z h0 ta "turnstile/bench/Tally" "counter" "J" (.long (0 : Int64))) (P_4 : Fld Z h0 ta "turnstile/bench/Tally" "acquisitions" "J" (.long (0 : Int64))) (P_5 : n0 ≤ ta) :
    MetFree l (⟨"turnstile/bench/Tally", "<init>", "(JJJJ)V"⟩ : MethodName) (head1 (Jvm.Cond.code (⟨"turnstile/bench/Tally", "<init>", "(JJJJ)V"⟩ : MethodName) prog_21_method_1_code 9 none :: ws) ({ frames := 2, cells := 0, slots := 0, locals := 24 } : Room)) (fun a U => a = #[(.ref ta), (.long u0), (.long u1), (.long u2), (.long u3)] ∧ Z.Warmed39 U.vm ∧ U.heap = h0) (fun _ _ _ _ _ => True) (fun _ U o U' => ∃ v L, o = .returned v ∧ Q_rm1 Z ta u0 u1 u2 u3 h0 n0 v U'.heap L ∧ FrameEnd U o U' L ({ frames := 2, cells := 0, slots := 0, locals := 24 } : Room).cells ({ frames := 2, cells := 0, slots := 0, locals := 24 } : Room).slots) := by
  refine MetFree.of_bodySF (plainFor_of_name own_pn1) hisR ?_
  intro p e s m args below meth c s₁ Bd hml0 hP hK
  obtain ⟨rfl, hZ, hh⟩ := hP
  have hx := Bd.exec
  have hby := Bd.bytes
  have hml : c.maxLocals = 9 := hml0
  have hown : s.vm.findClass "turnstile/bench/Tally" = some m.cls := findClass_of_methodNamed Bd.named
  have hnm := (name_of_methodNamed Bd.named Bd.method).1
  have X0 : Stand p l e ({ frames := 2, cells := 0, slots := 0, locals := 24 } : Room) s m #[(.ref ta), (.long u0), (.long u1), (.long u2), (.long u3)] below meth c s₁ [] 0 0 := Stand.of_body Bd
  have e0 : s₁.heap = h0 := by rw [← hh, Bd.state]; rfl
  have N0 := Fr.nil n0
  have pre0 : ∀ t, Steps p.tables e below (s₁.setTop (mkF m 0 #[.val (.ref ta), .val (.long u0), .second, .val (.long u1), .second, .val (.long u2), .second, .val (.long u3), .second] [])) t → Steps p.tables e below (s₁.setTop (entryFrame m #[(.ref ta), (.long u0), (.long u1), (.long u2), (.long u3)] 9)) t := fun t k => castTop (own_ef_rm1 m ta u0 u1 u2 u3) k
  have K4 : ∀ t, Steps p.tables e below (s₁.setTop (mkF m 1 #[.val (.ref ta), .val (.long u0), .second, .val (.long u1), .second, .val (.long u2), .second, .val (.long u3), .second] [(.ref ta)])) t → Steps p.tables e below (s₁.setTop (entryFrame m #[(.ref ta), (.long u0), (.long u1), (.long u2), (.long u3)] 9)) t := fun t k => pre0 t (by
    show Steps p.tables e below (s₁.setTop (mkF m 0 #[.val (.ref ta), .val (.long u0), .second, .val (.long u1), .second, .val (.long u2), .second, .val (.long u3), .second] [])) t
    refine XS.aloadN X0.here hx rfl (hb hby own_d1_0) rfl rfl ?_
    exact k)
  obtain ⟨_, _, ⟨T5, L5, kk5, nn5⟩, -, X5, ⟨Lc5, hQ5, l5, y5, z5⟩, st5⟩ := X0.specialBack hx (y := (⟨"java/lang/Record", "<init>", "()V"⟩ : MethodName)) rfl hown (mvT hZ (hw _ (List.mem_of_getElem? (i := 6) rfl))) (mvT hZ (hw _ (List.mem_of_getElem? (i := 7) rfl))) (mvT hZ (hw _ (List.mem_of_getElem? (i := 10) rfl))) (by decide) (backOf (W := 0) (rm2 l Z a0 hw [] ta h0 n0 Z0) hZ (hw _ (List.mem_of_getElem? (i := 10) rfl)) (hw _ (List.mem_of_getElem? (i := 9) rfl)) (by decide) (by decide)) (g := (mkF m 1 #[.val (.ref ta), .val (.long u0), .second, .val (.long u1), .second, .val (.long u2), .second, .val (.long u3), .second] [(.ref ta)])) rfl (by rw [hml]; rfl) (Steps.refl _) (a := ta) (argsL := []) (rest := []) (lenOf own_pd0 rfl) rfl (by show 2 * 0 + _ ≤ _; exact Nat.le_of_eq rfl) (hb hby own_d1_1) (fun _ _ => ⟨rfl, e0, (by decide : 0 + 0 ≤ _), (by decide : 0 + 0 ≤ _)⟩)
  dsimp only [Pt.U, Pt.locs, Pt.cells, Pt.slots] at X5 l5 y5 z5 st5 hQ5
  subst l5 y5 z5
  obtain ⟨rfl, Sp5, Nq5, eh5⟩ := hQ5
  have N6 := Fr.app N0 Nq5
  have K7 : ∀ t, Steps p.tables e below (T5.setTop (mkF m 4 #[.val (.ref ta), .val (.long u0), .second, .val (.long u1), .second, .val (.long u2), .second, .val (.long u3), .second] [])) t → Steps p.tables e below (s₁.setTop (entryFrame m #[(.ref ta), (.long u0), (.long u1), (.long u2), (.long u3)] 9)) t := fun t k => K4 t (st5.trans k)
  have K8 : ∀ t, Steps p.tables e below (T5.setTop (mkF m 6 #[.val (.ref ta), .val (.long u0), .second, .val (.long u1), .second, .val (.long u2), .second, .val (.long u3), .second] [(.long u0), (.ref ta)])) t → Steps p.tables e below (s₁.setTop (entryFrame m #[(.ref ta), (.long u0), (.long u1), (.long u2), (.long u3)] 9)) t := fun t k => K7 t (by
    show Steps p.tables e below (T5.setTop (mkF m 4 #[.val (.ref ta), .val (.long u0), .second, .val (.long u1), .second, .val (.long u2), .second, .val (.long u3), .second] [])) t
    refine XS.aloadN X5.here hx rfl (hb hby own_d1_4) rfl rfl ?_
    show Steps p.tables e below (T5.setTop (mkF m 5 #[.val (.ref ta), .val (.long u0), .second, .val (.long u1), .second, .val (.long u2), .second, .val (.long u3), .second] [(.ref ta)])) t
    refine XS.lloadN X5.here hx rfl (hb hby own_d1_5) rfl ?_
    exact k)
  obtain ⟨T9, h9, X9, e9, W9, st9⟩ := putF X5 hx hZ hown (host := "") (Or.inl (hw _ (List.mem_of_getElem? (i := 14) rfl))) Via.refl eh5 P_1 P_0 (Or.inr ⟨(hw _ (List.mem_of_getElem? (i := 15) rfl)), rfl, hnm⟩) (hw _ (List.mem_of_getElem? (i := 1) rfl)) (ty := .long) (by decide) rfl rfl (g := (mkF m 6 #[.val (.ref ta), .val (.long u0), .second, .val (.long u1), .second, .val (.long u2), .second, .val (.long u3), .second] [(.long u0), (.ref ta)])) rfl rfl (hb hby own_d1_6)
  have F10 := P_1.same W9
  have Kp11 : Keep h0 h9 [ta] := Keep.wr (Keep.refl h0 [ta]) W9 (Or.inl (List.mem_of_getElem? (i := 0) rfl))
  have Z12 : n0 ≤ h9.size := Nat.le_trans Z0 (Keep.of_wr W9).1
  have N13 := Fr.snoc X9 N6 P_5
  have F14 := P_0.wr W9
  have F15 := P_2.other W9 (Or.inr (slot_ne (Or.inr (hw _ (List.mem_of_getElem? (i := 17) rfl))) (Or.inr (hw _ (List.mem_of_getElem? (i := 15) rfl))) (by decide) (t := .long) (t' := .long) (by decide) (by decide)))
  have F16 := P_3.other W9 (Or.inr (slot_ne (Or.inr (hw _ (List.mem_of_getElem? (i := 19) rfl))) (Or.inr (hw _ (List.mem_of_getElem? (i := 15) rfl))) (by decide) (t := .long) (t' := .long) (by decide) (by decide)))
  have F17 := P_4.other W9 (Or.inr (slot_ne (Or.inr (hw _ (List.mem_of_getElem? (i := 21) rfl))) (Or.inr (hw _ (List.mem_of_getElem? (i := 15) rfl))) (by decide) (t := .long) (t' := .long) (by decide) (by decide)))
  have K18 : ∀ t, Steps p.tables e below (T9.setTop (mkF m 9 #[.val (.ref ta), .val (.long u0), .second, .val (.long u1), .second, .val (.long u2), .second, .val (.long u3), .second] [])) t → Steps p.tables e below (s₁.setTop (entryFrame m #[(.ref ta), (.long u0), (.long u1), (.long u2), (.long u3)] 9)) t := fun t k => K8 t (st9 _ k)
  have K19 : ∀ t, Steps p.tables e below (T9.setTop (mkF m 11 #[.val (.ref ta), .val (.long u0), .second, .val (.long u1), .second, .val (.long u2), .second, .val (.long u3), .second] [(.long u1), (.ref ta)])) t → Steps p.tables e below (s₁.setTop (entryFrame m #[(.ref ta), (.long u0), (.long u1), (.long u2), (.long u3)] 9)) t := fun t k => K18 t (by
    show Steps p.tables e below (T9.setTop (mkF m 9 #[.val (.ref ta), .val (.long u0), .second, .val (.long u1), .second, .val (.long u2), .second, .val (.long u3), .second] [])) t
    refine XS.aloadN X9.here hx rfl (hb hby own_d1_9) rfl rfl ?_
    show Steps p.tables e below (T9.setTop (mkF m 10 #[.val (.ref ta), .val (.long u0), .second, .val (.long u1), .second, .val (.long u2), .second, .val (.long u3), .second] [(.ref ta)])) t
    refine XS.lloadN X9.here hx rfl (hb hby own_d1_10) rfl ?_
    exact k)
  obtain ⟨T20, h20, X20, e20, W20, st20⟩ := putF X9 hx hZ hown (host := "") (Or.inl (hw _ (List.mem_of_getElem? (i := 16) rfl))) Via.refl e9 F15 F14 (Or.inr ⟨(hw _ (List.mem_of_getElem? (i := 17) rfl)), rfl, hnm⟩) (hw _ (List.mem_of_getElem? (i := 1) rfl)) (ty := .long) (by decide) rfl rfl (g := (mkF m 11 #[.val (.ref ta), .val (.long u0), .second, .val (.long u1), .second, .val (.long u2), .second, .val (.long u3), .second] [(.long u1), (.ref ta)])) rfl rfl (hb hby own_d1_11)
  have F21 := F15.same W20
  have Kp22 : Keep h0 h20 [ta] := Keep.wr Kp11 W20 (Or.inl (List.mem_of_getElem? (i := 0) rfl))
  have Z23 : n0 ≤ h20.size := Nat.le_trans Z12 (Keep.of_wr W20).1
  have N24 := Fr.snoc X20 N13 P_5
  have F25 := F14.wr W20
  have F26 := F16.other W20 (Or.inr (slot_ne (Or.inr (hw _ (List.mem_of_getElem? (i := 19) rfl))) (Or.inr (hw _ (List.mem_of_getElem? (i := 17) rfl))) (by decide) (t := .long) (t' := .long) (by decide) (by decide)))
  have F27 := F17.other W20 (Or.inr (slot_ne (Or.inr (hw _ (List.mem_of_getElem? (i := 21) rfl))) (Or.inr (hw _ (List.mem_of_getElem? (i := 17) rfl))) (by decide) (t := .long) (t' := .long) (by decide) (by decide)))
  have F28 := F10.other W20 (Or.inr (slot_ne (Or.inr (hw _ (List.mem_of_getElem? (i := 15) rfl))) (Or.inr (hw _ (List.mem_of_getElem? (i := 17) rfl))) (by decide) (t := .long) (t' := .long) (by decide) (by decide)))
  have K29 : ∀ t, Steps p.tables e below (T20.setTop (mkF m 14 #[.val (.ref ta), .val (.long u0), .second, .val (.long u1), .second, .val (.long u2), .second, .val (.long u3), .second] [])) t → Steps p.tables e below (s₁.setTop (entryFrame m #[(.ref ta), (.long u0), (.long u1), (.long u2), (.long u3)] 9)) t := fun t k => K19 t (st20 _ k)
  have K30 : ∀ t, Steps p.tables e below (T20.setTop (mkF m 17 #[.val (.ref ta), .val (.long u0), .second, .val (.long u1), .second, .val (.long u2), .second, .val (.long u3), .second] [(.long u2), (.ref ta)])) t → Steps p.tables e below (s₁.setTop (entryFrame m #[(.ref ta), (.long u0), (.long u1), (.long u2), (.long u3)] 9)) t := fun t k => K29 t (by
    show Steps p.tables e below (T20.setTop (mkF m 14 #[.val (.ref ta), .val (.long u0), .second, .val (.long u1), .second, .val (.long u2), .second, .val (.long u3), .second] [])) t
    refine XS.aloadN X20.here hx rfl (hb hby own_d1_14) rfl rfl ?_
    show Steps p.tables e below (T20.setTop (mkF m 15 #[.val (.ref ta), .val (.long u0), .second, .val (.long u1), .second, .val (.long u2), .second, .val (.long u3), .second] [(.ref ta)])) t
    refine XS.lload X20.here hx rfl (hb hby own_d1_15) rfl ?_
    exact k)
  obtain ⟨T31, h31, X31, e31, W31, st31⟩ := putF X20 hx hZ hown (host := "") (Or.inl (hw _ (List.mem_of_getElem? (i := 18) rfl))) Via.refl e20 F26 F25 (Or.inr ⟨(hw _ (List.mem_of_getElem? (i := 19) rfl)), rfl, hnm⟩) (hw _ (List.mem_of_getElem? (i := 1) rfl)) (ty := .long) (by decide) rfl rfl (g := (mkF m 17 #[.val (.ref ta), .val (.long u0), .second, .val (.long u1), .second, .val (.long u2), .second, .val (.long u3), .second] [(.long u2), (.ref ta)])) rfl rfl (hb hby own_d1_17)
  have F32 := F26.same W31
  have Kp33 : Keep h0 h31 [ta] := Keep.wr Kp22 W31 (Or.inl (List.mem_of_getElem? (i := 0) rfl))
  have Z34 : n0 ≤ h31.size := Nat.le_trans Z23 (Keep.of_wr W31).1
  have N35 := Fr.snoc X31 N24 P_5
  have F36 := F25.wr W31
  have F37 := F27.other W31 (Or.inr (slot_ne (Or.inr (hw _ (List.mem_of_getElem? (i := 21) rfl))) (Or.inr (hw _ (List.mem_of_getElem? (i := 19) rfl))) (by decide) (t := .long) (t' := .long) (by decide) (by decide)))
  have F38 := F28.other W31 (Or.inr (slot_ne (Or.inr (hw _ (List.mem_of_getElem? (i := 15) rfl))) (Or.inr (hw _ (List.mem_of_getElem? (i := 19) rfl))) (by decide) (t := .long) (t' := .long) (by decide) (by decide)))
  have F39 := F21.other W31 (Or.inr (slot_ne (Or.inr (hw _ (List.mem_of_getElem? (i := 17) rfl))) (Or.inr (hw _ (List.mem_of_getElem? (i := 19) rfl))) (by decide) (t := .long) (t' := .long) (by decide) (by decide)))
  have K40 : ∀ t, Steps p.tables e below (T31.setTop (mkF m 20 #[.val (.ref ta), .val (.long u0), .second, .val (.long u1), .second, .val (.long u2), .second, .val (.long u3), .second] [])) t → Steps p.tables e below (s₁.setTop (entryFrame m #[(.ref ta), (.long u0), (.long u1), (.long u2), (.long u3)] 9)) t := fun t k => K30 t (st31 _ k)
  have K41 : ∀ t, Steps p.tables e below (T31.setTop (mkF m 23 #[.val (.ref ta), .val (.long u0), .second, .val (.long u1), .second, .val (.long u2), .second, .val (.long u3), .second] [(.long u3), (.ref ta)])) t → Steps p.tables e below (s₁.setTop (entryFrame m #[(.ref ta), (.long u0), (.long u1), (.long u2), (.long u3)] 9)) t := fun t k => K40 t (by
    show Steps p.tables e below (T31.setTop (mkF m 20 #[.val (.ref ta), .val (.long u0), .second, .val (.long u1), .second, .val (.long u2), .second, .val (.long u3), .second] [])) t
    refine XS.aloadN X31.here hx rfl (hb hby own_d1_20) rfl rfl ?_
    show Steps p.tables e below (T31.setTop (mkF m 21 #[.val (.ref ta), .val (.long u0), .second, .val (.long u1), .second, .val (.long u2), .second, .val (.long u3), .second] [(.ref ta)])) t
    refine XS.lload X31.here hx rfl (hb hby own_d1_21) rfl ?_
    exact k)
  obtain ⟨T42, h42, X42, e42, W42, st42⟩ := putF X31 hx hZ hown (host := "") (Or.inl (hw _ (List.mem_of_getElem? (i := 20) rfl))) Via.refl e31 F37 F36 (Or.inr ⟨(hw _ (List.mem_of_getElem? (i := 21) rfl)), rfl, hnm⟩) (hw _ (List.mem_of_getElem? (i := 1) rfl)) (ty := .long) (by decide) rfl rfl (g := (mkF m 23 #[.val (.ref ta), .val (.long u0), .second, .val (.long u1), .second, .val (.long u2), .second, .val (.long u3), .second] [(.long u3), (.ref ta)])) rfl rfl (hb hby own_d1_23)
  have F43 := F37.same W42
  have Kp44 : Keep h0 h42 [ta] := Keep.wr Kp33 W42 (Or.inl (List.mem_of_getElem? (i := 0) rfl))
  have Z45 : n0 ≤ h42.size := Nat.le_trans Z34 (Keep.of_wr W42).1
  have N46 := Fr.snoc X42 N35 P_5
  have F47 := F36.wr W42
  have F48 := F38.other W42 (Or.inr (slot_ne (Or.inr (hw _ (List.mem_of_getElem? (i := 15) rfl))) (Or.inr (hw _ (List.mem_of_getElem? (i := 21) rfl))) (by decide) (t := .long) (t' := .long) (by decide) (by decide)))
  have F49 := F39.other W42 (Or.inr (slot_ne (Or.inr (hw _ (List.mem_of_getElem? (i := 17) rfl))) (Or.inr (hw _ (List.mem_of_getElem? (i := 21) rfl))) (by decide) (t := .long) (t' := .long) (by decide) (by decide)))
  have F50 := F32.other W42 (Or.inr (slot_ne (Or.inr (hw _ (List.mem_of_getElem? (i := 19) rfl))) (Or.inr (hw _ (List.mem_of_getElem? (i := 21) rfl))) (by decide) (t := .long) (t' := .long) (by decide) (by decide)))
  have K51 : ∀ t, Steps p.tables e below (T42.setTop (mkF m 26 #[.val (.ref ta), .val (.long u0), .second, .val (.long u1), .second, .val (.long u2), .second, .val (.long u3), .second] [])) t → Steps p.tables e below (s₁.setTop (entryFrame m #[(.ref ta), (.long u0), (.long u1), (.long u2), (.long u3)] 9)) t := fun t k => K41 t (st42 _ k)
  obtain ⟨fs, hr, hrun, hended, hW, hsame⟩ := X42.leave (v := none) (fun _ => rfl)
  refine ⟨_, _, K51 _ ?_, hrun, hended, _, _, rfl, ?_, ⟨_, rfl⟩, hW, hsame.mono (by decide) (by decide)⟩
  · exact X42.returnOut hx Bd.returns (hb hby own_d1_26) hr
  · show Q_rm1 Z ta u0 u1 u2 u3 h0 n0 _ T42.heap _
    rw [e42]
    exact ⟨rfl, (by trivial), N46, Kp44, F47, F48, F49, F50, F43⟩
theorem own_d4_0 : decode prog_21_method_2_code 0 = .ok (.aload_n 0, 1) := by decide +kernel
theorem own_d4_1 : decode prog_21_method_2_code 1 = .ok (.getfield 16, 3) := by decide +kernel
theorem own_d4_4 : decode prog_21_method_2_code 4 = .ok (.aload_n 0, 1) := by decide +kernel
theorem own_d4_5 : decode prog_21_method_2_code 5 = .ok (.getfield 19, 3) := by decide +kernel
theorem own_d4_8 : decode prog_21_method_2_code 8 = .ok (.lcmp, 1) := by decide +kernel
theorem own_d4_9 : decode prog_21_method_2_code 9 = .ok (.ifCond .eq 7, 3) := by decide +kernel
theorem own_d4_12 : decode prog_21_method_2_code 12 = .ok (.iconst 1, 1) := by decide +kernel
theorem own_d4_13 : decode prog_21_method_2_code 13 = .ok (.goto 4, 3) := by decide +kernel
theorem own_d4_16 : decode prog_21_method_2_code 16 = .ok (.iconst 0, 1) := by decide +kernel
theorem own_d4_17 : decode prog_21_method_2_code 17 = .ok (.ireturn, 1) := by decide +kernel
def Q_rm4 (Z : State) (ta : Addr) (u : Int64) (w : Int64) (h0 : Heap) (n0 : Nat) (v : Option Value) (h : Heap) (L : List Loc) : Prop := ∃ r : Int32, v = some (.int r) ∧ ((r.toInt = 1 ∧ ¬ u.toInt = w.toInt) ∨ (r.toInt = 0 ∧ u.toInt = w.toInt)) ∧ Fr n0 L ∧ h = h0
theorem own_ef_rm4 (m : MethodId) (ta : Addr) : entryFrame m #[(.ref ta)] 1 = mkF m 0 #[.val (.ref ta)] [] := by first | (simp [entryFrame, mkF, argsToLocals, Value.category]; done) | rfl
set_option maxRecDepth 65536 in
set_option maxHeartbeats 40000000 in
theorem rm4 (l : Launch) (Z : State) (a0 : Array Value) (hw : ∀ d ∈ tables_1, d.before a0 Z = true) (ws : List Jvm.Cond) (ta : Addr) (u : Int64) (w : Int64) (h0 : Heap) (n0 : Nat) (Z0 : n0 ≤ h0.size) (P_0 : Fld Z h0 ta "turnstile/bench/Tally" "counter" "J" (.long u)) (P_1 : Fld Z h0 ta "turnstile/bench/Tally" "acquisitions" "J" (.long w)) :
    MetFree l (⟨"turnstile/bench/Tally", "lostUpdate", "()Z"⟩ : MethodName) (head1 (Jvm.Cond.code (⟨"turnstile/bench/Tally", "lostUpdate", "()Z"⟩ : MethodName) prog_21_method_2_code 1 (some .boolean) :: ws) ({ frames := 0, cells := 0, slots := 0, locals := 0 } : Room)) (fun a U => a = #[(.ref ta)] ∧ Z.Warmed39 U.vm ∧ U.heap = h0) (fun _ _ _ _ _ => True) (fun _ U o U' => ∃ v L, o = .returned v ∧ Q_rm4 Z ta u w h0 n0 v U'.heap L ∧ FrameEnd U o U' L ({ frames := 0, cells := 0, slots := 0, locals := 0 } : Room).cells ({ frames := 0, cells := 0, slots := 0, locals := 0 } : Room).slots) := by
  refine MetFree.of_bodySF (plainFor_of_name own_pn1) hisR ?_
  intro p e s m args below meth c s₁ Bd hml0 hP hK
  obtain ⟨rfl, hZ, hh⟩ := hP
  have hx := Bd.exec
  have hby := Bd.bytes
  have hml : c.maxLocals = 1 := hml0
  have hown : s.vm.findClass "turnstile/bench/Tally" = some m.cls := findClass_of_methodNamed Bd.named
  have hnm := (name_of_methodNamed Bd.named Bd.method).1
  have X0 : Stand p l e ({ frames := 0, cells := 0, slots := 0, locals := 0 } : Room) s m #[(.ref ta)] below meth c s₁ [] 0 0 := Stand.of_body Bd
  have e0 : s₁.heap = h0 := by rw [← hh, Bd.state]; rfl
  have N0 := Fr.nil n0
  have pre0 : ∀ t, Steps p.tables e below (s₁.setTop (mkF m 0 #[.val (.ref ta)] [])) t → Steps p.tables e below (s₁.setTop (entryFrame m #[(.ref ta)] 1)) t := fun t k => castTop (own_ef_rm4 m ta) k
  have K52 : ∀ t, Steps p.tables e below (s₁.setTop (mkF m 1 #[.val (.ref ta)] [(.ref ta)])) t → Steps p.tables e below (s₁.setTop (entryFrame m #[(.ref ta)] 1)) t := fun t k => pre0 t (by
    show Steps p.tables e below (s₁.setTop (mkF m 0 #[.val (.ref ta)] [])) t
    refine XS.aloadN X0.here hx rfl (hb hby own_d4_0) rfl rfl ?_
    exact k)
  obtain ⟨T53, X53, e53, st53⟩ := getF X0 hx hZ hown (host := "") (Or.inl (hw _ (List.mem_of_getElem? (i := 18) rfl))) Via.refl e0 P_0 (g := (mkF m 1 #[.val (.ref ta)] [(.ref ta)])) rfl rfl (hb hby own_d4_1)
  have K54 : ∀ t, Steps p.tables e below (T53.setTop (mkF m 4 #[.val (.ref ta)] [(.long u)])) t → Steps p.tables e below (s₁.setTop (entryFrame m #[(.ref ta)] 1)) t := fun t k => K52 t (st53 _ k)
  have K55 : ∀ t, Steps p.tables e below (T53.setTop (mkF m 5 #[.val (.ref ta)] [(.ref ta), (.long u)])) t → Steps p.tables e below (s₁.setTop (entryFrame m #[(.ref ta)] 1)) t := fun t k => K54 t (by
    show Steps p.tables e below (T53.setTop (mkF m 4 #[.val (.ref ta)] [(.long u)])) t
    refine XS.aloadN X53.here hx rfl (hb hby own_d4_4) rfl rfl ?_
    exact k)
  obtain ⟨T56, X56, e56, st56⟩ := getF X53 hx hZ hown (host := "") (Or.inl (hw _ (List.mem_of_getElem? (i := 20) rfl))) Via.refl e53 P_1 (g := (mkF m 5 #[.val (.ref ta)] [(.ref ta), (.long u)])) rfl rfl (hb hby own_d4_5)
  have K57 : ∀ t, Steps p.tables e below (T56.setTop (mkF m 8 #[.val (.ref ta)] [(.long w), (.long u)])) t → Steps p.tables e below (s₁.setTop (entryFrame m #[(.ref ta)] 1)) t := fun t k => K55 t (st56 _ k)
  have K59 : ∀ t, Steps p.tables e below (T56.setTop (mkF m 9 #[.val (.ref ta)] [(.int (lcmpW u w))])) t → Steps p.tables e below (s₁.setTop (entryFrame m #[(.ref ta)] 1)) t := fun t k => K57 t (by
    show Steps p.tables e below (T56.setTop (mkF m 8 #[.val (.ref ta)] [(.long w), (.long u)])) t
    refine XS.lcmp X56.here hx rfl (hb hby own_d4_8) rfl ?_
    exact k)
  have q60 := rng64 u
  have q61 := rng64 w
  have q62 := c_lcmp u w
  have q63 := (by decide : (0 : Int32).toInt = 0)
  by_cases hc58 : (lcmpW u w) = (0 : Int32)
  · have q64 : (lcmpW u w).toInt = (0 : Int32).toInt := congrArg Int32.toInt hc58
    have K65 : ∀ t, Steps p.tables e below (T56.setTop (mkF m 17 #[.val (.ref ta)] [(.int (0 : Int32))])) t → Steps p.tables e below (s₁.setTop (entryFrame m #[(.ref ta)] 1)) t := fun t k => K59 t (by
      show Steps p.tables e below (T56.setTop (mkF m 9 #[.val (.ref ta)] [(.int (lcmpW u w))])) t
      refine XS.ifYes X56.here hx rfl (pc0 := 9) (pc' := 16) rfl (hb hby own_d4_9) rfl ((if0 _ _).trans (teq hc58).1) (by decide) (by decide) ?_
      show Steps p.tables e below (T56.setTop (mkF m 16 #[.val (.ref ta)] [])) t
      refine XS.iconst X56.here hx rfl (hb hby own_d4_16) ?_
      exact k)
    obtain ⟨fs, hr, hrun, hended, hW, hsame⟩ := X56.leave (v := some (.int (0 : Int32))) (fun h => by rw [Bd.returns] at h; cases h)
    refine ⟨_, _, K65 _ ?_, hrun, hended, _, _, rfl, ?_, ⟨_, rfl⟩, hW, hsame.mono (by decide) (by decide)⟩
    · exact retN X56 hx (t := .boolean) Bd.returns (by simp) (hb hby own_d4_17) hr
    · show Q_rm4 Z ta u w h0 n0 _ T56.heap _
      rw [e56]
      exact ⟨(0 : Int32), rfl, (by omega), N0, rfl⟩
  · have q66 : ¬ (lcmpW u w).toInt = (0 : Int32).toInt := fun q => hc58 (Int32.toInt_inj.mp q)
    have K67 : ∀ t, Steps p.tables e below (T56.setTop (mkF m 17 #[.val (.ref ta)] [(.int (1 : Int32))])) t → Steps p.tables e below (s₁.setTop (entryFrame m #[(.ref ta)] 1)) t := fun t k => K59 t (by
      show Steps p.tables e below (T56.setTop (mkF m 9 #[.val (.ref ta)] [(.int (lcmpW u w))])) t
      refine XS.ifNo X56.here hx rfl (hb hby own_d4_9) rfl ((if0 _ _).trans (feq hc58).1) ?_
      show Steps p.tables e below (T56.setTop (mkF m 12 #[.val (.ref ta)] [])) t
      refine XS.iconst X56.here hx rfl (hb hby own_d4_12) ?_
      show Steps p.tables e below (T56.setTop (mkF m 13 #[.val (.ref ta)] [(.int (1 : Int32))])) t
      refine XS.goto X56.here hx rfl (pc0 := 13) (pc' := 17) rfl (hb hby own_d4_13) (by decide) (by decide) ?_
      exact k)
    obtain ⟨fs, hr, hrun, hended, hW, hsame⟩ := X56.leave (v := some (.int (1 : Int32))) (fun h => by rw [Bd.returns] at h; cases h)
    refine ⟨_, _, K67 _ ?_, hrun, hended, _, _, rfl, ?_, ⟨_, rfl⟩, hW, hsame.mono (by decide) (by decide)⟩
    · exact retN X56 hx (t := .boolean) Bd.returns (by simp) (hb hby own_d4_17) hr
    · show Q_rm4 Z ta u w h0 n0 _ T56.heap _
      have q68 := (by decide : (1 : Int32).toInt = 1)
      rw [e56]
      exact ⟨(1 : Int32), rfl, (by omega), N0, rfl⟩
theorem own_pn2 : plainName "turnstile/bench/TallyLostUpdatePinLaw" = true := by first | (simp [plainName, overriddenIn]; done) | decide +kernel
theorem own_pd1 : parseMethodDescriptor "(JJJJ)V" = some ⟨[.long, .long, .long, .long], none⟩ := by decide +kernel
theorem own_pd2 : parseMethodDescriptor "()Z" = some ⟨[], some .boolean⟩ := by decide +kernel
def Q_rm0 (Z : State) (x0 : Int64) (x1 : Int64) (x2 : Int64) (x3 : Int64) (x4 : Int32) (h0 : Heap) (n0 : Nat) (v : Option Value) (h : Heap) (L : List Loc) : Prop := v = some (.int (1 : Int32)) ∧ (True) ∧ Fr n0 L ∧ Keep h0 h []
theorem own_ef_rm0 (m : MethodId) (x0 : Int64) (x1 : Int64) (x2 : Int64) (x3 : Int64) (x4 : Int32) : entryFrame m #[(.long x0), (.long x1), (.long x2), (.long x3), (.int x4)] maxLocals = mkF m 0 #[.val (.long x0), .second, .val (.long x1), .second, .val (.long x2), .second, .val (.long x3), .second, .val (.int x4), .unset, .unset, .unset, .unset, .unset, .unset, .unset, .unset, .unset, .unset] [] := by first | (simp [entryFrame, mkF, argsToLocals, Value.category, maxLocals]; done) | rfl
set_option maxRecDepth 65536 in
set_option maxHeartbeats 40000000 in
theorem rm0 (l : Launch) (Z : State) (a0 : Array Value) (hw : ∀ d ∈ tables_1, d.before a0 Z = true) (ws : List Jvm.Cond) (x0 : Int64) (x1 : Int64) (x2 : Int64) (x3 : Int64) (x4 : Int32) (h0 : Heap) (n0 : Nat) (Z0 : n0 ≤ h0.size) :
    MetFree l x (head1 (Jvm.Cond.code x code maxLocals ret :: ws) room_1) (fun a U => a = #[(.long x0), (.long x1), (.long x2), (.long x3), (.int x4)] ∧ Z.Warmed39 U.vm ∧ U.heap = h0) (fun _ _ _ _ _ => True) (fun _ U o U' => ∃ v L, o = .returned v ∧ Q_rm0 Z x0 x1 x2 x3 x4 h0 n0 v U'.heap L ∧ FrameEnd U o U' L room_1.cells room_1.slots) := by
  refine MetFree.of_bodySF (plainFor_of_name own_pn2) hisR ?_
  intro p e s m args below meth c s₁ Bd hml0 hP hK
  obtain ⟨rfl, hZ, hh⟩ := hP
  have hx := Bd.exec
  have hby := Bd.bytes
  have hml : c.maxLocals = 19 := hml0
  have hown : s.vm.findClass "turnstile/bench/TallyLostUpdatePinLaw" = some m.cls := findClass_of_methodNamed Bd.named
  have hnm := (name_of_methodNamed Bd.named Bd.method).1
  have X0 : Stand p l e room_1 s m #[(.long x0), (.long x1), (.long x2), (.long x3), (.int x4)] below meth c s₁ [] 0 0 := Stand.of_body Bd
  have e0 : s₁.heap = h0 := by rw [← hh, Bd.state]; rfl
  have N0 := Fr.nil n0
  have pre0 : ∀ t, Steps p.tables e below (s₁.setTop (mkF m 0 #[.val (.long x0), .second, .val (.long x1), .second, .val (.long x2), .second, .val (.long x3), .second, .val (.int x4), .unset, .unset, .unset, .unset, .unset, .unset, .unset, .unset, .unset, .unset] [])) t → Steps p.tables e below (s₁.setTop (entryFrame m #[(.long x0), (.long x1), (.long x2), (.long x3), (.int x4)] maxLocals)) t := fun t k => castTop (own_ef_rm0 m x0 x1 x2 x3 x4) k
  obtain ⟨sm_69, Sp69, K70⟩ : ∃ (sm_69 : Int32), ((sm_69.toInt = 0 ∨ sm_69.toInt = 1)) ∧ ∀ t, Steps p.tables e below (s₁.setTop (mkF m 12 #[.val (.long x0), .second, .val (.long x1), .second, .val (.long x2), .second, .val (.long x3), .second, .val (.int x4), .unset, .unset, .unset, .unset, .unset, .unset, .unset, .unset, .unset, .unset] [(.int sm_69)])) t → Steps p.tables e below (s₁.setTop (entryFrame m #[(.long x0), (.long x1), (.long x2), (.long x3), (.int x4)] maxLocals)) t := by
    have K72 : ∀ t, Steps p.tables e below (s₁.setTop (mkF m 4 #[.val (.long x0), .second, .val (.long x1), .second, .val (.long x2), .second, .val (.long x3), .second, .val (.int x4), .unset, .unset, .unset, .unset, .unset, .unset, .unset, .unset, .unset, .unset] [(.int (x4 &&& (1 : Int32)))])) t → Steps p.tables e below (s₁.setTop (entryFrame m #[(.long x0), (.long x1), (.long x2), (.long x3), (.int x4)] maxLocals)) t := fun t k => pre0 t (by
      show Steps p.tables e below (s₁.setTop (mkF m 0 #[.val (.long x0), .second, .val (.long x1), .second, .val (.long x2), .second, .val (.long x3), .second, .val (.int x4), .unset, .unset, .unset, .unset, .unset, .unset, .unset, .unset, .unset, .unset] [])) t
      refine XS.iload X0.here hx rfl (hb hby at_0) rfl ?_
      show Steps p.tables e below (s₁.setTop (mkF m 2 #[.val (.long x0), .second, .val (.long x1), .second, .val (.long x2), .second, .val (.long x3), .second, .val (.int x4), .unset, .unset, .unset, .unset, .unset, .unset, .unset, .unset, .unset, .unset] [(.int x4)])) t
      refine XS.iconst X0.here hx rfl (hb hby at_2) ?_
      show Steps p.tables e below (s₁.setTop (mkF m 3 #[.val (.long x0), .second, .val (.long x1), .second, .val (.long x2), .second, .val (.long x3), .second, .val (.int x4), .unset, .unset, .unset, .unset, .unset, .unset, .unset, .unset, .unset, .unset] [(.int (1 : Int32)), (.int x4)])) t
      refine XS.iand X0.here hx rfl (hb hby at_3) rfl ?_
      exact k)
    have q73 := rng32 x4
    have q74 := (by decide : (1 : Int32).toInt = 1)
    have q75 := (show (x4 &&& (1 : Int32)).toInt = x4.toInt % 2 from c_mask x4 (1 : Int32) 1 (by decide) (by decide))
    have q76 := rng32 (x4 &&& (1 : Int32))
    have q77 := (by decide : (0 : Int32).toInt = 0)
    by_cases hc71 : (x4 &&& (1 : Int32)) = (0 : Int32)
    · have q78 : (x4 &&& (1 : Int32)).toInt = (0 : Int32).toInt := congrArg Int32.toInt hc71
      refine ⟨(0 : Int32), by omega, fun t k => K72 t ?_⟩
      show Steps p.tables e below (s₁.setTop (mkF m 4 #[.val (.long x0), .second, .val (.long x1), .second, .val (.long x2), .second, .val (.long x3), .second, .val (.int x4), .unset, .unset, .unset, .unset, .unset, .unset, .unset, .unset, .unset, .unset] [(.int (x4 &&& (1 : Int32)))])) t
      refine XS.ifYes X0.here hx rfl (pc0 := 4) (pc' := 11) rfl (hb hby at_4) rfl ((if0 _ _).trans (teq hc71).1) (by decide) (by decide) ?_
      show Steps p.tables e below (s₁.setTop (mkF m 11 #[.val (.long x0), .second, .val (.long x1), .second, .val (.long x2), .second, .val (.long x3), .second, .val (.int x4), .unset, .unset, .unset, .unset, .unset, .unset, .unset, .unset, .unset, .unset] [])) t
      refine XS.iconst X0.here hx rfl (hb hby at_11) ?_
      exact k
    · have q79 : ¬ (x4 &&& (1 : Int32)).toInt = (0 : Int32).toInt := fun q => hc71 (Int32.toInt_inj.mp q)
      refine ⟨(1 : Int32), by omega, fun t k => K72 t ?_⟩
      show Steps p.tables e below (s₁.setTop (mkF m 4 #[.val (.long x0), .second, .val (.long x1), .second, .val (.long x2), .second, .val (.long x3), .second, .val (.int x4), .unset, .unset, .unset, .unset, .unset, .unset, .unset, .unset, .unset, .unset] [(.int (x4 &&& (1 : Int32)))])) t
      refine XS.ifNo X0.here hx rfl (hb hby at_4) rfl ((if0 _ _).trans (feq hc71).1) ?_
      show Steps p.tables e below (s₁.setTop (mkF m 7 #[.val (.long x0), .second, .val (.long x1), .second, .val (.long x2), .second, .val (.long x3), .second, .val (.int x4), .unset, .unset, .unset, .unset, .unset, .unset, .unset, .unset, .unset, .unset] [])) t
      refine XS.iconst X0.here hx rfl (hb hby at_7) ?_
      show Steps p.tables e below (s₁.setTop (mkF m 8 #[.val (.long x0), .second, .val (.long x1), .second, .val (.long x2), .second, .val (.long x3), .second, .val (.int x4), .unset, .unset, .unset, .unset, .unset, .unset, .unset, .unset, .unset, .unset] [(.int (1 : Int32))])) t
      refine XS.goto X0.here hx rfl (pc0 := 8) (pc' := 12) rfl (hb hby at_8) (by decide) (by decide) ?_
      exact k
  have K80 : ∀ t, Steps p.tables e below (s₁.setTop (mkF m 14 #[.val (.long x0), .second, .val (.long x1), .second, .val (.long x2), .second, .val (.long x3), .second, .val (.int x4), .val (.int sm_69), .unset, .unset, .unset, .unset, .unset, .unset, .unset, .unset, .unset] [])) t → Steps p.tables e below (s₁.setTop (entryFrame m #[(.long x0), (.long x1), (.long x2), (.long x3), (.int x4)] maxLocals)) t := fun t k => K70 t (by
    show Steps p.tables e below (s₁.setTop (mkF m 12 #[.val (.long x0), .second, .val (.long x1), .second, .val (.long x2), .second, .val (.long x3), .second, .val (.int x4), .unset, .unset, .unset, .unset, .unset, .unset, .unset, .unset, .unset, .unset] [(.int sm_69)])) t
    refine XS.istore X0.here hx rfl (hb hby at_12) rfl (l' := #[.val (.long x0), .second, .val (.long x1), .second, .val (.long x2), .second, .val (.long x3), .second, .val (.int x4), .val (.int sm_69), .unset, .unset, .unset, .unset, .unset, .unset, .unset, .unset, .unset]) rfl ?_
    exact k)
  obtain ⟨sw_81, Sp81, K82⟩ : ∃ (sw_81 : Int32), ((sw_81.toInt = 0 ∨ sw_81.toInt = 1)) ∧ ∀ t, Steps p.tables e below (s₁.setTop (mkF m 26 #[.val (.long x0), .second, .val (.long x1), .second, .val (.long x2), .second, .val (.long x3), .second, .val (.int x4), .val (.int sm_69), .unset, .unset, .unset, .unset, .unset, .unset, .unset, .unset, .unset] [(.int sw_81)])) t → Steps p.tables e below (s₁.setTop (entryFrame m #[(.long x0), (.long x1), (.long x2), (.long x3), (.int x4)] maxLocals)) t := by
    have K84 : ∀ t, Steps p.tables e below (s₁.setTop (mkF m 18 #[.val (.long x0), .second, .val (.long x1), .second, .val (.long x2), .second, .val (.long x3), .second, .val (.int x4), .val (.int sm_69), .unset, .unset, .unset, .unset, .unset, .unset, .unset, .unset, .unset] [(.int (x4 &&& (2 : Int32)))])) t → Steps p.tables e below (s₁.setTop (entryFrame m #[(.long x0), (.long x1), (.long x2), (.long x3), (.int x4)] maxLocals)) t := fun t k => K80 t (by
      show Steps p.tables e below (s₁.setTop (mkF m 14 #[.val (.long x0), .second, .val (.long x1), .second, .val (.long x2), .second, .val (.long x3), .second, .val (.int x4), .val (.int sm_69), .unset, .unset, .unset, .unset, .unset, .unset, .unset, .unset, .unset] [])) t
      refine XS.iload X0.here hx rfl (hb hby at_14) rfl ?_
      show Steps p.tables e below (s₁.setTop (mkF m 16 #[.val (.long x0), .second, .val (.long x1), .second, .val (.long x2), .second, .val (.long x3), .second, .val (.int x4), .val (.int sm_69), .unset, .unset, .unset, .unset, .unset, .unset, .unset, .unset, .unset] [(.int x4)])) t
      refine XS.iconst X0.here hx rfl (hb hby at_16) ?_
      show Steps p.tables e below (s₁.setTop (mkF m 17 #[.val (.long x0), .second, .val (.long x1), .second, .val (.long x2), .second, .val (.long x3), .second, .val (.int x4), .val (.int sm_69), .unset, .unset, .unset, .unset, .unset, .unset, .unset, .unset, .unset] [(.int (2 : Int32)), (.int x4)])) t
      refine XS.iand X0.here hx rfl (hb hby at_17) rfl ?_
      exact k)
    have q85 := rng32 x4
    have q86 := (by decide : (2 : Int32).toInt = 2)
    have q87 := c_and x4 (2 : Int32) (by decide)
    have q88 := rng32 (x4 &&& (2 : Int32))
    have q89 := (by decide : (0 : Int32).toInt = 0)
    by_cases hc83 : (x4 &&& (2 : Int32)) = (0 : Int32)
    · have q90 : (x4 &&& (2 : Int32)).toInt = (0 : Int32).toInt := congrArg Int32.toInt hc83
      refine ⟨(0 : Int32), by omega, fun t k => K84 t ?_⟩
      show Steps p.tables e below (s₁.setTop (mkF m 18 #[.val (.long x0), .second, .val (.long x1), .second, .val (.long x2), .second, .val (.long x3), .second, .val (.int x4), .val (.int sm_69), .unset, .unset, .unset, .unset, .unset, .unset, .unset, .unset, .unset] [(.int (x4 &&& (2 : Int32)))])) t
      refine XS.ifYes X0.here hx rfl (pc0 := 18) (pc' := 25) rfl (hb hby at_18) rfl ((if0 _ _).trans (teq hc83).1) (by decide) (by decide) ?_
      show Steps p.tables e below (s₁.setTop (mkF m 25 #[.val (.long x0), .second, .val (.long x1), .second, .val (.long x2), .second, .val (.long x3), .second, .val (.int x4), .val (.int sm_69), .unset, .unset, .unset, .unset, .unset, .unset, .unset, .unset, .unset] [])) t
      refine XS.iconst X0.here hx rfl (hb hby at_25) ?_
      exact k
    · have q91 : ¬ (x4 &&& (2 : Int32)).toInt = (0 : Int32).toInt := fun q => hc83 (Int32.toInt_inj.mp q)
      have q92 := (by decide : (1 : Int32).toInt = 1)
      refine ⟨(1 : Int32), by omega, fun t k => K84 t ?_⟩
      show Steps p.tables e below (s₁.setTop (mkF m 18 #[.val (.long x0), .second, .val (.long x1), .second, .val (.long x2), .second, .val (.long x3), .second, .val (.int x4), .val (.int sm_69), .unset, .unset, .unset, .unset, .unset, .unset, .unset, .unset, .unset] [(.int (x4 &&& (2 : Int32)))])) t
      refine XS.ifNo X0.here hx rfl (hb hby at_18) rfl ((if0 _ _).trans (feq hc83).1) ?_
      show Steps p.tables e below (s₁.setTop (mkF m 21 #[.val (.long x0), .second, .val (.long x1), .second, .val (.long x2), .second, .val (.long x3), .second, .val (.int x4), .val (.int sm_69), .unset, .unset, .unset, .unset, .unset, .unset, .unset, .unset, .unset] [])) t
      refine XS.iconst X0.here hx rfl (hb hby at_21) ?_
      show Steps p.tables e below (s₁.setTop (mkF m 22 #[.val (.long x0), .second, .val (.long x1), .second, .val (.long x2), .second, .val (.long x3), .second, .val (.int x4), .val (.int sm_69), .unset, .unset, .unset, .unset, .unset, .unset, .unset, .unset, .unset] [(.int (1 : Int32))])) t
      refine XS.goto X0.here hx rfl (pc0 := 22) (pc' := 26) rfl (hb hby at_22) (by decide) (by decide) ?_
      exact k
  have K93 : ∀ t, Steps p.tables e below (s₁.setTop (mkF m 28 #[.val (.long x0), .second, .val (.long x1), .second, .val (.long x2), .second, .val (.long x3), .second, .val (.int x4), .val (.int sm_69), .val (.int sw_81), .unset, .unset, .unset, .unset, .unset, .unset, .unset, .unset] [])) t → Steps p.tables e below (s₁.setTop (entryFrame m #[(.long x0), (.long x1), (.long x2), (.long x3), (.int x4)] maxLocals)) t := fun t k => K82 t (by
    show Steps p.tables e below (s₁.setTop (mkF m 26 #[.val (.long x0), .second, .val (.long x1), .second, .val (.long x2), .second, .val (.long x3), .second, .val (.int x4), .val (.int sm_69), .unset, .unset, .unset, .unset, .unset, .unset, .unset, .unset, .unset] [(.int sw_81)])) t
    refine XS.istore X0.here hx rfl (hb hby at_26) rfl (l' := #[.val (.long x0), .second, .val (.long x1), .second, .val (.long x2), .second, .val (.long x3), .second, .val (.int x4), .val (.int sm_69), .val (.int sw_81), .unset, .unset, .unset, .unset, .unset, .unset, .unset, .unset]) rfl ?_
    exact k)
  obtain ⟨ot_94, Sp94, K95⟩ : ∃ (ot_94 : Int64), ((sm_69.toInt = 1 ∧ ot_94.toInt = x2.toInt) ∨ (sm_69.toInt = 0 ∧ ot_94.toInt = (x2 + x3).toInt)) ∧ ∀ t, Steps p.tables e below (s₁.setTop (mkF m 43 #[.val (.long x0), .second, .val (.long x1), .second, .val (.long x2), .second, .val (.long x3), .second, .val (.int x4), .val (.int sm_69), .val (.int sw_81), .unset, .unset, .unset, .unset, .unset, .unset, .unset, .unset] [(.long ot_94)])) t → Steps p.tables e below (s₁.setTop (entryFrame m #[(.long x0), (.long x1), (.long x2), (.long x3), (.int x4)] maxLocals)) t := by
    have K97 : ∀ t, Steps p.tables e below (s₁.setTop (mkF m 30 #[.val (.long x0), .second, .val (.long x1), .second, .val (.long x2), .second, .val (.long x3), .second, .val (.int x4), .val (.int sm_69), .val (.int sw_81), .unset, .unset, .unset, .unset, .unset, .unset, .unset, .unset] [(.int sm_69)])) t → Steps p.tables e below (s₁.setTop (entryFrame m #[(.long x0), (.long x1), (.long x2), (.long x3), (.int x4)] maxLocals)) t := fun t k => K93 t (by
      show Steps p.tables e below (s₁.setTop (mkF m 28 #[.val (.long x0), .second, .val (.long x1), .second, .val (.long x2), .second, .val (.long x3), .second, .val (.int x4), .val (.int sm_69), .val (.int sw_81), .unset, .unset, .unset, .unset, .unset, .unset, .unset, .unset] [])) t
      refine XS.iload X0.here hx rfl (hb hby at_28) rfl ?_
      exact k)
    have q98 := rng32 sm_69
    have q99 := (by decide : (0 : Int32).toInt = 0)
    by_cases hc96 : sm_69 = (0 : Int32)
    · have q100 : sm_69.toInt = (0 : Int32).toInt := congrArg Int32.toInt hc96
      have q101 := rng64 x2
      have q102 := rng64 x3
      have q103 := c_ladd x2 x3
      have q104 := rng64 (x2 + x3)
      refine ⟨(x2 + x3), by omega, fun t k => K97 t ?_⟩
      show Steps p.tables e below (s₁.setTop (mkF m 30 #[.val (.long x0), .second, .val (.long x1), .second, .val (.long x2), .second, .val (.long x3), .second, .val (.int x4), .val (.int sm_69), .val (.int sw_81), .unset, .unset, .unset, .unset, .unset, .unset, .unset, .unset] [(.int sm_69)])) t
      refine XS.ifYes X0.here hx rfl (pc0 := 30) (pc' := 38) rfl (hb hby at_30) rfl ((if0 _ _).trans (teq hc96).1) (by decide) (by decide) ?_
      show Steps p.tables e below (s₁.setTop (mkF m 38 #[.val (.long x0), .second, .val (.long x1), .second, .val (.long x2), .second, .val (.long x3), .second, .val (.int x4), .val (.int sm_69), .val (.int sw_81), .unset, .unset, .unset, .unset, .unset, .unset, .unset, .unset] [])) t
      refine XS.lload X0.here hx rfl (hb hby at_38) rfl ?_
      show Steps p.tables e below (s₁.setTop (mkF m 40 #[.val (.long x0), .second, .val (.long x1), .second, .val (.long x2), .second, .val (.long x3), .second, .val (.int x4), .val (.int sm_69), .val (.int sw_81), .unset, .unset, .unset, .unset, .unset, .unset, .unset, .unset] [(.long x2)])) t
      refine XS.lload X0.here hx rfl (hb hby at_40) rfl ?_
      show Steps p.tables e below (s₁.setTop (mkF m 42 #[.val (.long x0), .second, .val (.long x1), .second, .val (.long x2), .second, .val (.long x3), .second, .val (.int x4), .val (.int sm_69), .val (.int sw_81), .unset, .unset, .unset, .unset, .unset, .unset, .unset, .unset] [(.long x3), (.long x2)])) t
      refine XS.ladd X0.here hx rfl (hb hby at_42) rfl ?_
      exact k
    · have q105 : ¬ sm_69.toInt = (0 : Int32).toInt := fun q => hc96 (Int32.toInt_inj.mp q)
      have q106 := rng64 x2
      refine ⟨x2, by omega, fun t k => K97 t ?_⟩
      show Steps p.tables e below (s₁.setTop (mkF m 30 #[.val (.long x0), .second, .val (.long x1), .second, .val (.long x2), .second, .val (.long x3), .second, .val (.int x4), .val (.int sm_69), .val (.int sw_81), .unset, .unset, .unset, .unset, .unset, .unset, .unset, .unset] [(.int sm_69)])) t
      refine XS.ifNo X0.here hx rfl (hb hby at_30) rfl ((if0 _ _).trans (feq hc96).1) ?_
      show Steps p.tables e below (s₁.setTop (mkF m 33 #[.val (.long x0), .second, .val (.long x1), .second, .val (.long x2), .second, .val (.long x3), .second, .val (.int x4), .val (.int sm_69), .val (.int sw_81), .unset, .unset, .unset, .unset, .unset, .unset, .unset, .unset] [])) t
      refine XS.lload X0.here hx rfl (hb hby at_33) rfl ?_
      show Steps p.tables e below (s₁.setTop (mkF m 35 #[.val (.long x0), .second, .val (.long x1), .second, .val (.long x2), .second, .val (.long x3), .second, .val (.int x4), .val (.int sm_69), .val (.int sw_81), .unset, .unset, .unset, .unset, .unset, .unset, .unset, .unset] [(.long x2)])) t
      refine XS.goto X0.here hx rfl (pc0 := 35) (pc' := 43) rfl (hb hby at_35) (by decide) (by decide) ?_
      exact k
  have K107 : ∀ t, Steps p.tables e below (s₁.setTop (mkF m 45 #[.val (.long x0), .second, .val (.long x1), .second, .val (.long x2), .second, .val (.long x3), .second, .val (.int x4), .val (.int sm_69), .val (.int sw_81), .val (.long ot_94), .second, .unset, .unset, .unset, .unset, .unset, .unset] [])) t → Steps p.tables e below (s₁.setTop (entryFrame m #[(.long x0), (.long x1), (.long x2), (.long x3), (.int x4)] maxLocals)) t := fun t k => K95 t (by
    show Steps p.tables e below (s₁.setTop (mkF m 43 #[.val (.long x0), .second, .val (.long x1), .second, .val (.long x2), .second, .val (.long x3), .second, .val (.int x4), .val (.int sm_69), .val (.int sw_81), .unset, .unset, .unset, .unset, .unset, .unset, .unset, .unset] [(.long ot_94)])) t
    refine XS.lstore X0.here hx rfl (hb hby at_43) rfl (l' := #[.val (.long x0), .second, .val (.long x1), .second, .val (.long x2), .second, .val (.long x3), .second, .val (.int x4), .val (.int sm_69), .val (.int sw_81), .val (.long ot_94), .second, .unset, .unset, .unset, .unset, .unset, .unset]) rfl ?_
    exact k)
  obtain ⟨cc_108, Sp108, K109⟩ : ∃ (cc_108 : Int64), ((sw_81.toInt = 1 ∧ cc_108.toInt = ot_94.toInt) ∨ (sw_81.toInt = 0 ∧ cc_108.toInt = x2.toInt)) ∧ ∀ t, Steps p.tables e below (s₁.setTop (mkF m 57 #[.val (.long x0), .second, .val (.long x1), .second, .val (.long x2), .second, .val (.long x3), .second, .val (.int x4), .val (.int sm_69), .val (.int sw_81), .val (.long ot_94), .second, .unset, .unset, .unset, .unset, .unset, .unset] [(.long cc_108)])) t → Steps p.tables e below (s₁.setTop (entryFrame m #[(.long x0), (.long x1), (.long x2), (.long x3), (.int x4)] maxLocals)) t := by
    have K111 : ∀ t, Steps p.tables e below (s₁.setTop (mkF m 47 #[.val (.long x0), .second, .val (.long x1), .second, .val (.long x2), .second, .val (.long x3), .second, .val (.int x4), .val (.int sm_69), .val (.int sw_81), .val (.long ot_94), .second, .unset, .unset, .unset, .unset, .unset, .unset] [(.int sw_81)])) t → Steps p.tables e below (s₁.setTop (entryFrame m #[(.long x0), (.long x1), (.long x2), (.long x3), (.int x4)] maxLocals)) t := fun t k => K107 t (by
      show Steps p.tables e below (s₁.setTop (mkF m 45 #[.val (.long x0), .second, .val (.long x1), .second, .val (.long x2), .second, .val (.long x3), .second, .val (.int x4), .val (.int sm_69), .val (.int sw_81), .val (.long ot_94), .second, .unset, .unset, .unset, .unset, .unset, .unset] [])) t
      refine XS.iload X0.here hx rfl (hb hby at_45) rfl ?_
      exact k)
    have q112 := rng32 sw_81
    have q113 := (by decide : (0 : Int32).toInt = 0)
    by_cases hc110 : sw_81 = (0 : Int32)
    · have q114 : sw_81.toInt = (0 : Int32).toInt := congrArg Int32.toInt hc110
      have q115 := rng64 x2
      refine ⟨x2, by omega, fun t k => K111 t ?_⟩
      show Steps p.tables e below (s₁.setTop (mkF m 47 #[.val (.long x0), .second, .val (.long x1), .second, .val (.long x2), .second, .val (.long x3), .second, .val (.int x4), .val (.int sm_69), .val (.int sw_81), .val (.long ot_94), .second, .unset, .unset, .unset, .unset, .unset, .unset] [(.int sw_81)])) t
      refine XS.ifYes X0.here hx rfl (pc0 := 47) (pc' := 55) rfl (hb hby at_47) rfl ((if0 _ _).trans (teq hc110).1) (by decide) (by decide) ?_
      show Steps p.tables e below (s₁.setTop (mkF m 55 #[.val (.long x0), .second, .val (.long x1), .second, .val (.long x2), .second, .val (.long x3), .second, .val (.int x4), .val (.int sm_69), .val (.int sw_81), .val (.long ot_94), .second, .unset, .unset, .unset, .unset, .unset, .unset] [])) t
      refine XS.lload X0.here hx rfl (hb hby at_55) rfl ?_
      exact k
    · have q116 : ¬ sw_81.toInt = (0 : Int32).toInt := fun q => hc110 (Int32.toInt_inj.mp q)
      have q117 := rng64 ot_94
      refine ⟨ot_94, by omega, fun t k => K111 t ?_⟩
      show Steps p.tables e below (s₁.setTop (mkF m 47 #[.val (.long x0), .second, .val (.long x1), .second, .val (.long x2), .second, .val (.long x3), .second, .val (.int x4), .val (.int sm_69), .val (.int sw_81), .val (.long ot_94), .second, .unset, .unset, .unset, .unset, .unset, .unset] [(.int sw_81)])) t
      refine XS.ifNo X0.here hx rfl (hb hby at_47) rfl ((if0 _ _).trans (feq hc110).1) ?_
      show Steps p.tables e below (s₁.setTop (mkF m 50 #[.val (.long x0), .second, .val (.long x1), .second, .val (.long x2), .second, .val (.long x3), .second, .val (.int x4), .val (.int sm_69), .val (.int sw_81), .val (.long ot_94), .second, .unset, .unset, .unset, .unset, .unset, .unset] [])) t
      refine XS.lload X0.here hx rfl (hb hby at_50) rfl ?_
      show Steps p.tables e below (s₁.setTop (mkF m 52 #[.val (.long x0), .second, .val (.long x1), .second, .val (.long x2), .second, .val (.long x3), .second, .val (.int x4), .val (.int sm_69), .val (.int sw_81), .val (.long ot_94), .second, .unset, .unset, .unset, .unset, .unset, .unset] [(.long ot_94)])) t
      refine XS.goto X0.here hx rfl (pc0 := 52) (pc' := 57) rfl (hb hby at_52) (by decide) (by decide) ?_
      exact k
  have K118 : ∀ t, Steps p.tables e below (s₁.setTop (mkF m 59 #[.val (.long x0), .second, .val (.long x1), .second, .val (.long x2), .second, .val (.long x3), .second, .val (.int x4), .val (.int sm_69), .val (.int sw_81), .val (.long ot_94), .second, .val (.long cc_108), .second, .unset, .unset, .unset, .unset] [])) t → Steps p.tables e below (s₁.setTop (entryFrame m #[(.long x0), (.long x1), (.long x2), (.long x3), (.int x4)] maxLocals)) t := fun t k => K109 t (by
    show Steps p.tables e below (s₁.setTop (mkF m 57 #[.val (.long x0), .second, .val (.long x1), .second, .val (.long x2), .second, .val (.long x3), .second, .val (.int x4), .val (.int sm_69), .val (.int sw_81), .val (.long ot_94), .second, .unset, .unset, .unset, .unset, .unset, .unset] [(.long cc_108)])) t
    refine XS.lstore X0.here hx rfl (hb hby at_57) rfl (l' := #[.val (.long x0), .second, .val (.long x1), .second, .val (.long x2), .second, .val (.long x3), .second, .val (.int x4), .val (.int sm_69), .val (.int sw_81), .val (.long ot_94), .second, .val (.long cc_108), .second, .unset, .unset, .unset, .unset]) rfl ?_
    exact k)
  obtain ⟨aa_119, Sp119, K120⟩ : ∃ (aa_119 : Int64), ((sw_81.toInt = 1 ∧ aa_119.toInt = x2.toInt) ∨ (sw_81.toInt = 0 ∧ aa_119.toInt = ot_94.toInt)) ∧ ∀ t, Steps p.tables e below (s₁.setTop (mkF m 71 #[.val (.long x0), .second, .val (.long x1), .second, .val (.long x2), .second, .val (.long x3), .second, .val (.int x4), .val (.int sm_69), .val (.int sw_81), .val (.long ot_94), .second, .val (.long cc_108), .second, .unset, .unset, .unset, .unset] [(.long aa_119)])) t → Steps p.tables e below (s₁.setTop (entryFrame m #[(.long x0), (.long x1), (.long x2), (.long x3), (.int x4)] maxLocals)) t := by
    have K122 : ∀ t, Steps p.tables e below (s₁.setTop (mkF m 61 #[.val (.long x0), .second, .val (.long x1), .second, .val (.long x2), .second, .val (.long x3), .second, .val (.int x4), .val (.int sm_69), .val (.int sw_81), .val (.long ot_94), .second, .val (.long cc_108), .second, .unset, .unset, .unset, .unset] [(.int sw_81)])) t → Steps p.tables e below (s₁.setTop (entryFrame m #[(.long x0), (.long x1), (.long x2), (.long x3), (.int x4)] maxLocals)) t := fun t k => K118 t (by
      show Steps p.tables e below (s₁.setTop (mkF m 59 #[.val (.long x0), .second, .val (.long x1), .second, .val (.long x2), .second, .val (.long x3), .second, .val (.int x4), .val (.int sm_69), .val (.int sw_81), .val (.long ot_94), .second, .val (.long cc_108), .second, .unset, .unset, .unset, .unset] [])) t
      refine XS.iload X0.here hx rfl (hb hby at_59) rfl ?_
      exact k)
    have q123 := rng32 sw_81
    have q124 := (by decide : (0 : Int32).toInt = 0)
    by_cases hc121 : sw_81 = (0 : Int32)
    · have q125 : sw_81.toInt = (0 : Int32).toInt := congrArg Int32.toInt hc121
      have q126 := rng64 ot_94
      refine ⟨ot_94, by omega, fun t k => K122 t ?_⟩
      show Steps p.tables e below (s₁.setTop (mkF m 61 #[.val (.long x0), .second, .val (.long x1), .second, .val (.long x2), .second, .val (.long x3), .second, .val (.int x4), .val (.int sm_69), .val (.int sw_81), .val (.long ot_94), .second, .val (.long cc_108), .second, .unset, .unset, .unset, .unset] [(.int sw_81)])) t
      refine XS.ifYes X0.here hx rfl (pc0 := 61) (pc' := 69) rfl (hb hby at_61) rfl ((if0 _ _).trans (teq hc121).1) (by decide) (by decide) ?_
      show Steps p.tables e below (s₁.setTop (mkF m 69 #[.val (.long x0), .second, .val (.long x1), .second, .val (.long x2), .second, .val (.long x3), .second, .val (.int x4), .val (.int sm_69), .val (.int sw_81), .val (.long ot_94), .second, .val (.long cc_108), .second, .unset, .unset, .unset, .unset] [])) t
      refine XS.lload X0.here hx rfl (hb hby at_69) rfl ?_
      exact k
    · have q127 : ¬ sw_81.toInt = (0 : Int32).toInt := fun q => hc121 (Int32.toInt_inj.mp q)
      have q128 := rng64 x2
      refine ⟨x2, by omega, fun t k => K122 t ?_⟩
      show Steps p.tables e below (s₁.setTop (mkF m 61 #[.val (.long x0), .second, .val (.long x1), .second, .val (.long x2), .second, .val (.long x3), .second, .val (.int x4), .val (.int sm_69), .val (.int sw_81), .val (.long ot_94), .second, .val (.long cc_108), .second, .unset, .unset, .unset, .unset] [(.int sw_81)])) t
      refine XS.ifNo X0.here hx rfl (hb hby at_61) rfl ((if0 _ _).trans (feq hc121).1) ?_
      show Steps p.tables e below (s₁.setTop (mkF m 64 #[.val (.long x0), .second, .val (.long x1), .second, .val (.long x2), .second, .val (.long x3), .second, .val (.int x4), .val (.int sm_69), .val (.int sw_81), .val (.long ot_94), .second, .val (.long cc_108), .second, .unset, .unset, .unset, .unset] [])) t
      refine XS.lload X0.here hx rfl (hb hby at_64) rfl ?_
      show Steps p.tables e below (s₁.setTop (mkF m 66 #[.val (.long x0), .second, .val (.long x1), .second, .val (.long x2), .second, .val (.long x3), .second, .val (.int x4), .val (.int sm_69), .val (.int sw_81), .val (.long ot_94), .second, .val (.long cc_108), .second, .unset, .unset, .unset, .unset] [(.long x2)])) t
      refine XS.goto X0.here hx rfl (pc0 := 66) (pc' := 71) rfl (hb hby at_66) (by decide) (by decide) ?_
      exact k
  have K129 : ∀ t, Steps p.tables e below (s₁.setTop (mkF m 73 #[.val (.long x0), .second, .val (.long x1), .second, .val (.long x2), .second, .val (.long x3), .second, .val (.int x4), .val (.int sm_69), .val (.int sw_81), .val (.long ot_94), .second, .val (.long cc_108), .second, .val (.long aa_119), .second, .unset, .unset] [])) t → Steps p.tables e below (s₁.setTop (entryFrame m #[(.long x0), (.long x1), (.long x2), (.long x3), (.int x4)] maxLocals)) t := fun t k => K120 t (by
    show Steps p.tables e below (s₁.setTop (mkF m 71 #[.val (.long x0), .second, .val (.long x1), .second, .val (.long x2), .second, .val (.long x3), .second, .val (.int x4), .val (.int sm_69), .val (.int sw_81), .val (.long ot_94), .second, .val (.long cc_108), .second, .unset, .unset, .unset, .unset] [(.long aa_119)])) t
    refine XS.lstore X0.here hx rfl (hb hby at_71) rfl (l' := #[.val (.long x0), .second, .val (.long x1), .second, .val (.long x2), .second, .val (.long x3), .second, .val (.int x4), .val (.int sm_69), .val (.int sw_81), .val (.long ot_94), .second, .val (.long cc_108), .second, .val (.long aa_119), .second, .unset, .unset]) rfl ?_
    exact k)
  obtain ⟨T130, h130, X130, e130, E130, A130, D130, M130, st130⟩ := newO X0 hx hZ hown (hw _ (List.mem_of_getElem? (i := 0) rfl)) (hw _ (List.mem_of_getElem? (i := 1) rfl)) (hw _ (List.mem_of_getElem? (i := 2) rfl)) e0 (g := (mkF m 73 #[.val (.long x0), .second, .val (.long x1), .second, .val (.long x2), .second, .val (.long x3), .second, .val (.int x4), .val (.int sm_69), .val (.int sw_81), .val (.long ot_94), .second, .val (.long cc_108), .second, .val (.long aa_119), .second, .unset, .unset] [])) rfl (hb hby at_73) (by decide) (by decide)
  obtain ⟨b130, g130⟩ : ∃ z, z = h0.size := ⟨_, rfl⟩
  rw [← g130] at A130 D130 M130 st130
  have gb131 : n0 ≤ b130 := Nat.le_trans Z0 (Nat.le_of_eq g130.symm)
  have sb132 : h0.size ≤ b130 := Nat.le_trans (Keep.refl h0 []).1 (Nat.le_of_eq g130.symm)
  have Z133 : n0 ≤ h130.size := Nat.le_trans Z0 E130.1
  have Kp134 : Keep h0 h130 [] := Keep.ext (Keep.refl h0 []) E130
  have F135 : Fld Z h130 b130 "turnstile/bench/Tally" "iterations" "J" (.long (0 : Int64)) := D130 (Or.inr (hw _ (List.mem_of_getElem? (i := 15) rfl))) (ty := .long) (by decide)
  have F136 : Fld Z h130 b130 "turnstile/bench/Tally" "nanos" "J" (.long (0 : Int64)) := D130 (Or.inr (hw _ (List.mem_of_getElem? (i := 17) rfl))) (ty := .long) (by decide)
  have F137 : Fld Z h130 b130 "turnstile/bench/Tally" "counter" "J" (.long (0 : Int64)) := D130 (Or.inr (hw _ (List.mem_of_getElem? (i := 19) rfl))) (ty := .long) (by decide)
  have F138 : Fld Z h130 b130 "turnstile/bench/Tally" "acquisitions" "J" (.long (0 : Int64)) := D130 (Or.inr (hw _ (List.mem_of_getElem? (i := 21) rfl))) (ty := .long) (by decide)
  have K139 : ∀ t, Steps p.tables e below (T130.setTop (mkF m 76 #[.val (.long x0), .second, .val (.long x1), .second, .val (.long x2), .second, .val (.long x3), .second, .val (.int x4), .val (.int sm_69), .val (.int sw_81), .val (.long ot_94), .second, .val (.long cc_108), .second, .val (.long aa_119), .second, .unset, .unset] [(.ref b130)])) t → Steps p.tables e below (s₁.setTop (entryFrame m #[(.long x0), (.long x1), (.long x2), (.long x3), (.int x4)] maxLocals)) t := fun t k => K129 t (st130 _ k)
  have K140 : ∀ t, Steps p.tables e below (T130.setTop (mkF m 83 #[.val (.long x0), .second, .val (.long x1), .second, .val (.long x2), .second, .val (.long x3), .second, .val (.int x4), .val (.int sm_69), .val (.int sw_81), .val (.long ot_94), .second, .val (.long cc_108), .second, .val (.long aa_119), .second, .unset, .unset] [(.long aa_119), (.long cc_108), (.long x1), (.long x0), (.ref b130), (.ref b130)])) t → Steps p.tables e below (s₁.setTop (entryFrame m #[(.long x0), (.long x1), (.long x2), (.long x3), (.int x4)] maxLocals)) t := fun t k => K139 t (by
    show Steps p.tables e below (T130.setTop (mkF m 76 #[.val (.long x0), .second, .val (.long x1), .second, .val (.long x2), .second, .val (.long x3), .second, .val (.int x4), .val (.int sm_69), .val (.int sw_81), .val (.long ot_94), .second, .val (.long cc_108), .second, .val (.long aa_119), .second, .unset, .unset] [(.ref b130)])) t
    refine XS.dup X130.here hx rfl (hb hby at_76) rfl rfl ?_
    show Steps p.tables e below (T130.setTop (mkF m 77 #[.val (.long x0), .second, .val (.long x1), .second, .val (.long x2), .second, .val (.long x3), .second, .val (.int x4), .val (.int sm_69), .val (.int sw_81), .val (.long ot_94), .second, .val (.long cc_108), .second, .val (.long aa_119), .second, .unset, .unset] [(.ref b130), (.ref b130)])) t
    refine XS.lloadN X130.here hx rfl (hb hby at_77) rfl ?_
    show Steps p.tables e below (T130.setTop (mkF m 78 #[.val (.long x0), .second, .val (.long x1), .second, .val (.long x2), .second, .val (.long x3), .second, .val (.int x4), .val (.int sm_69), .val (.int sw_81), .val (.long ot_94), .second, .val (.long cc_108), .second, .val (.long aa_119), .second, .unset, .unset] [(.long x0), (.ref b130), (.ref b130)])) t
    refine XS.lloadN X130.here hx rfl (hb hby at_78) rfl ?_
    show Steps p.tables e below (T130.setTop (mkF m 79 #[.val (.long x0), .second, .val (.long x1), .second, .val (.long x2), .second, .val (.long x3), .second, .val (.int x4), .val (.int sm_69), .val (.int sw_81), .val (.long ot_94), .second, .val (.long cc_108), .second, .val (.long aa_119), .second, .unset, .unset] [(.long x1), (.long x0), (.ref b130), (.ref b130)])) t
    refine XS.lload X130.here hx rfl (hb hby at_79) rfl ?_
    show Steps p.tables e below (T130.setTop (mkF m 81 #[.val (.long x0), .second, .val (.long x1), .second, .val (.long x2), .second, .val (.long x3), .second, .val (.int x4), .val (.int sm_69), .val (.int sw_81), .val (.long ot_94), .second, .val (.long cc_108), .second, .val (.long aa_119), .second, .unset, .unset] [(.long cc_108), (.long x1), (.long x0), (.ref b130), (.ref b130)])) t
    refine XS.lload X130.here hx rfl (hb hby at_81) rfl ?_
    exact k)
  have q141 := rng64 x0
  have q142 := rng64 x1
  have q143 := rng64 cc_108
  have q144 := rng64 aa_119
  obtain ⟨_, _, ⟨T145, L145, kk145, nn145⟩, -, X145, ⟨Lc145, hQ145, l145, y145, z145⟩, st145⟩ := X130.specialBack hx (y := (⟨"turnstile/bench/Tally", "<init>", "(JJJJ)V"⟩ : MethodName)) rfl hown (mvT hZ (hw _ (List.mem_of_getElem? (i := 3) rfl))) (mvT hZ (hw _ (List.mem_of_getElem? (i := 4) rfl))) (mvT hZ (hw _ (List.mem_of_getElem? (i := 5) rfl))) (by decide) (backOf (W := 1) (rm1 l Z a0 hw [] b130 x0 x1 cc_108 aa_119 h130 n0 Z133 A130 F135 F136 F137 F138 gb131) hZ (hw _ (List.mem_of_getElem? (i := 5) rfl)) (hw _ (List.mem_of_getElem? (i := 2) rfl)) (by decide) (by decide)) (g := (mkF m 83 #[.val (.long x0), .second, .val (.long x1), .second, .val (.long x2), .second, .val (.long x3), .second, .val (.int x4), .val (.int sm_69), .val (.int sw_81), .val (.long ot_94), .second, .val (.long cc_108), .second, .val (.long aa_119), .second, .unset, .unset] [(.long aa_119), (.long cc_108), (.long x1), (.long x0), (.ref b130), (.ref b130)])) rfl (by rw [hml]; rfl) (Steps.refl _) (a := b130) (argsL := [(.long x0), (.long x1), (.long cc_108), (.long aa_119)]) (rest := [(.ref b130)]) (lenOf own_pd1 rfl) rfl (by show 2 * 0 + _ ≤ _; exact Nat.le_of_eq rfl) (hb hby at_83) (fun _ _ => ⟨rfl, e130, (by decide : 1 + 0 ≤ _), (by decide : 4 + 0 ≤ _)⟩)
  dsimp only [Pt.U, Pt.locs, Pt.cells, Pt.slots] at X145 l145 y145 z145 st145 hQ145
  subst l145 y145 z145
  obtain ⟨rfl, Sp145, Nq145, Kc145, Pc145_0, Pc145_1, Pc145_2, Pc145_3, Pc145_4⟩ := hQ145
  have N146 := Fr.app N0 Nq145
  obtain ⟨h145, e145⟩ : ∃ z, z = T145.heap := ⟨_, rfl⟩
  rw [← e145] at Kc145 Pc145_0 Pc145_1 Pc145_2 Pc145_3 Pc145_4
  have F147 := A130.keep Kc145
  have Kp148 : Keep h0 h145 [] := Keep.trans Kp134 Kc145 (allS (Or.inr sb132) all0)
  have Z149 : n0 ≤ h145.size := Nat.le_trans Z133 Kc145.1
  have K150 : ∀ t, Steps p.tables e below (T145.setTop (mkF m 86 #[.val (.long x0), .second, .val (.long x1), .second, .val (.long x2), .second, .val (.long x3), .second, .val (.int x4), .val (.int sm_69), .val (.int sw_81), .val (.long ot_94), .second, .val (.long cc_108), .second, .val (.long aa_119), .second, .unset, .unset] [(.ref b130)])) t → Steps p.tables e below (s₁.setTop (entryFrame m #[(.long x0), (.long x1), (.long x2), (.long x3), (.int x4)] maxLocals)) t := fun t k => K140 t (st145.trans k)
  have q151 := rng64 x2
  have q152 := rng64 x3
  have q153 := c_ladd x2 x3
  have q154 := rng64 (x2 + x3)
  have K155 : ∀ t, Steps p.tables e below (T145.setTop (mkF m 88 #[.val (.long x0), .second, .val (.long x1), .second, .val (.long x2), .second, .val (.long x3), .second, .val (.int x4), .val (.int sm_69), .val (.int sw_81), .val (.long ot_94), .second, .val (.long cc_108), .second, .val (.long aa_119), .second, .val (.ref b130), .unset] [])) t → Steps p.tables e below (s₁.setTop (entryFrame m #[(.long x0), (.long x1), (.long x2), (.long x3), (.int x4)] maxLocals)) t := fun t k => K150 t (by
    show Steps p.tables e below (T145.setTop (mkF m 86 #[.val (.long x0), .second, .val (.long x1), .second, .val (.long x2), .second, .val (.long x3), .second, .val (.int x4), .val (.int sm_69), .val (.int sw_81), .val (.long ot_94), .second, .val (.long cc_108), .second, .val (.long aa_119), .second, .unset, .unset] [(.ref b130)])) t
    refine XS.astore X145.here hx rfl (hb hby at_86) rfl rfl (l' := #[.val (.long x0), .second, .val (.long x1), .second, .val (.long x2), .second, .val (.long x3), .second, .val (.int x4), .val (.int sm_69), .val (.int sw_81), .val (.long ot_94), .second, .val (.long cc_108), .second, .val (.long aa_119), .second, .val (.ref b130), .unset]) rfl ?_
    exact k)
  obtain ⟨ex_156, Sp156, K157⟩ : ∃ (ex_156 : Int32), ((ex_156.toInt = 1 ∧ sm_69.toInt = 0 ∧ ¬ x3.toInt = 0) ∨ (ex_156.toInt = 0 ∧ (sm_69.toInt = 1 ∨ x3.toInt = 0))) ∧ ∀ t, Steps p.tables e below (T145.setTop (mkF m 105 #[.val (.long x0), .second, .val (.long x1), .second, .val (.long x2), .second, .val (.long x3), .second, .val (.int x4), .val (.int sm_69), .val (.int sw_81), .val (.long ot_94), .second, .val (.long cc_108), .second, .val (.long aa_119), .second, .val (.ref b130), .unset] [(.int ex_156)])) t → Steps p.tables e below (s₁.setTop (entryFrame m #[(.long x0), (.long x1), (.long x2), (.long x3), (.int x4)] maxLocals)) t := by
    have K159 : ∀ t, Steps p.tables e below (T145.setTop (mkF m 90 #[.val (.long x0), .second, .val (.long x1), .second, .val (.long x2), .second, .val (.long x3), .second, .val (.int x4), .val (.int sm_69), .val (.int sw_81), .val (.long ot_94), .second, .val (.long cc_108), .second, .val (.long aa_119), .second, .val (.ref b130), .unset] [(.int sm_69)])) t → Steps p.tables e below (s₁.setTop (entryFrame m #[(.long x0), (.long x1), (.long x2), (.long x3), (.int x4)] maxLocals)) t := fun t k => K155 t (by
      show Steps p.tables e below (T145.setTop (mkF m 88 #[.val (.long x0), .second, .val (.long x1), .second, .val (.long x2), .second, .val (.long x3), .second, .val (.int x4), .val (.int sm_69), .val (.int sw_81), .val (.long ot_94), .second, .val (.long cc_108), .second, .val (.long aa_119), .second, .val (.ref b130), .unset] [])) t
      refine XS.iload X145.here hx rfl (hb hby at_88) rfl ?_
      exact k)
    have q160 := rng32 sm_69
    have q161 := (by decide : (0 : Int32).toInt = 0)
    by_cases hc158 : sm_69 = (0 : Int32)
    · have q162 : sm_69.toInt = (0 : Int32).toInt := congrArg Int32.toInt hc158
      have K164 : ∀ t, Steps p.tables e below (T145.setTop (mkF m 97 #[.val (.long x0), .second, .val (.long x1), .second, .val (.long x2), .second, .val (.long x3), .second, .val (.int x4), .val (.int sm_69), .val (.int sw_81), .val (.long ot_94), .second, .val (.long cc_108), .second, .val (.long aa_119), .second, .val (.ref b130), .unset] [(.int (lcmpW x3 (0 : Int64)))])) t → Steps p.tables e below (s₁.setTop (entryFrame m #[(.long x0), (.long x1), (.long x2), (.long x3), (.int x4)] maxLocals)) t := fun t k => K159 t (by
        show Steps p.tables e below (T145.setTop (mkF m 90 #[.val (.long x0), .second, .val (.long x1), .second, .val (.long x2), .second, .val (.long x3), .second, .val (.int x4), .val (.int sm_69), .val (.int sw_81), .val (.long ot_94), .second, .val (.long cc_108), .second, .val (.long aa_119), .second, .val (.ref b130), .unset] [(.int sm_69)])) t
        refine XS.ifNo X145.here hx rfl (hb hby at_90) rfl ((if0 _ _).trans (teq hc158).2) ?_
        show Steps p.tables e below (T145.setTop (mkF m 93 #[.val (.long x0), .second, .val (.long x1), .second, .val (.long x2), .second, .val (.long x3), .second, .val (.int x4), .val (.int sm_69), .val (.int sw_81), .val (.long ot_94), .second, .val (.long cc_108), .second, .val (.long aa_119), .second, .val (.ref b130), .unset] [])) t
        refine XS.lload X145.here hx rfl (hb hby at_93) rfl ?_
        show Steps p.tables e below (T145.setTop (mkF m 95 #[.val (.long x0), .second, .val (.long x1), .second, .val (.long x2), .second, .val (.long x3), .second, .val (.int x4), .val (.int sm_69), .val (.int sw_81), .val (.long ot_94), .second, .val (.long cc_108), .second, .val (.long aa_119), .second, .val (.ref b130), .unset] [(.long x3)])) t
        refine XS.lconst X145.here hx rfl (hb hby at_95) ?_
        show Steps p.tables e below (T145.setTop (mkF m 96 #[.val (.long x0), .second, .val (.long x1), .second, .val (.long x2), .second, .val (.long x3), .second, .val (.int x4), .val (.int sm_69), .val (.int sw_81), .val (.long ot_94), .second, .val (.long cc_108), .second, .val (.long aa_119), .second, .val (.ref b130), .unset] [(.long (0 : Int64)), (.long x3)])) t
        refine XS.lcmp X145.here hx rfl (hb hby at_96) rfl ?_
        exact k)
      have q165 := (by decide : (0 : Int64).toInt = 0)
      have q166 := c_lcmp x3 (0 : Int64)
      by_cases hc163 : (lcmpW x3 (0 : Int64)) = (0 : Int32)
      · have q167 : (lcmpW x3 (0 : Int64)).toInt = (0 : Int32).toInt := congrArg Int32.toInt hc163
        refine ⟨(0 : Int32), by omega, fun t k => K164 t ?_⟩
        show Steps p.tables e below (T145.setTop (mkF m 97 #[.val (.long x0), .second, .val (.long x1), .second, .val (.long x2), .second, .val (.long x3), .second, .val (.int x4), .val (.int sm_69), .val (.int sw_81), .val (.long ot_94), .second, .val (.long cc_108), .second, .val (.long aa_119), .second, .val (.ref b130), .unset] [(.int (lcmpW x3 (0 : Int64)))])) t
        refine XS.ifYes X145.here hx rfl (pc0 := 97) (pc' := 104) rfl (hb hby at_97) rfl ((if0 _ _).trans (teq hc163).1) (by decide) (by decide) ?_
        show Steps p.tables e below (T145.setTop (mkF m 104 #[.val (.long x0), .second, .val (.long x1), .second, .val (.long x2), .second, .val (.long x3), .second, .val (.int x4), .val (.int sm_69), .val (.int sw_81), .val (.long ot_94), .second, .val (.long cc_108), .second, .val (.long aa_119), .second, .val (.ref b130), .unset] [])) t
        refine XS.iconst X145.here hx rfl (hb hby at_104) ?_
        exact k
      · have q168 : ¬ (lcmpW x3 (0 : Int64)).toInt = (0 : Int32).toInt := fun q => hc163 (Int32.toInt_inj.mp q)
        have q169 := (by decide : (1 : Int32).toInt = 1)
        refine ⟨(1 : Int32), by omega, fun t k => K164 t ?_⟩
        show Steps p.tables e below (T145.setTop (mkF m 97 #[.val (.long x0), .second, .val (.long x1), .second, .val (.long x2), .second, .val (.long x3), .second, .val (.int x4), .val (.int sm_69), .val (.int sw_81), .val (.long ot_94), .second, .val (.long cc_108), .second, .val (.long aa_119), .second, .val (.ref b130), .unset] [(.int (lcmpW x3 (0 : Int64)))])) t
        refine XS.ifNo X145.here hx rfl (hb hby at_97) rfl ((if0 _ _).trans (feq hc163).1) ?_
        show Steps p.tables e below (T145.setTop (mkF m 100 #[.val (.long x0), .second, .val (.long x1), .second, .val (.long x2), .second, .val (.long x3), .second, .val (.int x4), .val (.int sm_69), .val (.int sw_81), .val (.long ot_94), .second, .val (.long cc_108), .second, .val (.long aa_119), .second, .val (.ref b130), .unset] [])) t
        refine XS.iconst X145.here hx rfl (hb hby at_100) ?_
        show Steps p.tables e below (T145.setTop (mkF m 101 #[.val (.long x0), .second, .val (.long x1), .second, .val (.long x2), .second, .val (.long x3), .second, .val (.int x4), .val (.int sm_69), .val (.int sw_81), .val (.long ot_94), .second, .val (.long cc_108), .second, .val (.long aa_119), .second, .val (.ref b130), .unset] [(.int (1 : Int32))])) t
        refine XS.goto X145.here hx rfl (pc0 := 101) (pc' := 105) rfl (hb hby at_101) (by decide) (by decide) ?_
        exact k
    · have q170 : ¬ sm_69.toInt = (0 : Int32).toInt := fun q => hc158 (Int32.toInt_inj.mp q)
      refine ⟨(0 : Int32), by omega, fun t k => K159 t ?_⟩
      show Steps p.tables e below (T145.setTop (mkF m 90 #[.val (.long x0), .second, .val (.long x1), .second, .val (.long x2), .second, .val (.long x3), .second, .val (.int x4), .val (.int sm_69), .val (.int sw_81), .val (.long ot_94), .second, .val (.long cc_108), .second, .val (.long aa_119), .second, .val (.ref b130), .unset] [(.int sm_69)])) t
      refine XS.ifYes X145.here hx rfl (pc0 := 90) (pc' := 104) rfl (hb hby at_90) rfl ((if0 _ _).trans (feq hc158).2) (by decide) (by decide) ?_
      show Steps p.tables e below (T145.setTop (mkF m 104 #[.val (.long x0), .second, .val (.long x1), .second, .val (.long x2), .second, .val (.long x3), .second, .val (.int x4), .val (.int sm_69), .val (.int sw_81), .val (.long ot_94), .second, .val (.long cc_108), .second, .val (.long aa_119), .second, .val (.ref b130), .unset] [])) t
      refine XS.iconst X145.here hx rfl (hb hby at_104) ?_
      exact k
  have K171 : ∀ t, Steps p.tables e below (T145.setTop (mkF m 109 #[.val (.long x0), .second, .val (.long x1), .second, .val (.long x2), .second, .val (.long x3), .second, .val (.int x4), .val (.int sm_69), .val (.int sw_81), .val (.long ot_94), .second, .val (.long cc_108), .second, .val (.long aa_119), .second, .val (.ref b130), .val (.int ex_156)] [(.ref b130)])) t → Steps p.tables e below (s₁.setTop (entryFrame m #[(.long x0), (.long x1), (.long x2), (.long x3), (.int x4)] maxLocals)) t := fun t k => K157 t (by
    show Steps p.tables e below (T145.setTop (mkF m 105 #[.val (.long x0), .second, .val (.long x1), .second, .val (.long x2), .second, .val (.long x3), .second, .val (.int x4), .val (.int sm_69), .val (.int sw_81), .val (.long ot_94), .second, .val (.long cc_108), .second, .val (.long aa_119), .second, .val (.ref b130), .unset] [(.int ex_156)])) t
    refine XS.istore X145.here hx rfl (hb hby at_105) rfl (l' := #[.val (.long x0), .second, .val (.long x1), .second, .val (.long x2), .second, .val (.long x3), .second, .val (.int x4), .val (.int sm_69), .val (.int sw_81), .val (.long ot_94), .second, .val (.long cc_108), .second, .val (.long aa_119), .second, .val (.ref b130), .val (.int ex_156)]) rfl ?_
    show Steps p.tables e below (T145.setTop (mkF m 107 #[.val (.long x0), .second, .val (.long x1), .second, .val (.long x2), .second, .val (.long x3), .second, .val (.int x4), .val (.int sm_69), .val (.int sw_81), .val (.long ot_94), .second, .val (.long cc_108), .second, .val (.long aa_119), .second, .val (.ref b130), .val (.int ex_156)] [])) t
    refine XS.aload X145.here hx rfl (hb hby at_107) rfl rfl ?_
    exact k)
  obtain ⟨cq172, kq172, q172a, q172b, q172c⟩ := isOf hZ e145.symm Pc145_0
  obtain ⟨_, _, ⟨T172, L172, kk172, nn172⟩, -, X172, ⟨Lc172, hQ172, l172, y172, z172⟩, st172⟩ := X145.virtualBack hx (y := (⟨"turnstile/bench/Tally", "lostUpdate", "()Z"⟩ : MethodName)) (z := (⟨"turnstile/bench/Tally", "lostUpdate", "()Z"⟩ : MethodName)) hown (mvT hZ (hw _ (List.mem_of_getElem? (i := 22) rfl))) (mvT hZ (hw _ (List.mem_of_getElem? (i := 23) rfl))) (notFace_of_selects (args := #[]) (mvT hZ (hw _ (List.mem_of_getElem? (i := 25) rfl)))) (mvT hZ (hw _ (List.mem_of_getElem? (i := 25) rfl))) (mvT hZ (hw _ (List.mem_of_getElem? (i := 24) rfl))) (by decide) (backOf (W := 0) (rm4 l Z a0 hw [] b130 cc_108 aa_119 h145 n0 Z149 Pc145_3 Pc145_4) hZ (hw _ (List.mem_of_getElem? (i := 26) rfl)) (hw _ (List.mem_of_getElem? (i := 2) rfl)) (by decide) (by decide)) q172a q172c (g := (mkF m 109 #[.val (.long x0), .second, .val (.long x1), .second, .val (.long x2), .second, .val (.long x3), .second, .val (.int x4), .val (.int sm_69), .val (.int sw_81), .val (.long ot_94), .second, .val (.long cc_108), .second, .val (.long aa_119), .second, .val (.ref b130), .val (.int ex_156)] [(.ref b130)])) rfl (by rw [hml]; rfl) (Steps.refl _) (argsL := []) (rest := []) (lenOf own_pd2 rfl) rfl (by show 2 * 0 + _ ≤ _; exact Nat.le_of_eq rfl) (hb hby at_109) (fun _ _ => ⟨rfl, e145.symm, (by decide : 1 + 0 ≤ _), (by decide : 4 + 0 ≤ _)⟩)
  dsimp only [Pt.U, Pt.locs, Pt.cells, Pt.slots] at X172 l172 y172 z172 st172 hQ172
  subst l172 y172 z172
  obtain ⟨r_172, rfl, Sp172, Nq172, eh172⟩ := hQ172
  have N173 := Fr.app N146 Nq172
  have K174 : ∀ t, Steps p.tables e below (T172.setTop (mkF m 112 #[.val (.long x0), .second, .val (.long x1), .second, .val (.long x2), .second, .val (.long x3), .second, .val (.int x4), .val (.int sm_69), .val (.int sw_81), .val (.long ot_94), .second, .val (.long cc_108), .second, .val (.long aa_119), .second, .val (.ref b130), .val (.int ex_156)] [(.int r_172)])) t → Steps p.tables e below (s₁.setTop (entryFrame m #[(.long x0), (.long x1), (.long x2), (.long x3), (.int x4)] maxLocals)) t := fun t k => K171 t (st172.trans k)
  have q176 := rng32 r_172
  have q177 := rng32 ex_156
  have hc175 : r_172 = ex_156 := Int32.toInt_inj.mp (by omega)
  have q178 : r_172.toInt = ex_156.toInt := congrArg Int32.toInt hc175
  have K179 : ∀ t, Steps p.tables e below (T172.setTop (mkF m 122 #[.val (.long x0), .second, .val (.long x1), .second, .val (.long x2), .second, .val (.long x3), .second, .val (.int x4), .val (.int sm_69), .val (.int sw_81), .val (.long ot_94), .second, .val (.long cc_108), .second, .val (.long aa_119), .second, .val (.ref b130), .val (.int ex_156)] [(.int (1 : Int32))])) t → Steps p.tables e below (s₁.setTop (entryFrame m #[(.long x0), (.long x1), (.long x2), (.long x3), (.int x4)] maxLocals)) t := fun t k => K174 t (by
    show Steps p.tables e below (T172.setTop (mkF m 112 #[.val (.long x0), .second, .val (.long x1), .second, .val (.long x2), .second, .val (.long x3), .second, .val (.int x4), .val (.int sm_69), .val (.int sw_81), .val (.long ot_94), .second, .val (.long cc_108), .second, .val (.long aa_119), .second, .val (.ref b130), .val (.int ex_156)] [(.int r_172)])) t
    refine XS.iload X172.here hx rfl (hb hby at_112) rfl ?_
    show Steps p.tables e below (T172.setTop (mkF m 114 #[.val (.long x0), .second, .val (.long x1), .second, .val (.long x2), .second, .val (.long x3), .second, .val (.int x4), .val (.int sm_69), .val (.int sw_81), .val (.long ot_94), .second, .val (.long cc_108), .second, .val (.long aa_119), .second, .val (.ref b130), .val (.int ex_156)] [(.int ex_156), (.int r_172)])) t
    refine XS.icmpNo X172.here hx rfl (hb hby at_114) rfl (teq hc175).2 ?_
    show Steps p.tables e below (T172.setTop (mkF m 117 #[.val (.long x0), .second, .val (.long x1), .second, .val (.long x2), .second, .val (.long x3), .second, .val (.int x4), .val (.int sm_69), .val (.int sw_81), .val (.long ot_94), .second, .val (.long cc_108), .second, .val (.long aa_119), .second, .val (.ref b130), .val (.int ex_156)] [])) t
    refine XS.iconst X172.here hx rfl (hb hby at_117) ?_
    show Steps p.tables e below (T172.setTop (mkF m 118 #[.val (.long x0), .second, .val (.long x1), .second, .val (.long x2), .second, .val (.long x3), .second, .val (.int x4), .val (.int sm_69), .val (.int sw_81), .val (.long ot_94), .second, .val (.long cc_108), .second, .val (.long aa_119), .second, .val (.ref b130), .val (.int ex_156)] [(.int (1 : Int32))])) t
    refine XS.goto X172.here hx rfl (pc0 := 118) (pc' := 122) rfl (hb hby at_118) (by decide) (by decide) ?_
    exact k)
  obtain ⟨fs, hr, hrun, hended, hW, hsame⟩ := X172.leave (v := some (.int (1 : Int32))) (fun h => by rw [Bd.returns] at h; cases h)
  refine ⟨_, _, K179 _ ?_, hrun, hended, _, _, rfl, ?_, ⟨_, rfl⟩, hW, hsame.mono (by decide) (by decide)⟩
  · exact retN X172 hx (t := .boolean) Bd.returns (by simp) (hb hby at_122) hr
  · show Q_rm0 Z x0 x1 x2 x3 x4 h0 n0 _ T172.heap _
    have q180 := (by decide : (1 : Int32).toInt = 1)
    rw [eh172]
    exact ⟨rfl, (by trivial), N173, Kp148⟩
set_option maxRecDepth 65536 in
set_option maxHeartbeats 40000000 in
theorem comes_1 {Post : Tables → Env → Array Value → State → Outcome → State → Prop} (hpost : ∀ tb e args s v u, (limb_1_1.after args s (.returned v) u = true ∧ limb_1_2.after args s (.returned v) u = true ∧ True) → FrameEnd s (.returned v) u (Jvm.fieldLocs frame_1_writes args s ++ Jvm.arrayLocs frame_1_arrays args s ++ Jvm.staticLocs frame_1_statics s) 16 128 → Post tb e args s (.returned v) u) :
    ArmFor flags0 classFile x code maxLocals ret World_1 tables_1 room_1 Calls_1 rest_1 Pre_1 Post := by
  intro l hfl _ _ p e ha hc hk s m args below hf hA hF happ hP
  obtain ⟨hcalls, hrest, hpre⟩ := hP
  obtain ⟨-, -, -, hnamed, -, -, -, hat⟩ := (Spec.applies_iff hf).mp happ
  obtain ⟨hg, hn⟩ := and_e (Cond.before_iff.mp (show (Jvm.Cond.and given_1 narrow_1).before args s = true from hpre))
  obtain ⟨gg1, gg2⟩ := and_e hg
  obtain ⟨gg3, gg4⟩ := and_e gg2
  obtain ⟨gg5, gg6⟩ := and_e gg4
  obtain ⟨gg7, gg8⟩ := and_e gg6
  obtain ⟨gg9, gg10⟩ := and_e gg8
  obtain ⟨w0, w1, w2, w3, w4, rfl⟩ : ∃ w0 w1 w2 w3 w4 : Value, args = #[w0, w1, w2, w3, w4] := by
    have hs : args.size = 5 := by simpa [Cond.value, given_1] using gg1
    obtain ⟨L⟩ := args
    match L, hs with
    | [w0, w1, w2, w3, w4], _ => exact ⟨w0, w1, w2, w3, w4, rfl⟩
  have hw := fun d (hd : d ∈ tables_1) => atoms_spec (ws := Jvm.Cond.code x code maxLocals ret :: tables_1) hat d (List.mem_cons_of_mem _ hd)
  obtain ⟨i0, ei0⟩ := isL_v gg3
  obtain rfl : w0 = (.long i0) := Option.some.inj ei0
  obtain ⟨i1, ei1⟩ := isL_v gg5
  obtain rfl : w1 = (.long i1) := Option.some.inj ei1
  obtain ⟨i2, ei2⟩ := isL_v gg7
  obtain rfl : w2 = (.long i2) := Option.some.inj ei2
  obtain ⟨i3, ei3⟩ := isL_v gg9
  obtain rfl : w3 = (.long i3) := Option.some.inj ei3
  obtain ⟨i4, ei4⟩ := is_v gg10
  obtain rfl : w4 = (.int i4) := Option.some.inj ei4
  obtain ⟨n, o, h1, h2, h3, _, L, rfl, ⟨rfl, -, N, -⟩, hq⟩ := rm0 l s _ hw tables_1 i0 i1 i2 i3 i4 s.heap s.heap.size (Nat.le_refl _) p e ha hc hk s m _ below hf ((Spec.applies_iff_loose hf).mp happ).1 ⟨rfl, State.Warmed39.refl s, rfl⟩ trivial
  refine ⟨n, _, h1, h2, h3, hpost _ _ _ _ _ _ ⟨Cond.after_iff.mpr rfl, Cond.after_iff.mpr (eq_i res_at (Term.int_eval (1)) rfl), trivial⟩ ⟨hq.1, hq.2.1, (hq.2.2.sift fun y hy => Or.inr (N y hy)).mono (by decide) (by decide)⟩⟩
theorem main_1_1 : Claimed_1_1 := comes_1 fun _ _ _ _ _ _ h hF => ⟨h.1, hF⟩
theorem main_1_2 : Claimed_1_2 := comes_1 fun _ _ _ _ _ _ h hF => ⟨h.2.1, hF⟩
end Jvm.Pilot.@@N@@
namespace Jvm.Pilot.@@N@@
open Jvm Jvm.ClassFile Sem Op Lib Jvm.Free Jvm.Stand Jvm.Pilot.@@N@@.Jvm.D
/-! MADE BY PROGRAM (witnessworld.py) out of the Statement's table words and the real class files: 8 classes; the members and pool entries that the words name. The judged class is class 1, her method 1. -/
namespace start1
open Jvm.ClassFile
def u (s : String) : CpInfo := .utf8 (stringToUtf16 s)
/-- a pool by its gaps: so many unusable entries, then the entry; so many at the end -/
def gap : Nat → List CpInfo → List CpInfo
  | 0, r => r
  | n + 1, r => .unusable :: gap n r
def poolList (es : List (Nat × CpInfo)) (last : Nat) : List CpInfo := es.foldr (fun e r => gap e.1 (e.2 :: r)) (gap last [])
def pool (es : List (Nat × CpInfo)) (last : Nat) : Array CpInfo := ⟨poolList es last⟩
def fileOf (pool : Array CpInfo) (this : Nat) (attrs : Array Attribute := #[]) (ms : Array MethodInfo := #[]) (fl : Nat := 33) (sup : Nat := 0) (ifs : Array Nat := #[]) (fds : Array FieldInfo := #[]) : ClassFile where
  minorVersion := 0
  majorVersion := 65
  constantPool := pool
  accessFlags := fl
  thisClass := this
  superClass := sup
  interfaces := ifs
  fields := fds
  methods := ms
  attributes := attrs
def plain (name : String) (sup : Option ClassId) : Class where
  name := name
  kind := .ordinary
  loader := none
  accessFlags := 33
  super := sup
  interfaces := #[]
  cf := none
  fields := #[]
  methods := #[]
  instanceTypes := #[]
  staticTypes := #[]
  resolved := #[]
  callSites := []
  init := .initialized
  statics := none
  mirror := none

def pool0 : Array CpInfo := pool [(5, u "<init>"), (0, u "()V"), (1, .class_ 10), (1, u "java/lang/Object")] 113

def k0c0 : Code := { maxStack := 0, maxLocals := 1, code := object_method_1_code, exceptionTable := #[], attributes := #[] }
def k0m0 : Method := { name := "<init>", desc := "()V", sig := { parameters := [], returnType := none }, accessFlags := 1, code := some k0c0 }
/-- java/lang/Object -/
def k0 : Class := { plain "java/lang/Object" none with
  accessFlags := 33
  interfaces := #[]
  cf := some (fileOf pool0 8 #[] #[{ accessFlags := 1, nameIndex := 5, descriptorIndex := 6, attributes := #[] }] 33 0 #[] #[])
  fields := #[]
  methods := #[k0m0]
  instanceTypes := #[]
  staticTypes := #[]
  resolved := Array.replicate 124 none
  statics := none }

def pool1 : Array CpInfo := pool [(2, .class_ 4), (1, u "java/lang/Object"), (0, u "<init>"), (0, u "()V"), (0, .class_ 8), (0, u "turnstile/bench/Tally"), (0, .methodref 7 10), (0, .nameAndType 5 11), (0, u "(JJJJ)V"), (0, .methodref 7 13), (0, .nameAndType 14 15), (0, u "lostUpdate"), (0, u "()Z"), (0, .class_ 17), (0, u "turnstile/bench/TallyLostUpdatePinLaw"), (2, u "law"), (0, u "(JJJJI)Z")] 3

def k1m0 : Method := { name := "<init>", desc := "()V", sig := { parameters := [], returnType := none }, accessFlags := 1, code := none }
def k1c1 : Code := { maxStack := 10, maxLocals := 19, code := code, exceptionTable := #[], attributes := #[] }
def k1m1 : Method := { name := "law", desc := "(JJJJI)Z", sig := { parameters := [.long, .long, .long, .long, .int], returnType := some .boolean }, accessFlags := 9, code := some k1c1 }
/-- turnstile/bench/TallyLostUpdatePinLaw -/
def k1 : Class := { plain "turnstile/bench/TallyLostUpdatePinLaw" (some 0) with
  accessFlags := 49
  interfaces := #[]
  cf := some (fileOf pool1 16 #[] #[{ accessFlags := 1, nameIndex := 5, descriptorIndex := 6, attributes := #[] }, { accessFlags := 9, nameIndex := 20, descriptorIndex := 21, attributes := #[] }] 49 2 #[] #[])
  fields := #[]
  methods := #[k1m0, k1m1]
  instanceTypes := #[]
  staticTypes := #[]
  resolved := Array.replicate 25 none
  statics := none }

def pool2 : Array CpInfo := pool [(1, .methodref 2 3), (0, .class_ 4), (0, .nameAndType 5 6), (0, u "java/lang/Object"), (0, u "<init>"), (0, u "()V"), (0, .class_ 8), (0, u "java/lang/Record")] 13

def k2c0 : Code := { maxStack := 1, maxLocals := 1, code := jdk_30_method_1_code, exceptionTable := #[], attributes := #[] }
def k2m0 : Method := { name := "<init>", desc := "()V", sig := { parameters := [], returnType := none }, accessFlags := 4, code := some k2c0 }
/-- java/lang/Record -/
def k2 : Class := { plain "java/lang/Record" (some 0) with
  accessFlags := 1057
  interfaces := #[]
  cf := some (fileOf pool2 7 #[] #[{ accessFlags := 4, nameIndex := 5, descriptorIndex := 6, attributes := #[] }] 1057 2 #[] #[])
  fields := #[]
  methods := #[k2m0]
  instanceTypes := #[]
  staticTypes := #[]
  resolved := Array.replicate 22 none
  statics := none }

def pool3 : Array CpInfo := pool [(1, .methodref 2 3), (0, .class_ 4), (0, .nameAndType 5 6), (0, u "java/lang/Record"), (0, u "<init>"), (0, u "()V"), (0, .fieldref 8 9), (0, .class_ 10), (0, .nameAndType 11 12), (0, u "turnstile/bench/Tally"), (0, u "iterations"), (0, u "J"), (0, .fieldref 8 14), (0, .nameAndType 15 12), (0, u "nanos"), (0, .fieldref 8 17), (0, .nameAndType 18 12), (0, u "counter"), (0, .fieldref 8 20), (0, .nameAndType 21 12), (0, u "acquisitions"), (51, u "()Z"), (8, u "LINE"), (0, u "Ljava/util/regex/Pattern;"), (21, u "(JJJJ)V"), (25, u "lostUpdate")] 39

def k3c0 : Code := { maxStack := 3, maxLocals := 9, code := prog_21_method_1_code, exceptionTable := #[], attributes := #[] }
def k3m0 : Method := { name := "<init>", desc := "(JJJJ)V", sig := { parameters := [.long, .long, .long, .long], returnType := none }, accessFlags := 0, code := some k3c0 }
def k3c1 : Code := { maxStack := 4, maxLocals := 1, code := prog_21_method_2_code, exceptionTable := #[], attributes := #[] }
def k3m1 : Method := { name := "lostUpdate", desc := "()Z", sig := { parameters := [], returnType := some .boolean }, accessFlags := 0, code := some k3c1 }
/-- turnstile/bench/Tally -/
def k3 : Class := { plain "turnstile/bench/Tally" (some 2) with
  accessFlags := 48
  interfaces := #[]
  cf := some (fileOf pool3 8 #[] #[{ accessFlags := 0, nameIndex := 5, descriptorIndex := 105, attributes := #[] }, { accessFlags := 0, nameIndex := 131, descriptorIndex := 73, attributes := #[] }] 48 2 #[] #[{ accessFlags := 18, nameIndex := 11, descriptorIndex := 12, attributes := #[] }, { accessFlags := 18, nameIndex := 15, descriptorIndex := 12, attributes := #[] }, { accessFlags := 18, nameIndex := 18, descriptorIndex := 12, attributes := #[] }, { accessFlags := 18, nameIndex := 21, descriptorIndex := 12, attributes := #[] }, { accessFlags := 26, nameIndex := 82, descriptorIndex := 83, attributes := #[] }])
  fields := #[{ name := "iterations", type := .long, accessFlags := 18, slot := 0, constantValue := 0 }, { name := "nanos", type := .long, accessFlags := 18, slot := 1, constantValue := 0 }, { name := "counter", type := .long, accessFlags := 18, slot := 2, constantValue := 0 }, { name := "acquisitions", type := .long, accessFlags := 18, slot := 3, constantValue := 0 }, { name := "LINE", type := (.object "java/util/regex/Pattern"), accessFlags := 26, slot := 0, constantValue := 0 }]
  methods := #[k3m0, k3m1]
  instanceTypes := #[.long, .long, .long, .long]
  staticTypes := #[(.object "java/util/regex/Pattern")]
  resolved := Array.replicate 171 none
  statics := none }

def pool4 : Array CpInfo := pool [(1, u "java/lang/Cloneable"), (0, .class_ 1), (0, u "java/lang/Object"), (0, .class_ 3)] 3

/-- java/lang/Cloneable -/
def k4 : Class := { plain "java/lang/Cloneable" (some 0) with
  accessFlags := 1537
  interfaces := #[]
  cf := some (fileOf pool4 2 #[] #[] 1537 4 #[] #[])
  fields := #[]
  methods := #[]
  instanceTypes := #[]
  staticTypes := #[]
  resolved := Array.replicate 8 none
  statics := none }

def pool5 : Array CpInfo := pool [(1, u "java/io/Serializable"), (0, .class_ 1), (0, u "java/lang/Object"), (0, .class_ 3)] 3

/-- java/io/Serializable -/
def k5 : Class := { plain "java/io/Serializable" (some 0) with
  accessFlags := 1537
  interfaces := #[]
  cf := some (fileOf pool5 2 #[] #[] 1537 4 #[] #[])
  fields := #[]
  methods := #[]
  instanceTypes := #[]
  staticTypes := #[]
  resolved := Array.replicate 8 none
  statics := none }

/-- the primitive byte -/
def k6 : Class := { plain "byte" none with kind := .primitive 'B', accessFlags := 0x411 }
/-- [B -/
def k7 : Class := { plain "[B" (some 0) with kind := .array 6 .byte, interfaces := #[4, 5], accessFlags := 1041 }

def heap : Heap := #[]
def classes : Array Class := #[k0, k1, k2, k3, k4, k5, k6, k7]
def interned : List (Array UInt16 × Addr) := []
def slotsUsed : Nat := 0
def theMethod : MethodId := ⟨1, 1⟩
def args0 : Array Value := #[.long 5, .long 7, .long 9, .long 3, .int 2]
def aboutOver (below : List Frame) : State where
  vm := { classes := classes, interned := interned.toArray }
  heap := heap
  slotsUsed := slotsUsed
  threads := #[{ frames := .invoking theMethod args0 :: below }]
def below0 : List Frame := [.native { method := ⟨0, 0⟩, args := #[] }]
def about1 : State := aboutOver below0
def p0 : Program := .bare "" "" ""
def e0 : Env := launch0.env 0 0 0
theorem w_frames : about1.frames = Frame.invoking theMethod args0 :: below0 := rfl
set_option maxRecDepth 65536 in
theorem w_args : argsFit about1.vm theMethod args0 = true := by decide +kernel
set_option maxRecDepth 65536 in
theorem w_heap : heapFits about1 = true := by decide +kernel
set_option maxRecDepth 65536 in
theorem w_runnable : about1.curStatus? = some .runnable := by decide +kernel
set_option maxRecDepth 65536 in
theorem w_alone : about1.alone = true := by decide +kernel
set_option maxRecDepth 65536 in
theorem w_named : about1.methodNamed? x = some theMethod := by decide +kernel
set_option maxRecDepth 65536 in
theorem w_hears : about1.hears theMethod below0 = true := by decide +kernel
set_option maxRecDepth 65536 in
theorem w_ripe : about1.ripe theMethod args0 below0 = true := by decide +kernel
theorem w_running : about1.status = .running := rfl
set_option maxRecDepth 65536 in
theorem w_room : about1.hasRoom e0.platform room_1 = true :=
  launch0.hasRoom_least _ room_1 (by decide +kernel) (by decide +kernel) (by decide +kernel) (by decide +kernel) (by decide +kernel) (by decide +kernel)
theorem allAtoms_all (ts : List Jvm.Cond) (a : Array Jvm.Value) (st : Jvm.State) : (allAtoms ts).before a st = ts.all (fun c => c.before a st) := by
  induction ts with
  | nil => rfl
  | cons c t ih =>
    show (Jvm.Cond.and c (allAtoms t)).before a st = _
    rw [Jvm.Cond.before_and, ih, List.all_cons]
def words1 : List Jvm.Cond := Jvm.Cond.code x code maxLocals ret :: tables_1
/-- a 'code' word, met by the world's own term for the bytes: nothing is compared byte by byte -/
theorem code_word {y : MethodName} {bytes : ByteArray} {mx : Nat} {rt : Option FieldType} {a : Array Value} {s : State} {m : MethodId} {meth : Method} {c : Code} (h1 : s.methodNamed? y = some m) (h2 : s.vm.method? m = some meth) (h3 : meth.code = some c) (h4 : c.code = bytes)
    (h5 : (c.maxLocals == mx && c.exceptionTable.isEmpty && decide (c.maxStack ≤ mostOperands) && decide (meth.sig.returnType = rt) && !meth.locks && decide (parseMethodDescriptor y.desc = some meth.sig)) = true) : (Jvm.Cond.code y bytes mx rt).before a s = true := by
  simp only [Bool.and_eq_true, beq_iff_eq, Bool.not_eq_true', decide_eq_true_eq] at h5
  obtain ⟨⟨⟨⟨⟨g1, g2⟩, g3⟩, g4⟩, g5⟩, g6⟩ := h5
  simp [Cond.before, Cond.holds, Cond.value, h1, h2, h3, h4, g1, g2, g3, g4, g5, g6]
def isCode : Jvm.Cond → Bool
  | .code _ _ _ _ => true
  | _ => false
theorem all_split {L : List Jvm.Cond} {P : Jvm.Cond → Bool} (h1 : L.all (fun c => isCode c || P c) = true) (h2 : ∀ c ∈ L.filter isCode, P c = true) : L.all P = true := by
  refine List.all_eq_true.mpr fun c hc => ?_
  have h := List.all_eq_true.mp h1 c hc
  rcases Bool.eq_false_or_eq_true (isCode c) with hi | hi
  · exact h2 c (List.mem_filter.mpr ⟨hc, hi⟩)
  · simpa [hi] using h
set_option maxRecDepth 65536 in
theorem w_c0 : (Jvm.Cond.code x code maxLocals ret).before args0 about1 = true := code_word (m := ⟨1, 1⟩) (meth := k1m1) (c := k1c1) (by decide +kernel) rfl rfl rfl (by decide +kernel)
set_option maxRecDepth 65536 in
theorem w_c1 : (Jvm.Cond.code ({ cls := "turnstile/bench/Tally", name := "<init>", desc := "(JJJJ)V" } : Jvm.MethodName) prog_21_method_1_code (9 : Nat) (Option.none : Option Jvm.ClassFile.FieldType)).before args0 about1 = true := code_word (m := ⟨3, 0⟩) (meth := k3m0) (c := k3c0) (by decide +kernel) rfl rfl rfl (by decide +kernel)
set_option maxRecDepth 65536 in
theorem w_c2 : (Jvm.Cond.code ({ cls := "java/lang/Record", name := "<init>", desc := "()V" } : Jvm.MethodName) jdk_30_method_1_code (1 : Nat) (Option.none : Option Jvm.ClassFile.FieldType)).before args0 about1 = true := code_word (m := ⟨2, 0⟩) (meth := k2m0) (c := k2c0) (by decide +kernel) rfl rfl rfl (by decide +kernel)
set_option maxRecDepth 65536 in
theorem w_c3 : (Jvm.Cond.code ({ cls := "java/lang/Object", name := "<init>", desc := "()V" } : Jvm.MethodName) object_method_1_code (1 : Nat) (Option.none : Option Jvm.ClassFile.FieldType)).before args0 about1 = true := code_word (m := ⟨0, 0⟩) (meth := k0m0) (c := k0c0) (by decide +kernel) rfl rfl rfl (by decide +kernel)
set_option maxRecDepth 65536 in
theorem w_c4 : (Jvm.Cond.code ({ cls := "turnstile/bench/Tally", name := "lostUpdate", desc := "()Z" } : Jvm.MethodName) prog_21_method_2_code (1 : Nat) (Option.some Jvm.ClassFile.FieldType.boolean)).before args0 about1 = true := code_word (m := ⟨3, 1⟩) (meth := k3m1) (c := k3c1) (by decide +kernel) rfl rfl rfl (by decide +kernel)
def codes1 : List Jvm.Cond := [Jvm.Cond.code x code maxLocals ret, Jvm.Cond.code ({ cls := "turnstile/bench/Tally", name := "<init>", desc := "(JJJJ)V" } : Jvm.MethodName) prog_21_method_1_code (9 : Nat) (Option.none : Option Jvm.ClassFile.FieldType), Jvm.Cond.code ({ cls := "java/lang/Record", name := "<init>", desc := "()V" } : Jvm.MethodName) jdk_30_method_1_code (1 : Nat) (Option.none : Option Jvm.ClassFile.FieldType), Jvm.Cond.code ({ cls := "java/lang/Object", name := "<init>", desc := "()V" } : Jvm.MethodName) object_method_1_code (1 : Nat) (Option.none : Option Jvm.ClassFile.FieldType), Jvm.Cond.code ({ cls := "turnstile/bench/Tally", name := "lostUpdate", desc := "()Z" } : Jvm.MethodName) prog_21_method_2_code (1 : Nat) (Option.some Jvm.ClassFile.FieldType.boolean)]
set_option maxRecDepth 65536 in
theorem codes_eq : words1.filter isCode = codes1 := rfl
theorem w_codes : ∀ c ∈ words1.filter isCode, c.before args0 about1 = true := by
  rw [codes_eq]
  intro c hc
  simp only [codes1, List.mem_cons, List.not_mem_nil, or_false] at hc
  rcases hc with rfl | rfl | rfl | rfl | rfl
  · exact w_c0
  · exact w_c1
  · exact w_c2
  · exact w_c3
  · exact w_c4
set_option maxRecDepth 65536 in
theorem w_t1 : (words1.take 24).all (fun c => isCode c || c.before args0 about1) = true := by decide +kernel
set_option maxRecDepth 65536 in
theorem w_t2 : (words1.drop 24).all (fun c => isCode c || c.before args0 about1) = true := by decide +kernel
theorem w_tables : (allAtoms (Jvm.Cond.code x code maxLocals ret :: tables_1)).before args0 about1 = true := by
  rw [allAtoms_all]
  show words1.all (fun c => c.before args0 about1) = true
  refine all_split ?_ w_codes
  rw [← List.take_append_drop 24 words1, List.all_append, w_t1, w_t2]
  rfl
set_option maxRecDepth 65536 in
theorem w_case : (Jvm.Cond.and given_1 narrow_1).before args0 about1 = true := by decide +kernel
theorem w_applies : (headSpec (Jvm.Cond.code x code maxLocals ret :: tables_1) room_1).applies x e0.platform about1 = true :=
  (Spec.applies_iff w_frames).mpr ⟨w_running, w_runnable, w_alone, w_named, w_hears, w_ripe, w_room, w_tables⟩
theorem atStart : AtStart classFile x code maxLocals ret World_1 tables_1 room_1 Calls_1 rest_1 Pre_1 launch0 p0 e0 about1 theMethod args0 below0 :=
  ⟨lists_1, trivial, launch0.admits_env _ _ _, launch0.least_env, fairChoices_fair.cas, fairChoices_fair.clock, w_frames, w_args, w_heap, w_applies, trivial, trivial, w_case⟩
end start1
theorem witness_1 : WitnessClaimed_1 := ⟨start1.p0, start1.e0, start1.about1, start1.theMethod, start1.args0, start1.below0, start1.atStart⟩
end Jvm.Pilot.@@N@@
