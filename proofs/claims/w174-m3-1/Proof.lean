import JvmDerived
import JvmDerived.Pilot.@@N@@Statement
import JvmDerived.Pilot.@@N@@Code
set_option linter.unusedVariables false
set_option linter.unusedSimpArgs false
namespace Jvm.RoadKit
open Sem ClassFile Op Lib Jvm.Stand Jvm.Free Jvm.LawKit
section New
variable {p : Program} {l : Launch} {e : Env} {R : Room} {s : State} {m : MethodId} {args : Array Value} {below : List Frame} {meth : Method} {c : Code} {T : State} {locs : List Loc} {cells slots : Nat}
theorem retI (X : Stand p l e R s m args below meth c T locs cells slots) (hx : p.tables.exec = Jvm.exec) {pc : Nat} {Ls : Array Slot} {z : Int32} {rest : List Value} (hret : meth.sig.returnType = some .int) (hd : decode c.code pc = .ok (.ireturn, 1)) {fs : List Frame}
    (hl : ∀ (f : JFrame) (acts : List Action), f.method = m → f.locked = none → f.entered = [] → (doReturn e (T.setTop f) acts (some (.int z))).1 = T.setFrames fs) : Steps p.tables e below (T.setTop (mkF m pc Ls (.int z :: rest))) (T.setFrames fs) := by
  have hm' : T.vm.method? m = some meth := X.method'
  have hn : narrow .int (.int z) = .int z := rfl
  show Steps p.tables e below (T.setTop { method := m, pc := pc, locals := Ls, stack := _ :: rest, locked := none }) _
  jvm_step X.here [X.here.top, hx, hd, hm', hret, hn]
  first | (intro acts; rw [hl _ acts rfl rfl rfl]) | rw [hl _ _ rfl rfl rfl]
  exact Steps.refl _
end New
end Jvm.RoadKit
namespace Jvm.Pilot.@@N@@
open Jvm Jvm.ClassFile Sem Op Lib Jvm.Free Jvm.Stand Jvm.LawKit Jvm.RoadKit Bundle Jvm.Pilot.@@N@@.Jvm.D
/-- an array of ints (bytes) of which the length is known -/
def own_Arl (Z : State) (h : Heap) (a : Addr) (ty : FieldType) (z : Int32) : Prop := ∃ c : Cell, Arr Z h a c ty ∧ c.slots.size = z.toNatClampNeg ∧ ¬ z < 0
/-- an array of ints (bytes) that holds f -/
def own_Arf (Z : State) (h : Heap) (a : Addr) (ty : FieldType) (z : Int32) (f : Nat → Int32) : Prop := ∃ c : Cell, Arr Z h a c ty ∧ c.slots.size = z.toNatClampNeg ∧ ¬ z < 0 ∧ ∀ i, i < z.toNatClampNeg → c.slots[i]? = some (.int (f i))
section Arrs
variable {Z : State} {h h' : Heap} {a b : Addr} {ty : FieldType} {z j x : Int32} {f g : Nat → Int32} {sl : Nat} {v : Value} {ws : List Addr} {k : ClassId} {vs : List Value} {dv : Value} {c : Cell}
theorem own_Arl.lt (F : own_Arl Z h a ty z) : a < h.size := by obtain ⟨c, A, -⟩ := F; exact A.lt
theorem own_Arl.ext (F : own_Arl Z h a ty z) (E : Ext h h') : own_Arl Z h' a ty z := by obtain ⟨c, A, r⟩ := F; exact ⟨c, A.ext E, r⟩
theorem own_Arl.other (F : own_Arl Z h b ty z) (W : Wr h h' a sl v) (q : b ≠ a) : own_Arl Z h' b ty z := by obtain ⟨c, A, r⟩ := F; exact ⟨c, A.other W q, r⟩
theorem own_Arl.keep (F : own_Arl Z h a ty z) (K : Keep h h' ws) (q : a ∉ ws) : own_Arl Z h' a ty z := by obtain ⟨c, A, r⟩ := F; exact ⟨c, ⟨K.2.1 a c A.1 q, A.2⟩, r⟩
theorem own_Arl.new (A : Arr Z h a (newA k ty z) ty) (q : ¬ z < 0) : own_Arl Z h a ty z := ⟨_, A, sz_new _ _ _, q⟩
theorem own_Arl.same (A : Arr Z h a c ty) (S : c.slots.size = z.toNatClampNeg) (q : ¬ z < 0) (W : Wr h h' a sl v) : own_Arl Z h' a ty z := ⟨_, A.same W, (sz_set _ _ _).trans S, q⟩
theorem own_Arl.ofV (F : Arv Z h a k ty z vs dv) : own_Arl Z h a ty z := by obtain ⟨c, A, -, S, N, -⟩ := F; exact ⟨c, A, S, N⟩
theorem own_Arl.ofA (F : own_Arf Z h a ty z f) : own_Arl Z h a ty z := by obtain ⟨c, A, S, N, -⟩ := F; exact ⟨c, A, S, N⟩
theorem own_Arf.lt (F : own_Arf Z h a ty z f) : a < h.size := by obtain ⟨c, A, -⟩ := F; exact A.lt
theorem own_Arf.ext (F : own_Arf Z h a ty z f) (E : Ext h h') : own_Arf Z h' a ty z f := by obtain ⟨c, A, r⟩ := F; exact ⟨c, A.ext E, r⟩
theorem own_Arf.other (F : own_Arf Z h b ty z f) (W : Wr h h' a sl v) (q : b ≠ a) : own_Arf Z h' b ty z f := by obtain ⟨c, A, r⟩ := F; exact ⟨c, A.other W q, r⟩
theorem own_Arf.keep (F : own_Arf Z h a ty z f) (K : Keep h h' ws) (q : a ∉ ws) : own_Arf Z h' a ty z f := by obtain ⟨c, A, r⟩ := F; exact ⟨c, ⟨K.2.1 a c A.1 q, A.2⟩, r⟩
theorem own_Arf.new (A : Arr Z h a (newA k ty z) ty) (q : ¬ z < 0) (hd : defaultValue ty = .int 0) : own_Arf Z h a ty z (fun _ => 0) := ⟨_, A, sz_new _ _ _, q, fun i hi => by simp [newA, hi, hd]⟩
theorem own_Arf.set (A : Arr Z h a c ty) (S : c.slots.size = z.toNatClampNeg) (q : ¬ z < 0) (H : ∀ i, i < z.toNatClampNeg → c.slots[i]? = some (.int (f i))) (W : Wr h h' a sl (.int x)) (e : sl = j.toNatClampNeg) (hg : g = fun i => if i = j.toNatClampNeg then x else f i) : own_Arf Z h' a ty z g := by
  subst e hg
  refine ⟨_, A.same W, (sz_set _ _ _).trans S, q, fun i hi => ?_⟩
  by_cases hij : i = j.toNatClampNeg
  · subst hij
    have hs : j.toNatClampNeg < c.slots.size := by rw [S]; exact hi
    simp [Cell.setSlot, hs]
  · rw [show (c.setSlot j.toNatClampNeg (.int x)).slots[i]? = c.slots[i]? from Array.getElem?_setIfInBounds_ne (Ne.symm hij), H i hi]
    simp [hij]
theorem own_Arf.ofV (F : Arv Z h a k ty z vs dv) (e : ∀ i, i < z.toNatClampNeg → vs.getD i dv = .int (f i)) : own_Arf Z h a ty z f := by
  obtain ⟨c, A, -, S, N, H, -⟩ := F
  exact ⟨c, A, S, N, fun i hi => by rw [H i (by rw [S]; exact hi), e i hi]⟩
theorem own_Arf.congr (F : own_Arf Z h a ty z f) (e : ∀ i, i < z.toNatClampNeg → f i = g i) : own_Arf Z h a ty z g := by obtain ⟨c, A, S, N, H⟩ := F; exact ⟨c, A, S, N, fun i hi => by rw [← e i hi]; exact H i hi⟩
theorem own_at (H : ∀ i, i < z.toNatClampNeg → c.slots[i]? = some (.int (f i))) (S : c.slots.size = z.toNatClampNeg) (q : ¬ (j < 0 ∨ c.slots.size ≤ j.toNatClampNeg)) (e : f j.toNatClampNeg = x) : c.slots[j.toNatClampNeg]? = some (.int x) := by
  rw [← e]; exact H _ (by rw [← S]; exact Nat.lt_of_not_le fun y => q (Or.inr y))
end Arrs
theorem own_d2_0 : decode jdk_30_method_1_code 0 = .ok (.aload_n 0, 1) := by decide +kernel
theorem own_d2_1 : decode jdk_30_method_1_code 1 = .ok (.invokespecial 1, 3) := by decide +kernel
theorem own_d2_4 : decode jdk_30_method_1_code 4 = .ok (.return_, 1) := by decide +kernel
theorem own_pn0 : plainName "java/lang/Record" = true := by first | (simp [plainName, overriddenIn]; done) | decide +kernel
def Q_rm2 (Z : State) (ra : Addr) (h0 : Heap) (n0 : Nat) (v : Option Value) (h : Heap) (L : List Loc) : Prop := v = none ∧ (True) ∧ Fr n0 L ∧ h = h0
theorem own_ef_rm2 (m : MethodId) (ra : Addr) : entryFrame m #[(.ref ra)] 1 = mkF m 0 #[.val (.ref ra)] [] := by first | (simp [entryFrame, mkF, argsToLocals, Value.category]; done) | rfl
set_option maxRecDepth 65536 in
set_option maxHeartbeats 40000000 in
theorem rm2 (l : Launch) (Z : State) (a0 : Array Value) (hw : ∀ d ∈ tables_1, d.before a0 Z = true) (ws : List Jvm.Cond) (ra : Addr) (h0 : Heap) (n0 : Nat) (Z0 : n0 ≤ h0.size) :
    MetFree l (⟨"java/lang/Record", "<init>", "()V"⟩ : MethodName) (head1 (Jvm.Cond.code (⟨"java/lang/Record", "<init>", "()V"⟩ : MethodName) jdk_30_method_1_code 1 none :: ws) ({ frames := 1, cells := 0, slots := 0, locals := 12 } : Room)) (fun a U => a = #[(.ref ra)] ∧ Z.Warmed39 U.vm ∧ U.heap = h0) (fun _ _ _ _ _ => True) (fun _ U o U' => ∃ v L, o = .returned v ∧ Q_rm2 Z ra h0 n0 v U'.heap L ∧ FrameEnd U o U' L ({ frames := 1, cells := 0, slots := 0, locals := 12 } : Room).cells ({ frames := 1, cells := 0, slots := 0, locals := 12 } : Room).slots) := by
  refine MetFree.of_bodySF (plainFor_of_name own_pn0) hisR ?_
  intro p e s m args below meth c s₁ Bd hml0 hP hK
  obtain ⟨rfl, hZ, hh⟩ := hP
  have hx := Bd.exec
  have hby := Bd.bytes
  have hml : c.maxLocals = 1 := hml0
  have hown : s.vm.findClass "java/lang/Record" = some m.cls := findClass_of_methodNamed Bd.named
  have hnm := (name_of_methodNamed Bd.named Bd.method).1
  have X0 : Stand p l e ({ frames := 1, cells := 0, slots := 0, locals := 12 } : Room) s m #[(.ref ra)] below meth c s₁ [] 0 0 := Stand.of_body Bd
  have e0 : s₁.heap = h0 := by rw [← hh, Bd.state]; rfl
  have N0 := Fr.nil n0
  have pre0 : ∀ t, Steps p.tables e below (s₁.setTop (mkF m 0 #[.val (.ref ra)] [])) t → Steps p.tables e below (s₁.setTop (entryFrame m #[(.ref ra)] 1)) t := fun t k => castTop (own_ef_rm2 m ra) k
  have K1 : ∀ t, Steps p.tables e below (s₁.setTop (mkF m 1 #[.val (.ref ra)] [(.ref ra)])) t → Steps p.tables e below (s₁.setTop (entryFrame m #[(.ref ra)] 1)) t := fun t k => pre0 t (by
    show Steps p.tables e below (s₁.setTop (mkF m 0 #[.val (.ref ra)] [])) t
    refine XS.aloadN X0.here hx rfl (hb hby own_d2_0) rfl rfl ?_
    exact k)
  obtain ⟨T2, X2, e2, st2⟩ := initO X0 hx hZ hown (hw _ (List.mem_of_getElem? (i := 13) rfl)) (hw _ (List.mem_of_getElem? (i := 14) rfl)) (hw _ (List.mem_of_getElem? (i := 15) rfl)) e0 (g := (mkF m 1 #[.val (.ref ra)] [(.ref ra)])) rfl (by rw [hml]; rfl) rfl (hb hby own_d2_1) (by decide) (W := 0) (by show 2 * 0 + _ ≤ _; exact Nat.le_of_eq rfl) (by decide)
  have K3 : ∀ t, Steps p.tables e below (T2.setTop (mkF m 4 #[.val (.ref ra)] [])) t → Steps p.tables e below (s₁.setTop (entryFrame m #[(.ref ra)] 1)) t := fun t k => K1 t (st2 _ k)
  obtain ⟨fs, hr, hrun, hended, hW, hsame⟩ := X2.leave (v := none) (fun _ => rfl)
  refine ⟨_, _, K3 _ ?_, hrun, hended, _, _, rfl, ?_, ⟨_, rfl⟩, hW, hsame.mono (by decide) (by decide)⟩
  · exact X2.returnOut hx Bd.returns (hb hby own_d2_4) hr
  · show Q_rm2 Z ra h0 n0 _ T2.heap _
    rw [e2]
    exact ⟨rfl, (by trivial), N0, rfl⟩
theorem own_d1_0 : decode prog_49_method_1_code 0 = .ok (.aload_n 0, 1) := by decide +kernel
theorem own_d1_1 : decode prog_49_method_1_code 1 = .ok (.invokespecial 1, 3) := by decide +kernel
theorem own_d1_4 : decode prog_49_method_1_code 4 = .ok (.lload_n 1, 1) := by decide +kernel
theorem own_d1_5 : decode prog_49_method_1_code 5 = .ok (.lconst 0, 1) := by decide +kernel
theorem own_d1_6 : decode prog_49_method_1_code 6 = .ok (.lcmp, 1) := by decide +kernel
theorem own_d1_7 : decode prog_49_method_1_code 7 = .ok (.ifCond .lt 9, 3) := by decide +kernel
theorem own_d1_10 : decode prog_49_method_1_code 10 = .ok (.lload_n 3, 1) := by decide +kernel
theorem own_d1_11 : decode prog_49_method_1_code 11 = .ok (.lconst 0, 1) := by decide +kernel
theorem own_d1_12 : decode prog_49_method_1_code 12 = .ok (.lcmp, 1) := by decide +kernel
theorem own_d1_13 : decode prog_49_method_1_code 13 = .ok (.ifCond .ge 18, 3) := by decide +kernel
theorem own_d1_16 : decode prog_49_method_1_code 16 = .ok (.new 7, 3) := by decide +kernel
theorem own_d1_19 : decode prog_49_method_1_code 19 = .ok (.dup, 1) := by decide +kernel
theorem own_d1_20 : decode prog_49_method_1_code 20 = .ok (.lload_n 1, 1) := by decide +kernel
theorem own_d1_21 : decode prog_49_method_1_code 21 = .ok (.lload_n 3, 1) := by decide +kernel
theorem own_d1_27 : decode prog_49_method_1_code 27 = .ok (.invokespecial 13, 3) := by decide +kernel
theorem own_d1_31 : decode prog_49_method_1_code 31 = .ok (.aload_n 0, 1) := by decide +kernel
theorem own_d1_32 : decode prog_49_method_1_code 32 = .ok (.lload_n 1, 1) := by decide +kernel
theorem own_d1_33 : decode prog_49_method_1_code 33 = .ok (.putfield 16, 3) := by decide +kernel
theorem own_d1_36 : decode prog_49_method_1_code 36 = .ok (.aload_n 0, 1) := by decide +kernel
theorem own_d1_37 : decode prog_49_method_1_code 37 = .ok (.lload_n 3, 1) := by decide +kernel
theorem own_d1_38 : decode prog_49_method_1_code 38 = .ok (.putfield 22, 3) := by decide +kernel
theorem own_d1_41 : decode prog_49_method_1_code 41 = .ok (.return_, 1) := by decide +kernel
theorem own_pn1 : plainName "com/example/cursorweave/cursorweave/store/Position" = true := by first | (simp [plainName, overriddenIn]; done) | decide +kernel
theorem own_pd0 : parseMethodDescriptor "()V" = some ⟨[], none⟩ := by decide +kernel
def Q_rm1 (Z : State) (ta : Addr) (ua : Int64) (ub : Int64) (h0 : Heap) (n0 : Nat) (v : Option Value) (h : Heap) (L : List Loc) : Prop := v = none ∧ (True) ∧ Fr n0 L ∧ Keep h0 h [ta] ∧ Exa Z h ta "com/example/cursorweave/cursorweave/store/Position"
theorem own_ef_rm1 (m : MethodId) (ta : Addr) (ua : Int64) (ub : Int64) : entryFrame m #[(.ref ta), (.long ua), (.long ub)] 5 = mkF m 0 #[.val (.ref ta), .val (.long ua), .second, .val (.long ub), .second] [] := by first | (simp [entryFrame, mkF, argsToLocals, Value.category]; done) | rfl
set_option maxRecDepth 65536 in
set_option maxHeartbeats 40000000 in
theorem rm1 (l : Launch) (Z : State) (a0 : Array Value) (hw : ∀ d ∈ tables_1, d.before a0 Z = true) (ws : List Jvm.Cond) (ta : Addr) (ua : Int64) (ub : Int64) (h0 : Heap) (n0 : Nat) (Z0 : n0 ≤ h0.size) (P_0 : Exa Z h0 ta "com/example/cursorweave/cursorweave/store/Position") (P_1 : Fld Z h0 ta "com/example/cursorweave/cursorweave/store/Position" "ledger" "J" (.long (0 : Int64))) (P_2 : Fld Z h0 ta "com/example/cursorweave/cursorweave/store/Position" "entry" "J" (.long (0 : Int64))) (P_3 : n0 ≤ ta) (P_4 : 0 ≤ ua.toInt ∧ 0 ≤ ub.toInt) :
    MetFree l (⟨"com/example/cursorweave/cursorweave/store/Position", "<init>", "(JJ)V"⟩ : MethodName) (head1 (Jvm.Cond.code (⟨"com/example/cursorweave/cursorweave/store/Position", "<init>", "(JJ)V"⟩ : MethodName) prog_49_method_1_code 5 none :: ws) ({ frames := 2, cells := 0, slots := 0, locals := 24 } : Room)) (fun a U => a = #[(.ref ta), (.long ua), (.long ub)] ∧ Z.Warmed39 U.vm ∧ U.heap = h0) (fun _ _ _ _ _ => True) (fun _ U o U' => ∃ v L, o = .returned v ∧ Q_rm1 Z ta ua ub h0 n0 v U'.heap L ∧ FrameEnd U o U' L ({ frames := 2, cells := 0, slots := 0, locals := 24 } : Room).cells ({ frames := 2, cells := 0, slots := 0, locals := 24 } : Room).slots) := by
  refine MetFree.of_bodySF (plainFor_of_name own_pn1) hisR ?_
  intro p e s m args below meth c s₁ Bd hml0 hP hK
  obtain ⟨rfl, hZ, hh⟩ := hP
  have hx := Bd.exec
  have hby := Bd.bytes
  have hml : c.maxLocals = 5 := hml0
  have hown : s.vm.findClass "com/example/cursorweave/cursorweave/store/Position" = some m.cls := findClass_of_methodNamed Bd.named
  have hnm := (name_of_methodNamed Bd.named Bd.method).1
  have X0 : Stand p l e ({ frames := 2, cells := 0, slots := 0, locals := 24 } : Room) s m #[(.ref ta), (.long ua), (.long ub)] below meth c s₁ [] 0 0 := Stand.of_body Bd
  have e0 : s₁.heap = h0 := by rw [← hh, Bd.state]; rfl
  have N0 := Fr.nil n0
  have pre0 : ∀ t, Steps p.tables e below (s₁.setTop (mkF m 0 #[.val (.ref ta), .val (.long ua), .second, .val (.long ub), .second] [])) t → Steps p.tables e below (s₁.setTop (entryFrame m #[(.ref ta), (.long ua), (.long ub)] 5)) t := fun t k => castTop (own_ef_rm1 m ta ua ub) k
  have K4 : ∀ t, Steps p.tables e below (s₁.setTop (mkF m 1 #[.val (.ref ta), .val (.long ua), .second, .val (.long ub), .second] [(.ref ta)])) t → Steps p.tables e below (s₁.setTop (entryFrame m #[(.ref ta), (.long ua), (.long ub)] 5)) t := fun t k => pre0 t (by
    show Steps p.tables e below (s₁.setTop (mkF m 0 #[.val (.ref ta), .val (.long ua), .second, .val (.long ub), .second] [])) t
    refine XS.aloadN X0.here hx rfl (hb hby own_d1_0) rfl rfl ?_
    exact k)
  obtain ⟨_, _, ⟨T5, L5, kk5, nn5⟩, -, X5, ⟨Lc5, hQ5, l5, y5, z5⟩, st5⟩ := X0.specialBack hx (y := (⟨"java/lang/Record", "<init>", "()V"⟩ : MethodName)) rfl hown (mvT hZ (hw _ (List.mem_of_getElem? (i := 8) rfl))) (mvT hZ (hw _ (List.mem_of_getElem? (i := 9) rfl))) (mvT hZ (hw _ (List.mem_of_getElem? (i := 12) rfl))) (by decide) (backOf (W := 0) (rm2 l Z a0 hw [] ta h0 n0 Z0) hZ (hw _ (List.mem_of_getElem? (i := 12) rfl)) (hw _ (List.mem_of_getElem? (i := 11) rfl)) (by decide) (by decide)) (g := (mkF m 1 #[.val (.ref ta), .val (.long ua), .second, .val (.long ub), .second] [(.ref ta)])) rfl (by rw [hml]; rfl) (Steps.refl _) (a := ta) (argsL := []) (rest := []) (lenOf own_pd0 rfl) rfl (by show 2 * 0 + _ ≤ _; exact Nat.le_of_eq rfl) (hb hby own_d1_1) (fun _ _ => ⟨rfl, e0, (by decide : 0 + 0 ≤ _), (by decide : 0 + 0 ≤ _)⟩)
  dsimp only [Pt.U, Pt.locs, Pt.cells, Pt.slots] at X5 l5 y5 z5 st5 hQ5
  subst l5 y5 z5
  obtain ⟨rfl, Sp5, Nq5, eh5⟩ := hQ5
  have N6 := Fr.app N0 Nq5
  have K7 : ∀ t, Steps p.tables e below (T5.setTop (mkF m 4 #[.val (.ref ta), .val (.long ua), .second, .val (.long ub), .second] [])) t → Steps p.tables e below (s₁.setTop (entryFrame m #[(.ref ta), (.long ua), (.long ub)] 5)) t := fun t k => K4 t (st5.trans k)
  have q9 := rng64 ua
  have q10 := (by decide : (0 : Int64).toInt = 0)
  have q11 := c_lcmp ua (0 : Int64)
  have q12 := (by decide : (0 : Int32).toInt = 0)
  have hc8 : ¬ ((lcmpW ua (0 : Int64)) < (0 : Int32)) := by rw [Int32.lt_iff_toInt_lt]; omega
  have q13 : ¬ (lcmpW ua (0 : Int64)).toInt < (0 : Int32).toInt := fun q => hc8 (Int32.lt_iff_toInt_lt.mpr q)
  have q15 := rng64 ub
  have q16 := c_lcmp ub (0 : Int64)
  have hc14 : ¬ ((lcmpW ub (0 : Int64)) < (0 : Int32)) := by rw [Int32.lt_iff_toInt_lt]; omega
  have q17 : ¬ (lcmpW ub (0 : Int64)).toInt < (0 : Int32).toInt := fun q => hc14 (Int32.lt_iff_toInt_lt.mpr q)
  have K18 : ∀ t, Steps p.tables e below (T5.setTop (mkF m 33 #[.val (.ref ta), .val (.long ua), .second, .val (.long ub), .second] [(.long ua), (.ref ta)])) t → Steps p.tables e below (s₁.setTop (entryFrame m #[(.ref ta), (.long ua), (.long ub)] 5)) t := fun t k => K7 t (by
    show Steps p.tables e below (T5.setTop (mkF m 4 #[.val (.ref ta), .val (.long ua), .second, .val (.long ub), .second] [])) t
    refine XS.lloadN X5.here hx rfl (hb hby own_d1_4) rfl ?_
    show Steps p.tables e below (T5.setTop (mkF m 5 #[.val (.ref ta), .val (.long ua), .second, .val (.long ub), .second] [(.long ua)])) t
    refine XS.lconst X5.here hx rfl (hb hby own_d1_5) ?_
    show Steps p.tables e below (T5.setTop (mkF m 6 #[.val (.ref ta), .val (.long ua), .second, .val (.long ub), .second] [(.long (0 : Int64)), (.long ua)])) t
    refine XS.lcmp X5.here hx rfl (hb hby own_d1_6) rfl ?_
    show Steps p.tables e below (T5.setTop (mkF m 7 #[.val (.ref ta), .val (.long ua), .second, .val (.long ub), .second] [(.int (lcmpW ua (0 : Int64)))])) t
    refine XS.ifNo X5.here hx rfl (hb hby own_d1_7) rfl ((if0 _ _).trans (flt hc8).1) ?_
    show Steps p.tables e below (T5.setTop (mkF m 10 #[.val (.ref ta), .val (.long ua), .second, .val (.long ub), .second] [])) t
    refine XS.lloadN X5.here hx rfl (hb hby own_d1_10) rfl ?_
    show Steps p.tables e below (T5.setTop (mkF m 11 #[.val (.ref ta), .val (.long ua), .second, .val (.long ub), .second] [(.long ub)])) t
    refine XS.lconst X5.here hx rfl (hb hby own_d1_11) ?_
    show Steps p.tables e below (T5.setTop (mkF m 12 #[.val (.ref ta), .val (.long ua), .second, .val (.long ub), .second] [(.long (0 : Int64)), (.long ub)])) t
    refine XS.lcmp X5.here hx rfl (hb hby own_d1_12) rfl ?_
    show Steps p.tables e below (T5.setTop (mkF m 13 #[.val (.ref ta), .val (.long ua), .second, .val (.long ub), .second] [(.int (lcmpW ub (0 : Int64)))])) t
    refine XS.ifYes X5.here hx rfl (pc0 := 13) (pc' := 31) rfl (hb hby own_d1_13) rfl ((if0 _ _).trans (flt hc14).2.1) (by decide) (by decide) ?_
    show Steps p.tables e below (T5.setTop (mkF m 31 #[.val (.ref ta), .val (.long ua), .second, .val (.long ub), .second] [])) t
    refine XS.aloadN X5.here hx rfl (hb hby own_d1_31) rfl rfl ?_
    show Steps p.tables e below (T5.setTop (mkF m 32 #[.val (.ref ta), .val (.long ua), .second, .val (.long ub), .second] [(.ref ta)])) t
    refine XS.lloadN X5.here hx rfl (hb hby own_d1_32) rfl ?_
    exact k)
  obtain ⟨T19, h19, X19, e19, W19, st19⟩ := putF X5 hx hZ hown (host := "") (Or.inl (hw _ (List.mem_of_getElem? (i := 16) rfl))) Via.refl eh5 P_1 P_0 (Or.inr ⟨(hw _ (List.mem_of_getElem? (i := 17) rfl)), rfl, hnm⟩) (hw _ (List.mem_of_getElem? (i := 2) rfl)) (ty := .long) (by decide) rfl rfl (g := (mkF m 33 #[.val (.ref ta), .val (.long ua), .second, .val (.long ub), .second] [(.long ua), (.ref ta)])) rfl rfl (hb hby own_d1_33)
  have F20 := P_1.same W19
  have Kp21 : Keep h0 h19 [ta] := Keep.wr (Keep.refl h0 [ta]) W19 (Or.inl (List.mem_of_getElem? (i := 0) rfl))
  have Z22 : n0 ≤ h19.size := Nat.le_trans Z0 (Keep.of_wr W19).1
  have N23 := Fr.snoc X19 N6 P_3
  have F24 := P_0.wr W19
  have F25 := P_2.other W19 (Or.inr (slot_ne (Or.inr (hw _ (List.mem_of_getElem? (i := 19) rfl))) (Or.inr (hw _ (List.mem_of_getElem? (i := 17) rfl))) (by decide) (t := .long) (t' := .long) (by decide) (by decide)))
  have K26 : ∀ t, Steps p.tables e below (T19.setTop (mkF m 36 #[.val (.ref ta), .val (.long ua), .second, .val (.long ub), .second] [])) t → Steps p.tables e below (s₁.setTop (entryFrame m #[(.ref ta), (.long ua), (.long ub)] 5)) t := fun t k => K18 t (st19 _ k)
  have K27 : ∀ t, Steps p.tables e below (T19.setTop (mkF m 38 #[.val (.ref ta), .val (.long ua), .second, .val (.long ub), .second] [(.long ub), (.ref ta)])) t → Steps p.tables e below (s₁.setTop (entryFrame m #[(.ref ta), (.long ua), (.long ub)] 5)) t := fun t k => K26 t (by
    show Steps p.tables e below (T19.setTop (mkF m 36 #[.val (.ref ta), .val (.long ua), .second, .val (.long ub), .second] [])) t
    refine XS.aloadN X19.here hx rfl (hb hby own_d1_36) rfl rfl ?_
    show Steps p.tables e below (T19.setTop (mkF m 37 #[.val (.ref ta), .val (.long ua), .second, .val (.long ub), .second] [(.ref ta)])) t
    refine XS.lloadN X19.here hx rfl (hb hby own_d1_37) rfl ?_
    exact k)
  obtain ⟨T28, h28, X28, e28, W28, st28⟩ := putF X19 hx hZ hown (host := "") (Or.inl (hw _ (List.mem_of_getElem? (i := 18) rfl))) Via.refl e19 F25 F24 (Or.inr ⟨(hw _ (List.mem_of_getElem? (i := 19) rfl)), rfl, hnm⟩) (hw _ (List.mem_of_getElem? (i := 2) rfl)) (ty := .long) (by decide) rfl rfl (g := (mkF m 38 #[.val (.ref ta), .val (.long ua), .second, .val (.long ub), .second] [(.long ub), (.ref ta)])) rfl rfl (hb hby own_d1_38)
  have F29 := F25.same W28
  have Kp30 : Keep h0 h28 [ta] := Keep.wr Kp21 W28 (Or.inl (List.mem_of_getElem? (i := 0) rfl))
  have Z31 : n0 ≤ h28.size := Nat.le_trans Z22 (Keep.of_wr W28).1
  have N32 := Fr.snoc X28 N23 P_3
  have F33 := F24.wr W28
  have F34 := F20.other W28 (Or.inr (slot_ne (Or.inr (hw _ (List.mem_of_getElem? (i := 17) rfl))) (Or.inr (hw _ (List.mem_of_getElem? (i := 19) rfl))) (by decide) (t := .long) (t' := .long) (by decide) (by decide)))
  have K35 : ∀ t, Steps p.tables e below (T28.setTop (mkF m 41 #[.val (.ref ta), .val (.long ua), .second, .val (.long ub), .second] [])) t → Steps p.tables e below (s₁.setTop (entryFrame m #[(.ref ta), (.long ua), (.long ub)] 5)) t := fun t k => K27 t (st28 _ k)
  obtain ⟨fs, hr, hrun, hended, hW, hsame⟩ := X28.leave (v := none) (fun _ => rfl)
  refine ⟨_, _, K35 _ ?_, hrun, hended, _, _, rfl, ?_, ⟨_, rfl⟩, hW, hsame.mono (by decide) (by decide)⟩
  · exact X28.returnOut hx Bd.returns (hb hby own_d1_41) hr
  · show Q_rm1 Z ta ua ub h0 n0 _ T28.heap _
    rw [e28]
    exact ⟨rfl, (by trivial), N32, Kp30, F33⟩
theorem own_d4_0 : decode prog_34_method_1_code 0 = .ok (.aload_n 0, 1) := by decide +kernel
theorem own_d4_1 : decode prog_34_method_1_code 1 = .ok (.invokespecial 1, 3) := by decide +kernel
theorem own_d4_4 : decode prog_34_method_1_code 4 = .ok (.aload_n 0, 1) := by decide +kernel
theorem own_d4_5 : decode prog_34_method_1_code 5 = .ok (.aload_n 1, 1) := by decide +kernel
theorem own_d4_6 : decode prog_34_method_1_code 6 = .ok (.putfield 7, 3) := by decide +kernel
theorem own_d4_9 : decode prog_34_method_1_code 9 = .ok (.aload_n 0, 1) := by decide +kernel
theorem own_d4_10 : decode prog_34_method_1_code 10 = .ok (.aload_n 2, 1) := by decide +kernel
theorem own_d4_11 : decode prog_34_method_1_code 11 = .ok (.putfield 13, 3) := by decide +kernel
theorem own_d4_14 : decode prog_34_method_1_code 14 = .ok (.aload_n 0, 1) := by decide +kernel
theorem own_d4_15 : decode prog_34_method_1_code 15 = .ok (.aload_n 3, 1) := by decide +kernel
theorem own_d4_16 : decode prog_34_method_1_code 16 = .ok (.putfield 17, 3) := by decide +kernel
theorem own_d4_19 : decode prog_34_method_1_code 19 = .ok (.return_, 1) := by decide +kernel
theorem own_pn2 : plainName "com/example/cursorweave/cursorweave/store/Entry" = true := by first | (simp [plainName, overriddenIn]; done) | decide +kernel
def Q_rm4 (Z : State) (ta : Addr) (pa : Addr) (ma : Addr) (pb : Addr) (h0 : Heap) (n0 : Nat) (v : Option Value) (h : Heap) (L : List Loc) : Prop := v = none ∧ (True) ∧ Fr n0 L ∧ Keep h0 h [ta] ∧ Exa Z h ta "com/example/cursorweave/cursorweave/store/Entry" ∧ Fld Z h ta "com/example/cursorweave/cursorweave/store/Entry" "metadata" "[B" (.ref ma) ∧ Fld Z h ta "com/example/cursorweave/cursorweave/store/Entry" "payload" "[B" (.ref pb)
theorem own_ef_rm4 (m : MethodId) (ta : Addr) (pa : Addr) (ma : Addr) (pb : Addr) : entryFrame m #[(.ref ta), (.ref pa), (.ref ma), (.ref pb)] 4 = mkF m 0 #[.val (.ref ta), .val (.ref pa), .val (.ref ma), .val (.ref pb)] [] := by first | (simp [entryFrame, mkF, argsToLocals, Value.category]; done) | rfl
set_option maxRecDepth 65536 in
set_option maxHeartbeats 40000000 in
theorem rm4 (l : Launch) (Z : State) (a0 : Array Value) (hw : ∀ d ∈ tables_1, d.before a0 Z = true) (ws : List Jvm.Cond) (ta : Addr) (pa : Addr) (ma : Addr) (pb : Addr) (h0 : Heap) (n0 : Nat) (Z0 : n0 ≤ h0.size) (P_0 : Exa Z h0 ta "com/example/cursorweave/cursorweave/store/Entry") (P_1 : Fld Z h0 ta "com/example/cursorweave/cursorweave/store/Entry" "position" "Lcom/example/cursorweave/cursorweave/store/Position;" .null) (P_2 : Fld Z h0 ta "com/example/cursorweave/cursorweave/store/Entry" "metadata" "[B" .null) (P_3 : Fld Z h0 ta "com/example/cursorweave/cursorweave/store/Entry" "payload" "[B" .null) (P_4 : n0 ≤ ta) :
    MetFree l (⟨"com/example/cursorweave/cursorweave/store/Entry", "<init>", "(Lcom/example/cursorweave/cursorweave/store/Position;[B[B)V"⟩ : MethodName) (head1 (Jvm.Cond.code (⟨"com/example/cursorweave/cursorweave/store/Entry", "<init>", "(Lcom/example/cursorweave/cursorweave/store/Position;[B[B)V"⟩ : MethodName) prog_34_method_1_code 4 none :: ws) ({ frames := 2, cells := 0, slots := 0, locals := 24 } : Room)) (fun a U => a = #[(.ref ta), (.ref pa), (.ref ma), (.ref pb)] ∧ Z.Warmed39 U.vm ∧ U.heap = h0) (fun _ _ _ _ _ => True) (fun _ U o U' => ∃ v L, o = .returned v ∧ Q_rm4 Z ta pa ma pb h0 n0 v U'.heap L ∧ FrameEnd U o U' L ({ frames := 2, cells := 0, slots := 0, locals := 24 } : Room).cells ({ frames := 2, cells := 0, slots := 0, locals := 24 } : Room).slots) := by
  refine MetFree.of_bodySF (plainFor_of_name own_pn2) hisR ?_
  intro p e s m args below meth c s₁ Bd hml0 hP hK
  obtain ⟨rfl, hZ, hh⟩ := hP
  have hx := Bd.exec
  have hby := Bd.bytes
  have hml : c.maxLocals = 4 := hml0
  have hown : s.vm.findClass "com/example/cursorweave/cursorweave/store/Entry" = some m.cls := findClass_of_methodNamed Bd.named
  have hnm := (name_of_methodNamed Bd.named Bd.method).1
  have X0 : Stand p l e ({ frames := 2, cells := 0, slots := 0, locals := 24 } : Room) s m #[(.ref ta), (.ref pa), (.ref ma), (.ref pb)] below meth c s₁ [] 0 0 := Stand.of_body Bd
  have e0 : s₁.heap = h0 := by rw [← hh, Bd.state]; rfl
  have N0 := Fr.nil n0
  have pre0 : ∀ t, Steps p.tables e below (s₁.setTop (mkF m 0 #[.val (.ref ta), .val (.ref pa), .val (.ref ma), .val (.ref pb)] [])) t → Steps p.tables e below (s₁.setTop (entryFrame m #[(.ref ta), (.ref pa), (.ref ma), (.ref pb)] 4)) t := fun t k => castTop (own_ef_rm4 m ta pa ma pb) k
  have K36 : ∀ t, Steps p.tables e below (s₁.setTop (mkF m 1 #[.val (.ref ta), .val (.ref pa), .val (.ref ma), .val (.ref pb)] [(.ref ta)])) t → Steps p.tables e below (s₁.setTop (entryFrame m #[(.ref ta), (.ref pa), (.ref ma), (.ref pb)] 4)) t := fun t k => pre0 t (by
    show Steps p.tables e below (s₁.setTop (mkF m 0 #[.val (.ref ta), .val (.ref pa), .val (.ref ma), .val (.ref pb)] [])) t
    refine XS.aloadN X0.here hx rfl (hb hby own_d4_0) rfl rfl ?_
    exact k)
  obtain ⟨_, _, ⟨T37, L37, kk37, nn37⟩, -, X37, ⟨Lc37, hQ37, l37, y37, z37⟩, st37⟩ := X0.specialBack hx (y := (⟨"java/lang/Record", "<init>", "()V"⟩ : MethodName)) rfl hown (mvT hZ (hw _ (List.mem_of_getElem? (i := 26) rfl))) (mvT hZ (hw _ (List.mem_of_getElem? (i := 9) rfl))) (mvT hZ (hw _ (List.mem_of_getElem? (i := 12) rfl))) (by decide) (backOf (W := 0) (rm2 l Z a0 hw [] ta h0 n0 Z0) hZ (hw _ (List.mem_of_getElem? (i := 12) rfl)) (hw _ (List.mem_of_getElem? (i := 11) rfl)) (by decide) (by decide)) (g := (mkF m 1 #[.val (.ref ta), .val (.ref pa), .val (.ref ma), .val (.ref pb)] [(.ref ta)])) rfl (by rw [hml]; rfl) (Steps.refl _) (a := ta) (argsL := []) (rest := []) (lenOf own_pd0 rfl) rfl (by show 2 * 0 + _ ≤ _; exact Nat.le_of_eq rfl) (hb hby own_d4_1) (fun _ _ => ⟨rfl, e0, (by decide : 0 + 0 ≤ _), (by decide : 0 + 0 ≤ _)⟩)
  dsimp only [Pt.U, Pt.locs, Pt.cells, Pt.slots] at X37 l37 y37 z37 st37 hQ37
  subst l37 y37 z37
  obtain ⟨rfl, Sp37, Nq37, eh37⟩ := hQ37
  have N38 := Fr.app N0 Nq37
  have K39 : ∀ t, Steps p.tables e below (T37.setTop (mkF m 4 #[.val (.ref ta), .val (.ref pa), .val (.ref ma), .val (.ref pb)] [])) t → Steps p.tables e below (s₁.setTop (entryFrame m #[(.ref ta), (.ref pa), (.ref ma), (.ref pb)] 4)) t := fun t k => K36 t (st37.trans k)
  have K40 : ∀ t, Steps p.tables e below (T37.setTop (mkF m 6 #[.val (.ref ta), .val (.ref pa), .val (.ref ma), .val (.ref pb)] [(.ref pa), (.ref ta)])) t → Steps p.tables e below (s₁.setTop (entryFrame m #[(.ref ta), (.ref pa), (.ref ma), (.ref pb)] 4)) t := fun t k => K39 t (by
    show Steps p.tables e below (T37.setTop (mkF m 4 #[.val (.ref ta), .val (.ref pa), .val (.ref ma), .val (.ref pb)] [])) t
    refine XS.aloadN X37.here hx rfl (hb hby own_d4_4) rfl rfl ?_
    show Steps p.tables e below (T37.setTop (mkF m 5 #[.val (.ref ta), .val (.ref pa), .val (.ref ma), .val (.ref pb)] [(.ref ta)])) t
    refine XS.aloadN X37.here hx rfl (hb hby own_d4_5) rfl rfl ?_
    exact k)
  obtain ⟨T41, h41, X41, e41, W41, st41⟩ := putF X37 hx hZ hown (host := "") (Or.inl (hw _ (List.mem_of_getElem? (i := 27) rfl))) Via.refl eh37 P_1 P_0 (Or.inr ⟨(hw _ (List.mem_of_getElem? (i := 28) rfl)), rfl, hnm⟩) (hw _ (List.mem_of_getElem? (i := 21) rfl)) (ty := (.object "com/example/cursorweave/cursorweave/store/Position")) (by decide) rfl rfl (g := (mkF m 6 #[.val (.ref ta), .val (.ref pa), .val (.ref ma), .val (.ref pb)] [(.ref pa), (.ref ta)])) rfl rfl (hb hby own_d4_6)
  have F42 := P_1.same W41
  have Kp43 : Keep h0 h41 [ta] := Keep.wr (Keep.refl h0 [ta]) W41 (Or.inl (List.mem_of_getElem? (i := 0) rfl))
  have Z44 : n0 ≤ h41.size := Nat.le_trans Z0 (Keep.of_wr W41).1
  have N45 := Fr.snoc X41 N38 P_4
  have F46 := P_0.wr W41
  have F47 := P_2.other W41 (Or.inr (slot_ne (Or.inr (hw _ (List.mem_of_getElem? (i := 30) rfl))) (Or.inr (hw _ (List.mem_of_getElem? (i := 28) rfl))) (by decide) (t := (.array .byte)) (t' := (.object "com/example/cursorweave/cursorweave/store/Position")) (by decide) (by decide)))
  have F48 := P_3.other W41 (Or.inr (slot_ne (Or.inr (hw _ (List.mem_of_getElem? (i := 32) rfl))) (Or.inr (hw _ (List.mem_of_getElem? (i := 28) rfl))) (by decide) (t := (.array .byte)) (t' := (.object "com/example/cursorweave/cursorweave/store/Position")) (by decide) (by decide)))
  have K49 : ∀ t, Steps p.tables e below (T41.setTop (mkF m 9 #[.val (.ref ta), .val (.ref pa), .val (.ref ma), .val (.ref pb)] [])) t → Steps p.tables e below (s₁.setTop (entryFrame m #[(.ref ta), (.ref pa), (.ref ma), (.ref pb)] 4)) t := fun t k => K40 t (st41 _ k)
  have K50 : ∀ t, Steps p.tables e below (T41.setTop (mkF m 11 #[.val (.ref ta), .val (.ref pa), .val (.ref ma), .val (.ref pb)] [(.ref ma), (.ref ta)])) t → Steps p.tables e below (s₁.setTop (entryFrame m #[(.ref ta), (.ref pa), (.ref ma), (.ref pb)] 4)) t := fun t k => K49 t (by
    show Steps p.tables e below (T41.setTop (mkF m 9 #[.val (.ref ta), .val (.ref pa), .val (.ref ma), .val (.ref pb)] [])) t
    refine XS.aloadN X41.here hx rfl (hb hby own_d4_9) rfl rfl ?_
    show Steps p.tables e below (T41.setTop (mkF m 10 #[.val (.ref ta), .val (.ref pa), .val (.ref ma), .val (.ref pb)] [(.ref ta)])) t
    refine XS.aloadN X41.here hx rfl (hb hby own_d4_10) rfl rfl ?_
    exact k)
  obtain ⟨T51, h51, X51, e51, W51, st51⟩ := putF X41 hx hZ hown (host := "") (Or.inl (hw _ (List.mem_of_getElem? (i := 29) rfl))) Via.refl e41 F47 F46 (Or.inr ⟨(hw _ (List.mem_of_getElem? (i := 30) rfl)), rfl, hnm⟩) (hw _ (List.mem_of_getElem? (i := 21) rfl)) (ty := (.array .byte)) (by decide) rfl rfl (g := (mkF m 11 #[.val (.ref ta), .val (.ref pa), .val (.ref ma), .val (.ref pb)] [(.ref ma), (.ref ta)])) rfl rfl (hb hby own_d4_11)
  have F52 := F47.same W51
  have Kp53 : Keep h0 h51 [ta] := Keep.wr Kp43 W51 (Or.inl (List.mem_of_getElem? (i := 0) rfl))
  have Z54 : n0 ≤ h51.size := Nat.le_trans Z44 (Keep.of_wr W51).1
  have N55 := Fr.snoc X51 N45 P_4
  have F56 := F46.wr W51
  have F57 := F48.other W51 (Or.inr (slot_ne (Or.inr (hw _ (List.mem_of_getElem? (i := 32) rfl))) (Or.inr (hw _ (List.mem_of_getElem? (i := 30) rfl))) (by decide) (t := (.array .byte)) (t' := (.array .byte)) (by decide) (by decide)))
  have F58 := F42.other W51 (Or.inr (slot_ne (Or.inr (hw _ (List.mem_of_getElem? (i := 28) rfl))) (Or.inr (hw _ (List.mem_of_getElem? (i := 30) rfl))) (by decide) (t := (.object "com/example/cursorweave/cursorweave/store/Position")) (t' := (.array .byte)) (by decide) (by decide)))
  have K59 : ∀ t, Steps p.tables e below (T51.setTop (mkF m 14 #[.val (.ref ta), .val (.ref pa), .val (.ref ma), .val (.ref pb)] [])) t → Steps p.tables e below (s₁.setTop (entryFrame m #[(.ref ta), (.ref pa), (.ref ma), (.ref pb)] 4)) t := fun t k => K50 t (st51 _ k)
  have K60 : ∀ t, Steps p.tables e below (T51.setTop (mkF m 16 #[.val (.ref ta), .val (.ref pa), .val (.ref ma), .val (.ref pb)] [(.ref pb), (.ref ta)])) t → Steps p.tables e below (s₁.setTop (entryFrame m #[(.ref ta), (.ref pa), (.ref ma), (.ref pb)] 4)) t := fun t k => K59 t (by
    show Steps p.tables e below (T51.setTop (mkF m 14 #[.val (.ref ta), .val (.ref pa), .val (.ref ma), .val (.ref pb)] [])) t
    refine XS.aloadN X51.here hx rfl (hb hby own_d4_14) rfl rfl ?_
    show Steps p.tables e below (T51.setTop (mkF m 15 #[.val (.ref ta), .val (.ref pa), .val (.ref ma), .val (.ref pb)] [(.ref ta)])) t
    refine XS.aloadN X51.here hx rfl (hb hby own_d4_15) rfl rfl ?_
    exact k)
  obtain ⟨T61, h61, X61, e61, W61, st61⟩ := putF X51 hx hZ hown (host := "") (Or.inl (hw _ (List.mem_of_getElem? (i := 31) rfl))) Via.refl e51 F57 F56 (Or.inr ⟨(hw _ (List.mem_of_getElem? (i := 32) rfl)), rfl, hnm⟩) (hw _ (List.mem_of_getElem? (i := 21) rfl)) (ty := (.array .byte)) (by decide) rfl rfl (g := (mkF m 16 #[.val (.ref ta), .val (.ref pa), .val (.ref ma), .val (.ref pb)] [(.ref pb), (.ref ta)])) rfl rfl (hb hby own_d4_16)
  have F62 := F57.same W61
  have Kp63 : Keep h0 h61 [ta] := Keep.wr Kp53 W61 (Or.inl (List.mem_of_getElem? (i := 0) rfl))
  have Z64 : n0 ≤ h61.size := Nat.le_trans Z54 (Keep.of_wr W61).1
  have N65 := Fr.snoc X61 N55 P_4
  have F66 := F56.wr W61
  have F67 := F58.other W61 (Or.inr (slot_ne (Or.inr (hw _ (List.mem_of_getElem? (i := 28) rfl))) (Or.inr (hw _ (List.mem_of_getElem? (i := 32) rfl))) (by decide) (t := (.object "com/example/cursorweave/cursorweave/store/Position")) (t' := (.array .byte)) (by decide) (by decide)))
  have F68 := F52.other W61 (Or.inr (slot_ne (Or.inr (hw _ (List.mem_of_getElem? (i := 30) rfl))) (Or.inr (hw _ (List.mem_of_getElem? (i := 32) rfl))) (by decide) (t := (.array .byte)) (t' := (.array .byte)) (by decide) (by decide)))
  have K69 : ∀ t, Steps p.tables e below (T61.setTop (mkF m 19 #[.val (.ref ta), .val (.ref pa), .val (.ref ma), .val (.ref pb)] [])) t → Steps p.tables e below (s₁.setTop (entryFrame m #[(.ref ta), (.ref pa), (.ref ma), (.ref pb)] 4)) t := fun t k => K60 t (st61 _ k)
  obtain ⟨fs, hr, hrun, hended, hW, hsame⟩ := X61.leave (v := none) (fun _ => rfl)
  refine ⟨_, _, K69 _ ?_, hrun, hended, _, _, rfl, ?_, ⟨_, rfl⟩, hW, hsame.mono (by decide) (by decide)⟩
  · exact X61.returnOut hx Bd.returns (hb hby own_d4_19) hr
  · show Q_rm4 Z ta pa ma pb h0 n0 _ T61.heap _
    rw [e61]
    exact ⟨rfl, (by trivial), N65, Kp63, F66, F68, F62⟩
theorem own_d5_0 : decode prog_34_method_2_code 0 = .ok (.aload_n 0, 1) := by decide +kernel
theorem own_d5_1 : decode prog_34_method_2_code 1 = .ok (.getfield 13, 3) := by decide +kernel
theorem own_d5_4 : decode prog_34_method_2_code 4 = .ok (.arraylength, 1) := by decide +kernel
theorem own_d5_5 : decode prog_34_method_2_code 5 = .ok (.i2l, 1) := by decide +kernel
theorem own_d5_6 : decode prog_34_method_2_code 6 = .ok (.aload_n 0, 1) := by decide +kernel
theorem own_d5_7 : decode prog_34_method_2_code 7 = .ok (.getfield 17, 3) := by decide +kernel
theorem own_d5_10 : decode prog_34_method_2_code 10 = .ok (.arraylength, 1) := by decide +kernel
theorem own_d5_11 : decode prog_34_method_2_code 11 = .ok (.i2l, 1) := by decide +kernel
theorem own_d5_12 : decode prog_34_method_2_code 12 = .ok (.ladd, 1) := by decide +kernel
theorem own_d5_13 : decode prog_34_method_2_code 13 = .ok (.lreturn, 1) := by decide +kernel
def Q_rm5 (Z : State) (ta : Addr) (ma : Addr) (pb : Addr) (za : Int32) (zb : Int32) (h0 : Heap) (n0 : Nat) (v : Option Value) (h : Heap) (L : List Loc) : Prop := ∃ (r : Int64), v = some (.long r) ∧ (r.toInt = za.toInt + zb.toInt) ∧ Fr n0 L ∧ h = h0
theorem own_ef_rm5 (m : MethodId) (ta : Addr) : entryFrame m #[(.ref ta)] 1 = mkF m 0 #[.val (.ref ta)] [] := by first | (simp [entryFrame, mkF, argsToLocals, Value.category]; done) | rfl
set_option maxRecDepth 65536 in
set_option maxHeartbeats 40000000 in
theorem rm5 (l : Launch) (Z : State) (a0 : Array Value) (hw : ∀ d ∈ tables_1, d.before a0 Z = true) (ws : List Jvm.Cond) (ta : Addr) (ma : Addr) (pb : Addr) (za : Int32) (zb : Int32) (h0 : Heap) (n0 : Nat) (Z0 : n0 ≤ h0.size) (P_0 : Fld Z h0 ta "com/example/cursorweave/cursorweave/store/Entry" "metadata" "[B" (.ref ma)) (P_1 : Fld Z h0 ta "com/example/cursorweave/cursorweave/store/Entry" "payload" "[B" (.ref pb)) (P_2 : own_Arl Z h0 ma .byte za) (P_3 : own_Arl Z h0 pb .byte zb) :
    MetFree l (⟨"com/example/cursorweave/cursorweave/store/Entry", "size", "()J"⟩ : MethodName) (head1 (Jvm.Cond.code (⟨"com/example/cursorweave/cursorweave/store/Entry", "size", "()J"⟩ : MethodName) prog_34_method_2_code 1 (some .long) :: ws) ({ frames := 0, cells := 0, slots := 0, locals := 0 } : Room)) (fun a U => a = #[(.ref ta)] ∧ Z.Warmed39 U.vm ∧ U.heap = h0) (fun _ _ _ _ _ => True) (fun _ U o U' => ∃ v L, o = .returned v ∧ Q_rm5 Z ta ma pb za zb h0 n0 v U'.heap L ∧ FrameEnd U o U' L ({ frames := 0, cells := 0, slots := 0, locals := 0 } : Room).cells ({ frames := 0, cells := 0, slots := 0, locals := 0 } : Room).slots) := by
  refine MetFree.of_bodySF (plainFor_of_name own_pn2) hisR ?_
  intro p e s m args below meth c s₁ Bd hml0 hP hK
  obtain ⟨rfl, hZ, hh⟩ := hP
  have hx := Bd.exec
  have hby := Bd.bytes
  have hml : c.maxLocals = 1 := hml0
  have hown : s.vm.findClass "com/example/cursorweave/cursorweave/store/Entry" = some m.cls := findClass_of_methodNamed Bd.named
  have hnm := (name_of_methodNamed Bd.named Bd.method).1
  have X0 : Stand p l e ({ frames := 0, cells := 0, slots := 0, locals := 0 } : Room) s m #[(.ref ta)] below meth c s₁ [] 0 0 := Stand.of_body Bd
  have e0 : s₁.heap = h0 := by rw [← hh, Bd.state]; rfl
  have N0 := Fr.nil n0
  have pre0 : ∀ t, Steps p.tables e below (s₁.setTop (mkF m 0 #[.val (.ref ta)] [])) t → Steps p.tables e below (s₁.setTop (entryFrame m #[(.ref ta)] 1)) t := fun t k => castTop (own_ef_rm5 m ta) k
  have K70 : ∀ t, Steps p.tables e below (s₁.setTop (mkF m 1 #[.val (.ref ta)] [(.ref ta)])) t → Steps p.tables e below (s₁.setTop (entryFrame m #[(.ref ta)] 1)) t := fun t k => pre0 t (by
    show Steps p.tables e below (s₁.setTop (mkF m 0 #[.val (.ref ta)] [])) t
    refine XS.aloadN X0.here hx rfl (hb hby own_d5_0) rfl rfl ?_
    exact k)
  obtain ⟨T71, X71, e71, st71⟩ := getF X0 hx hZ hown (host := "") (Or.inl (hw _ (List.mem_of_getElem? (i := 29) rfl))) Via.refl e0 P_0 (g := (mkF m 1 #[.val (.ref ta)] [(.ref ta)])) rfl rfl (hb hby own_d5_1)
  have K72 : ∀ t, Steps p.tables e below (T71.setTop (mkF m 4 #[.val (.ref ta)] [(.ref ma)])) t → Steps p.tables e below (s₁.setTop (entryFrame m #[(.ref ta)] 1)) t := fun t k => K70 t (st71 _ k)
  obtain ⟨cl73, Ar73, S73, N73⟩ := P_2
  have K74 : ∀ t, Steps p.tables e below (T71.setTop (mkF m 7 #[.val (.ref ta)] [(.ref ta), (.long (za.toInt64))])) t → Steps p.tables e below (s₁.setTop (entryFrame m #[(.ref ta)] 1)) t := fun t k => K72 t (by
    show Steps p.tables e below (T71.setTop (mkF m 4 #[.val (.ref ta)] [(.ref ma)])) t
    refine X71.arraylength hx (by rw [e71]; exact Ar73.1) (State.isArrayOf_alike hZ.alike Ar73.2.1) (g := (mkF m 4 #[.val (.ref ta)] [(.ref ma)])) rfl rfl (hb hby own_d5_4) _ ?_
    rw [len_of S73 N73]
    show Steps p.tables e below (T71.setTop (mkF m 5 #[.val (.ref ta)] [(.int za)])) t
    refine XS.i2l X71.here hx rfl (hb hby own_d5_5) rfl ?_
    show Steps p.tables e below (T71.setTop (mkF m 6 #[.val (.ref ta)] [(.long (za.toInt64))])) t
    refine XS.aloadN X71.here hx rfl (hb hby own_d5_6) rfl rfl ?_
    exact k)
  obtain ⟨T75, X75, e75, st75⟩ := getF X71 hx hZ hown (host := "") (Or.inl (hw _ (List.mem_of_getElem? (i := 31) rfl))) Via.refl e71 P_1 (g := (mkF m 7 #[.val (.ref ta)] [(.ref ta), (.long (za.toInt64))])) rfl rfl (hb hby own_d5_7)
  have K76 : ∀ t, Steps p.tables e below (T75.setTop (mkF m 10 #[.val (.ref ta)] [(.ref pb), (.long (za.toInt64))])) t → Steps p.tables e below (s₁.setTop (entryFrame m #[(.ref ta)] 1)) t := fun t k => K74 t (st75 _ k)
  obtain ⟨cl77, Ar77, S77, N77⟩ := P_3
  have K78 : ∀ t, Steps p.tables e below (T75.setTop (mkF m 13 #[.val (.ref ta)] [(.long ((za.toInt64) + (zb.toInt64)))])) t → Steps p.tables e below (s₁.setTop (entryFrame m #[(.ref ta)] 1)) t := fun t k => K76 t (by
    show Steps p.tables e below (T75.setTop (mkF m 10 #[.val (.ref ta)] [(.ref pb), (.long (za.toInt64))])) t
    refine X75.arraylength hx (by rw [e75]; exact Ar77.1) (State.isArrayOf_alike hZ.alike Ar77.2.1) (g := (mkF m 10 #[.val (.ref ta)] [(.ref pb), (.long (za.toInt64))])) rfl rfl (hb hby own_d5_10) _ ?_
    rw [len_of S77 N77]
    show Steps p.tables e below (T75.setTop (mkF m 11 #[.val (.ref ta)] [(.int zb), (.long (za.toInt64))])) t
    refine XS.i2l X75.here hx rfl (hb hby own_d5_11) rfl ?_
    show Steps p.tables e below (T75.setTop (mkF m 12 #[.val (.ref ta)] [(.long (zb.toInt64)), (.long (za.toInt64))])) t
    refine XS.ladd X75.here hx rfl (hb hby own_d5_12) rfl ?_
    exact k)
  obtain ⟨fs, hr, hrun, hended, hW, hsame⟩ := X75.leave (v := some (.long ((za.toInt64) + (zb.toInt64)))) (fun h => by rw [Bd.returns] at h; cases h)
  refine ⟨_, _, K78 _ ?_, hrun, hended, _, _, rfl, ?_, ⟨_, rfl⟩, hW, hsame.mono (by decide) (by decide)⟩
  · jvm_step X75.here [X75.here.top, hx, (hb hby own_d5_13), X75.method', Bd.returns, narrow]
    first | (intro acts; rw [hr _ acts rfl rfl rfl]) | rw [hr _ _ rfl rfl rfl]
    exact Steps.refl _
  · show Q_rm5 Z ta ma pb za zb h0 n0 _ T75.heap _
    have q79 := rng32 za
    have q80 := c_i2l za
    have q81 := rng64 (za.toInt64)
    have q82 := rng32 zb
    have q83 := c_i2l zb
    have q84 := rng64 (zb.toInt64)
    have q85 := c_ladd (za.toInt64) (zb.toInt64)
    have q86 := rng64 ((za.toInt64) + (zb.toInt64))
    rw [e75]
    exact ⟨((za.toInt64) + (zb.toInt64)), rfl, (by omega), N0, rfl⟩
theorem own_pn3 : plainName "com/example/cursorweave/cursorweave/store/EntrySizePinLaw" = true := by first | (simp [plainName, overriddenIn]; done) | decide +kernel
theorem own_pd1 : parseMethodDescriptor "(JJ)V" = some ⟨[.long, .long], none⟩ := by decide +kernel
theorem own_pd2 : parseMethodDescriptor "(Lcom/example/cursorweave/cursorweave/store/Position;[B[B)V" = some ⟨[(.object "com/example/cursorweave/cursorweave/store/Position"), (.array .byte), (.array .byte)], none⟩ := by decide +kernel
theorem own_pd3 : parseMethodDescriptor "()J" = some ⟨[], some .long⟩ := by decide +kernel
def Q_rm0 (Z : State) (x0 : Int32) (x1 : Int32) (x2 : Int64) (x3 : Int64) (x4 : Int32) (h0 : Heap) (n0 : Nat) (v : Option Value) (h : Heap) (L : List Loc) : Prop := v = some (.int (1 : Int32)) ∧ (True) ∧ Fr n0 L ∧ Keep h0 h []
theorem own_ef_rm0 (m : MethodId) (x0 : Int32) (x1 : Int32) (x2 : Int64) (x3 : Int64) (x4 : Int32) : entryFrame m #[(.int x0), (.int x1), (.long x2), (.long x3), (.int x4)] maxLocals = mkF m 0 #[.val (.int x0), .val (.int x1), .val (.long x2), .second, .val (.long x3), .second, .val (.int x4), .unset, .unset, .unset, .unset, .unset, .unset, .unset, .unset] [] := by first | (simp [entryFrame, mkF, argsToLocals, Value.category, maxLocals]; done) | rfl
set_option maxRecDepth 65536 in
set_option maxHeartbeats 40000000 in
theorem rm0 (l : Launch) (Z : State) (a0 : Array Value) (hw : ∀ d ∈ tables_1, d.before a0 Z = true) (ws : List Jvm.Cond) (x0 : Int32) (x1 : Int32) (x2 : Int64) (x3 : Int64) (x4 : Int32) (h0 : Heap) (n0 : Nat) (Z0 : n0 ≤ h0.size) :
    MetFree l x (head1 (Jvm.Cond.code x code maxLocals ret :: ws) room_1) (fun a U => a = #[(.int x0), (.int x1), (.long x2), (.long x3), (.int x4)] ∧ Z.Warmed39 U.vm ∧ U.heap = h0) (fun _ _ _ _ _ => True) (fun _ U o U' => ∃ v L, o = .returned v ∧ Q_rm0 Z x0 x1 x2 x3 x4 h0 n0 v U'.heap L ∧ FrameEnd U o U' L room_1.cells room_1.slots) := by
  refine MetFree.of_bodySF (plainFor_of_name own_pn3) hisR ?_
  intro p e s m args below meth c s₁ Bd hml0 hP hK
  obtain ⟨rfl, hZ, hh⟩ := hP
  have hx := Bd.exec
  have hby := Bd.bytes
  have hml : c.maxLocals = 15 := hml0
  have hown : s.vm.findClass "com/example/cursorweave/cursorweave/store/EntrySizePinLaw" = some m.cls := findClass_of_methodNamed Bd.named
  have hnm := (name_of_methodNamed Bd.named Bd.method).1
  have X0 : Stand p l e room_1 s m #[(.int x0), (.int x1), (.long x2), (.long x3), (.int x4)] below meth c s₁ [] 0 0 := Stand.of_body Bd
  have e0 : s₁.heap = h0 := by rw [← hh, Bd.state]; rfl
  have N0 := Fr.nil n0
  have pre0 : ∀ t, Steps p.tables e below (s₁.setTop (mkF m 0 #[.val (.int x0), .val (.int x1), .val (.long x2), .second, .val (.long x3), .second, .val (.int x4), .unset, .unset, .unset, .unset, .unset, .unset, .unset, .unset] [])) t → Steps p.tables e below (s₁.setTop (entryFrame m #[(.int x0), (.int x1), (.long x2), (.long x3), (.int x4)] maxLocals)) t := fun t k => castTop (own_ef_rm0 m x0 x1 x2 x3 x4) k
  have q87 := rng32 x0
  have q88 := (by decide : (63 : Int32).toInt = 63)
  have q89 := (show (x0 &&& (63 : Int32)).toInt = x0.toInt % 64 from c_mask x0 (63 : Int32) 6 (by decide) (by decide))
  have q90 := rng32 (x0 &&& (63 : Int32))
  have q91 : ¬ (x0 &&& (63 : Int32)) < 0 := by rw [Int32.lt_iff_toInt_lt]; have q0 : (0 : Int32).toInt = 0 := rfl; omega
  have q92 : (x0 &&& (63 : Int32)).toNatClampNeg ≤ 63 := by have q0 := nat_of q91; omega
  have K93 : ∀ t, Steps p.tables e below (s₁.setTop (mkF m 14 #[.val (.int x0), .val (.int x1), .val (.long x2), .second, .val (.long x3), .second, .val (.int x4), .val (.int (x0 &&& (63 : Int32))), .val (.int (x1 &&& (63 : Int32))), .unset, .unset, .unset, .unset, .unset, .unset] [(.int (x0 &&& (63 : Int32)))])) t → Steps p.tables e below (s₁.setTop (entryFrame m #[(.int x0), (.int x1), (.long x2), (.long x3), (.int x4)] maxLocals)) t := fun t k => pre0 t (by
    show Steps p.tables e below (s₁.setTop (mkF m 0 #[.val (.int x0), .val (.int x1), .val (.long x2), .second, .val (.long x3), .second, .val (.int x4), .unset, .unset, .unset, .unset, .unset, .unset, .unset, .unset] [])) t
    refine XS.iloadN X0.here hx rfl (hb hby at_0) rfl ?_
    show Steps p.tables e below (s₁.setTop (mkF m 1 #[.val (.int x0), .val (.int x1), .val (.long x2), .second, .val (.long x3), .second, .val (.int x4), .unset, .unset, .unset, .unset, .unset, .unset, .unset, .unset] [(.int x0)])) t
    refine XS.bipush X0.here hx rfl (hb hby at_1) ?_
    show Steps p.tables e below (s₁.setTop (mkF m 3 #[.val (.int x0), .val (.int x1), .val (.long x2), .second, .val (.long x3), .second, .val (.int x4), .unset, .unset, .unset, .unset, .unset, .unset, .unset, .unset] [(.int (63 : Int32)), (.int x0)])) t
    refine XS.iand X0.here hx rfl (hb hby at_3) rfl ?_
    show Steps p.tables e below (s₁.setTop (mkF m 4 #[.val (.int x0), .val (.int x1), .val (.long x2), .second, .val (.long x3), .second, .val (.int x4), .unset, .unset, .unset, .unset, .unset, .unset, .unset, .unset] [(.int (x0 &&& (63 : Int32)))])) t
    refine XS.istore X0.here hx rfl (hb hby at_4) rfl (l' := #[.val (.int x0), .val (.int x1), .val (.long x2), .second, .val (.long x3), .second, .val (.int x4), .val (.int (x0 &&& (63 : Int32))), .unset, .unset, .unset, .unset, .unset, .unset, .unset]) rfl ?_
    show Steps p.tables e below (s₁.setTop (mkF m 6 #[.val (.int x0), .val (.int x1), .val (.long x2), .second, .val (.long x3), .second, .val (.int x4), .val (.int (x0 &&& (63 : Int32))), .unset, .unset, .unset, .unset, .unset, .unset, .unset] [])) t
    refine XS.iloadN X0.here hx rfl (hb hby at_6) rfl ?_
    show Steps p.tables e below (s₁.setTop (mkF m 7 #[.val (.int x0), .val (.int x1), .val (.long x2), .second, .val (.long x3), .second, .val (.int x4), .val (.int (x0 &&& (63 : Int32))), .unset, .unset, .unset, .unset, .unset, .unset, .unset] [(.int x1)])) t
    refine XS.bipush X0.here hx rfl (hb hby at_7) ?_
    show Steps p.tables e below (s₁.setTop (mkF m 9 #[.val (.int x0), .val (.int x1), .val (.long x2), .second, .val (.long x3), .second, .val (.int x4), .val (.int (x0 &&& (63 : Int32))), .unset, .unset, .unset, .unset, .unset, .unset, .unset] [(.int (63 : Int32)), (.int x1)])) t
    refine XS.iand X0.here hx rfl (hb hby at_9) rfl ?_
    show Steps p.tables e below (s₁.setTop (mkF m 10 #[.val (.int x0), .val (.int x1), .val (.long x2), .second, .val (.long x3), .second, .val (.int x4), .val (.int (x0 &&& (63 : Int32))), .unset, .unset, .unset, .unset, .unset, .unset, .unset] [(.int (x1 &&& (63 : Int32)))])) t
    refine XS.istore X0.here hx rfl (hb hby at_10) rfl (l' := #[.val (.int x0), .val (.int x1), .val (.long x2), .second, .val (.long x3), .second, .val (.int x4), .val (.int (x0 &&& (63 : Int32))), .val (.int (x1 &&& (63 : Int32))), .unset, .unset, .unset, .unset, .unset, .unset]) rfl ?_
    show Steps p.tables e below (s₁.setTop (mkF m 12 #[.val (.int x0), .val (.int x1), .val (.long x2), .second, .val (.long x3), .second, .val (.int x4), .val (.int (x0 &&& (63 : Int32))), .val (.int (x1 &&& (63 : Int32))), .unset, .unset, .unset, .unset, .unset, .unset] [])) t
    refine XS.iload X0.here hx rfl (hb hby at_12) rfl ?_
    exact k)
  obtain ⟨T94, h94, k94, X94, e94, E94, A94, st94⟩ := newP X0 hx hZ (hw _ (List.mem_of_getElem? (i := 0) rfl)) e0 (g := (mkF m 14 #[.val (.int x0), .val (.int x1), .val (.long x2), .second, .val (.long x3), .second, .val (.int x4), .val (.int (x0 &&& (63 : Int32))), .val (.int (x1 &&& (63 : Int32))), .unset, .unset, .unset, .unset, .unset, .unset] [(.int (x0 &&& (63 : Int32)))])) rfl (hb hby at_14) rfl q91 (cap := 63) q92 (by decide) (by decide) (by decide)
  obtain ⟨b94, g94⟩ : ∃ z, z = h0.size := ⟨_, rfl⟩
  rw [← g94] at A94 st94
  have gb95 : n0 ≤ b94 := Nat.le_trans Z0 (Nat.le_of_eq g94.symm)
  have sb96 : h0.size ≤ b94 := Nat.le_trans (Keep.refl h0 []).1 (Nat.le_of_eq g94.symm)
  have Z97 : n0 ≤ h94.size := Nat.le_trans Z0 E94.1
  have Kp98 : Keep h0 h94 [] := Keep.ext (Keep.refl h0 []) E94
  have V99 : own_Arl Z h94 b94 .byte (x0 &&& (63 : Int32)) := own_Arl.new A94 q91
  have K100 : ∀ t, Steps p.tables e below (T94.setTop (mkF m 16 #[.val (.int x0), .val (.int x1), .val (.long x2), .second, .val (.long x3), .second, .val (.int x4), .val (.int (x0 &&& (63 : Int32))), .val (.int (x1 &&& (63 : Int32))), .unset, .unset, .unset, .unset, .unset, .unset] [(.ref b94)])) t → Steps p.tables e below (s₁.setTop (entryFrame m #[(.int x0), (.int x1), (.long x2), (.long x3), (.int x4)] maxLocals)) t := fun t k => K93 t (st94 _ k)
  have q101 := rng32 x1
  have q102 := (show (x1 &&& (63 : Int32)).toInt = x1.toInt % 64 from c_mask x1 (63 : Int32) 6 (by decide) (by decide))
  have q103 := rng32 (x1 &&& (63 : Int32))
  have q104 : ¬ (x1 &&& (63 : Int32)) < 0 := by rw [Int32.lt_iff_toInt_lt]; have q0 : (0 : Int32).toInt = 0 := rfl; omega
  have q105 : (x1 &&& (63 : Int32)).toNatClampNeg ≤ 63 := by have q0 := nat_of q104; omega
  have K106 : ∀ t, Steps p.tables e below (T94.setTop (mkF m 20 #[.val (.int x0), .val (.int x1), .val (.long x2), .second, .val (.long x3), .second, .val (.int x4), .val (.int (x0 &&& (63 : Int32))), .val (.int (x1 &&& (63 : Int32))), .val (.ref b94), .unset, .unset, .unset, .unset, .unset] [(.int (x1 &&& (63 : Int32)))])) t → Steps p.tables e below (s₁.setTop (entryFrame m #[(.int x0), (.int x1), (.long x2), (.long x3), (.int x4)] maxLocals)) t := fun t k => K100 t (by
    show Steps p.tables e below (T94.setTop (mkF m 16 #[.val (.int x0), .val (.int x1), .val (.long x2), .second, .val (.long x3), .second, .val (.int x4), .val (.int (x0 &&& (63 : Int32))), .val (.int (x1 &&& (63 : Int32))), .unset, .unset, .unset, .unset, .unset, .unset] [(.ref b94)])) t
    refine XS.astore X94.here hx rfl (hb hby at_16) rfl rfl (l' := #[.val (.int x0), .val (.int x1), .val (.long x2), .second, .val (.long x3), .second, .val (.int x4), .val (.int (x0 &&& (63 : Int32))), .val (.int (x1 &&& (63 : Int32))), .val (.ref b94), .unset, .unset, .unset, .unset, .unset]) rfl ?_
    show Steps p.tables e below (T94.setTop (mkF m 18 #[.val (.int x0), .val (.int x1), .val (.long x2), .second, .val (.long x3), .second, .val (.int x4), .val (.int (x0 &&& (63 : Int32))), .val (.int (x1 &&& (63 : Int32))), .val (.ref b94), .unset, .unset, .unset, .unset, .unset] [])) t
    refine XS.iload X94.here hx rfl (hb hby at_18) rfl ?_
    exact k)
  obtain ⟨T107, h107, k107, X107, e107, E107, A107, st107⟩ := newP X94 hx hZ (hw _ (List.mem_of_getElem? (i := 0) rfl)) e94 (g := (mkF m 20 #[.val (.int x0), .val (.int x1), .val (.long x2), .second, .val (.long x3), .second, .val (.int x4), .val (.int (x0 &&& (63 : Int32))), .val (.int (x1 &&& (63 : Int32))), .val (.ref b94), .unset, .unset, .unset, .unset, .unset] [(.int (x1 &&& (63 : Int32)))])) rfl (hb hby at_20) rfl q104 (cap := 63) q105 (by decide) (by decide) (by decide)
  obtain ⟨b107, g107⟩ : ∃ z, z = h94.size := ⟨_, rfl⟩
  rw [← g107] at A107 st107
  have ne108 : b94 ≠ b107 := Nat.ne_of_lt (Nat.lt_of_lt_of_le V99.lt (Nat.le_of_eq g107.symm))
  have gb109 : n0 ≤ b107 := Nat.le_trans Z97 (Nat.le_of_eq g107.symm)
  have sb110 : h0.size ≤ b107 := Nat.le_trans Kp98.1 (Nat.le_of_eq g107.symm)
  have F111 := V99.ext E107
  have Z112 : n0 ≤ h107.size := Nat.le_trans Z97 E107.1
  have Kp113 : Keep h0 h107 [] := Keep.ext Kp98 E107
  have V114 : own_Arl Z h107 b107 .byte (x1 &&& (63 : Int32)) := own_Arl.new A107 q104
  have K115 : ∀ t, Steps p.tables e below (T107.setTop (mkF m 22 #[.val (.int x0), .val (.int x1), .val (.long x2), .second, .val (.long x3), .second, .val (.int x4), .val (.int (x0 &&& (63 : Int32))), .val (.int (x1 &&& (63 : Int32))), .val (.ref b94), .unset, .unset, .unset, .unset, .unset] [(.ref b107)])) t → Steps p.tables e below (s₁.setTop (entryFrame m #[(.int x0), (.int x1), (.long x2), (.long x3), (.int x4)] maxLocals)) t := fun t k => K106 t (st107 _ k)
  have K117 : ∀ t, Steps p.tables e below (T107.setTop (mkF m 26 #[.val (.int x0), .val (.int x1), .val (.long x2), .second, .val (.long x3), .second, .val (.int x4), .val (.int (x0 &&& (63 : Int32))), .val (.int (x1 &&& (63 : Int32))), .val (.ref b94), .val (.ref b107), .unset, .unset, .unset, .unset] [(.int (x0 &&& (63 : Int32)))])) t → Steps p.tables e below (s₁.setTop (entryFrame m #[(.int x0), (.int x1), (.long x2), (.long x3), (.int x4)] maxLocals)) t := fun t k => K115 t (by
    show Steps p.tables e below (T107.setTop (mkF m 22 #[.val (.int x0), .val (.int x1), .val (.long x2), .second, .val (.long x3), .second, .val (.int x4), .val (.int (x0 &&& (63 : Int32))), .val (.int (x1 &&& (63 : Int32))), .val (.ref b94), .unset, .unset, .unset, .unset, .unset] [(.ref b107)])) t
    refine XS.astore X107.here hx rfl (hb hby at_22) rfl rfl (l' := #[.val (.int x0), .val (.int x1), .val (.long x2), .second, .val (.long x3), .second, .val (.int x4), .val (.int (x0 &&& (63 : Int32))), .val (.int (x1 &&& (63 : Int32))), .val (.ref b94), .val (.ref b107), .unset, .unset, .unset, .unset]) rfl ?_
    show Steps p.tables e below (T107.setTop (mkF m 24 #[.val (.int x0), .val (.int x1), .val (.long x2), .second, .val (.long x3), .second, .val (.int x4), .val (.int (x0 &&& (63 : Int32))), .val (.int (x1 &&& (63 : Int32))), .val (.ref b94), .val (.ref b107), .unset, .unset, .unset, .unset] [])) t
    refine XS.iload X107.here hx rfl (hb hby at_24) rfl ?_
    exact k)
  have q118 := (by decide : (0 : Int32).toInt = 0)
  by_cases hc116 : (0 : Int32) < (x0 &&& (63 : Int32))
  · have q119 : (0 : Int32).toInt < (x0 &&& (63 : Int32)).toInt := Int32.lt_iff_toInt_lt.mp hc116
    have K120 : ∀ t, Steps p.tables e below (T107.setTop (mkF m 35 #[.val (.int x0), .val (.int x1), .val (.long x2), .second, .val (.long x3), .second, .val (.int x4), .val (.int (x0 &&& (63 : Int32))), .val (.int (x1 &&& (63 : Int32))), .val (.ref b94), .val (.ref b107), .unset, .unset, .unset, .unset] [(.int (x4.toInt8.toInt32)), (.int (0 : Int32)), (.ref b94)])) t → Steps p.tables e below (s₁.setTop (entryFrame m #[(.int x0), (.int x1), (.long x2), (.long x3), (.int x4)] maxLocals)) t := fun t k => K117 t (by
      show Steps p.tables e below (T107.setTop (mkF m 26 #[.val (.int x0), .val (.int x1), .val (.long x2), .second, .val (.long x3), .second, .val (.int x4), .val (.int (x0 &&& (63 : Int32))), .val (.int (x1 &&& (63 : Int32))), .val (.ref b94), .val (.ref b107), .unset, .unset, .unset, .unset] [(.int (x0 &&& (63 : Int32)))])) t
      refine XS.ifNo X107.here hx rfl (hb hby at_26) rfl ((if0 _ _).trans (tlt hc116).2.2.2) ?_
      show Steps p.tables e below (T107.setTop (mkF m 29 #[.val (.int x0), .val (.int x1), .val (.long x2), .second, .val (.long x3), .second, .val (.int x4), .val (.int (x0 &&& (63 : Int32))), .val (.int (x1 &&& (63 : Int32))), .val (.ref b94), .val (.ref b107), .unset, .unset, .unset, .unset] [])) t
      refine XS.aload X107.here hx rfl (hb hby at_29) rfl rfl ?_
      show Steps p.tables e below (T107.setTop (mkF m 31 #[.val (.int x0), .val (.int x1), .val (.long x2), .second, .val (.long x3), .second, .val (.int x4), .val (.int (x0 &&& (63 : Int32))), .val (.int (x1 &&& (63 : Int32))), .val (.ref b94), .val (.ref b107), .unset, .unset, .unset, .unset] [(.ref b94)])) t
      refine XS.iconst X107.here hx rfl (hb hby at_31) ?_
      show Steps p.tables e below (T107.setTop (mkF m 32 #[.val (.int x0), .val (.int x1), .val (.long x2), .second, .val (.long x3), .second, .val (.int x4), .val (.int (x0 &&& (63 : Int32))), .val (.int (x1 &&& (63 : Int32))), .val (.ref b94), .val (.ref b107), .unset, .unset, .unset, .unset] [(.int (0 : Int32)), (.ref b94)])) t
      refine XS.iload X107.here hx rfl (hb hby at_32) rfl ?_
      show Steps p.tables e below (T107.setTop (mkF m 34 #[.val (.int x0), .val (.int x1), .val (.long x2), .second, .val (.long x3), .second, .val (.int x4), .val (.int (x0 &&& (63 : Int32))), .val (.int (x1 &&& (63 : Int32))), .val (.ref b94), .val (.ref b107), .unset, .unset, .unset, .unset] [(.int x4), (.int (0 : Int32)), (.ref b94)])) t
      refine XS.i2b X107.here hx rfl (hb hby at_34) rfl ?_
      exact k)
    have q122 : ¬ (0 : Int32) < 0 ∧ (0 : Int32) < (x0 &&& (63 : Int32)) := by rw [Int32.lt_iff_toInt_lt, Int32.lt_iff_toInt_lt]; have q0 : (0 : Int32).toInt = 0 := rfl; omega
    obtain ⟨cl121, Ar121, S121, N121⟩ := F111
    have hin121 : ¬ ((0 : Int32) < 0 ∨ cl121.slots.size ≤ ((0 : Int32)).toNatClampNeg) := inb_of S121 q122
    obtain ⟨T121, h121, X121, e121, W121, st121⟩ := stB X107 hx hZ e107 Ar121 (j := (0 : Int32)) hin121 (g := (mkF m 35 #[.val (.int x0), .val (.int x1), .val (.long x2), .second, .val (.long x3), .second, .val (.int x4), .val (.int (x0 &&& (63 : Int32))), .val (.int (x1 &&& (63 : Int32))), .val (.ref b94), .val (.ref b107), .unset, .unset, .unset, .unset] [(.int (x4.toInt8.toInt32)), (.int (0 : Int32)), (.ref b94)])) rfl rfl (hb hby at_35)
    have V123 : own_Arl Z h121 b94 .byte (x0 &&& (63 : Int32)) := own_Arl.same Ar121 S121 N121 W121
    have Kp124 : Keep h0 h121 [] := Keep.wr Kp113 W121 (Or.inr sb96)
    have Z125 : n0 ≤ h121.size := Nat.le_trans Z112 (Keep.of_wr W121).1
    have N126 := Fr.snoc X121 N0 gb95
    have F127 := V114.other W121 (Ne.symm ne108)
    have K128 : ∀ t, Steps p.tables e below (T121.setTop (mkF m 36 #[.val (.int x0), .val (.int x1), .val (.long x2), .second, .val (.long x3), .second, .val (.int x4), .val (.int (x0 &&& (63 : Int32))), .val (.int (x1 &&& (63 : Int32))), .val (.ref b94), .val (.ref b107), .unset, .unset, .unset, .unset] [])) t → Steps p.tables e below (s₁.setTop (entryFrame m #[(.int x0), (.int x1), (.long x2), (.long x3), (.int x4)] maxLocals)) t := fun t k => K120 t (st121 _ k)
    have K130 : ∀ t, Steps p.tables e below (T121.setTop (mkF m 38 #[.val (.int x0), .val (.int x1), .val (.long x2), .second, .val (.long x3), .second, .val (.int x4), .val (.int (x0 &&& (63 : Int32))), .val (.int (x1 &&& (63 : Int32))), .val (.ref b94), .val (.ref b107), .unset, .unset, .unset, .unset] [(.int (x1 &&& (63 : Int32)))])) t → Steps p.tables e below (s₁.setTop (entryFrame m #[(.int x0), (.int x1), (.long x2), (.long x3), (.int x4)] maxLocals)) t := fun t k => K128 t (by
      show Steps p.tables e below (T121.setTop (mkF m 36 #[.val (.int x0), .val (.int x1), .val (.long x2), .second, .val (.long x3), .second, .val (.int x4), .val (.int (x0 &&& (63 : Int32))), .val (.int (x1 &&& (63 : Int32))), .val (.ref b94), .val (.ref b107), .unset, .unset, .unset, .unset] [])) t
      refine XS.iload X121.here hx rfl (hb hby at_36) rfl ?_
      exact k)
    by_cases hc129 : (0 : Int32) < (x1 &&& (63 : Int32))
    · have q131 : (0 : Int32).toInt < (x1 &&& (63 : Int32)).toInt := Int32.lt_iff_toInt_lt.mp hc129
      have K132 : ∀ t, Steps p.tables e below (T121.setTop (mkF m 53 #[.val (.int x0), .val (.int x1), .val (.long x2), .second, .val (.long x3), .second, .val (.int x4), .val (.int (x0 &&& (63 : Int32))), .val (.int (x1 &&& (63 : Int32))), .val (.ref b94), .val (.ref b107), .unset, .unset, .unset, .unset] [(.int ((x4 >>> ((8 : Int32) &&& 31)).toInt8.toInt32)), (.int ((x1 &&& (63 : Int32)) - (1 : Int32))), (.ref b107)])) t → Steps p.tables e below (s₁.setTop (entryFrame m #[(.int x0), (.int x1), (.long x2), (.long x3), (.int x4)] maxLocals)) t := fun t k => K130 t (by
        show Steps p.tables e below (T121.setTop (mkF m 38 #[.val (.int x0), .val (.int x1), .val (.long x2), .second, .val (.long x3), .second, .val (.int x4), .val (.int (x0 &&& (63 : Int32))), .val (.int (x1 &&& (63 : Int32))), .val (.ref b94), .val (.ref b107), .unset, .unset, .unset, .unset] [(.int (x1 &&& (63 : Int32)))])) t
        refine XS.ifNo X121.here hx rfl (hb hby at_38) rfl ((if0 _ _).trans (tlt hc129).2.2.2) ?_
        show Steps p.tables e below (T121.setTop (mkF m 41 #[.val (.int x0), .val (.int x1), .val (.long x2), .second, .val (.long x3), .second, .val (.int x4), .val (.int (x0 &&& (63 : Int32))), .val (.int (x1 &&& (63 : Int32))), .val (.ref b94), .val (.ref b107), .unset, .unset, .unset, .unset] [])) t
        refine XS.aload X121.here hx rfl (hb hby at_41) rfl rfl ?_
        show Steps p.tables e below (T121.setTop (mkF m 43 #[.val (.int x0), .val (.int x1), .val (.long x2), .second, .val (.long x3), .second, .val (.int x4), .val (.int (x0 &&& (63 : Int32))), .val (.int (x1 &&& (63 : Int32))), .val (.ref b94), .val (.ref b107), .unset, .unset, .unset, .unset] [(.ref b107)])) t
        refine XS.iload X121.here hx rfl (hb hby at_43) rfl ?_
        show Steps p.tables e below (T121.setTop (mkF m 45 #[.val (.int x0), .val (.int x1), .val (.long x2), .second, .val (.long x3), .second, .val (.int x4), .val (.int (x0 &&& (63 : Int32))), .val (.int (x1 &&& (63 : Int32))), .val (.ref b94), .val (.ref b107), .unset, .unset, .unset, .unset] [(.int (x1 &&& (63 : Int32))), (.ref b107)])) t
        refine XS.iconst X121.here hx rfl (hb hby at_45) ?_
        show Steps p.tables e below (T121.setTop (mkF m 46 #[.val (.int x0), .val (.int x1), .val (.long x2), .second, .val (.long x3), .second, .val (.int x4), .val (.int (x0 &&& (63 : Int32))), .val (.int (x1 &&& (63 : Int32))), .val (.ref b94), .val (.ref b107), .unset, .unset, .unset, .unset] [(.int (1 : Int32)), (.int (x1 &&& (63 : Int32))), (.ref b107)])) t
        refine XS.isub X121.here hx rfl (hb hby at_46) rfl ?_
        show Steps p.tables e below (T121.setTop (mkF m 47 #[.val (.int x0), .val (.int x1), .val (.long x2), .second, .val (.long x3), .second, .val (.int x4), .val (.int (x0 &&& (63 : Int32))), .val (.int (x1 &&& (63 : Int32))), .val (.ref b94), .val (.ref b107), .unset, .unset, .unset, .unset] [(.int ((x1 &&& (63 : Int32)) - (1 : Int32))), (.ref b107)])) t
        refine XS.iload X121.here hx rfl (hb hby at_47) rfl ?_
        show Steps p.tables e below (T121.setTop (mkF m 49 #[.val (.int x0), .val (.int x1), .val (.long x2), .second, .val (.long x3), .second, .val (.int x4), .val (.int (x0 &&& (63 : Int32))), .val (.int (x1 &&& (63 : Int32))), .val (.ref b94), .val (.ref b107), .unset, .unset, .unset, .unset] [(.int x4), (.int ((x1 &&& (63 : Int32)) - (1 : Int32))), (.ref b107)])) t
        refine XS.bipush X121.here hx rfl (hb hby at_49) ?_
        show Steps p.tables e below (T121.setTop (mkF m 51 #[.val (.int x0), .val (.int x1), .val (.long x2), .second, .val (.long x3), .second, .val (.int x4), .val (.int (x0 &&& (63 : Int32))), .val (.int (x1 &&& (63 : Int32))), .val (.ref b94), .val (.ref b107), .unset, .unset, .unset, .unset] [(.int (8 : Int32)), (.int x4), (.int ((x1 &&& (63 : Int32)) - (1 : Int32))), (.ref b107)])) t
        refine XS.ishr X121.here hx rfl (hb hby at_51) rfl ?_
        show Steps p.tables e below (T121.setTop (mkF m 52 #[.val (.int x0), .val (.int x1), .val (.long x2), .second, .val (.long x3), .second, .val (.int x4), .val (.int (x0 &&& (63 : Int32))), .val (.int (x1 &&& (63 : Int32))), .val (.ref b94), .val (.ref b107), .unset, .unset, .unset, .unset] [(.int (x4 >>> ((8 : Int32) &&& 31))), (.int ((x1 &&& (63 : Int32)) - (1 : Int32))), (.ref b107)])) t
        refine XS.i2b X121.here hx rfl (hb hby at_52) rfl ?_
        exact k)
      have q134 := (by decide : (1 : Int32).toInt = 1)
      have q135 := c_isub (x1 &&& (63 : Int32)) (1 : Int32)
      have q136 := rng32 ((x1 &&& (63 : Int32)) - (1 : Int32))
      have q137 : ¬ ((x1 &&& (63 : Int32)) - (1 : Int32)) < 0 ∧ ((x1 &&& (63 : Int32)) - (1 : Int32)) < (x1 &&& (63 : Int32)) := by rw [Int32.lt_iff_toInt_lt, Int32.lt_iff_toInt_lt]; have q0 : (0 : Int32).toInt = 0 := rfl; omega
      obtain ⟨cl133, Ar133, S133, N133⟩ := F127
      have hin133 : ¬ (((x1 &&& (63 : Int32)) - (1 : Int32)) < 0 ∨ cl133.slots.size ≤ (((x1 &&& (63 : Int32)) - (1 : Int32))).toNatClampNeg) := inb_of S133 q137
      obtain ⟨T133, h133, X133, e133, W133, st133⟩ := stB X121 hx hZ e121 Ar133 (j := ((x1 &&& (63 : Int32)) - (1 : Int32))) hin133 (g := (mkF m 53 #[.val (.int x0), .val (.int x1), .val (.long x2), .second, .val (.long x3), .second, .val (.int x4), .val (.int (x0 &&& (63 : Int32))), .val (.int (x1 &&& (63 : Int32))), .val (.ref b94), .val (.ref b107), .unset, .unset, .unset, .unset] [(.int ((x4 >>> ((8 : Int32) &&& 31)).toInt8.toInt32)), (.int ((x1 &&& (63 : Int32)) - (1 : Int32))), (.ref b107)])) rfl rfl (hb hby at_53)
      have V138 : own_Arl Z h133 b107 .byte (x1 &&& (63 : Int32)) := own_Arl.same Ar133 S133 N133 W133
      have Kp139 : Keep h0 h133 [] := Keep.wr Kp124 W133 (Or.inr sb110)
      have Z140 : n0 ≤ h133.size := Nat.le_trans Z125 (Keep.of_wr W133).1
      have N141 := Fr.snoc X133 N126 gb109
      have F142 := V123.other W133 ne108
      have K143 : ∀ t, Steps p.tables e below (T133.setTop (mkF m 54 #[.val (.int x0), .val (.int x1), .val (.long x2), .second, .val (.long x3), .second, .val (.int x4), .val (.int (x0 &&& (63 : Int32))), .val (.int (x1 &&& (63 : Int32))), .val (.ref b94), .val (.ref b107), .unset, .unset, .unset, .unset] [])) t → Steps p.tables e below (s₁.setTop (entryFrame m #[(.int x0), (.int x1), (.long x2), (.long x3), (.int x4)] maxLocals)) t := fun t k => K132 t (st133 _ k)
      obtain ⟨T144, h144, X144, e144, E144, A144, D144, M144, st144⟩ := newO X133 hx hZ hown (hw _ (List.mem_of_getElem? (i := 1) rfl)) (hw _ (List.mem_of_getElem? (i := 2) rfl)) (hw _ (List.mem_of_getElem? (i := 3) rfl)) e133 (g := (mkF m 54 #[.val (.int x0), .val (.int x1), .val (.long x2), .second, .val (.long x3), .second, .val (.int x4), .val (.int (x0 &&& (63 : Int32))), .val (.int (x1 &&& (63 : Int32))), .val (.ref b94), .val (.ref b107), .unset, .unset, .unset, .unset] [])) rfl (hb hby at_54) (by decide) (by decide)
      obtain ⟨b144, g144⟩ : ∃ z, z = h133.size := ⟨_, rfl⟩
      rw [← g144] at A144 D144 M144 st144
      have ne145 : b94 ≠ b144 := Nat.ne_of_lt (Nat.lt_of_lt_of_le F142.lt (Nat.le_of_eq g144.symm))
      have ne146 : b107 ≠ b144 := Nat.ne_of_lt (Nat.lt_of_lt_of_le V138.lt (Nat.le_of_eq g144.symm))
      have gb147 : n0 ≤ b144 := Nat.le_trans Z140 (Nat.le_of_eq g144.symm)
      have sb148 : h0.size ≤ b144 := Nat.le_trans Kp139.1 (Nat.le_of_eq g144.symm)
      have F149 := F142.ext E144
      have F150 := V138.ext E144
      have Z151 : n0 ≤ h144.size := Nat.le_trans Z140 E144.1
      have Kp152 : Keep h0 h144 [] := Keep.ext Kp139 E144
      have F153 : Fld Z h144 b144 "com/example/cursorweave/cursorweave/store/Position" "ledger" "J" (.long (0 : Int64)) := D144 (Or.inr (hw _ (List.mem_of_getElem? (i := 17) rfl))) (ty := .long) (by decide)
      have F154 : Fld Z h144 b144 "com/example/cursorweave/cursorweave/store/Position" "entry" "J" (.long (0 : Int64)) := D144 (Or.inr (hw _ (List.mem_of_getElem? (i := 19) rfl))) (ty := .long) (by decide)
      have K155 : ∀ t, Steps p.tables e below (T144.setTop (mkF m 57 #[.val (.int x0), .val (.int x1), .val (.long x2), .second, .val (.long x3), .second, .val (.int x4), .val (.int (x0 &&& (63 : Int32))), .val (.int (x1 &&& (63 : Int32))), .val (.ref b94), .val (.ref b107), .unset, .unset, .unset, .unset] [(.ref b144)])) t → Steps p.tables e below (s₁.setTop (entryFrame m #[(.int x0), (.int x1), (.long x2), (.long x3), (.int x4)] maxLocals)) t := fun t k => K143 t (st144 _ k)
      have K156 : ∀ t, Steps p.tables e below (T144.setTop (mkF m 69 #[.val (.int x0), .val (.int x1), .val (.long x2), .second, .val (.long x3), .second, .val (.int x4), .val (.int (x0 &&& (63 : Int32))), .val (.int (x1 &&& (63 : Int32))), .val (.ref b94), .val (.ref b107), .unset, .unset, .unset, .unset] [(.long (x3 &&& (9223372036854775807 : Int64))), (.long (x2 &&& (9223372036854775807 : Int64))), (.ref b144), (.ref b144)])) t → Steps p.tables e below (s₁.setTop (entryFrame m #[(.int x0), (.int x1), (.long x2), (.long x3), (.int x4)] maxLocals)) t := fun t k => K155 t (by
        show Steps p.tables e below (T144.setTop (mkF m 57 #[.val (.int x0), .val (.int x1), .val (.long x2), .second, .val (.long x3), .second, .val (.int x4), .val (.int (x0 &&& (63 : Int32))), .val (.int (x1 &&& (63 : Int32))), .val (.ref b94), .val (.ref b107), .unset, .unset, .unset, .unset] [(.ref b144)])) t
        refine XS.dup X144.here hx rfl (hb hby at_57) rfl rfl ?_
        show Steps p.tables e below (T144.setTop (mkF m 58 #[.val (.int x0), .val (.int x1), .val (.long x2), .second, .val (.long x3), .second, .val (.int x4), .val (.int (x0 &&& (63 : Int32))), .val (.int (x1 &&& (63 : Int32))), .val (.ref b94), .val (.ref b107), .unset, .unset, .unset, .unset] [(.ref b144), (.ref b144)])) t
        refine XS.lloadN X144.here hx rfl (hb hby at_58) rfl ?_
        show Steps p.tables e below (T144.setTop (mkF m 59 #[.val (.int x0), .val (.int x1), .val (.long x2), .second, .val (.long x3), .second, .val (.int x4), .val (.int (x0 &&& (63 : Int32))), .val (.int (x1 &&& (63 : Int32))), .val (.ref b94), .val (.ref b107), .unset, .unset, .unset, .unset] [(.long x2), (.ref b144), (.ref b144)])) t
        refine X144.ldc2Long hx hown (mvT hZ (hw _ (List.mem_of_getElem? (i := 4) rfl))) (g := (mkF m 59 #[.val (.int x0), .val (.int x1), .val (.long x2), .second, .val (.long x3), .second, .val (.int x4), .val (.int (x0 &&& (63 : Int32))), .val (.int (x1 &&& (63 : Int32))), .val (.ref b94), .val (.ref b107), .unset, .unset, .unset, .unset] [(.long x2), (.ref b144), (.ref b144)])) rfl (hb hby at_59) _ ?_
        show Steps p.tables e below (T144.setTop (mkF m 62 #[.val (.int x0), .val (.int x1), .val (.long x2), .second, .val (.long x3), .second, .val (.int x4), .val (.int (x0 &&& (63 : Int32))), .val (.int (x1 &&& (63 : Int32))), .val (.ref b94), .val (.ref b107), .unset, .unset, .unset, .unset] [(.long (9223372036854775807 : Int64)), (.long x2), (.ref b144), (.ref b144)])) t
        refine XS.land X144.here hx rfl (hb hby at_62) rfl ?_
        show Steps p.tables e below (T144.setTop (mkF m 63 #[.val (.int x0), .val (.int x1), .val (.long x2), .second, .val (.long x3), .second, .val (.int x4), .val (.int (x0 &&& (63 : Int32))), .val (.int (x1 &&& (63 : Int32))), .val (.ref b94), .val (.ref b107), .unset, .unset, .unset, .unset] [(.long (x2 &&& (9223372036854775807 : Int64))), (.ref b144), (.ref b144)])) t
        refine XS.lload X144.here hx rfl (hb hby at_63) rfl ?_
        show Steps p.tables e below (T144.setTop (mkF m 65 #[.val (.int x0), .val (.int x1), .val (.long x2), .second, .val (.long x3), .second, .val (.int x4), .val (.int (x0 &&& (63 : Int32))), .val (.int (x1 &&& (63 : Int32))), .val (.ref b94), .val (.ref b107), .unset, .unset, .unset, .unset] [(.long x3), (.long (x2 &&& (9223372036854775807 : Int64))), (.ref b144), (.ref b144)])) t
        refine X144.ldc2Long hx hown (mvT hZ (hw _ (List.mem_of_getElem? (i := 4) rfl))) (g := (mkF m 65 #[.val (.int x0), .val (.int x1), .val (.long x2), .second, .val (.long x3), .second, .val (.int x4), .val (.int (x0 &&& (63 : Int32))), .val (.int (x1 &&& (63 : Int32))), .val (.ref b94), .val (.ref b107), .unset, .unset, .unset, .unset] [(.long x3), (.long (x2 &&& (9223372036854775807 : Int64))), (.ref b144), (.ref b144)])) rfl (hb hby at_65) _ ?_
        show Steps p.tables e below (T144.setTop (mkF m 68 #[.val (.int x0), .val (.int x1), .val (.long x2), .second, .val (.long x3), .second, .val (.int x4), .val (.int (x0 &&& (63 : Int32))), .val (.int (x1 &&& (63 : Int32))), .val (.ref b94), .val (.ref b107), .unset, .unset, .unset, .unset] [(.long (9223372036854775807 : Int64)), (.long x3), (.long (x2 &&& (9223372036854775807 : Int64))), (.ref b144), (.ref b144)])) t
        refine XS.land X144.here hx rfl (hb hby at_68) rfl ?_
        exact k)
      have q158 := rng64 x2
      have q159 := (by decide : (9223372036854775807 : Int64).toInt = 9223372036854775807)
      have q160 := (show (x2 &&& (9223372036854775807 : Int64)).toInt = x2.toInt % 9223372036854775808 from c_maskL x2 (9223372036854775807 : Int64) 63 (by decide) (by decide))
      have q161 := rng64 (x2 &&& (9223372036854775807 : Int64))
      have q162 := rng64 x3
      have q163 := (show (x3 &&& (9223372036854775807 : Int64)).toInt = x3.toInt % 9223372036854775808 from c_maskL x3 (9223372036854775807 : Int64) 63 (by decide) (by decide))
      have q164 := rng64 (x3 &&& (9223372036854775807 : Int64))
      have q157 : 0 ≤ (x2 &&& (9223372036854775807 : Int64)).toInt ∧ 0 ≤ (x3 &&& (9223372036854775807 : Int64)).toInt := by omega
      obtain ⟨_, _, ⟨T165, L165, kk165, nn165⟩, -, X165, ⟨Lc165, hQ165, l165, y165, z165⟩, st165⟩ := X144.specialBack hx (y := (⟨"com/example/cursorweave/cursorweave/store/Position", "<init>", "(JJ)V"⟩ : MethodName)) rfl hown (mvT hZ (hw _ (List.mem_of_getElem? (i := 5) rfl))) (mvT hZ (hw _ (List.mem_of_getElem? (i := 6) rfl))) (mvT hZ (hw _ (List.mem_of_getElem? (i := 7) rfl))) (by decide) (backOf (W := 1) (rm1 l Z a0 hw [] b144 (x2 &&& (9223372036854775807 : Int64)) (x3 &&& (9223372036854775807 : Int64)) h144 n0 Z151 A144 F153 F154 gb147 q157) hZ (hw _ (List.mem_of_getElem? (i := 7) rfl)) (hw _ (List.mem_of_getElem? (i := 3) rfl)) (by decide) (by decide)) (g := (mkF m 69 #[.val (.int x0), .val (.int x1), .val (.long x2), .second, .val (.long x3), .second, .val (.int x4), .val (.int (x0 &&& (63 : Int32))), .val (.int (x1 &&& (63 : Int32))), .val (.ref b94), .val (.ref b107), .unset, .unset, .unset, .unset] [(.long (x3 &&& (9223372036854775807 : Int64))), (.long (x2 &&& (9223372036854775807 : Int64))), (.ref b144), (.ref b144)])) rfl (by rw [hml]; rfl) (Steps.refl _) (a := b144) (argsL := [(.long (x2 &&& (9223372036854775807 : Int64))), (.long (x3 &&& (9223372036854775807 : Int64)))]) (rest := [(.ref b144)]) (lenOf own_pd1 rfl) rfl (by show 2 * 0 + _ ≤ _; exact Nat.le_of_eq rfl) (hb hby at_69) (fun _ _ => ⟨rfl, e144, (by decide : 3 + 0 ≤ _), (by decide : 128 + 0 ≤ _)⟩)
      dsimp only [Pt.U, Pt.locs, Pt.cells, Pt.slots] at X165 l165 y165 z165 st165 hQ165
      subst l165 y165 z165
      obtain ⟨rfl, Sp165, Nq165, Kc165, Pc165_0⟩ := hQ165
      have N166 := Fr.app N141 Nq165
      obtain ⟨h165, e165⟩ : ∃ z, z = T165.heap := ⟨_, rfl⟩
      rw [← e165] at Kc165 Pc165_0
      have F167 := F149.keep Kc165 (ninS ne145 nin0)
      have F168 := F150.keep Kc165 (ninS ne146 nin0)
      have F169 := A144.keep Kc165
      have Kp170 : Keep h0 h165 [] := Keep.trans Kp152 Kc165 (allS (Or.inr sb148) all0)
      have Z171 : n0 ≤ h165.size := Nat.le_trans Z151 Kc165.1
      have K172 : ∀ t, Steps p.tables e below (T165.setTop (mkF m 72 #[.val (.int x0), .val (.int x1), .val (.long x2), .second, .val (.long x3), .second, .val (.int x4), .val (.int (x0 &&& (63 : Int32))), .val (.int (x1 &&& (63 : Int32))), .val (.ref b94), .val (.ref b107), .unset, .unset, .unset, .unset] [(.ref b144)])) t → Steps p.tables e below (s₁.setTop (entryFrame m #[(.int x0), (.int x1), (.long x2), (.long x3), (.int x4)] maxLocals)) t := fun t k => K156 t (st165.trans k)
      have K173 : ∀ t, Steps p.tables e below (T165.setTop (mkF m 74 #[.val (.int x0), .val (.int x1), .val (.long x2), .second, .val (.long x3), .second, .val (.int x4), .val (.int (x0 &&& (63 : Int32))), .val (.int (x1 &&& (63 : Int32))), .val (.ref b94), .val (.ref b107), .val (.ref b144), .unset, .unset, .unset] [])) t → Steps p.tables e below (s₁.setTop (entryFrame m #[(.int x0), (.int x1), (.long x2), (.long x3), (.int x4)] maxLocals)) t := fun t k => K172 t (by
        show Steps p.tables e below (T165.setTop (mkF m 72 #[.val (.int x0), .val (.int x1), .val (.long x2), .second, .val (.long x3), .second, .val (.int x4), .val (.int (x0 &&& (63 : Int32))), .val (.int (x1 &&& (63 : Int32))), .val (.ref b94), .val (.ref b107), .unset, .unset, .unset, .unset] [(.ref b144)])) t
        refine XS.astore X165.here hx rfl (hb hby at_72) rfl rfl (l' := #[.val (.int x0), .val (.int x1), .val (.long x2), .second, .val (.long x3), .second, .val (.int x4), .val (.int (x0 &&& (63 : Int32))), .val (.int (x1 &&& (63 : Int32))), .val (.ref b94), .val (.ref b107), .val (.ref b144), .unset, .unset, .unset]) rfl ?_
        exact k)
      obtain ⟨T174, h174, X174, e174, E174, A174, D174, M174, st174⟩ := newO X165 hx hZ hown (hw _ (List.mem_of_getElem? (i := 20) rfl)) (hw _ (List.mem_of_getElem? (i := 21) rfl)) (hw _ (List.mem_of_getElem? (i := 22) rfl)) e165.symm (g := (mkF m 74 #[.val (.int x0), .val (.int x1), .val (.long x2), .second, .val (.long x3), .second, .val (.int x4), .val (.int (x0 &&& (63 : Int32))), .val (.int (x1 &&& (63 : Int32))), .val (.ref b94), .val (.ref b107), .val (.ref b144), .unset, .unset, .unset] [])) rfl (hb hby at_74) (by decide) (by decide)
      obtain ⟨b174, g174⟩ : ∃ z, z = h165.size := ⟨_, rfl⟩
      rw [← g174] at A174 D174 M174 st174
      have ne175 : b94 ≠ b174 := Nat.ne_of_lt (Nat.lt_of_lt_of_le F167.lt (Nat.le_of_eq g174.symm))
      have ne176 : b107 ≠ b174 := Nat.ne_of_lt (Nat.lt_of_lt_of_le F168.lt (Nat.le_of_eq g174.symm))
      have ne177 : b144 ≠ b174 := Nat.ne_of_lt (Nat.lt_of_lt_of_le Pc165_0.lt (Nat.le_of_eq g174.symm))
      have gb178 : n0 ≤ b174 := Nat.le_trans Z171 (Nat.le_of_eq g174.symm)
      have sb179 : h0.size ≤ b174 := Nat.le_trans Kp170.1 (Nat.le_of_eq g174.symm)
      have F180 := F167.ext E174
      have F181 := F168.ext E174
      have F182 := Pc165_0.ext E174
      have Z183 : n0 ≤ h174.size := Nat.le_trans Z171 E174.1
      have Kp184 : Keep h0 h174 [] := Keep.ext Kp170 E174
      have F185 : Fld Z h174 b174 "com/example/cursorweave/cursorweave/store/Entry" "position" "Lcom/example/cursorweave/cursorweave/store/Position;" .null := D174 (Or.inr (hw _ (List.mem_of_getElem? (i := 28) rfl))) (ty := (.object "com/example/cursorweave/cursorweave/store/Position")) (by decide)
      have F186 : Fld Z h174 b174 "com/example/cursorweave/cursorweave/store/Entry" "metadata" "[B" .null := D174 (Or.inr (hw _ (List.mem_of_getElem? (i := 30) rfl))) (ty := (.array .byte)) (by decide)
      have F187 : Fld Z h174 b174 "com/example/cursorweave/cursorweave/store/Entry" "payload" "[B" .null := D174 (Or.inr (hw _ (List.mem_of_getElem? (i := 32) rfl))) (ty := (.array .byte)) (by decide)
      have K188 : ∀ t, Steps p.tables e below (T174.setTop (mkF m 77 #[.val (.int x0), .val (.int x1), .val (.long x2), .second, .val (.long x3), .second, .val (.int x4), .val (.int (x0 &&& (63 : Int32))), .val (.int (x1 &&& (63 : Int32))), .val (.ref b94), .val (.ref b107), .val (.ref b144), .unset, .unset, .unset] [(.ref b174)])) t → Steps p.tables e below (s₁.setTop (entryFrame m #[(.int x0), (.int x1), (.long x2), (.long x3), (.int x4)] maxLocals)) t := fun t k => K173 t (st174 _ k)
      have K189 : ∀ t, Steps p.tables e below (T174.setTop (mkF m 84 #[.val (.int x0), .val (.int x1), .val (.long x2), .second, .val (.long x3), .second, .val (.int x4), .val (.int (x0 &&& (63 : Int32))), .val (.int (x1 &&& (63 : Int32))), .val (.ref b94), .val (.ref b107), .val (.ref b144), .unset, .unset, .unset] [(.ref b107), (.ref b94), (.ref b144), (.ref b174), (.ref b174)])) t → Steps p.tables e below (s₁.setTop (entryFrame m #[(.int x0), (.int x1), (.long x2), (.long x3), (.int x4)] maxLocals)) t := fun t k => K188 t (by
        show Steps p.tables e below (T174.setTop (mkF m 77 #[.val (.int x0), .val (.int x1), .val (.long x2), .second, .val (.long x3), .second, .val (.int x4), .val (.int (x0 &&& (63 : Int32))), .val (.int (x1 &&& (63 : Int32))), .val (.ref b94), .val (.ref b107), .val (.ref b144), .unset, .unset, .unset] [(.ref b174)])) t
        refine XS.dup X174.here hx rfl (hb hby at_77) rfl rfl ?_
        show Steps p.tables e below (T174.setTop (mkF m 78 #[.val (.int x0), .val (.int x1), .val (.long x2), .second, .val (.long x3), .second, .val (.int x4), .val (.int (x0 &&& (63 : Int32))), .val (.int (x1 &&& (63 : Int32))), .val (.ref b94), .val (.ref b107), .val (.ref b144), .unset, .unset, .unset] [(.ref b174), (.ref b174)])) t
        refine XS.aload X174.here hx rfl (hb hby at_78) rfl rfl ?_
        show Steps p.tables e below (T174.setTop (mkF m 80 #[.val (.int x0), .val (.int x1), .val (.long x2), .second, .val (.long x3), .second, .val (.int x4), .val (.int (x0 &&& (63 : Int32))), .val (.int (x1 &&& (63 : Int32))), .val (.ref b94), .val (.ref b107), .val (.ref b144), .unset, .unset, .unset] [(.ref b144), (.ref b174), (.ref b174)])) t
        refine XS.aload X174.here hx rfl (hb hby at_80) rfl rfl ?_
        show Steps p.tables e below (T174.setTop (mkF m 82 #[.val (.int x0), .val (.int x1), .val (.long x2), .second, .val (.long x3), .second, .val (.int x4), .val (.int (x0 &&& (63 : Int32))), .val (.int (x1 &&& (63 : Int32))), .val (.ref b94), .val (.ref b107), .val (.ref b144), .unset, .unset, .unset] [(.ref b94), (.ref b144), (.ref b174), (.ref b174)])) t
        refine XS.aload X174.here hx rfl (hb hby at_82) rfl rfl ?_
        exact k)
      obtain ⟨_, _, ⟨T190, L190, kk190, nn190⟩, -, X190, ⟨Lc190, hQ190, l190, y190, z190⟩, st190⟩ := X174.specialBack hx (y := (⟨"com/example/cursorweave/cursorweave/store/Entry", "<init>", "(Lcom/example/cursorweave/cursorweave/store/Position;[B[B)V"⟩ : MethodName)) rfl hown (mvT hZ (hw _ (List.mem_of_getElem? (i := 23) rfl))) (mvT hZ (hw _ (List.mem_of_getElem? (i := 24) rfl))) (mvT hZ (hw _ (List.mem_of_getElem? (i := 25) rfl))) (by decide) (backOf (W := 1) (rm4 l Z a0 hw [] b174 b144 b94 b107 h174 n0 Z183 A174 F185 F186 F187 gb178) hZ (hw _ (List.mem_of_getElem? (i := 25) rfl)) (hw _ (List.mem_of_getElem? (i := 22) rfl)) (by decide) (by decide)) (g := (mkF m 84 #[.val (.int x0), .val (.int x1), .val (.long x2), .second, .val (.long x3), .second, .val (.int x4), .val (.int (x0 &&& (63 : Int32))), .val (.int (x1 &&& (63 : Int32))), .val (.ref b94), .val (.ref b107), .val (.ref b144), .unset, .unset, .unset] [(.ref b107), (.ref b94), (.ref b144), (.ref b174), (.ref b174)])) rfl (by rw [hml]; rfl) (Steps.refl _) (a := b174) (argsL := [(.ref b144), (.ref b94), (.ref b107)]) (rest := [(.ref b174)]) (lenOf own_pd2 rfl) rfl (by show 2 * 0 + _ ≤ _; exact Nat.le_of_eq rfl) (hb hby at_84) (fun _ _ => ⟨rfl, e174, (by decide : 4 + 0 ≤ _), (by decide : 131 + 0 ≤ _)⟩)
      dsimp only [Pt.U, Pt.locs, Pt.cells, Pt.slots] at X190 l190 y190 z190 st190 hQ190
      subst l190 y190 z190
      obtain ⟨rfl, Sp190, Nq190, Kc190, Pc190_0, Pc190_1, Pc190_2⟩ := hQ190
      have N191 := Fr.app N166 Nq190
      obtain ⟨h190, e190⟩ : ∃ z, z = T190.heap := ⟨_, rfl⟩
      rw [← e190] at Kc190 Pc190_0 Pc190_1 Pc190_2
      have F192 := F180.keep Kc190 (ninS ne175 nin0)
      have F193 := F181.keep Kc190 (ninS ne176 nin0)
      have F194 := F182.keep Kc190
      have F195 := A174.keep Kc190
      have Kp196 : Keep h0 h190 [] := Keep.trans Kp184 Kc190 (allS (Or.inr sb179) all0)
      have Z197 : n0 ≤ h190.size := Nat.le_trans Z183 Kc190.1
      have K198 : ∀ t, Steps p.tables e below (T190.setTop (mkF m 87 #[.val (.int x0), .val (.int x1), .val (.long x2), .second, .val (.long x3), .second, .val (.int x4), .val (.int (x0 &&& (63 : Int32))), .val (.int (x1 &&& (63 : Int32))), .val (.ref b94), .val (.ref b107), .val (.ref b144), .unset, .unset, .unset] [(.ref b174)])) t → Steps p.tables e below (s₁.setTop (entryFrame m #[(.int x0), (.int x1), (.long x2), (.long x3), (.int x4)] maxLocals)) t := fun t k => K189 t (st190.trans k)
      have K199 : ∀ t, Steps p.tables e below (T190.setTop (mkF m 91 #[.val (.int x0), .val (.int x1), .val (.long x2), .second, .val (.long x3), .second, .val (.int x4), .val (.int (x0 &&& (63 : Int32))), .val (.int (x1 &&& (63 : Int32))), .val (.ref b94), .val (.ref b107), .val (.ref b144), .val (.ref b174), .unset, .unset] [(.ref b174)])) t → Steps p.tables e below (s₁.setTop (entryFrame m #[(.int x0), (.int x1), (.long x2), (.long x3), (.int x4)] maxLocals)) t := fun t k => K198 t (by
        show Steps p.tables e below (T190.setTop (mkF m 87 #[.val (.int x0), .val (.int x1), .val (.long x2), .second, .val (.long x3), .second, .val (.int x4), .val (.int (x0 &&& (63 : Int32))), .val (.int (x1 &&& (63 : Int32))), .val (.ref b94), .val (.ref b107), .val (.ref b144), .unset, .unset, .unset] [(.ref b174)])) t
        refine XS.astore X190.here hx rfl (hb hby at_87) rfl rfl (l' := #[.val (.int x0), .val (.int x1), .val (.long x2), .second, .val (.long x3), .second, .val (.int x4), .val (.int (x0 &&& (63 : Int32))), .val (.int (x1 &&& (63 : Int32))), .val (.ref b94), .val (.ref b107), .val (.ref b144), .val (.ref b174), .unset, .unset]) rfl ?_
        show Steps p.tables e below (T190.setTop (mkF m 89 #[.val (.int x0), .val (.int x1), .val (.long x2), .second, .val (.long x3), .second, .val (.int x4), .val (.int (x0 &&& (63 : Int32))), .val (.int (x1 &&& (63 : Int32))), .val (.ref b94), .val (.ref b107), .val (.ref b144), .val (.ref b174), .unset, .unset] [])) t
        refine XS.aload X190.here hx rfl (hb hby at_89) rfl rfl ?_
        exact k)
      obtain ⟨cq200, kq200, q200a, q200b, q200c⟩ := isOf hZ e190.symm Pc190_0
      obtain ⟨_, _, ⟨T200, L200, kk200, nn200⟩, -, X200, ⟨Lc200, hQ200, l200, y200, z200⟩, st200⟩ := X190.virtualBack hx (y := (⟨"com/example/cursorweave/cursorweave/store/Entry", "size", "()J"⟩ : MethodName)) (z := (⟨"com/example/cursorweave/cursorweave/store/Entry", "size", "()J"⟩ : MethodName)) hown (mvT hZ (hw _ (List.mem_of_getElem? (i := 33) rfl))) (mvT hZ (hw _ (List.mem_of_getElem? (i := 34) rfl))) (notFace_of_selects (args := #[]) (mvT hZ (hw _ (List.mem_of_getElem? (i := 36) rfl)))) (mvT hZ (hw _ (List.mem_of_getElem? (i := 36) rfl))) (mvT hZ (hw _ (List.mem_of_getElem? (i := 35) rfl))) (by decide) (backOf (W := 0) (rm5 l Z a0 hw [] b174 b94 b107 (x0 &&& (63 : Int32)) (x1 &&& (63 : Int32)) h190 n0 Z197 Pc190_1 Pc190_2 F192 F193) hZ (hw _ (List.mem_of_getElem? (i := 37) rfl)) (hw _ (List.mem_of_getElem? (i := 22) rfl)) (by decide) (by decide)) q200a q200c (g := (mkF m 91 #[.val (.int x0), .val (.int x1), .val (.long x2), .second, .val (.long x3), .second, .val (.int x4), .val (.int (x0 &&& (63 : Int32))), .val (.int (x1 &&& (63 : Int32))), .val (.ref b94), .val (.ref b107), .val (.ref b144), .val (.ref b174), .unset, .unset] [(.ref b174)])) rfl (by rw [hml]; rfl) (Steps.refl _) (argsL := []) (rest := []) (lenOf own_pd3 rfl) rfl (by show 2 * 0 + _ ≤ _; exact Nat.le_of_eq rfl) (hb hby at_91) (fun _ _ => ⟨rfl, e190.symm, (by decide : 4 + 0 ≤ _), (by decide : 131 + 0 ≤ _)⟩)
      dsimp only [Pt.U, Pt.locs, Pt.cells, Pt.slots] at X200 l200 y200 z200 st200 hQ200
      subst l200 y200 z200
      obtain ⟨r_200, rfl, Sp200, Nq200, eh200⟩ := hQ200
      have N201 := Fr.app N191 Nq200
      have K202 : ∀ t, Steps p.tables e below (T200.setTop (mkF m 94 #[.val (.int x0), .val (.int x1), .val (.long x2), .second, .val (.long x3), .second, .val (.int x4), .val (.int (x0 &&& (63 : Int32))), .val (.int (x1 &&& (63 : Int32))), .val (.ref b94), .val (.ref b107), .val (.ref b144), .val (.ref b174), .unset, .unset] [(.long r_200)])) t → Steps p.tables e below (s₁.setTop (entryFrame m #[(.int x0), (.int x1), (.long x2), (.long x3), (.int x4)] maxLocals)) t := fun t k => K199 t (st200.trans k)
      have q204 := rng64 r_200
      have q205 := c_i2l (x0 &&& (63 : Int32))
      have q206 := rng64 ((x0 &&& (63 : Int32)).toInt64)
      have q207 := c_i2l (x1 &&& (63 : Int32))
      have q208 := rng64 ((x1 &&& (63 : Int32)).toInt64)
      have q209 := c_ladd ((x0 &&& (63 : Int32)).toInt64) ((x1 &&& (63 : Int32)).toInt64)
      have q210 := rng64 (((x0 &&& (63 : Int32)).toInt64) + ((x1 &&& (63 : Int32)).toInt64))
      have q211 := c_lcmp r_200 (((x0 &&& (63 : Int32)).toInt64) + ((x1 &&& (63 : Int32)).toInt64))
      have hc203 : (lcmpW r_200 (((x0 &&& (63 : Int32)).toInt64) + ((x1 &&& (63 : Int32)).toInt64))) = (0 : Int32) := Int32.toInt_inj.mp (by omega)
      have q212 : (lcmpW r_200 (((x0 &&& (63 : Int32)).toInt64) + ((x1 &&& (63 : Int32)).toInt64))).toInt = (0 : Int32).toInt := congrArg Int32.toInt hc203
      have K213 : ∀ t, Steps p.tables e below (T200.setTop (mkF m 114 #[.val (.int x0), .val (.int x1), .val (.long x2), .second, .val (.long x3), .second, .val (.int x4), .val (.int (x0 &&& (63 : Int32))), .val (.int (x1 &&& (63 : Int32))), .val (.ref b94), .val (.ref b107), .val (.ref b144), .val (.ref b174), .val (.long r_200), .second] [(.int (1 : Int32))])) t → Steps p.tables e below (s₁.setTop (entryFrame m #[(.int x0), (.int x1), (.long x2), (.long x3), (.int x4)] maxLocals)) t := fun t k => K202 t (by
        show Steps p.tables e below (T200.setTop (mkF m 94 #[.val (.int x0), .val (.int x1), .val (.long x2), .second, .val (.long x3), .second, .val (.int x4), .val (.int (x0 &&& (63 : Int32))), .val (.int (x1 &&& (63 : Int32))), .val (.ref b94), .val (.ref b107), .val (.ref b144), .val (.ref b174), .unset, .unset] [(.long r_200)])) t
        refine XS.lstore X200.here hx rfl (hb hby at_94) rfl (l' := #[.val (.int x0), .val (.int x1), .val (.long x2), .second, .val (.long x3), .second, .val (.int x4), .val (.int (x0 &&& (63 : Int32))), .val (.int (x1 &&& (63 : Int32))), .val (.ref b94), .val (.ref b107), .val (.ref b144), .val (.ref b174), .val (.long r_200), .second]) rfl ?_
        show Steps p.tables e below (T200.setTop (mkF m 96 #[.val (.int x0), .val (.int x1), .val (.long x2), .second, .val (.long x3), .second, .val (.int x4), .val (.int (x0 &&& (63 : Int32))), .val (.int (x1 &&& (63 : Int32))), .val (.ref b94), .val (.ref b107), .val (.ref b144), .val (.ref b174), .val (.long r_200), .second] [])) t
        refine XS.lload X200.here hx rfl (hb hby at_96) rfl ?_
        show Steps p.tables e below (T200.setTop (mkF m 98 #[.val (.int x0), .val (.int x1), .val (.long x2), .second, .val (.long x3), .second, .val (.int x4), .val (.int (x0 &&& (63 : Int32))), .val (.int (x1 &&& (63 : Int32))), .val (.ref b94), .val (.ref b107), .val (.ref b144), .val (.ref b174), .val (.long r_200), .second] [(.long r_200)])) t
        refine XS.iload X200.here hx rfl (hb hby at_98) rfl ?_
        show Steps p.tables e below (T200.setTop (mkF m 100 #[.val (.int x0), .val (.int x1), .val (.long x2), .second, .val (.long x3), .second, .val (.int x4), .val (.int (x0 &&& (63 : Int32))), .val (.int (x1 &&& (63 : Int32))), .val (.ref b94), .val (.ref b107), .val (.ref b144), .val (.ref b174), .val (.long r_200), .second] [(.int (x0 &&& (63 : Int32))), (.long r_200)])) t
        refine XS.i2l X200.here hx rfl (hb hby at_100) rfl ?_
        show Steps p.tables e below (T200.setTop (mkF m 101 #[.val (.int x0), .val (.int x1), .val (.long x2), .second, .val (.long x3), .second, .val (.int x4), .val (.int (x0 &&& (63 : Int32))), .val (.int (x1 &&& (63 : Int32))), .val (.ref b94), .val (.ref b107), .val (.ref b144), .val (.ref b174), .val (.long r_200), .second] [(.long ((x0 &&& (63 : Int32)).toInt64)), (.long r_200)])) t
        refine XS.iload X200.here hx rfl (hb hby at_101) rfl ?_
        show Steps p.tables e below (T200.setTop (mkF m 103 #[.val (.int x0), .val (.int x1), .val (.long x2), .second, .val (.long x3), .second, .val (.int x4), .val (.int (x0 &&& (63 : Int32))), .val (.int (x1 &&& (63 : Int32))), .val (.ref b94), .val (.ref b107), .val (.ref b144), .val (.ref b174), .val (.long r_200), .second] [(.int (x1 &&& (63 : Int32))), (.long ((x0 &&& (63 : Int32)).toInt64)), (.long r_200)])) t
        refine XS.i2l X200.here hx rfl (hb hby at_103) rfl ?_
        show Steps p.tables e below (T200.setTop (mkF m 104 #[.val (.int x0), .val (.int x1), .val (.long x2), .second, .val (.long x3), .second, .val (.int x4), .val (.int (x0 &&& (63 : Int32))), .val (.int (x1 &&& (63 : Int32))), .val (.ref b94), .val (.ref b107), .val (.ref b144), .val (.ref b174), .val (.long r_200), .second] [(.long ((x1 &&& (63 : Int32)).toInt64)), (.long ((x0 &&& (63 : Int32)).toInt64)), (.long r_200)])) t
        refine XS.ladd X200.here hx rfl (hb hby at_104) rfl ?_
        show Steps p.tables e below (T200.setTop (mkF m 105 #[.val (.int x0), .val (.int x1), .val (.long x2), .second, .val (.long x3), .second, .val (.int x4), .val (.int (x0 &&& (63 : Int32))), .val (.int (x1 &&& (63 : Int32))), .val (.ref b94), .val (.ref b107), .val (.ref b144), .val (.ref b174), .val (.long r_200), .second] [(.long (((x0 &&& (63 : Int32)).toInt64) + ((x1 &&& (63 : Int32)).toInt64))), (.long r_200)])) t
        refine XS.lcmp X200.here hx rfl (hb hby at_105) rfl ?_
        show Steps p.tables e below (T200.setTop (mkF m 106 #[.val (.int x0), .val (.int x1), .val (.long x2), .second, .val (.long x3), .second, .val (.int x4), .val (.int (x0 &&& (63 : Int32))), .val (.int (x1 &&& (63 : Int32))), .val (.ref b94), .val (.ref b107), .val (.ref b144), .val (.ref b174), .val (.long r_200), .second] [(.int (lcmpW r_200 (((x0 &&& (63 : Int32)).toInt64) + ((x1 &&& (63 : Int32)).toInt64))))])) t
        refine XS.ifNo X200.here hx rfl (hb hby at_106) rfl ((if0 _ _).trans (teq hc203).2) ?_
        show Steps p.tables e below (T200.setTop (mkF m 109 #[.val (.int x0), .val (.int x1), .val (.long x2), .second, .val (.long x3), .second, .val (.int x4), .val (.int (x0 &&& (63 : Int32))), .val (.int (x1 &&& (63 : Int32))), .val (.ref b94), .val (.ref b107), .val (.ref b144), .val (.ref b174), .val (.long r_200), .second] [])) t
        refine XS.iconst X200.here hx rfl (hb hby at_109) ?_
        show Steps p.tables e below (T200.setTop (mkF m 110 #[.val (.int x0), .val (.int x1), .val (.long x2), .second, .val (.long x3), .second, .val (.int x4), .val (.int (x0 &&& (63 : Int32))), .val (.int (x1 &&& (63 : Int32))), .val (.ref b94), .val (.ref b107), .val (.ref b144), .val (.ref b174), .val (.long r_200), .second] [(.int (1 : Int32))])) t
        refine XS.goto X200.here hx rfl (pc0 := 110) (pc' := 114) rfl (hb hby at_110) (by decide) (by decide) ?_
        exact k)
      obtain ⟨fs, hr, hrun, hended, hW, hsame⟩ := X200.leave (v := some (.int (1 : Int32))) (fun h => by rw [Bd.returns] at h; cases h)
      refine ⟨_, _, K213 _ ?_, hrun, hended, _, _, rfl, ?_, ⟨_, rfl⟩, hW, hsame.mono (by decide) (by decide)⟩
      · exact retN X200 hx (t := .boolean) Bd.returns (by simp) (hb hby at_114) hr
      · show Q_rm0 Z x0 x1 x2 x3 x4 h0 n0 _ T200.heap _
        rw [eh200]
        exact ⟨rfl, (by trivial), N201, Kp196⟩
    · have q214 : ¬ (0 : Int32).toInt < (x1 &&& (63 : Int32)).toInt := fun q => hc129 (Int32.lt_iff_toInt_lt.mpr q)
      have K215 : ∀ t, Steps p.tables e below (T121.setTop (mkF m 54 #[.val (.int x0), .val (.int x1), .val (.long x2), .second, .val (.long x3), .second, .val (.int x4), .val (.int (x0 &&& (63 : Int32))), .val (.int (x1 &&& (63 : Int32))), .val (.ref b94), .val (.ref b107), .unset, .unset, .unset, .unset] [])) t → Steps p.tables e below (s₁.setTop (entryFrame m #[(.int x0), (.int x1), (.long x2), (.long x3), (.int x4)] maxLocals)) t := fun t k => K130 t (by
        show Steps p.tables e below (T121.setTop (mkF m 38 #[.val (.int x0), .val (.int x1), .val (.long x2), .second, .val (.long x3), .second, .val (.int x4), .val (.int (x0 &&& (63 : Int32))), .val (.int (x1 &&& (63 : Int32))), .val (.ref b94), .val (.ref b107), .unset, .unset, .unset, .unset] [(.int (x1 &&& (63 : Int32)))])) t
        refine XS.ifYes X121.here hx rfl (pc0 := 38) (pc' := 54) rfl (hb hby at_38) rfl ((if0 _ _).trans (flt hc129).2.2.2) (by decide) (by decide) ?_
        exact k)
      obtain ⟨T216, h216, X216, e216, E216, A216, D216, M216, st216⟩ := newO X121 hx hZ hown (hw _ (List.mem_of_getElem? (i := 1) rfl)) (hw _ (List.mem_of_getElem? (i := 2) rfl)) (hw _ (List.mem_of_getElem? (i := 3) rfl)) e121 (g := (mkF m 54 #[.val (.int x0), .val (.int x1), .val (.long x2), .second, .val (.long x3), .second, .val (.int x4), .val (.int (x0 &&& (63 : Int32))), .val (.int (x1 &&& (63 : Int32))), .val (.ref b94), .val (.ref b107), .unset, .unset, .unset, .unset] [])) rfl (hb hby at_54) (by decide) (by decide)
      obtain ⟨b216, g216⟩ : ∃ z, z = h121.size := ⟨_, rfl⟩
      rw [← g216] at A216 D216 M216 st216
      have ne217 : b107 ≠ b216 := Nat.ne_of_lt (Nat.lt_of_lt_of_le F127.lt (Nat.le_of_eq g216.symm))
      have ne218 : b94 ≠ b216 := Nat.ne_of_lt (Nat.lt_of_lt_of_le V123.lt (Nat.le_of_eq g216.symm))
      have gb219 : n0 ≤ b216 := Nat.le_trans Z125 (Nat.le_of_eq g216.symm)
      have sb220 : h0.size ≤ b216 := Nat.le_trans Kp124.1 (Nat.le_of_eq g216.symm)
      have F221 := F127.ext E216
      have F222 := V123.ext E216
      have Z223 : n0 ≤ h216.size := Nat.le_trans Z125 E216.1
      have Kp224 : Keep h0 h216 [] := Keep.ext Kp124 E216
      have F225 : Fld Z h216 b216 "com/example/cursorweave/cursorweave/store/Position" "ledger" "J" (.long (0 : Int64)) := D216 (Or.inr (hw _ (List.mem_of_getElem? (i := 17) rfl))) (ty := .long) (by decide)
      have F226 : Fld Z h216 b216 "com/example/cursorweave/cursorweave/store/Position" "entry" "J" (.long (0 : Int64)) := D216 (Or.inr (hw _ (List.mem_of_getElem? (i := 19) rfl))) (ty := .long) (by decide)
      have K227 : ∀ t, Steps p.tables e below (T216.setTop (mkF m 57 #[.val (.int x0), .val (.int x1), .val (.long x2), .second, .val (.long x3), .second, .val (.int x4), .val (.int (x0 &&& (63 : Int32))), .val (.int (x1 &&& (63 : Int32))), .val (.ref b94), .val (.ref b107), .unset, .unset, .unset, .unset] [(.ref b216)])) t → Steps p.tables e below (s₁.setTop (entryFrame m #[(.int x0), (.int x1), (.long x2), (.long x3), (.int x4)] maxLocals)) t := fun t k => K215 t (st216 _ k)
      have K228 : ∀ t, Steps p.tables e below (T216.setTop (mkF m 69 #[.val (.int x0), .val (.int x1), .val (.long x2), .second, .val (.long x3), .second, .val (.int x4), .val (.int (x0 &&& (63 : Int32))), .val (.int (x1 &&& (63 : Int32))), .val (.ref b94), .val (.ref b107), .unset, .unset, .unset, .unset] [(.long (x3 &&& (9223372036854775807 : Int64))), (.long (x2 &&& (9223372036854775807 : Int64))), (.ref b216), (.ref b216)])) t → Steps p.tables e below (s₁.setTop (entryFrame m #[(.int x0), (.int x1), (.long x2), (.long x3), (.int x4)] maxLocals)) t := fun t k => K227 t (by
        show Steps p.tables e below (T216.setTop (mkF m 57 #[.val (.int x0), .val (.int x1), .val (.long x2), .second, .val (.long x3), .second, .val (.int x4), .val (.int (x0 &&& (63 : Int32))), .val (.int (x1 &&& (63 : Int32))), .val (.ref b94), .val (.ref b107), .unset, .unset, .unset, .unset] [(.ref b216)])) t
        refine XS.dup X216.here hx rfl (hb hby at_57) rfl rfl ?_
        show Steps p.tables e below (T216.setTop (mkF m 58 #[.val (.int x0), .val (.int x1), .val (.long x2), .second, .val (.long x3), .second, .val (.int x4), .val (.int (x0 &&& (63 : Int32))), .val (.int (x1 &&& (63 : Int32))), .val (.ref b94), .val (.ref b107), .unset, .unset, .unset, .unset] [(.ref b216), (.ref b216)])) t
        refine XS.lloadN X216.here hx rfl (hb hby at_58) rfl ?_
        show Steps p.tables e below (T216.setTop (mkF m 59 #[.val (.int x0), .val (.int x1), .val (.long x2), .second, .val (.long x3), .second, .val (.int x4), .val (.int (x0 &&& (63 : Int32))), .val (.int (x1 &&& (63 : Int32))), .val (.ref b94), .val (.ref b107), .unset, .unset, .unset, .unset] [(.long x2), (.ref b216), (.ref b216)])) t
        refine X216.ldc2Long hx hown (mvT hZ (hw _ (List.mem_of_getElem? (i := 4) rfl))) (g := (mkF m 59 #[.val (.int x0), .val (.int x1), .val (.long x2), .second, .val (.long x3), .second, .val (.int x4), .val (.int (x0 &&& (63 : Int32))), .val (.int (x1 &&& (63 : Int32))), .val (.ref b94), .val (.ref b107), .unset, .unset, .unset, .unset] [(.long x2), (.ref b216), (.ref b216)])) rfl (hb hby at_59) _ ?_
        show Steps p.tables e below (T216.setTop (mkF m 62 #[.val (.int x0), .val (.int x1), .val (.long x2), .second, .val (.long x3), .second, .val (.int x4), .val (.int (x0 &&& (63 : Int32))), .val (.int (x1 &&& (63 : Int32))), .val (.ref b94), .val (.ref b107), .unset, .unset, .unset, .unset] [(.long (9223372036854775807 : Int64)), (.long x2), (.ref b216), (.ref b216)])) t
        refine XS.land X216.here hx rfl (hb hby at_62) rfl ?_
        show Steps p.tables e below (T216.setTop (mkF m 63 #[.val (.int x0), .val (.int x1), .val (.long x2), .second, .val (.long x3), .second, .val (.int x4), .val (.int (x0 &&& (63 : Int32))), .val (.int (x1 &&& (63 : Int32))), .val (.ref b94), .val (.ref b107), .unset, .unset, .unset, .unset] [(.long (x2 &&& (9223372036854775807 : Int64))), (.ref b216), (.ref b216)])) t
        refine XS.lload X216.here hx rfl (hb hby at_63) rfl ?_
        show Steps p.tables e below (T216.setTop (mkF m 65 #[.val (.int x0), .val (.int x1), .val (.long x2), .second, .val (.long x3), .second, .val (.int x4), .val (.int (x0 &&& (63 : Int32))), .val (.int (x1 &&& (63 : Int32))), .val (.ref b94), .val (.ref b107), .unset, .unset, .unset, .unset] [(.long x3), (.long (x2 &&& (9223372036854775807 : Int64))), (.ref b216), (.ref b216)])) t
        refine X216.ldc2Long hx hown (mvT hZ (hw _ (List.mem_of_getElem? (i := 4) rfl))) (g := (mkF m 65 #[.val (.int x0), .val (.int x1), .val (.long x2), .second, .val (.long x3), .second, .val (.int x4), .val (.int (x0 &&& (63 : Int32))), .val (.int (x1 &&& (63 : Int32))), .val (.ref b94), .val (.ref b107), .unset, .unset, .unset, .unset] [(.long x3), (.long (x2 &&& (9223372036854775807 : Int64))), (.ref b216), (.ref b216)])) rfl (hb hby at_65) _ ?_
        show Steps p.tables e below (T216.setTop (mkF m 68 #[.val (.int x0), .val (.int x1), .val (.long x2), .second, .val (.long x3), .second, .val (.int x4), .val (.int (x0 &&& (63 : Int32))), .val (.int (x1 &&& (63 : Int32))), .val (.ref b94), .val (.ref b107), .unset, .unset, .unset, .unset] [(.long (9223372036854775807 : Int64)), (.long x3), (.long (x2 &&& (9223372036854775807 : Int64))), (.ref b216), (.ref b216)])) t
        refine XS.land X216.here hx rfl (hb hby at_68) rfl ?_
        exact k)
      have q230 := rng64 x2
      have q231 := (by decide : (9223372036854775807 : Int64).toInt = 9223372036854775807)
      have q232 := (show (x2 &&& (9223372036854775807 : Int64)).toInt = x2.toInt % 9223372036854775808 from c_maskL x2 (9223372036854775807 : Int64) 63 (by decide) (by decide))
      have q233 := rng64 (x2 &&& (9223372036854775807 : Int64))
      have q234 := rng64 x3
      have q235 := (show (x3 &&& (9223372036854775807 : Int64)).toInt = x3.toInt % 9223372036854775808 from c_maskL x3 (9223372036854775807 : Int64) 63 (by decide) (by decide))
      have q236 := rng64 (x3 &&& (9223372036854775807 : Int64))
      have q229 : 0 ≤ (x2 &&& (9223372036854775807 : Int64)).toInt ∧ 0 ≤ (x3 &&& (9223372036854775807 : Int64)).toInt := by omega
      obtain ⟨_, _, ⟨T237, L237, kk237, nn237⟩, -, X237, ⟨Lc237, hQ237, l237, y237, z237⟩, st237⟩ := X216.specialBack hx (y := (⟨"com/example/cursorweave/cursorweave/store/Position", "<init>", "(JJ)V"⟩ : MethodName)) rfl hown (mvT hZ (hw _ (List.mem_of_getElem? (i := 5) rfl))) (mvT hZ (hw _ (List.mem_of_getElem? (i := 6) rfl))) (mvT hZ (hw _ (List.mem_of_getElem? (i := 7) rfl))) (by decide) (backOf (W := 1) (rm1 l Z a0 hw [] b216 (x2 &&& (9223372036854775807 : Int64)) (x3 &&& (9223372036854775807 : Int64)) h216 n0 Z223 A216 F225 F226 gb219 q229) hZ (hw _ (List.mem_of_getElem? (i := 7) rfl)) (hw _ (List.mem_of_getElem? (i := 3) rfl)) (by decide) (by decide)) (g := (mkF m 69 #[.val (.int x0), .val (.int x1), .val (.long x2), .second, .val (.long x3), .second, .val (.int x4), .val (.int (x0 &&& (63 : Int32))), .val (.int (x1 &&& (63 : Int32))), .val (.ref b94), .val (.ref b107), .unset, .unset, .unset, .unset] [(.long (x3 &&& (9223372036854775807 : Int64))), (.long (x2 &&& (9223372036854775807 : Int64))), (.ref b216), (.ref b216)])) rfl (by rw [hml]; rfl) (Steps.refl _) (a := b216) (argsL := [(.long (x2 &&& (9223372036854775807 : Int64))), (.long (x3 &&& (9223372036854775807 : Int64)))]) (rest := [(.ref b216)]) (lenOf own_pd1 rfl) rfl (by show 2 * 0 + _ ≤ _; exact Nat.le_of_eq rfl) (hb hby at_69) (fun _ _ => ⟨rfl, e216, (by decide : 3 + 0 ≤ _), (by decide : 128 + 0 ≤ _)⟩)
      dsimp only [Pt.U, Pt.locs, Pt.cells, Pt.slots] at X237 l237 y237 z237 st237 hQ237
      subst l237 y237 z237
      obtain ⟨rfl, Sp237, Nq237, Kc237, Pc237_0⟩ := hQ237
      have N238 := Fr.app N126 Nq237
      obtain ⟨h237, e237⟩ : ∃ z, z = T237.heap := ⟨_, rfl⟩
      rw [← e237] at Kc237 Pc237_0
      have F239 := F221.keep Kc237 (ninS ne217 nin0)
      have F240 := F222.keep Kc237 (ninS ne218 nin0)
      have F241 := A216.keep Kc237
      have Kp242 : Keep h0 h237 [] := Keep.trans Kp224 Kc237 (allS (Or.inr sb220) all0)
      have Z243 : n0 ≤ h237.size := Nat.le_trans Z223 Kc237.1
      have K244 : ∀ t, Steps p.tables e below (T237.setTop (mkF m 72 #[.val (.int x0), .val (.int x1), .val (.long x2), .second, .val (.long x3), .second, .val (.int x4), .val (.int (x0 &&& (63 : Int32))), .val (.int (x1 &&& (63 : Int32))), .val (.ref b94), .val (.ref b107), .unset, .unset, .unset, .unset] [(.ref b216)])) t → Steps p.tables e below (s₁.setTop (entryFrame m #[(.int x0), (.int x1), (.long x2), (.long x3), (.int x4)] maxLocals)) t := fun t k => K228 t (st237.trans k)
      have K245 : ∀ t, Steps p.tables e below (T237.setTop (mkF m 74 #[.val (.int x0), .val (.int x1), .val (.long x2), .second, .val (.long x3), .second, .val (.int x4), .val (.int (x0 &&& (63 : Int32))), .val (.int (x1 &&& (63 : Int32))), .val (.ref b94), .val (.ref b107), .val (.ref b216), .unset, .unset, .unset] [])) t → Steps p.tables e below (s₁.setTop (entryFrame m #[(.int x0), (.int x1), (.long x2), (.long x3), (.int x4)] maxLocals)) t := fun t k => K244 t (by
        show Steps p.tables e below (T237.setTop (mkF m 72 #[.val (.int x0), .val (.int x1), .val (.long x2), .second, .val (.long x3), .second, .val (.int x4), .val (.int (x0 &&& (63 : Int32))), .val (.int (x1 &&& (63 : Int32))), .val (.ref b94), .val (.ref b107), .unset, .unset, .unset, .unset] [(.ref b216)])) t
        refine XS.astore X237.here hx rfl (hb hby at_72) rfl rfl (l' := #[.val (.int x0), .val (.int x1), .val (.long x2), .second, .val (.long x3), .second, .val (.int x4), .val (.int (x0 &&& (63 : Int32))), .val (.int (x1 &&& (63 : Int32))), .val (.ref b94), .val (.ref b107), .val (.ref b216), .unset, .unset, .unset]) rfl ?_
        exact k)
      obtain ⟨T246, h246, X246, e246, E246, A246, D246, M246, st246⟩ := newO X237 hx hZ hown (hw _ (List.mem_of_getElem? (i := 20) rfl)) (hw _ (List.mem_of_getElem? (i := 21) rfl)) (hw _ (List.mem_of_getElem? (i := 22) rfl)) e237.symm (g := (mkF m 74 #[.val (.int x0), .val (.int x1), .val (.long x2), .second, .val (.long x3), .second, .val (.int x4), .val (.int (x0 &&& (63 : Int32))), .val (.int (x1 &&& (63 : Int32))), .val (.ref b94), .val (.ref b107), .val (.ref b216), .unset, .unset, .unset] [])) rfl (hb hby at_74) (by decide) (by decide)
      obtain ⟨b246, g246⟩ : ∃ z, z = h237.size := ⟨_, rfl⟩
      rw [← g246] at A246 D246 M246 st246
      have ne247 : b107 ≠ b246 := Nat.ne_of_lt (Nat.lt_of_lt_of_le F239.lt (Nat.le_of_eq g246.symm))
      have ne248 : b94 ≠ b246 := Nat.ne_of_lt (Nat.lt_of_lt_of_le F240.lt (Nat.le_of_eq g246.symm))
      have ne249 : b216 ≠ b246 := Nat.ne_of_lt (Nat.lt_of_lt_of_le Pc237_0.lt (Nat.le_of_eq g246.symm))
      have gb250 : n0 ≤ b246 := Nat.le_trans Z243 (Nat.le_of_eq g246.symm)
      have sb251 : h0.size ≤ b246 := Nat.le_trans Kp242.1 (Nat.le_of_eq g246.symm)
      have F252 := F239.ext E246
      have F253 := F240.ext E246
      have F254 := Pc237_0.ext E246
      have Z255 : n0 ≤ h246.size := Nat.le_trans Z243 E246.1
      have Kp256 : Keep h0 h246 [] := Keep.ext Kp242 E246
      have F257 : Fld Z h246 b246 "com/example/cursorweave/cursorweave/store/Entry" "position" "Lcom/example/cursorweave/cursorweave/store/Position;" .null := D246 (Or.inr (hw _ (List.mem_of_getElem? (i := 28) rfl))) (ty := (.object "com/example/cursorweave/cursorweave/store/Position")) (by decide)
      have F258 : Fld Z h246 b246 "com/example/cursorweave/cursorweave/store/Entry" "metadata" "[B" .null := D246 (Or.inr (hw _ (List.mem_of_getElem? (i := 30) rfl))) (ty := (.array .byte)) (by decide)
      have F259 : Fld Z h246 b246 "com/example/cursorweave/cursorweave/store/Entry" "payload" "[B" .null := D246 (Or.inr (hw _ (List.mem_of_getElem? (i := 32) rfl))) (ty := (.array .byte)) (by decide)
      have K260 : ∀ t, Steps p.tables e below (T246.setTop (mkF m 77 #[.val (.int x0), .val (.int x1), .val (.long x2), .second, .val (.long x3), .second, .val (.int x4), .val (.int (x0 &&& (63 : Int32))), .val (.int (x1 &&& (63 : Int32))), .val (.ref b94), .val (.ref b107), .val (.ref b216), .unset, .unset, .unset] [(.ref b246)])) t → Steps p.tables e below (s₁.setTop (entryFrame m #[(.int x0), (.int x1), (.long x2), (.long x3), (.int x4)] maxLocals)) t := fun t k => K245 t (st246 _ k)
      have K261 : ∀ t, Steps p.tables e below (T246.setTop (mkF m 84 #[.val (.int x0), .val (.int x1), .val (.long x2), .second, .val (.long x3), .second, .val (.int x4), .val (.int (x0 &&& (63 : Int32))), .val (.int (x1 &&& (63 : Int32))), .val (.ref b94), .val (.ref b107), .val (.ref b216), .unset, .unset, .unset] [(.ref b107), (.ref b94), (.ref b216), (.ref b246), (.ref b246)])) t → Steps p.tables e below (s₁.setTop (entryFrame m #[(.int x0), (.int x1), (.long x2), (.long x3), (.int x4)] maxLocals)) t := fun t k => K260 t (by
        show Steps p.tables e below (T246.setTop (mkF m 77 #[.val (.int x0), .val (.int x1), .val (.long x2), .second, .val (.long x3), .second, .val (.int x4), .val (.int (x0 &&& (63 : Int32))), .val (.int (x1 &&& (63 : Int32))), .val (.ref b94), .val (.ref b107), .val (.ref b216), .unset, .unset, .unset] [(.ref b246)])) t
        refine XS.dup X246.here hx rfl (hb hby at_77) rfl rfl ?_
        show Steps p.tables e below (T246.setTop (mkF m 78 #[.val (.int x0), .val (.int x1), .val (.long x2), .second, .val (.long x3), .second, .val (.int x4), .val (.int (x0 &&& (63 : Int32))), .val (.int (x1 &&& (63 : Int32))), .val (.ref b94), .val (.ref b107), .val (.ref b216), .unset, .unset, .unset] [(.ref b246), (.ref b246)])) t
        refine XS.aload X246.here hx rfl (hb hby at_78) rfl rfl ?_
        show Steps p.tables e below (T246.setTop (mkF m 80 #[.val (.int x0), .val (.int x1), .val (.long x2), .second, .val (.long x3), .second, .val (.int x4), .val (.int (x0 &&& (63 : Int32))), .val (.int (x1 &&& (63 : Int32))), .val (.ref b94), .val (.ref b107), .val (.ref b216), .unset, .unset, .unset] [(.ref b216), (.ref b246), (.ref b246)])) t
        refine XS.aload X246.here hx rfl (hb hby at_80) rfl rfl ?_
        show Steps p.tables e below (T246.setTop (mkF m 82 #[.val (.int x0), .val (.int x1), .val (.long x2), .second, .val (.long x3), .second, .val (.int x4), .val (.int (x0 &&& (63 : Int32))), .val (.int (x1 &&& (63 : Int32))), .val (.ref b94), .val (.ref b107), .val (.ref b216), .unset, .unset, .unset] [(.ref b94), (.ref b216), (.ref b246), (.ref b246)])) t
        refine XS.aload X246.here hx rfl (hb hby at_82) rfl rfl ?_
        exact k)
      obtain ⟨_, _, ⟨T262, L262, kk262, nn262⟩, -, X262, ⟨Lc262, hQ262, l262, y262, z262⟩, st262⟩ := X246.specialBack hx (y := (⟨"com/example/cursorweave/cursorweave/store/Entry", "<init>", "(Lcom/example/cursorweave/cursorweave/store/Position;[B[B)V"⟩ : MethodName)) rfl hown (mvT hZ (hw _ (List.mem_of_getElem? (i := 23) rfl))) (mvT hZ (hw _ (List.mem_of_getElem? (i := 24) rfl))) (mvT hZ (hw _ (List.mem_of_getElem? (i := 25) rfl))) (by decide) (backOf (W := 1) (rm4 l Z a0 hw [] b246 b216 b94 b107 h246 n0 Z255 A246 F257 F258 F259 gb250) hZ (hw _ (List.mem_of_getElem? (i := 25) rfl)) (hw _ (List.mem_of_getElem? (i := 22) rfl)) (by decide) (by decide)) (g := (mkF m 84 #[.val (.int x0), .val (.int x1), .val (.long x2), .second, .val (.long x3), .second, .val (.int x4), .val (.int (x0 &&& (63 : Int32))), .val (.int (x1 &&& (63 : Int32))), .val (.ref b94), .val (.ref b107), .val (.ref b216), .unset, .unset, .unset] [(.ref b107), (.ref b94), (.ref b216), (.ref b246), (.ref b246)])) rfl (by rw [hml]; rfl) (Steps.refl _) (a := b246) (argsL := [(.ref b216), (.ref b94), (.ref b107)]) (rest := [(.ref b246)]) (lenOf own_pd2 rfl) rfl (by show 2 * 0 + _ ≤ _; exact Nat.le_of_eq rfl) (hb hby at_84) (fun _ _ => ⟨rfl, e246, (by decide : 4 + 0 ≤ _), (by decide : 131 + 0 ≤ _)⟩)
      dsimp only [Pt.U, Pt.locs, Pt.cells, Pt.slots] at X262 l262 y262 z262 st262 hQ262
      subst l262 y262 z262
      obtain ⟨rfl, Sp262, Nq262, Kc262, Pc262_0, Pc262_1, Pc262_2⟩ := hQ262
      have N263 := Fr.app N238 Nq262
      obtain ⟨h262, e262⟩ : ∃ z, z = T262.heap := ⟨_, rfl⟩
      rw [← e262] at Kc262 Pc262_0 Pc262_1 Pc262_2
      have F264 := F252.keep Kc262 (ninS ne247 nin0)
      have F265 := F253.keep Kc262 (ninS ne248 nin0)
      have F266 := F254.keep Kc262
      have F267 := A246.keep Kc262
      have Kp268 : Keep h0 h262 [] := Keep.trans Kp256 Kc262 (allS (Or.inr sb251) all0)
      have Z269 : n0 ≤ h262.size := Nat.le_trans Z255 Kc262.1
      have K270 : ∀ t, Steps p.tables e below (T262.setTop (mkF m 87 #[.val (.int x0), .val (.int x1), .val (.long x2), .second, .val (.long x3), .second, .val (.int x4), .val (.int (x0 &&& (63 : Int32))), .val (.int (x1 &&& (63 : Int32))), .val (.ref b94), .val (.ref b107), .val (.ref b216), .unset, .unset, .unset] [(.ref b246)])) t → Steps p.tables e below (s₁.setTop (entryFrame m #[(.int x0), (.int x1), (.long x2), (.long x3), (.int x4)] maxLocals)) t := fun t k => K261 t (st262.trans k)
      have K271 : ∀ t, Steps p.tables e below (T262.setTop (mkF m 91 #[.val (.int x0), .val (.int x1), .val (.long x2), .second, .val (.long x3), .second, .val (.int x4), .val (.int (x0 &&& (63 : Int32))), .val (.int (x1 &&& (63 : Int32))), .val (.ref b94), .val (.ref b107), .val (.ref b216), .val (.ref b246), .unset, .unset] [(.ref b246)])) t → Steps p.tables e below (s₁.setTop (entryFrame m #[(.int x0), (.int x1), (.long x2), (.long x3), (.int x4)] maxLocals)) t := fun t k => K270 t (by
        show Steps p.tables e below (T262.setTop (mkF m 87 #[.val (.int x0), .val (.int x1), .val (.long x2), .second, .val (.long x3), .second, .val (.int x4), .val (.int (x0 &&& (63 : Int32))), .val (.int (x1 &&& (63 : Int32))), .val (.ref b94), .val (.ref b107), .val (.ref b216), .unset, .unset, .unset] [(.ref b246)])) t
        refine XS.astore X262.here hx rfl (hb hby at_87) rfl rfl (l' := #[.val (.int x0), .val (.int x1), .val (.long x2), .second, .val (.long x3), .second, .val (.int x4), .val (.int (x0 &&& (63 : Int32))), .val (.int (x1 &&& (63 : Int32))), .val (.ref b94), .val (.ref b107), .val (.ref b216), .val (.ref b246), .unset, .unset]) rfl ?_
        show Steps p.tables e below (T262.setTop (mkF m 89 #[.val (.int x0), .val (.int x1), .val (.long x2), .second, .val (.long x3), .second, .val (.int x4), .val (.int (x0 &&& (63 : Int32))), .val (.int (x1 &&& (63 : Int32))), .val (.ref b94), .val (.ref b107), .val (.ref b216), .val (.ref b246), .unset, .unset] [])) t
        refine XS.aload X262.here hx rfl (hb hby at_89) rfl rfl ?_
        exact k)
      obtain ⟨cq272, kq272, q272a, q272b, q272c⟩ := isOf hZ e262.symm Pc262_0
      obtain ⟨_, _, ⟨T272, L272, kk272, nn272⟩, -, X272, ⟨Lc272, hQ272, l272, y272, z272⟩, st272⟩ := X262.virtualBack hx (y := (⟨"com/example/cursorweave/cursorweave/store/Entry", "size", "()J"⟩ : MethodName)) (z := (⟨"com/example/cursorweave/cursorweave/store/Entry", "size", "()J"⟩ : MethodName)) hown (mvT hZ (hw _ (List.mem_of_getElem? (i := 33) rfl))) (mvT hZ (hw _ (List.mem_of_getElem? (i := 34) rfl))) (notFace_of_selects (args := #[]) (mvT hZ (hw _ (List.mem_of_getElem? (i := 36) rfl)))) (mvT hZ (hw _ (List.mem_of_getElem? (i := 36) rfl))) (mvT hZ (hw _ (List.mem_of_getElem? (i := 35) rfl))) (by decide) (backOf (W := 0) (rm5 l Z a0 hw [] b246 b94 b107 (x0 &&& (63 : Int32)) (x1 &&& (63 : Int32)) h262 n0 Z269 Pc262_1 Pc262_2 F265 F264) hZ (hw _ (List.mem_of_getElem? (i := 37) rfl)) (hw _ (List.mem_of_getElem? (i := 22) rfl)) (by decide) (by decide)) q272a q272c (g := (mkF m 91 #[.val (.int x0), .val (.int x1), .val (.long x2), .second, .val (.long x3), .second, .val (.int x4), .val (.int (x0 &&& (63 : Int32))), .val (.int (x1 &&& (63 : Int32))), .val (.ref b94), .val (.ref b107), .val (.ref b216), .val (.ref b246), .unset, .unset] [(.ref b246)])) rfl (by rw [hml]; rfl) (Steps.refl _) (argsL := []) (rest := []) (lenOf own_pd3 rfl) rfl (by show 2 * 0 + _ ≤ _; exact Nat.le_of_eq rfl) (hb hby at_91) (fun _ _ => ⟨rfl, e262.symm, (by decide : 4 + 0 ≤ _), (by decide : 131 + 0 ≤ _)⟩)
      dsimp only [Pt.U, Pt.locs, Pt.cells, Pt.slots] at X272 l272 y272 z272 st272 hQ272
      subst l272 y272 z272
      obtain ⟨r_272, rfl, Sp272, Nq272, eh272⟩ := hQ272
      have N273 := Fr.app N263 Nq272
      have K274 : ∀ t, Steps p.tables e below (T272.setTop (mkF m 94 #[.val (.int x0), .val (.int x1), .val (.long x2), .second, .val (.long x3), .second, .val (.int x4), .val (.int (x0 &&& (63 : Int32))), .val (.int (x1 &&& (63 : Int32))), .val (.ref b94), .val (.ref b107), .val (.ref b216), .val (.ref b246), .unset, .unset] [(.long r_272)])) t → Steps p.tables e below (s₁.setTop (entryFrame m #[(.int x0), (.int x1), (.long x2), (.long x3), (.int x4)] maxLocals)) t := fun t k => K271 t (st272.trans k)
      have q276 := rng64 r_272
      have q277 := c_i2l (x0 &&& (63 : Int32))
      have q278 := rng64 ((x0 &&& (63 : Int32)).toInt64)
      have q279 := c_i2l (x1 &&& (63 : Int32))
      have q280 := rng64 ((x1 &&& (63 : Int32)).toInt64)
      have q281 := c_ladd ((x0 &&& (63 : Int32)).toInt64) ((x1 &&& (63 : Int32)).toInt64)
      have q282 := rng64 (((x0 &&& (63 : Int32)).toInt64) + ((x1 &&& (63 : Int32)).toInt64))
      have q283 := c_lcmp r_272 (((x0 &&& (63 : Int32)).toInt64) + ((x1 &&& (63 : Int32)).toInt64))
      have hc275 : (lcmpW r_272 (((x0 &&& (63 : Int32)).toInt64) + ((x1 &&& (63 : Int32)).toInt64))) = (0 : Int32) := Int32.toInt_inj.mp (by omega)
      have q284 : (lcmpW r_272 (((x0 &&& (63 : Int32)).toInt64) + ((x1 &&& (63 : Int32)).toInt64))).toInt = (0 : Int32).toInt := congrArg Int32.toInt hc275
      have K285 : ∀ t, Steps p.tables e below (T272.setTop (mkF m 114 #[.val (.int x0), .val (.int x1), .val (.long x2), .second, .val (.long x3), .second, .val (.int x4), .val (.int (x0 &&& (63 : Int32))), .val (.int (x1 &&& (63 : Int32))), .val (.ref b94), .val (.ref b107), .val (.ref b216), .val (.ref b246), .val (.long r_272), .second] [(.int (1 : Int32))])) t → Steps p.tables e below (s₁.setTop (entryFrame m #[(.int x0), (.int x1), (.long x2), (.long x3), (.int x4)] maxLocals)) t := fun t k => K274 t (by
        show Steps p.tables e below (T272.setTop (mkF m 94 #[.val (.int x0), .val (.int x1), .val (.long x2), .second, .val (.long x3), .second, .val (.int x4), .val (.int (x0 &&& (63 : Int32))), .val (.int (x1 &&& (63 : Int32))), .val (.ref b94), .val (.ref b107), .val (.ref b216), .val (.ref b246), .unset, .unset] [(.long r_272)])) t
        refine XS.lstore X272.here hx rfl (hb hby at_94) rfl (l' := #[.val (.int x0), .val (.int x1), .val (.long x2), .second, .val (.long x3), .second, .val (.int x4), .val (.int (x0 &&& (63 : Int32))), .val (.int (x1 &&& (63 : Int32))), .val (.ref b94), .val (.ref b107), .val (.ref b216), .val (.ref b246), .val (.long r_272), .second]) rfl ?_
        show Steps p.tables e below (T272.setTop (mkF m 96 #[.val (.int x0), .val (.int x1), .val (.long x2), .second, .val (.long x3), .second, .val (.int x4), .val (.int (x0 &&& (63 : Int32))), .val (.int (x1 &&& (63 : Int32))), .val (.ref b94), .val (.ref b107), .val (.ref b216), .val (.ref b246), .val (.long r_272), .second] [])) t
        refine XS.lload X272.here hx rfl (hb hby at_96) rfl ?_
        show Steps p.tables e below (T272.setTop (mkF m 98 #[.val (.int x0), .val (.int x1), .val (.long x2), .second, .val (.long x3), .second, .val (.int x4), .val (.int (x0 &&& (63 : Int32))), .val (.int (x1 &&& (63 : Int32))), .val (.ref b94), .val (.ref b107), .val (.ref b216), .val (.ref b246), .val (.long r_272), .second] [(.long r_272)])) t
        refine XS.iload X272.here hx rfl (hb hby at_98) rfl ?_
        show Steps p.tables e below (T272.setTop (mkF m 100 #[.val (.int x0), .val (.int x1), .val (.long x2), .second, .val (.long x3), .second, .val (.int x4), .val (.int (x0 &&& (63 : Int32))), .val (.int (x1 &&& (63 : Int32))), .val (.ref b94), .val (.ref b107), .val (.ref b216), .val (.ref b246), .val (.long r_272), .second] [(.int (x0 &&& (63 : Int32))), (.long r_272)])) t
        refine XS.i2l X272.here hx rfl (hb hby at_100) rfl ?_
        show Steps p.tables e below (T272.setTop (mkF m 101 #[.val (.int x0), .val (.int x1), .val (.long x2), .second, .val (.long x3), .second, .val (.int x4), .val (.int (x0 &&& (63 : Int32))), .val (.int (x1 &&& (63 : Int32))), .val (.ref b94), .val (.ref b107), .val (.ref b216), .val (.ref b246), .val (.long r_272), .second] [(.long ((x0 &&& (63 : Int32)).toInt64)), (.long r_272)])) t
        refine XS.iload X272.here hx rfl (hb hby at_101) rfl ?_
        show Steps p.tables e below (T272.setTop (mkF m 103 #[.val (.int x0), .val (.int x1), .val (.long x2), .second, .val (.long x3), .second, .val (.int x4), .val (.int (x0 &&& (63 : Int32))), .val (.int (x1 &&& (63 : Int32))), .val (.ref b94), .val (.ref b107), .val (.ref b216), .val (.ref b246), .val (.long r_272), .second] [(.int (x1 &&& (63 : Int32))), (.long ((x0 &&& (63 : Int32)).toInt64)), (.long r_272)])) t
        refine XS.i2l X272.here hx rfl (hb hby at_103) rfl ?_
        show Steps p.tables e below (T272.setTop (mkF m 104 #[.val (.int x0), .val (.int x1), .val (.long x2), .second, .val (.long x3), .second, .val (.int x4), .val (.int (x0 &&& (63 : Int32))), .val (.int (x1 &&& (63 : Int32))), .val (.ref b94), .val (.ref b107), .val (.ref b216), .val (.ref b246), .val (.long r_272), .second] [(.long ((x1 &&& (63 : Int32)).toInt64)), (.long ((x0 &&& (63 : Int32)).toInt64)), (.long r_272)])) t
        refine XS.ladd X272.here hx rfl (hb hby at_104) rfl ?_
        show Steps p.tables e below (T272.setTop (mkF m 105 #[.val (.int x0), .val (.int x1), .val (.long x2), .second, .val (.long x3), .second, .val (.int x4), .val (.int (x0 &&& (63 : Int32))), .val (.int (x1 &&& (63 : Int32))), .val (.ref b94), .val (.ref b107), .val (.ref b216), .val (.ref b246), .val (.long r_272), .second] [(.long (((x0 &&& (63 : Int32)).toInt64) + ((x1 &&& (63 : Int32)).toInt64))), (.long r_272)])) t
        refine XS.lcmp X272.here hx rfl (hb hby at_105) rfl ?_
        show Steps p.tables e below (T272.setTop (mkF m 106 #[.val (.int x0), .val (.int x1), .val (.long x2), .second, .val (.long x3), .second, .val (.int x4), .val (.int (x0 &&& (63 : Int32))), .val (.int (x1 &&& (63 : Int32))), .val (.ref b94), .val (.ref b107), .val (.ref b216), .val (.ref b246), .val (.long r_272), .second] [(.int (lcmpW r_272 (((x0 &&& (63 : Int32)).toInt64) + ((x1 &&& (63 : Int32)).toInt64))))])) t
        refine XS.ifNo X272.here hx rfl (hb hby at_106) rfl ((if0 _ _).trans (teq hc275).2) ?_
        show Steps p.tables e below (T272.setTop (mkF m 109 #[.val (.int x0), .val (.int x1), .val (.long x2), .second, .val (.long x3), .second, .val (.int x4), .val (.int (x0 &&& (63 : Int32))), .val (.int (x1 &&& (63 : Int32))), .val (.ref b94), .val (.ref b107), .val (.ref b216), .val (.ref b246), .val (.long r_272), .second] [])) t
        refine XS.iconst X272.here hx rfl (hb hby at_109) ?_
        show Steps p.tables e below (T272.setTop (mkF m 110 #[.val (.int x0), .val (.int x1), .val (.long x2), .second, .val (.long x3), .second, .val (.int x4), .val (.int (x0 &&& (63 : Int32))), .val (.int (x1 &&& (63 : Int32))), .val (.ref b94), .val (.ref b107), .val (.ref b216), .val (.ref b246), .val (.long r_272), .second] [(.int (1 : Int32))])) t
        refine XS.goto X272.here hx rfl (pc0 := 110) (pc' := 114) rfl (hb hby at_110) (by decide) (by decide) ?_
        exact k)
      obtain ⟨fs, hr, hrun, hended, hW, hsame⟩ := X272.leave (v := some (.int (1 : Int32))) (fun h => by rw [Bd.returns] at h; cases h)
      refine ⟨_, _, K285 _ ?_, hrun, hended, _, _, rfl, ?_, ⟨_, rfl⟩, hW, hsame.mono (by decide) (by decide)⟩
      · exact retN X272 hx (t := .boolean) Bd.returns (by simp) (hb hby at_114) hr
      · show Q_rm0 Z x0 x1 x2 x3 x4 h0 n0 _ T272.heap _
        have q286 := (by decide : (1 : Int32).toInt = 1)
        rw [eh272]
        exact ⟨rfl, (by trivial), N273, Kp268⟩
  · have q287 : ¬ (0 : Int32).toInt < (x0 &&& (63 : Int32)).toInt := fun q => hc116 (Int32.lt_iff_toInt_lt.mpr q)
    have K289 : ∀ t, Steps p.tables e below (T107.setTop (mkF m 38 #[.val (.int x0), .val (.int x1), .val (.long x2), .second, .val (.long x3), .second, .val (.int x4), .val (.int (x0 &&& (63 : Int32))), .val (.int (x1 &&& (63 : Int32))), .val (.ref b94), .val (.ref b107), .unset, .unset, .unset, .unset] [(.int (x1 &&& (63 : Int32)))])) t → Steps p.tables e below (s₁.setTop (entryFrame m #[(.int x0), (.int x1), (.long x2), (.long x3), (.int x4)] maxLocals)) t := fun t k => K117 t (by
      show Steps p.tables e below (T107.setTop (mkF m 26 #[.val (.int x0), .val (.int x1), .val (.long x2), .second, .val (.long x3), .second, .val (.int x4), .val (.int (x0 &&& (63 : Int32))), .val (.int (x1 &&& (63 : Int32))), .val (.ref b94), .val (.ref b107), .unset, .unset, .unset, .unset] [(.int (x0 &&& (63 : Int32)))])) t
      refine XS.ifYes X107.here hx rfl (pc0 := 26) (pc' := 36) rfl (hb hby at_26) rfl ((if0 _ _).trans (flt hc116).2.2.2) (by decide) (by decide) ?_
      show Steps p.tables e below (T107.setTop (mkF m 36 #[.val (.int x0), .val (.int x1), .val (.long x2), .second, .val (.long x3), .second, .val (.int x4), .val (.int (x0 &&& (63 : Int32))), .val (.int (x1 &&& (63 : Int32))), .val (.ref b94), .val (.ref b107), .unset, .unset, .unset, .unset] [])) t
      refine XS.iload X107.here hx rfl (hb hby at_36) rfl ?_
      exact k)
    by_cases hc288 : (0 : Int32) < (x1 &&& (63 : Int32))
    · have q290 : (0 : Int32).toInt < (x1 &&& (63 : Int32)).toInt := Int32.lt_iff_toInt_lt.mp hc288
      have K291 : ∀ t, Steps p.tables e below (T107.setTop (mkF m 53 #[.val (.int x0), .val (.int x1), .val (.long x2), .second, .val (.long x3), .second, .val (.int x4), .val (.int (x0 &&& (63 : Int32))), .val (.int (x1 &&& (63 : Int32))), .val (.ref b94), .val (.ref b107), .unset, .unset, .unset, .unset] [(.int ((x4 >>> ((8 : Int32) &&& 31)).toInt8.toInt32)), (.int ((x1 &&& (63 : Int32)) - (1 : Int32))), (.ref b107)])) t → Steps p.tables e below (s₁.setTop (entryFrame m #[(.int x0), (.int x1), (.long x2), (.long x3), (.int x4)] maxLocals)) t := fun t k => K289 t (by
        show Steps p.tables e below (T107.setTop (mkF m 38 #[.val (.int x0), .val (.int x1), .val (.long x2), .second, .val (.long x3), .second, .val (.int x4), .val (.int (x0 &&& (63 : Int32))), .val (.int (x1 &&& (63 : Int32))), .val (.ref b94), .val (.ref b107), .unset, .unset, .unset, .unset] [(.int (x1 &&& (63 : Int32)))])) t
        refine XS.ifNo X107.here hx rfl (hb hby at_38) rfl ((if0 _ _).trans (tlt hc288).2.2.2) ?_
        show Steps p.tables e below (T107.setTop (mkF m 41 #[.val (.int x0), .val (.int x1), .val (.long x2), .second, .val (.long x3), .second, .val (.int x4), .val (.int (x0 &&& (63 : Int32))), .val (.int (x1 &&& (63 : Int32))), .val (.ref b94), .val (.ref b107), .unset, .unset, .unset, .unset] [])) t
        refine XS.aload X107.here hx rfl (hb hby at_41) rfl rfl ?_
        show Steps p.tables e below (T107.setTop (mkF m 43 #[.val (.int x0), .val (.int x1), .val (.long x2), .second, .val (.long x3), .second, .val (.int x4), .val (.int (x0 &&& (63 : Int32))), .val (.int (x1 &&& (63 : Int32))), .val (.ref b94), .val (.ref b107), .unset, .unset, .unset, .unset] [(.ref b107)])) t
        refine XS.iload X107.here hx rfl (hb hby at_43) rfl ?_
        show Steps p.tables e below (T107.setTop (mkF m 45 #[.val (.int x0), .val (.int x1), .val (.long x2), .second, .val (.long x3), .second, .val (.int x4), .val (.int (x0 &&& (63 : Int32))), .val (.int (x1 &&& (63 : Int32))), .val (.ref b94), .val (.ref b107), .unset, .unset, .unset, .unset] [(.int (x1 &&& (63 : Int32))), (.ref b107)])) t
        refine XS.iconst X107.here hx rfl (hb hby at_45) ?_
        show Steps p.tables e below (T107.setTop (mkF m 46 #[.val (.int x0), .val (.int x1), .val (.long x2), .second, .val (.long x3), .second, .val (.int x4), .val (.int (x0 &&& (63 : Int32))), .val (.int (x1 &&& (63 : Int32))), .val (.ref b94), .val (.ref b107), .unset, .unset, .unset, .unset] [(.int (1 : Int32)), (.int (x1 &&& (63 : Int32))), (.ref b107)])) t
        refine XS.isub X107.here hx rfl (hb hby at_46) rfl ?_
        show Steps p.tables e below (T107.setTop (mkF m 47 #[.val (.int x0), .val (.int x1), .val (.long x2), .second, .val (.long x3), .second, .val (.int x4), .val (.int (x0 &&& (63 : Int32))), .val (.int (x1 &&& (63 : Int32))), .val (.ref b94), .val (.ref b107), .unset, .unset, .unset, .unset] [(.int ((x1 &&& (63 : Int32)) - (1 : Int32))), (.ref b107)])) t
        refine XS.iload X107.here hx rfl (hb hby at_47) rfl ?_
        show Steps p.tables e below (T107.setTop (mkF m 49 #[.val (.int x0), .val (.int x1), .val (.long x2), .second, .val (.long x3), .second, .val (.int x4), .val (.int (x0 &&& (63 : Int32))), .val (.int (x1 &&& (63 : Int32))), .val (.ref b94), .val (.ref b107), .unset, .unset, .unset, .unset] [(.int x4), (.int ((x1 &&& (63 : Int32)) - (1 : Int32))), (.ref b107)])) t
        refine XS.bipush X107.here hx rfl (hb hby at_49) ?_
        show Steps p.tables e below (T107.setTop (mkF m 51 #[.val (.int x0), .val (.int x1), .val (.long x2), .second, .val (.long x3), .second, .val (.int x4), .val (.int (x0 &&& (63 : Int32))), .val (.int (x1 &&& (63 : Int32))), .val (.ref b94), .val (.ref b107), .unset, .unset, .unset, .unset] [(.int (8 : Int32)), (.int x4), (.int ((x1 &&& (63 : Int32)) - (1 : Int32))), (.ref b107)])) t
        refine XS.ishr X107.here hx rfl (hb hby at_51) rfl ?_
        show Steps p.tables e below (T107.setTop (mkF m 52 #[.val (.int x0), .val (.int x1), .val (.long x2), .second, .val (.long x3), .second, .val (.int x4), .val (.int (x0 &&& (63 : Int32))), .val (.int (x1 &&& (63 : Int32))), .val (.ref b94), .val (.ref b107), .unset, .unset, .unset, .unset] [(.int (x4 >>> ((8 : Int32) &&& 31))), (.int ((x1 &&& (63 : Int32)) - (1 : Int32))), (.ref b107)])) t
        refine XS.i2b X107.here hx rfl (hb hby at_52) rfl ?_
        exact k)
      have q293 := (by decide : (1 : Int32).toInt = 1)
      have q294 := c_isub (x1 &&& (63 : Int32)) (1 : Int32)
      have q295 := rng32 ((x1 &&& (63 : Int32)) - (1 : Int32))
      have q296 : ¬ ((x1 &&& (63 : Int32)) - (1 : Int32)) < 0 ∧ ((x1 &&& (63 : Int32)) - (1 : Int32)) < (x1 &&& (63 : Int32)) := by rw [Int32.lt_iff_toInt_lt, Int32.lt_iff_toInt_lt]; have q0 : (0 : Int32).toInt = 0 := rfl; omega
      obtain ⟨cl292, Ar292, S292, N292⟩ := V114
      have hin292 : ¬ (((x1 &&& (63 : Int32)) - (1 : Int32)) < 0 ∨ cl292.slots.size ≤ (((x1 &&& (63 : Int32)) - (1 : Int32))).toNatClampNeg) := inb_of S292 q296
      obtain ⟨T292, h292, X292, e292, W292, st292⟩ := stB X107 hx hZ e107 Ar292 (j := ((x1 &&& (63 : Int32)) - (1 : Int32))) hin292 (g := (mkF m 53 #[.val (.int x0), .val (.int x1), .val (.long x2), .second, .val (.long x3), .second, .val (.int x4), .val (.int (x0 &&& (63 : Int32))), .val (.int (x1 &&& (63 : Int32))), .val (.ref b94), .val (.ref b107), .unset, .unset, .unset, .unset] [(.int ((x4 >>> ((8 : Int32) &&& 31)).toInt8.toInt32)), (.int ((x1 &&& (63 : Int32)) - (1 : Int32))), (.ref b107)])) rfl rfl (hb hby at_53)
      have V297 : own_Arl Z h292 b107 .byte (x1 &&& (63 : Int32)) := own_Arl.same Ar292 S292 N292 W292
      have Kp298 : Keep h0 h292 [] := Keep.wr Kp113 W292 (Or.inr sb110)
      have Z299 : n0 ≤ h292.size := Nat.le_trans Z112 (Keep.of_wr W292).1
      have N300 := Fr.snoc X292 N0 gb109
      have F301 := F111.other W292 ne108
      have K302 : ∀ t, Steps p.tables e below (T292.setTop (mkF m 54 #[.val (.int x0), .val (.int x1), .val (.long x2), .second, .val (.long x3), .second, .val (.int x4), .val (.int (x0 &&& (63 : Int32))), .val (.int (x1 &&& (63 : Int32))), .val (.ref b94), .val (.ref b107), .unset, .unset, .unset, .unset] [])) t → Steps p.tables e below (s₁.setTop (entryFrame m #[(.int x0), (.int x1), (.long x2), (.long x3), (.int x4)] maxLocals)) t := fun t k => K291 t (st292 _ k)
      obtain ⟨T303, h303, X303, e303, E303, A303, D303, M303, st303⟩ := newO X292 hx hZ hown (hw _ (List.mem_of_getElem? (i := 1) rfl)) (hw _ (List.mem_of_getElem? (i := 2) rfl)) (hw _ (List.mem_of_getElem? (i := 3) rfl)) e292 (g := (mkF m 54 #[.val (.int x0), .val (.int x1), .val (.long x2), .second, .val (.long x3), .second, .val (.int x4), .val (.int (x0 &&& (63 : Int32))), .val (.int (x1 &&& (63 : Int32))), .val (.ref b94), .val (.ref b107), .unset, .unset, .unset, .unset] [])) rfl (hb hby at_54) (by decide) (by decide)
      obtain ⟨b303, g303⟩ : ∃ z, z = h292.size := ⟨_, rfl⟩
      rw [← g303] at A303 D303 M303 st303
      have ne304 : b94 ≠ b303 := Nat.ne_of_lt (Nat.lt_of_lt_of_le F301.lt (Nat.le_of_eq g303.symm))
      have ne305 : b107 ≠ b303 := Nat.ne_of_lt (Nat.lt_of_lt_of_le V297.lt (Nat.le_of_eq g303.symm))
      have gb306 : n0 ≤ b303 := Nat.le_trans Z299 (Nat.le_of_eq g303.symm)
      have sb307 : h0.size ≤ b303 := Nat.le_trans Kp298.1 (Nat.le_of_eq g303.symm)
      have F308 := F301.ext E303
      have F309 := V297.ext E303
      have Z310 : n0 ≤ h303.size := Nat.le_trans Z299 E303.1
      have Kp311 : Keep h0 h303 [] := Keep.ext Kp298 E303
      have F312 : Fld Z h303 b303 "com/example/cursorweave/cursorweave/store/Position" "ledger" "J" (.long (0 : Int64)) := D303 (Or.inr (hw _ (List.mem_of_getElem? (i := 17) rfl))) (ty := .long) (by decide)
      have F313 : Fld Z h303 b303 "com/example/cursorweave/cursorweave/store/Position" "entry" "J" (.long (0 : Int64)) := D303 (Or.inr (hw _ (List.mem_of_getElem? (i := 19) rfl))) (ty := .long) (by decide)
      have K314 : ∀ t, Steps p.tables e below (T303.setTop (mkF m 57 #[.val (.int x0), .val (.int x1), .val (.long x2), .second, .val (.long x3), .second, .val (.int x4), .val (.int (x0 &&& (63 : Int32))), .val (.int (x1 &&& (63 : Int32))), .val (.ref b94), .val (.ref b107), .unset, .unset, .unset, .unset] [(.ref b303)])) t → Steps p.tables e below (s₁.setTop (entryFrame m #[(.int x0), (.int x1), (.long x2), (.long x3), (.int x4)] maxLocals)) t := fun t k => K302 t (st303 _ k)
      have K315 : ∀ t, Steps p.tables e below (T303.setTop (mkF m 69 #[.val (.int x0), .val (.int x1), .val (.long x2), .second, .val (.long x3), .second, .val (.int x4), .val (.int (x0 &&& (63 : Int32))), .val (.int (x1 &&& (63 : Int32))), .val (.ref b94), .val (.ref b107), .unset, .unset, .unset, .unset] [(.long (x3 &&& (9223372036854775807 : Int64))), (.long (x2 &&& (9223372036854775807 : Int64))), (.ref b303), (.ref b303)])) t → Steps p.tables e below (s₁.setTop (entryFrame m #[(.int x0), (.int x1), (.long x2), (.long x3), (.int x4)] maxLocals)) t := fun t k => K314 t (by
        show Steps p.tables e below (T303.setTop (mkF m 57 #[.val (.int x0), .val (.int x1), .val (.long x2), .second, .val (.long x3), .second, .val (.int x4), .val (.int (x0 &&& (63 : Int32))), .val (.int (x1 &&& (63 : Int32))), .val (.ref b94), .val (.ref b107), .unset, .unset, .unset, .unset] [(.ref b303)])) t
        refine XS.dup X303.here hx rfl (hb hby at_57) rfl rfl ?_
        show Steps p.tables e below (T303.setTop (mkF m 58 #[.val (.int x0), .val (.int x1), .val (.long x2), .second, .val (.long x3), .second, .val (.int x4), .val (.int (x0 &&& (63 : Int32))), .val (.int (x1 &&& (63 : Int32))), .val (.ref b94), .val (.ref b107), .unset, .unset, .unset, .unset] [(.ref b303), (.ref b303)])) t
        refine XS.lloadN X303.here hx rfl (hb hby at_58) rfl ?_
        show Steps p.tables e below (T303.setTop (mkF m 59 #[.val (.int x0), .val (.int x1), .val (.long x2), .second, .val (.long x3), .second, .val (.int x4), .val (.int (x0 &&& (63 : Int32))), .val (.int (x1 &&& (63 : Int32))), .val (.ref b94), .val (.ref b107), .unset, .unset, .unset, .unset] [(.long x2), (.ref b303), (.ref b303)])) t
        refine X303.ldc2Long hx hown (mvT hZ (hw _ (List.mem_of_getElem? (i := 4) rfl))) (g := (mkF m 59 #[.val (.int x0), .val (.int x1), .val (.long x2), .second, .val (.long x3), .second, .val (.int x4), .val (.int (x0 &&& (63 : Int32))), .val (.int (x1 &&& (63 : Int32))), .val (.ref b94), .val (.ref b107), .unset, .unset, .unset, .unset] [(.long x2), (.ref b303), (.ref b303)])) rfl (hb hby at_59) _ ?_
        show Steps p.tables e below (T303.setTop (mkF m 62 #[.val (.int x0), .val (.int x1), .val (.long x2), .second, .val (.long x3), .second, .val (.int x4), .val (.int (x0 &&& (63 : Int32))), .val (.int (x1 &&& (63 : Int32))), .val (.ref b94), .val (.ref b107), .unset, .unset, .unset, .unset] [(.long (9223372036854775807 : Int64)), (.long x2), (.ref b303), (.ref b303)])) t
        refine XS.land X303.here hx rfl (hb hby at_62) rfl ?_
        show Steps p.tables e below (T303.setTop (mkF m 63 #[.val (.int x0), .val (.int x1), .val (.long x2), .second, .val (.long x3), .second, .val (.int x4), .val (.int (x0 &&& (63 : Int32))), .val (.int (x1 &&& (63 : Int32))), .val (.ref b94), .val (.ref b107), .unset, .unset, .unset, .unset] [(.long (x2 &&& (9223372036854775807 : Int64))), (.ref b303), (.ref b303)])) t
        refine XS.lload X303.here hx rfl (hb hby at_63) rfl ?_
        show Steps p.tables e below (T303.setTop (mkF m 65 #[.val (.int x0), .val (.int x1), .val (.long x2), .second, .val (.long x3), .second, .val (.int x4), .val (.int (x0 &&& (63 : Int32))), .val (.int (x1 &&& (63 : Int32))), .val (.ref b94), .val (.ref b107), .unset, .unset, .unset, .unset] [(.long x3), (.long (x2 &&& (9223372036854775807 : Int64))), (.ref b303), (.ref b303)])) t
        refine X303.ldc2Long hx hown (mvT hZ (hw _ (List.mem_of_getElem? (i := 4) rfl))) (g := (mkF m 65 #[.val (.int x0), .val (.int x1), .val (.long x2), .second, .val (.long x3), .second, .val (.int x4), .val (.int (x0 &&& (63 : Int32))), .val (.int (x1 &&& (63 : Int32))), .val (.ref b94), .val (.ref b107), .unset, .unset, .unset, .unset] [(.long x3), (.long (x2 &&& (9223372036854775807 : Int64))), (.ref b303), (.ref b303)])) rfl (hb hby at_65) _ ?_
        show Steps p.tables e below (T303.setTop (mkF m 68 #[.val (.int x0), .val (.int x1), .val (.long x2), .second, .val (.long x3), .second, .val (.int x4), .val (.int (x0 &&& (63 : Int32))), .val (.int (x1 &&& (63 : Int32))), .val (.ref b94), .val (.ref b107), .unset, .unset, .unset, .unset] [(.long (9223372036854775807 : Int64)), (.long x3), (.long (x2 &&& (9223372036854775807 : Int64))), (.ref b303), (.ref b303)])) t
        refine XS.land X303.here hx rfl (hb hby at_68) rfl ?_
        exact k)
      have q317 := rng64 x2
      have q318 := (by decide : (9223372036854775807 : Int64).toInt = 9223372036854775807)
      have q319 := (show (x2 &&& (9223372036854775807 : Int64)).toInt = x2.toInt % 9223372036854775808 from c_maskL x2 (9223372036854775807 : Int64) 63 (by decide) (by decide))
      have q320 := rng64 (x2 &&& (9223372036854775807 : Int64))
      have q321 := rng64 x3
      have q322 := (show (x3 &&& (9223372036854775807 : Int64)).toInt = x3.toInt % 9223372036854775808 from c_maskL x3 (9223372036854775807 : Int64) 63 (by decide) (by decide))
      have q323 := rng64 (x3 &&& (9223372036854775807 : Int64))
      have q316 : 0 ≤ (x2 &&& (9223372036854775807 : Int64)).toInt ∧ 0 ≤ (x3 &&& (9223372036854775807 : Int64)).toInt := by omega
      obtain ⟨_, _, ⟨T324, L324, kk324, nn324⟩, -, X324, ⟨Lc324, hQ324, l324, y324, z324⟩, st324⟩ := X303.specialBack hx (y := (⟨"com/example/cursorweave/cursorweave/store/Position", "<init>", "(JJ)V"⟩ : MethodName)) rfl hown (mvT hZ (hw _ (List.mem_of_getElem? (i := 5) rfl))) (mvT hZ (hw _ (List.mem_of_getElem? (i := 6) rfl))) (mvT hZ (hw _ (List.mem_of_getElem? (i := 7) rfl))) (by decide) (backOf (W := 1) (rm1 l Z a0 hw [] b303 (x2 &&& (9223372036854775807 : Int64)) (x3 &&& (9223372036854775807 : Int64)) h303 n0 Z310 A303 F312 F313 gb306 q316) hZ (hw _ (List.mem_of_getElem? (i := 7) rfl)) (hw _ (List.mem_of_getElem? (i := 3) rfl)) (by decide) (by decide)) (g := (mkF m 69 #[.val (.int x0), .val (.int x1), .val (.long x2), .second, .val (.long x3), .second, .val (.int x4), .val (.int (x0 &&& (63 : Int32))), .val (.int (x1 &&& (63 : Int32))), .val (.ref b94), .val (.ref b107), .unset, .unset, .unset, .unset] [(.long (x3 &&& (9223372036854775807 : Int64))), (.long (x2 &&& (9223372036854775807 : Int64))), (.ref b303), (.ref b303)])) rfl (by rw [hml]; rfl) (Steps.refl _) (a := b303) (argsL := [(.long (x2 &&& (9223372036854775807 : Int64))), (.long (x3 &&& (9223372036854775807 : Int64)))]) (rest := [(.ref b303)]) (lenOf own_pd1 rfl) rfl (by show 2 * 0 + _ ≤ _; exact Nat.le_of_eq rfl) (hb hby at_69) (fun _ _ => ⟨rfl, e303, (by decide : 3 + 0 ≤ _), (by decide : 128 + 0 ≤ _)⟩)
      dsimp only [Pt.U, Pt.locs, Pt.cells, Pt.slots] at X324 l324 y324 z324 st324 hQ324
      subst l324 y324 z324
      obtain ⟨rfl, Sp324, Nq324, Kc324, Pc324_0⟩ := hQ324
      have N325 := Fr.app N300 Nq324
      obtain ⟨h324, e324⟩ : ∃ z, z = T324.heap := ⟨_, rfl⟩
      rw [← e324] at Kc324 Pc324_0
      have F326 := F308.keep Kc324 (ninS ne304 nin0)
      have F327 := F309.keep Kc324 (ninS ne305 nin0)
      have F328 := A303.keep Kc324
      have Kp329 : Keep h0 h324 [] := Keep.trans Kp311 Kc324 (allS (Or.inr sb307) all0)
      have Z330 : n0 ≤ h324.size := Nat.le_trans Z310 Kc324.1
      have K331 : ∀ t, Steps p.tables e below (T324.setTop (mkF m 72 #[.val (.int x0), .val (.int x1), .val (.long x2), .second, .val (.long x3), .second, .val (.int x4), .val (.int (x0 &&& (63 : Int32))), .val (.int (x1 &&& (63 : Int32))), .val (.ref b94), .val (.ref b107), .unset, .unset, .unset, .unset] [(.ref b303)])) t → Steps p.tables e below (s₁.setTop (entryFrame m #[(.int x0), (.int x1), (.long x2), (.long x3), (.int x4)] maxLocals)) t := fun t k => K315 t (st324.trans k)
      have K332 : ∀ t, Steps p.tables e below (T324.setTop (mkF m 74 #[.val (.int x0), .val (.int x1), .val (.long x2), .second, .val (.long x3), .second, .val (.int x4), .val (.int (x0 &&& (63 : Int32))), .val (.int (x1 &&& (63 : Int32))), .val (.ref b94), .val (.ref b107), .val (.ref b303), .unset, .unset, .unset] [])) t → Steps p.tables e below (s₁.setTop (entryFrame m #[(.int x0), (.int x1), (.long x2), (.long x3), (.int x4)] maxLocals)) t := fun t k => K331 t (by
        show Steps p.tables e below (T324.setTop (mkF m 72 #[.val (.int x0), .val (.int x1), .val (.long x2), .second, .val (.long x3), .second, .val (.int x4), .val (.int (x0 &&& (63 : Int32))), .val (.int (x1 &&& (63 : Int32))), .val (.ref b94), .val (.ref b107), .unset, .unset, .unset, .unset] [(.ref b303)])) t
        refine XS.astore X324.here hx rfl (hb hby at_72) rfl rfl (l' := #[.val (.int x0), .val (.int x1), .val (.long x2), .second, .val (.long x3), .second, .val (.int x4), .val (.int (x0 &&& (63 : Int32))), .val (.int (x1 &&& (63 : Int32))), .val (.ref b94), .val (.ref b107), .val (.ref b303), .unset, .unset, .unset]) rfl ?_
        exact k)
      obtain ⟨T333, h333, X333, e333, E333, A333, D333, M333, st333⟩ := newO X324 hx hZ hown (hw _ (List.mem_of_getElem? (i := 20) rfl)) (hw _ (List.mem_of_getElem? (i := 21) rfl)) (hw _ (List.mem_of_getElem? (i := 22) rfl)) e324.symm (g := (mkF m 74 #[.val (.int x0), .val (.int x1), .val (.long x2), .second, .val (.long x3), .second, .val (.int x4), .val (.int (x0 &&& (63 : Int32))), .val (.int (x1 &&& (63 : Int32))), .val (.ref b94), .val (.ref b107), .val (.ref b303), .unset, .unset, .unset] [])) rfl (hb hby at_74) (by decide) (by decide)
      obtain ⟨b333, g333⟩ : ∃ z, z = h324.size := ⟨_, rfl⟩
      rw [← g333] at A333 D333 M333 st333
      have ne334 : b94 ≠ b333 := Nat.ne_of_lt (Nat.lt_of_lt_of_le F326.lt (Nat.le_of_eq g333.symm))
      have ne335 : b107 ≠ b333 := Nat.ne_of_lt (Nat.lt_of_lt_of_le F327.lt (Nat.le_of_eq g333.symm))
      have ne336 : b303 ≠ b333 := Nat.ne_of_lt (Nat.lt_of_lt_of_le Pc324_0.lt (Nat.le_of_eq g333.symm))
      have gb337 : n0 ≤ b333 := Nat.le_trans Z330 (Nat.le_of_eq g333.symm)
      have sb338 : h0.size ≤ b333 := Nat.le_trans Kp329.1 (Nat.le_of_eq g333.symm)
      have F339 := F326.ext E333
      have F340 := F327.ext E333
      have F341 := Pc324_0.ext E333
      have Z342 : n0 ≤ h333.size := Nat.le_trans Z330 E333.1
      have Kp343 : Keep h0 h333 [] := Keep.ext Kp329 E333
      have F344 : Fld Z h333 b333 "com/example/cursorweave/cursorweave/store/Entry" "position" "Lcom/example/cursorweave/cursorweave/store/Position;" .null := D333 (Or.inr (hw _ (List.mem_of_getElem? (i := 28) rfl))) (ty := (.object "com/example/cursorweave/cursorweave/store/Position")) (by decide)
      have F345 : Fld Z h333 b333 "com/example/cursorweave/cursorweave/store/Entry" "metadata" "[B" .null := D333 (Or.inr (hw _ (List.mem_of_getElem? (i := 30) rfl))) (ty := (.array .byte)) (by decide)
      have F346 : Fld Z h333 b333 "com/example/cursorweave/cursorweave/store/Entry" "payload" "[B" .null := D333 (Or.inr (hw _ (List.mem_of_getElem? (i := 32) rfl))) (ty := (.array .byte)) (by decide)
      have K347 : ∀ t, Steps p.tables e below (T333.setTop (mkF m 77 #[.val (.int x0), .val (.int x1), .val (.long x2), .second, .val (.long x3), .second, .val (.int x4), .val (.int (x0 &&& (63 : Int32))), .val (.int (x1 &&& (63 : Int32))), .val (.ref b94), .val (.ref b107), .val (.ref b303), .unset, .unset, .unset] [(.ref b333)])) t → Steps p.tables e below (s₁.setTop (entryFrame m #[(.int x0), (.int x1), (.long x2), (.long x3), (.int x4)] maxLocals)) t := fun t k => K332 t (st333 _ k)
      have K348 : ∀ t, Steps p.tables e below (T333.setTop (mkF m 84 #[.val (.int x0), .val (.int x1), .val (.long x2), .second, .val (.long x3), .second, .val (.int x4), .val (.int (x0 &&& (63 : Int32))), .val (.int (x1 &&& (63 : Int32))), .val (.ref b94), .val (.ref b107), .val (.ref b303), .unset, .unset, .unset] [(.ref b107), (.ref b94), (.ref b303), (.ref b333), (.ref b333)])) t → Steps p.tables e below (s₁.setTop (entryFrame m #[(.int x0), (.int x1), (.long x2), (.long x3), (.int x4)] maxLocals)) t := fun t k => K347 t (by
        show Steps p.tables e below (T333.setTop (mkF m 77 #[.val (.int x0), .val (.int x1), .val (.long x2), .second, .val (.long x3), .second, .val (.int x4), .val (.int (x0 &&& (63 : Int32))), .val (.int (x1 &&& (63 : Int32))), .val (.ref b94), .val (.ref b107), .val (.ref b303), .unset, .unset, .unset] [(.ref b333)])) t
        refine XS.dup X333.here hx rfl (hb hby at_77) rfl rfl ?_
        show Steps p.tables e below (T333.setTop (mkF m 78 #[.val (.int x0), .val (.int x1), .val (.long x2), .second, .val (.long x3), .second, .val (.int x4), .val (.int (x0 &&& (63 : Int32))), .val (.int (x1 &&& (63 : Int32))), .val (.ref b94), .val (.ref b107), .val (.ref b303), .unset, .unset, .unset] [(.ref b333), (.ref b333)])) t
        refine XS.aload X333.here hx rfl (hb hby at_78) rfl rfl ?_
        show Steps p.tables e below (T333.setTop (mkF m 80 #[.val (.int x0), .val (.int x1), .val (.long x2), .second, .val (.long x3), .second, .val (.int x4), .val (.int (x0 &&& (63 : Int32))), .val (.int (x1 &&& (63 : Int32))), .val (.ref b94), .val (.ref b107), .val (.ref b303), .unset, .unset, .unset] [(.ref b303), (.ref b333), (.ref b333)])) t
        refine XS.aload X333.here hx rfl (hb hby at_80) rfl rfl ?_
        show Steps p.tables e below (T333.setTop (mkF m 82 #[.val (.int x0), .val (.int x1), .val (.long x2), .second, .val (.long x3), .second, .val (.int x4), .val (.int (x0 &&& (63 : Int32))), .val (.int (x1 &&& (63 : Int32))), .val (.ref b94), .val (.ref b107), .val (.ref b303), .unset, .unset, .unset] [(.ref b94), (.ref b303), (.ref b333), (.ref b333)])) t
        refine XS.aload X333.here hx rfl (hb hby at_82) rfl rfl ?_
        exact k)
      obtain ⟨_, _, ⟨T349, L349, kk349, nn349⟩, -, X349, ⟨Lc349, hQ349, l349, y349, z349⟩, st349⟩ := X333.specialBack hx (y := (⟨"com/example/cursorweave/cursorweave/store/Entry", "<init>", "(Lcom/example/cursorweave/cursorweave/store/Position;[B[B)V"⟩ : MethodName)) rfl hown (mvT hZ (hw _ (List.mem_of_getElem? (i := 23) rfl))) (mvT hZ (hw _ (List.mem_of_getElem? (i := 24) rfl))) (mvT hZ (hw _ (List.mem_of_getElem? (i := 25) rfl))) (by decide) (backOf (W := 1) (rm4 l Z a0 hw [] b333 b303 b94 b107 h333 n0 Z342 A333 F344 F345 F346 gb337) hZ (hw _ (List.mem_of_getElem? (i := 25) rfl)) (hw _ (List.mem_of_getElem? (i := 22) rfl)) (by decide) (by decide)) (g := (mkF m 84 #[.val (.int x0), .val (.int x1), .val (.long x2), .second, .val (.long x3), .second, .val (.int x4), .val (.int (x0 &&& (63 : Int32))), .val (.int (x1 &&& (63 : Int32))), .val (.ref b94), .val (.ref b107), .val (.ref b303), .unset, .unset, .unset] [(.ref b107), (.ref b94), (.ref b303), (.ref b333), (.ref b333)])) rfl (by rw [hml]; rfl) (Steps.refl _) (a := b333) (argsL := [(.ref b303), (.ref b94), (.ref b107)]) (rest := [(.ref b333)]) (lenOf own_pd2 rfl) rfl (by show 2 * 0 + _ ≤ _; exact Nat.le_of_eq rfl) (hb hby at_84) (fun _ _ => ⟨rfl, e333, (by decide : 4 + 0 ≤ _), (by decide : 131 + 0 ≤ _)⟩)
      dsimp only [Pt.U, Pt.locs, Pt.cells, Pt.slots] at X349 l349 y349 z349 st349 hQ349
      subst l349 y349 z349
      obtain ⟨rfl, Sp349, Nq349, Kc349, Pc349_0, Pc349_1, Pc349_2⟩ := hQ349
      have N350 := Fr.app N325 Nq349
      obtain ⟨h349, e349⟩ : ∃ z, z = T349.heap := ⟨_, rfl⟩
      rw [← e349] at Kc349 Pc349_0 Pc349_1 Pc349_2
      have F351 := F339.keep Kc349 (ninS ne334 nin0)
      have F352 := F340.keep Kc349 (ninS ne335 nin0)
      have F353 := F341.keep Kc349
      have F354 := A333.keep Kc349
      have Kp355 : Keep h0 h349 [] := Keep.trans Kp343 Kc349 (allS (Or.inr sb338) all0)
      have Z356 : n0 ≤ h349.size := Nat.le_trans Z342 Kc349.1
      have K357 : ∀ t, Steps p.tables e below (T349.setTop (mkF m 87 #[.val (.int x0), .val (.int x1), .val (.long x2), .second, .val (.long x3), .second, .val (.int x4), .val (.int (x0 &&& (63 : Int32))), .val (.int (x1 &&& (63 : Int32))), .val (.ref b94), .val (.ref b107), .val (.ref b303), .unset, .unset, .unset] [(.ref b333)])) t → Steps p.tables e below (s₁.setTop (entryFrame m #[(.int x0), (.int x1), (.long x2), (.long x3), (.int x4)] maxLocals)) t := fun t k => K348 t (st349.trans k)
      have K358 : ∀ t, Steps p.tables e below (T349.setTop (mkF m 91 #[.val (.int x0), .val (.int x1), .val (.long x2), .second, .val (.long x3), .second, .val (.int x4), .val (.int (x0 &&& (63 : Int32))), .val (.int (x1 &&& (63 : Int32))), .val (.ref b94), .val (.ref b107), .val (.ref b303), .val (.ref b333), .unset, .unset] [(.ref b333)])) t → Steps p.tables e below (s₁.setTop (entryFrame m #[(.int x0), (.int x1), (.long x2), (.long x3), (.int x4)] maxLocals)) t := fun t k => K357 t (by
        show Steps p.tables e below (T349.setTop (mkF m 87 #[.val (.int x0), .val (.int x1), .val (.long x2), .second, .val (.long x3), .second, .val (.int x4), .val (.int (x0 &&& (63 : Int32))), .val (.int (x1 &&& (63 : Int32))), .val (.ref b94), .val (.ref b107), .val (.ref b303), .unset, .unset, .unset] [(.ref b333)])) t
        refine XS.astore X349.here hx rfl (hb hby at_87) rfl rfl (l' := #[.val (.int x0), .val (.int x1), .val (.long x2), .second, .val (.long x3), .second, .val (.int x4), .val (.int (x0 &&& (63 : Int32))), .val (.int (x1 &&& (63 : Int32))), .val (.ref b94), .val (.ref b107), .val (.ref b303), .val (.ref b333), .unset, .unset]) rfl ?_
        show Steps p.tables e below (T349.setTop (mkF m 89 #[.val (.int x0), .val (.int x1), .val (.long x2), .second, .val (.long x3), .second, .val (.int x4), .val (.int (x0 &&& (63 : Int32))), .val (.int (x1 &&& (63 : Int32))), .val (.ref b94), .val (.ref b107), .val (.ref b303), .val (.ref b333), .unset, .unset] [])) t
        refine XS.aload X349.here hx rfl (hb hby at_89) rfl rfl ?_
        exact k)
      obtain ⟨cq359, kq359, q359a, q359b, q359c⟩ := isOf hZ e349.symm Pc349_0
      obtain ⟨_, _, ⟨T359, L359, kk359, nn359⟩, -, X359, ⟨Lc359, hQ359, l359, y359, z359⟩, st359⟩ := X349.virtualBack hx (y := (⟨"com/example/cursorweave/cursorweave/store/Entry", "size", "()J"⟩ : MethodName)) (z := (⟨"com/example/cursorweave/cursorweave/store/Entry", "size", "()J"⟩ : MethodName)) hown (mvT hZ (hw _ (List.mem_of_getElem? (i := 33) rfl))) (mvT hZ (hw _ (List.mem_of_getElem? (i := 34) rfl))) (notFace_of_selects (args := #[]) (mvT hZ (hw _ (List.mem_of_getElem? (i := 36) rfl)))) (mvT hZ (hw _ (List.mem_of_getElem? (i := 36) rfl))) (mvT hZ (hw _ (List.mem_of_getElem? (i := 35) rfl))) (by decide) (backOf (W := 0) (rm5 l Z a0 hw [] b333 b94 b107 (x0 &&& (63 : Int32)) (x1 &&& (63 : Int32)) h349 n0 Z356 Pc349_1 Pc349_2 F351 F352) hZ (hw _ (List.mem_of_getElem? (i := 37) rfl)) (hw _ (List.mem_of_getElem? (i := 22) rfl)) (by decide) (by decide)) q359a q359c (g := (mkF m 91 #[.val (.int x0), .val (.int x1), .val (.long x2), .second, .val (.long x3), .second, .val (.int x4), .val (.int (x0 &&& (63 : Int32))), .val (.int (x1 &&& (63 : Int32))), .val (.ref b94), .val (.ref b107), .val (.ref b303), .val (.ref b333), .unset, .unset] [(.ref b333)])) rfl (by rw [hml]; rfl) (Steps.refl _) (argsL := []) (rest := []) (lenOf own_pd3 rfl) rfl (by show 2 * 0 + _ ≤ _; exact Nat.le_of_eq rfl) (hb hby at_91) (fun _ _ => ⟨rfl, e349.symm, (by decide : 4 + 0 ≤ _), (by decide : 131 + 0 ≤ _)⟩)
      dsimp only [Pt.U, Pt.locs, Pt.cells, Pt.slots] at X359 l359 y359 z359 st359 hQ359
      subst l359 y359 z359
      obtain ⟨r_359, rfl, Sp359, Nq359, eh359⟩ := hQ359
      have N360 := Fr.app N350 Nq359
      have K361 : ∀ t, Steps p.tables e below (T359.setTop (mkF m 94 #[.val (.int x0), .val (.int x1), .val (.long x2), .second, .val (.long x3), .second, .val (.int x4), .val (.int (x0 &&& (63 : Int32))), .val (.int (x1 &&& (63 : Int32))), .val (.ref b94), .val (.ref b107), .val (.ref b303), .val (.ref b333), .unset, .unset] [(.long r_359)])) t → Steps p.tables e below (s₁.setTop (entryFrame m #[(.int x0), (.int x1), (.long x2), (.long x3), (.int x4)] maxLocals)) t := fun t k => K358 t (st359.trans k)
      have q363 := rng64 r_359
      have q364 := c_i2l (x0 &&& (63 : Int32))
      have q365 := rng64 ((x0 &&& (63 : Int32)).toInt64)
      have q366 := c_i2l (x1 &&& (63 : Int32))
      have q367 := rng64 ((x1 &&& (63 : Int32)).toInt64)
      have q368 := c_ladd ((x0 &&& (63 : Int32)).toInt64) ((x1 &&& (63 : Int32)).toInt64)
      have q369 := rng64 (((x0 &&& (63 : Int32)).toInt64) + ((x1 &&& (63 : Int32)).toInt64))
      have q370 := c_lcmp r_359 (((x0 &&& (63 : Int32)).toInt64) + ((x1 &&& (63 : Int32)).toInt64))
      have hc362 : (lcmpW r_359 (((x0 &&& (63 : Int32)).toInt64) + ((x1 &&& (63 : Int32)).toInt64))) = (0 : Int32) := Int32.toInt_inj.mp (by omega)
      have q371 : (lcmpW r_359 (((x0 &&& (63 : Int32)).toInt64) + ((x1 &&& (63 : Int32)).toInt64))).toInt = (0 : Int32).toInt := congrArg Int32.toInt hc362
      have K372 : ∀ t, Steps p.tables e below (T359.setTop (mkF m 114 #[.val (.int x0), .val (.int x1), .val (.long x2), .second, .val (.long x3), .second, .val (.int x4), .val (.int (x0 &&& (63 : Int32))), .val (.int (x1 &&& (63 : Int32))), .val (.ref b94), .val (.ref b107), .val (.ref b303), .val (.ref b333), .val (.long r_359), .second] [(.int (1 : Int32))])) t → Steps p.tables e below (s₁.setTop (entryFrame m #[(.int x0), (.int x1), (.long x2), (.long x3), (.int x4)] maxLocals)) t := fun t k => K361 t (by
        show Steps p.tables e below (T359.setTop (mkF m 94 #[.val (.int x0), .val (.int x1), .val (.long x2), .second, .val (.long x3), .second, .val (.int x4), .val (.int (x0 &&& (63 : Int32))), .val (.int (x1 &&& (63 : Int32))), .val (.ref b94), .val (.ref b107), .val (.ref b303), .val (.ref b333), .unset, .unset] [(.long r_359)])) t
        refine XS.lstore X359.here hx rfl (hb hby at_94) rfl (l' := #[.val (.int x0), .val (.int x1), .val (.long x2), .second, .val (.long x3), .second, .val (.int x4), .val (.int (x0 &&& (63 : Int32))), .val (.int (x1 &&& (63 : Int32))), .val (.ref b94), .val (.ref b107), .val (.ref b303), .val (.ref b333), .val (.long r_359), .second]) rfl ?_
        show Steps p.tables e below (T359.setTop (mkF m 96 #[.val (.int x0), .val (.int x1), .val (.long x2), .second, .val (.long x3), .second, .val (.int x4), .val (.int (x0 &&& (63 : Int32))), .val (.int (x1 &&& (63 : Int32))), .val (.ref b94), .val (.ref b107), .val (.ref b303), .val (.ref b333), .val (.long r_359), .second] [])) t
        refine XS.lload X359.here hx rfl (hb hby at_96) rfl ?_
        show Steps p.tables e below (T359.setTop (mkF m 98 #[.val (.int x0), .val (.int x1), .val (.long x2), .second, .val (.long x3), .second, .val (.int x4), .val (.int (x0 &&& (63 : Int32))), .val (.int (x1 &&& (63 : Int32))), .val (.ref b94), .val (.ref b107), .val (.ref b303), .val (.ref b333), .val (.long r_359), .second] [(.long r_359)])) t
        refine XS.iload X359.here hx rfl (hb hby at_98) rfl ?_
        show Steps p.tables e below (T359.setTop (mkF m 100 #[.val (.int x0), .val (.int x1), .val (.long x2), .second, .val (.long x3), .second, .val (.int x4), .val (.int (x0 &&& (63 : Int32))), .val (.int (x1 &&& (63 : Int32))), .val (.ref b94), .val (.ref b107), .val (.ref b303), .val (.ref b333), .val (.long r_359), .second] [(.int (x0 &&& (63 : Int32))), (.long r_359)])) t
        refine XS.i2l X359.here hx rfl (hb hby at_100) rfl ?_
        show Steps p.tables e below (T359.setTop (mkF m 101 #[.val (.int x0), .val (.int x1), .val (.long x2), .second, .val (.long x3), .second, .val (.int x4), .val (.int (x0 &&& (63 : Int32))), .val (.int (x1 &&& (63 : Int32))), .val (.ref b94), .val (.ref b107), .val (.ref b303), .val (.ref b333), .val (.long r_359), .second] [(.long ((x0 &&& (63 : Int32)).toInt64)), (.long r_359)])) t
        refine XS.iload X359.here hx rfl (hb hby at_101) rfl ?_
        show Steps p.tables e below (T359.setTop (mkF m 103 #[.val (.int x0), .val (.int x1), .val (.long x2), .second, .val (.long x3), .second, .val (.int x4), .val (.int (x0 &&& (63 : Int32))), .val (.int (x1 &&& (63 : Int32))), .val (.ref b94), .val (.ref b107), .val (.ref b303), .val (.ref b333), .val (.long r_359), .second] [(.int (x1 &&& (63 : Int32))), (.long ((x0 &&& (63 : Int32)).toInt64)), (.long r_359)])) t
        refine XS.i2l X359.here hx rfl (hb hby at_103) rfl ?_
        show Steps p.tables e below (T359.setTop (mkF m 104 #[.val (.int x0), .val (.int x1), .val (.long x2), .second, .val (.long x3), .second, .val (.int x4), .val (.int (x0 &&& (63 : Int32))), .val (.int (x1 &&& (63 : Int32))), .val (.ref b94), .val (.ref b107), .val (.ref b303), .val (.ref b333), .val (.long r_359), .second] [(.long ((x1 &&& (63 : Int32)).toInt64)), (.long ((x0 &&& (63 : Int32)).toInt64)), (.long r_359)])) t
        refine XS.ladd X359.here hx rfl (hb hby at_104) rfl ?_
        show Steps p.tables e below (T359.setTop (mkF m 105 #[.val (.int x0), .val (.int x1), .val (.long x2), .second, .val (.long x3), .second, .val (.int x4), .val (.int (x0 &&& (63 : Int32))), .val (.int (x1 &&& (63 : Int32))), .val (.ref b94), .val (.ref b107), .val (.ref b303), .val (.ref b333), .val (.long r_359), .second] [(.long (((x0 &&& (63 : Int32)).toInt64) + ((x1 &&& (63 : Int32)).toInt64))), (.long r_359)])) t
        refine XS.lcmp X359.here hx rfl (hb hby at_105) rfl ?_
        show Steps p.tables e below (T359.setTop (mkF m 106 #[.val (.int x0), .val (.int x1), .val (.long x2), .second, .val (.long x3), .second, .val (.int x4), .val (.int (x0 &&& (63 : Int32))), .val (.int (x1 &&& (63 : Int32))), .val (.ref b94), .val (.ref b107), .val (.ref b303), .val (.ref b333), .val (.long r_359), .second] [(.int (lcmpW r_359 (((x0 &&& (63 : Int32)).toInt64) + ((x1 &&& (63 : Int32)).toInt64))))])) t
        refine XS.ifNo X359.here hx rfl (hb hby at_106) rfl ((if0 _ _).trans (teq hc362).2) ?_
        show Steps p.tables e below (T359.setTop (mkF m 109 #[.val (.int x0), .val (.int x1), .val (.long x2), .second, .val (.long x3), .second, .val (.int x4), .val (.int (x0 &&& (63 : Int32))), .val (.int (x1 &&& (63 : Int32))), .val (.ref b94), .val (.ref b107), .val (.ref b303), .val (.ref b333), .val (.long r_359), .second] [])) t
        refine XS.iconst X359.here hx rfl (hb hby at_109) ?_
        show Steps p.tables e below (T359.setTop (mkF m 110 #[.val (.int x0), .val (.int x1), .val (.long x2), .second, .val (.long x3), .second, .val (.int x4), .val (.int (x0 &&& (63 : Int32))), .val (.int (x1 &&& (63 : Int32))), .val (.ref b94), .val (.ref b107), .val (.ref b303), .val (.ref b333), .val (.long r_359), .second] [(.int (1 : Int32))])) t
        refine XS.goto X359.here hx rfl (pc0 := 110) (pc' := 114) rfl (hb hby at_110) (by decide) (by decide) ?_
        exact k)
      obtain ⟨fs, hr, hrun, hended, hW, hsame⟩ := X359.leave (v := some (.int (1 : Int32))) (fun h => by rw [Bd.returns] at h; cases h)
      refine ⟨_, _, K372 _ ?_, hrun, hended, _, _, rfl, ?_, ⟨_, rfl⟩, hW, hsame.mono (by decide) (by decide)⟩
      · exact retN X359 hx (t := .boolean) Bd.returns (by simp) (hb hby at_114) hr
      · show Q_rm0 Z x0 x1 x2 x3 x4 h0 n0 _ T359.heap _
        rw [eh359]
        exact ⟨rfl, (by trivial), N360, Kp355⟩
    · have q373 : ¬ (0 : Int32).toInt < (x1 &&& (63 : Int32)).toInt := fun q => hc288 (Int32.lt_iff_toInt_lt.mpr q)
      have K374 : ∀ t, Steps p.tables e below (T107.setTop (mkF m 54 #[.val (.int x0), .val (.int x1), .val (.long x2), .second, .val (.long x3), .second, .val (.int x4), .val (.int (x0 &&& (63 : Int32))), .val (.int (x1 &&& (63 : Int32))), .val (.ref b94), .val (.ref b107), .unset, .unset, .unset, .unset] [])) t → Steps p.tables e below (s₁.setTop (entryFrame m #[(.int x0), (.int x1), (.long x2), (.long x3), (.int x4)] maxLocals)) t := fun t k => K289 t (by
        show Steps p.tables e below (T107.setTop (mkF m 38 #[.val (.int x0), .val (.int x1), .val (.long x2), .second, .val (.long x3), .second, .val (.int x4), .val (.int (x0 &&& (63 : Int32))), .val (.int (x1 &&& (63 : Int32))), .val (.ref b94), .val (.ref b107), .unset, .unset, .unset, .unset] [(.int (x1 &&& (63 : Int32)))])) t
        refine XS.ifYes X107.here hx rfl (pc0 := 38) (pc' := 54) rfl (hb hby at_38) rfl ((if0 _ _).trans (flt hc288).2.2.2) (by decide) (by decide) ?_
        exact k)
      obtain ⟨T375, h375, X375, e375, E375, A375, D375, M375, st375⟩ := newO X107 hx hZ hown (hw _ (List.mem_of_getElem? (i := 1) rfl)) (hw _ (List.mem_of_getElem? (i := 2) rfl)) (hw _ (List.mem_of_getElem? (i := 3) rfl)) e107 (g := (mkF m 54 #[.val (.int x0), .val (.int x1), .val (.long x2), .second, .val (.long x3), .second, .val (.int x4), .val (.int (x0 &&& (63 : Int32))), .val (.int (x1 &&& (63 : Int32))), .val (.ref b94), .val (.ref b107), .unset, .unset, .unset, .unset] [])) rfl (hb hby at_54) (by decide) (by decide)
      obtain ⟨b375, g375⟩ : ∃ z, z = h107.size := ⟨_, rfl⟩
      rw [← g375] at A375 D375 M375 st375
      have ne376 : b94 ≠ b375 := Nat.ne_of_lt (Nat.lt_of_lt_of_le F111.lt (Nat.le_of_eq g375.symm))
      have ne377 : b107 ≠ b375 := Nat.ne_of_lt (Nat.lt_of_lt_of_le V114.lt (Nat.le_of_eq g375.symm))
      have gb378 : n0 ≤ b375 := Nat.le_trans Z112 (Nat.le_of_eq g375.symm)
      have sb379 : h0.size ≤ b375 := Nat.le_trans Kp113.1 (Nat.le_of_eq g375.symm)
      have F380 := F111.ext E375
      have F381 := V114.ext E375
      have Z382 : n0 ≤ h375.size := Nat.le_trans Z112 E375.1
      have Kp383 : Keep h0 h375 [] := Keep.ext Kp113 E375
      have F384 : Fld Z h375 b375 "com/example/cursorweave/cursorweave/store/Position" "ledger" "J" (.long (0 : Int64)) := D375 (Or.inr (hw _ (List.mem_of_getElem? (i := 17) rfl))) (ty := .long) (by decide)
      have F385 : Fld Z h375 b375 "com/example/cursorweave/cursorweave/store/Position" "entry" "J" (.long (0 : Int64)) := D375 (Or.inr (hw _ (List.mem_of_getElem? (i := 19) rfl))) (ty := .long) (by decide)
      have K386 : ∀ t, Steps p.tables e below (T375.setTop (mkF m 57 #[.val (.int x0), .val (.int x1), .val (.long x2), .second, .val (.long x3), .second, .val (.int x4), .val (.int (x0 &&& (63 : Int32))), .val (.int (x1 &&& (63 : Int32))), .val (.ref b94), .val (.ref b107), .unset, .unset, .unset, .unset] [(.ref b375)])) t → Steps p.tables e below (s₁.setTop (entryFrame m #[(.int x0), (.int x1), (.long x2), (.long x3), (.int x4)] maxLocals)) t := fun t k => K374 t (st375 _ k)
      have K387 : ∀ t, Steps p.tables e below (T375.setTop (mkF m 69 #[.val (.int x0), .val (.int x1), .val (.long x2), .second, .val (.long x3), .second, .val (.int x4), .val (.int (x0 &&& (63 : Int32))), .val (.int (x1 &&& (63 : Int32))), .val (.ref b94), .val (.ref b107), .unset, .unset, .unset, .unset] [(.long (x3 &&& (9223372036854775807 : Int64))), (.long (x2 &&& (9223372036854775807 : Int64))), (.ref b375), (.ref b375)])) t → Steps p.tables e below (s₁.setTop (entryFrame m #[(.int x0), (.int x1), (.long x2), (.long x3), (.int x4)] maxLocals)) t := fun t k => K386 t (by
        show Steps p.tables e below (T375.setTop (mkF m 57 #[.val (.int x0), .val (.int x1), .val (.long x2), .second, .val (.long x3), .second, .val (.int x4), .val (.int (x0 &&& (63 : Int32))), .val (.int (x1 &&& (63 : Int32))), .val (.ref b94), .val (.ref b107), .unset, .unset, .unset, .unset] [(.ref b375)])) t
        refine XS.dup X375.here hx rfl (hb hby at_57) rfl rfl ?_
        show Steps p.tables e below (T375.setTop (mkF m 58 #[.val (.int x0), .val (.int x1), .val (.long x2), .second, .val (.long x3), .second, .val (.int x4), .val (.int (x0 &&& (63 : Int32))), .val (.int (x1 &&& (63 : Int32))), .val (.ref b94), .val (.ref b107), .unset, .unset, .unset, .unset] [(.ref b375), (.ref b375)])) t
        refine XS.lloadN X375.here hx rfl (hb hby at_58) rfl ?_
        show Steps p.tables e below (T375.setTop (mkF m 59 #[.val (.int x0), .val (.int x1), .val (.long x2), .second, .val (.long x3), .second, .val (.int x4), .val (.int (x0 &&& (63 : Int32))), .val (.int (x1 &&& (63 : Int32))), .val (.ref b94), .val (.ref b107), .unset, .unset, .unset, .unset] [(.long x2), (.ref b375), (.ref b375)])) t
        refine X375.ldc2Long hx hown (mvT hZ (hw _ (List.mem_of_getElem? (i := 4) rfl))) (g := (mkF m 59 #[.val (.int x0), .val (.int x1), .val (.long x2), .second, .val (.long x3), .second, .val (.int x4), .val (.int (x0 &&& (63 : Int32))), .val (.int (x1 &&& (63 : Int32))), .val (.ref b94), .val (.ref b107), .unset, .unset, .unset, .unset] [(.long x2), (.ref b375), (.ref b375)])) rfl (hb hby at_59) _ ?_
        show Steps p.tables e below (T375.setTop (mkF m 62 #[.val (.int x0), .val (.int x1), .val (.long x2), .second, .val (.long x3), .second, .val (.int x4), .val (.int (x0 &&& (63 : Int32))), .val (.int (x1 &&& (63 : Int32))), .val (.ref b94), .val (.ref b107), .unset, .unset, .unset, .unset] [(.long (9223372036854775807 : Int64)), (.long x2), (.ref b375), (.ref b375)])) t
        refine XS.land X375.here hx rfl (hb hby at_62) rfl ?_
        show Steps p.tables e below (T375.setTop (mkF m 63 #[.val (.int x0), .val (.int x1), .val (.long x2), .second, .val (.long x3), .second, .val (.int x4), .val (.int (x0 &&& (63 : Int32))), .val (.int (x1 &&& (63 : Int32))), .val (.ref b94), .val (.ref b107), .unset, .unset, .unset, .unset] [(.long (x2 &&& (9223372036854775807 : Int64))), (.ref b375), (.ref b375)])) t
        refine XS.lload X375.here hx rfl (hb hby at_63) rfl ?_
        show Steps p.tables e below (T375.setTop (mkF m 65 #[.val (.int x0), .val (.int x1), .val (.long x2), .second, .val (.long x3), .second, .val (.int x4), .val (.int (x0 &&& (63 : Int32))), .val (.int (x1 &&& (63 : Int32))), .val (.ref b94), .val (.ref b107), .unset, .unset, .unset, .unset] [(.long x3), (.long (x2 &&& (9223372036854775807 : Int64))), (.ref b375), (.ref b375)])) t
        refine X375.ldc2Long hx hown (mvT hZ (hw _ (List.mem_of_getElem? (i := 4) rfl))) (g := (mkF m 65 #[.val (.int x0), .val (.int x1), .val (.long x2), .second, .val (.long x3), .second, .val (.int x4), .val (.int (x0 &&& (63 : Int32))), .val (.int (x1 &&& (63 : Int32))), .val (.ref b94), .val (.ref b107), .unset, .unset, .unset, .unset] [(.long x3), (.long (x2 &&& (9223372036854775807 : Int64))), (.ref b375), (.ref b375)])) rfl (hb hby at_65) _ ?_
        show Steps p.tables e below (T375.setTop (mkF m 68 #[.val (.int x0), .val (.int x1), .val (.long x2), .second, .val (.long x3), .second, .val (.int x4), .val (.int (x0 &&& (63 : Int32))), .val (.int (x1 &&& (63 : Int32))), .val (.ref b94), .val (.ref b107), .unset, .unset, .unset, .unset] [(.long (9223372036854775807 : Int64)), (.long x3), (.long (x2 &&& (9223372036854775807 : Int64))), (.ref b375), (.ref b375)])) t
        refine XS.land X375.here hx rfl (hb hby at_68) rfl ?_
        exact k)
      have q389 := rng64 x2
      have q390 := (by decide : (9223372036854775807 : Int64).toInt = 9223372036854775807)
      have q391 := (show (x2 &&& (9223372036854775807 : Int64)).toInt = x2.toInt % 9223372036854775808 from c_maskL x2 (9223372036854775807 : Int64) 63 (by decide) (by decide))
      have q392 := rng64 (x2 &&& (9223372036854775807 : Int64))
      have q393 := rng64 x3
      have q394 := (show (x3 &&& (9223372036854775807 : Int64)).toInt = x3.toInt % 9223372036854775808 from c_maskL x3 (9223372036854775807 : Int64) 63 (by decide) (by decide))
      have q395 := rng64 (x3 &&& (9223372036854775807 : Int64))
      have q388 : 0 ≤ (x2 &&& (9223372036854775807 : Int64)).toInt ∧ 0 ≤ (x3 &&& (9223372036854775807 : Int64)).toInt := by omega
      obtain ⟨_, _, ⟨T396, L396, kk396, nn396⟩, -, X396, ⟨Lc396, hQ396, l396, y396, z396⟩, st396⟩ := X375.specialBack hx (y := (⟨"com/example/cursorweave/cursorweave/store/Position", "<init>", "(JJ)V"⟩ : MethodName)) rfl hown (mvT hZ (hw _ (List.mem_of_getElem? (i := 5) rfl))) (mvT hZ (hw _ (List.mem_of_getElem? (i := 6) rfl))) (mvT hZ (hw _ (List.mem_of_getElem? (i := 7) rfl))) (by decide) (backOf (W := 1) (rm1 l Z a0 hw [] b375 (x2 &&& (9223372036854775807 : Int64)) (x3 &&& (9223372036854775807 : Int64)) h375 n0 Z382 A375 F384 F385 gb378 q388) hZ (hw _ (List.mem_of_getElem? (i := 7) rfl)) (hw _ (List.mem_of_getElem? (i := 3) rfl)) (by decide) (by decide)) (g := (mkF m 69 #[.val (.int x0), .val (.int x1), .val (.long x2), .second, .val (.long x3), .second, .val (.int x4), .val (.int (x0 &&& (63 : Int32))), .val (.int (x1 &&& (63 : Int32))), .val (.ref b94), .val (.ref b107), .unset, .unset, .unset, .unset] [(.long (x3 &&& (9223372036854775807 : Int64))), (.long (x2 &&& (9223372036854775807 : Int64))), (.ref b375), (.ref b375)])) rfl (by rw [hml]; rfl) (Steps.refl _) (a := b375) (argsL := [(.long (x2 &&& (9223372036854775807 : Int64))), (.long (x3 &&& (9223372036854775807 : Int64)))]) (rest := [(.ref b375)]) (lenOf own_pd1 rfl) rfl (by show 2 * 0 + _ ≤ _; exact Nat.le_of_eq rfl) (hb hby at_69) (fun _ _ => ⟨rfl, e375, (by decide : 3 + 0 ≤ _), (by decide : 128 + 0 ≤ _)⟩)
      dsimp only [Pt.U, Pt.locs, Pt.cells, Pt.slots] at X396 l396 y396 z396 st396 hQ396
      subst l396 y396 z396
      obtain ⟨rfl, Sp396, Nq396, Kc396, Pc396_0⟩ := hQ396
      have N397 := Fr.app N0 Nq396
      obtain ⟨h396, e396⟩ : ∃ z, z = T396.heap := ⟨_, rfl⟩
      rw [← e396] at Kc396 Pc396_0
      have F398 := F380.keep Kc396 (ninS ne376 nin0)
      have F399 := F381.keep Kc396 (ninS ne377 nin0)
      have F400 := A375.keep Kc396
      have Kp401 : Keep h0 h396 [] := Keep.trans Kp383 Kc396 (allS (Or.inr sb379) all0)
      have Z402 : n0 ≤ h396.size := Nat.le_trans Z382 Kc396.1
      have K403 : ∀ t, Steps p.tables e below (T396.setTop (mkF m 72 #[.val (.int x0), .val (.int x1), .val (.long x2), .second, .val (.long x3), .second, .val (.int x4), .val (.int (x0 &&& (63 : Int32))), .val (.int (x1 &&& (63 : Int32))), .val (.ref b94), .val (.ref b107), .unset, .unset, .unset, .unset] [(.ref b375)])) t → Steps p.tables e below (s₁.setTop (entryFrame m #[(.int x0), (.int x1), (.long x2), (.long x3), (.int x4)] maxLocals)) t := fun t k => K387 t (st396.trans k)
      have K404 : ∀ t, Steps p.tables e below (T396.setTop (mkF m 74 #[.val (.int x0), .val (.int x1), .val (.long x2), .second, .val (.long x3), .second, .val (.int x4), .val (.int (x0 &&& (63 : Int32))), .val (.int (x1 &&& (63 : Int32))), .val (.ref b94), .val (.ref b107), .val (.ref b375), .unset, .unset, .unset] [])) t → Steps p.tables e below (s₁.setTop (entryFrame m #[(.int x0), (.int x1), (.long x2), (.long x3), (.int x4)] maxLocals)) t := fun t k => K403 t (by
        show Steps p.tables e below (T396.setTop (mkF m 72 #[.val (.int x0), .val (.int x1), .val (.long x2), .second, .val (.long x3), .second, .val (.int x4), .val (.int (x0 &&& (63 : Int32))), .val (.int (x1 &&& (63 : Int32))), .val (.ref b94), .val (.ref b107), .unset, .unset, .unset, .unset] [(.ref b375)])) t
        refine XS.astore X396.here hx rfl (hb hby at_72) rfl rfl (l' := #[.val (.int x0), .val (.int x1), .val (.long x2), .second, .val (.long x3), .second, .val (.int x4), .val (.int (x0 &&& (63 : Int32))), .val (.int (x1 &&& (63 : Int32))), .val (.ref b94), .val (.ref b107), .val (.ref b375), .unset, .unset, .unset]) rfl ?_
        exact k)
      obtain ⟨T405, h405, X405, e405, E405, A405, D405, M405, st405⟩ := newO X396 hx hZ hown (hw _ (List.mem_of_getElem? (i := 20) rfl)) (hw _ (List.mem_of_getElem? (i := 21) rfl)) (hw _ (List.mem_of_getElem? (i := 22) rfl)) e396.symm (g := (mkF m 74 #[.val (.int x0), .val (.int x1), .val (.long x2), .second, .val (.long x3), .second, .val (.int x4), .val (.int (x0 &&& (63 : Int32))), .val (.int (x1 &&& (63 : Int32))), .val (.ref b94), .val (.ref b107), .val (.ref b375), .unset, .unset, .unset] [])) rfl (hb hby at_74) (by decide) (by decide)
      obtain ⟨b405, g405⟩ : ∃ z, z = h396.size := ⟨_, rfl⟩
      rw [← g405] at A405 D405 M405 st405
      have ne406 : b94 ≠ b405 := Nat.ne_of_lt (Nat.lt_of_lt_of_le F398.lt (Nat.le_of_eq g405.symm))
      have ne407 : b107 ≠ b405 := Nat.ne_of_lt (Nat.lt_of_lt_of_le F399.lt (Nat.le_of_eq g405.symm))
      have ne408 : b375 ≠ b405 := Nat.ne_of_lt (Nat.lt_of_lt_of_le Pc396_0.lt (Nat.le_of_eq g405.symm))
      have gb409 : n0 ≤ b405 := Nat.le_trans Z402 (Nat.le_of_eq g405.symm)
      have sb410 : h0.size ≤ b405 := Nat.le_trans Kp401.1 (Nat.le_of_eq g405.symm)
      have F411 := F398.ext E405
      have F412 := F399.ext E405
      have F413 := Pc396_0.ext E405
      have Z414 : n0 ≤ h405.size := Nat.le_trans Z402 E405.1
      have Kp415 : Keep h0 h405 [] := Keep.ext Kp401 E405
      have F416 : Fld Z h405 b405 "com/example/cursorweave/cursorweave/store/Entry" "position" "Lcom/example/cursorweave/cursorweave/store/Position;" .null := D405 (Or.inr (hw _ (List.mem_of_getElem? (i := 28) rfl))) (ty := (.object "com/example/cursorweave/cursorweave/store/Position")) (by decide)
      have F417 : Fld Z h405 b405 "com/example/cursorweave/cursorweave/store/Entry" "metadata" "[B" .null := D405 (Or.inr (hw _ (List.mem_of_getElem? (i := 30) rfl))) (ty := (.array .byte)) (by decide)
      have F418 : Fld Z h405 b405 "com/example/cursorweave/cursorweave/store/Entry" "payload" "[B" .null := D405 (Or.inr (hw _ (List.mem_of_getElem? (i := 32) rfl))) (ty := (.array .byte)) (by decide)
      have K419 : ∀ t, Steps p.tables e below (T405.setTop (mkF m 77 #[.val (.int x0), .val (.int x1), .val (.long x2), .second, .val (.long x3), .second, .val (.int x4), .val (.int (x0 &&& (63 : Int32))), .val (.int (x1 &&& (63 : Int32))), .val (.ref b94), .val (.ref b107), .val (.ref b375), .unset, .unset, .unset] [(.ref b405)])) t → Steps p.tables e below (s₁.setTop (entryFrame m #[(.int x0), (.int x1), (.long x2), (.long x3), (.int x4)] maxLocals)) t := fun t k => K404 t (st405 _ k)
      have K420 : ∀ t, Steps p.tables e below (T405.setTop (mkF m 84 #[.val (.int x0), .val (.int x1), .val (.long x2), .second, .val (.long x3), .second, .val (.int x4), .val (.int (x0 &&& (63 : Int32))), .val (.int (x1 &&& (63 : Int32))), .val (.ref b94), .val (.ref b107), .val (.ref b375), .unset, .unset, .unset] [(.ref b107), (.ref b94), (.ref b375), (.ref b405), (.ref b405)])) t → Steps p.tables e below (s₁.setTop (entryFrame m #[(.int x0), (.int x1), (.long x2), (.long x3), (.int x4)] maxLocals)) t := fun t k => K419 t (by
        show Steps p.tables e below (T405.setTop (mkF m 77 #[.val (.int x0), .val (.int x1), .val (.long x2), .second, .val (.long x3), .second, .val (.int x4), .val (.int (x0 &&& (63 : Int32))), .val (.int (x1 &&& (63 : Int32))), .val (.ref b94), .val (.ref b107), .val (.ref b375), .unset, .unset, .unset] [(.ref b405)])) t
        refine XS.dup X405.here hx rfl (hb hby at_77) rfl rfl ?_
        show Steps p.tables e below (T405.setTop (mkF m 78 #[.val (.int x0), .val (.int x1), .val (.long x2), .second, .val (.long x3), .second, .val (.int x4), .val (.int (x0 &&& (63 : Int32))), .val (.int (x1 &&& (63 : Int32))), .val (.ref b94), .val (.ref b107), .val (.ref b375), .unset, .unset, .unset] [(.ref b405), (.ref b405)])) t
        refine XS.aload X405.here hx rfl (hb hby at_78) rfl rfl ?_
        show Steps p.tables e below (T405.setTop (mkF m 80 #[.val (.int x0), .val (.int x1), .val (.long x2), .second, .val (.long x3), .second, .val (.int x4), .val (.int (x0 &&& (63 : Int32))), .val (.int (x1 &&& (63 : Int32))), .val (.ref b94), .val (.ref b107), .val (.ref b375), .unset, .unset, .unset] [(.ref b375), (.ref b405), (.ref b405)])) t
        refine XS.aload X405.here hx rfl (hb hby at_80) rfl rfl ?_
        show Steps p.tables e below (T405.setTop (mkF m 82 #[.val (.int x0), .val (.int x1), .val (.long x2), .second, .val (.long x3), .second, .val (.int x4), .val (.int (x0 &&& (63 : Int32))), .val (.int (x1 &&& (63 : Int32))), .val (.ref b94), .val (.ref b107), .val (.ref b375), .unset, .unset, .unset] [(.ref b94), (.ref b375), (.ref b405), (.ref b405)])) t
        refine XS.aload X405.here hx rfl (hb hby at_82) rfl rfl ?_
        exact k)
      obtain ⟨_, _, ⟨T421, L421, kk421, nn421⟩, -, X421, ⟨Lc421, hQ421, l421, y421, z421⟩, st421⟩ := X405.specialBack hx (y := (⟨"com/example/cursorweave/cursorweave/store/Entry", "<init>", "(Lcom/example/cursorweave/cursorweave/store/Position;[B[B)V"⟩ : MethodName)) rfl hown (mvT hZ (hw _ (List.mem_of_getElem? (i := 23) rfl))) (mvT hZ (hw _ (List.mem_of_getElem? (i := 24) rfl))) (mvT hZ (hw _ (List.mem_of_getElem? (i := 25) rfl))) (by decide) (backOf (W := 1) (rm4 l Z a0 hw [] b405 b375 b94 b107 h405 n0 Z414 A405 F416 F417 F418 gb409) hZ (hw _ (List.mem_of_getElem? (i := 25) rfl)) (hw _ (List.mem_of_getElem? (i := 22) rfl)) (by decide) (by decide)) (g := (mkF m 84 #[.val (.int x0), .val (.int x1), .val (.long x2), .second, .val (.long x3), .second, .val (.int x4), .val (.int (x0 &&& (63 : Int32))), .val (.int (x1 &&& (63 : Int32))), .val (.ref b94), .val (.ref b107), .val (.ref b375), .unset, .unset, .unset] [(.ref b107), (.ref b94), (.ref b375), (.ref b405), (.ref b405)])) rfl (by rw [hml]; rfl) (Steps.refl _) (a := b405) (argsL := [(.ref b375), (.ref b94), (.ref b107)]) (rest := [(.ref b405)]) (lenOf own_pd2 rfl) rfl (by show 2 * 0 + _ ≤ _; exact Nat.le_of_eq rfl) (hb hby at_84) (fun _ _ => ⟨rfl, e405, (by decide : 4 + 0 ≤ _), (by decide : 131 + 0 ≤ _)⟩)
      dsimp only [Pt.U, Pt.locs, Pt.cells, Pt.slots] at X421 l421 y421 z421 st421 hQ421
      subst l421 y421 z421
      obtain ⟨rfl, Sp421, Nq421, Kc421, Pc421_0, Pc421_1, Pc421_2⟩ := hQ421
      have N422 := Fr.app N397 Nq421
      obtain ⟨h421, e421⟩ : ∃ z, z = T421.heap := ⟨_, rfl⟩
      rw [← e421] at Kc421 Pc421_0 Pc421_1 Pc421_2
      have F423 := F411.keep Kc421 (ninS ne406 nin0)
      have F424 := F412.keep Kc421 (ninS ne407 nin0)
      have F425 := F413.keep Kc421
      have F426 := A405.keep Kc421
      have Kp427 : Keep h0 h421 [] := Keep.trans Kp415 Kc421 (allS (Or.inr sb410) all0)
      have Z428 : n0 ≤ h421.size := Nat.le_trans Z414 Kc421.1
      have K429 : ∀ t, Steps p.tables e below (T421.setTop (mkF m 87 #[.val (.int x0), .val (.int x1), .val (.long x2), .second, .val (.long x3), .second, .val (.int x4), .val (.int (x0 &&& (63 : Int32))), .val (.int (x1 &&& (63 : Int32))), .val (.ref b94), .val (.ref b107), .val (.ref b375), .unset, .unset, .unset] [(.ref b405)])) t → Steps p.tables e below (s₁.setTop (entryFrame m #[(.int x0), (.int x1), (.long x2), (.long x3), (.int x4)] maxLocals)) t := fun t k => K420 t (st421.trans k)
      have K430 : ∀ t, Steps p.tables e below (T421.setTop (mkF m 91 #[.val (.int x0), .val (.int x1), .val (.long x2), .second, .val (.long x3), .second, .val (.int x4), .val (.int (x0 &&& (63 : Int32))), .val (.int (x1 &&& (63 : Int32))), .val (.ref b94), .val (.ref b107), .val (.ref b375), .val (.ref b405), .unset, .unset] [(.ref b405)])) t → Steps p.tables e below (s₁.setTop (entryFrame m #[(.int x0), (.int x1), (.long x2), (.long x3), (.int x4)] maxLocals)) t := fun t k => K429 t (by
        show Steps p.tables e below (T421.setTop (mkF m 87 #[.val (.int x0), .val (.int x1), .val (.long x2), .second, .val (.long x3), .second, .val (.int x4), .val (.int (x0 &&& (63 : Int32))), .val (.int (x1 &&& (63 : Int32))), .val (.ref b94), .val (.ref b107), .val (.ref b375), .unset, .unset, .unset] [(.ref b405)])) t
        refine XS.astore X421.here hx rfl (hb hby at_87) rfl rfl (l' := #[.val (.int x0), .val (.int x1), .val (.long x2), .second, .val (.long x3), .second, .val (.int x4), .val (.int (x0 &&& (63 : Int32))), .val (.int (x1 &&& (63 : Int32))), .val (.ref b94), .val (.ref b107), .val (.ref b375), .val (.ref b405), .unset, .unset]) rfl ?_
        show Steps p.tables e below (T421.setTop (mkF m 89 #[.val (.int x0), .val (.int x1), .val (.long x2), .second, .val (.long x3), .second, .val (.int x4), .val (.int (x0 &&& (63 : Int32))), .val (.int (x1 &&& (63 : Int32))), .val (.ref b94), .val (.ref b107), .val (.ref b375), .val (.ref b405), .unset, .unset] [])) t
        refine XS.aload X421.here hx rfl (hb hby at_89) rfl rfl ?_
        exact k)
      obtain ⟨cq431, kq431, q431a, q431b, q431c⟩ := isOf hZ e421.symm Pc421_0
      obtain ⟨_, _, ⟨T431, L431, kk431, nn431⟩, -, X431, ⟨Lc431, hQ431, l431, y431, z431⟩, st431⟩ := X421.virtualBack hx (y := (⟨"com/example/cursorweave/cursorweave/store/Entry", "size", "()J"⟩ : MethodName)) (z := (⟨"com/example/cursorweave/cursorweave/store/Entry", "size", "()J"⟩ : MethodName)) hown (mvT hZ (hw _ (List.mem_of_getElem? (i := 33) rfl))) (mvT hZ (hw _ (List.mem_of_getElem? (i := 34) rfl))) (notFace_of_selects (args := #[]) (mvT hZ (hw _ (List.mem_of_getElem? (i := 36) rfl)))) (mvT hZ (hw _ (List.mem_of_getElem? (i := 36) rfl))) (mvT hZ (hw _ (List.mem_of_getElem? (i := 35) rfl))) (by decide) (backOf (W := 0) (rm5 l Z a0 hw [] b405 b94 b107 (x0 &&& (63 : Int32)) (x1 &&& (63 : Int32)) h421 n0 Z428 Pc421_1 Pc421_2 F423 F424) hZ (hw _ (List.mem_of_getElem? (i := 37) rfl)) (hw _ (List.mem_of_getElem? (i := 22) rfl)) (by decide) (by decide)) q431a q431c (g := (mkF m 91 #[.val (.int x0), .val (.int x1), .val (.long x2), .second, .val (.long x3), .second, .val (.int x4), .val (.int (x0 &&& (63 : Int32))), .val (.int (x1 &&& (63 : Int32))), .val (.ref b94), .val (.ref b107), .val (.ref b375), .val (.ref b405), .unset, .unset] [(.ref b405)])) rfl (by rw [hml]; rfl) (Steps.refl _) (argsL := []) (rest := []) (lenOf own_pd3 rfl) rfl (by show 2 * 0 + _ ≤ _; exact Nat.le_of_eq rfl) (hb hby at_91) (fun _ _ => ⟨rfl, e421.symm, (by decide : 4 + 0 ≤ _), (by decide : 131 + 0 ≤ _)⟩)
      dsimp only [Pt.U, Pt.locs, Pt.cells, Pt.slots] at X431 l431 y431 z431 st431 hQ431
      subst l431 y431 z431
      obtain ⟨r_431, rfl, Sp431, Nq431, eh431⟩ := hQ431
      have N432 := Fr.app N422 Nq431
      have K433 : ∀ t, Steps p.tables e below (T431.setTop (mkF m 94 #[.val (.int x0), .val (.int x1), .val (.long x2), .second, .val (.long x3), .second, .val (.int x4), .val (.int (x0 &&& (63 : Int32))), .val (.int (x1 &&& (63 : Int32))), .val (.ref b94), .val (.ref b107), .val (.ref b375), .val (.ref b405), .unset, .unset] [(.long r_431)])) t → Steps p.tables e below (s₁.setTop (entryFrame m #[(.int x0), (.int x1), (.long x2), (.long x3), (.int x4)] maxLocals)) t := fun t k => K430 t (st431.trans k)
      have q435 := rng64 r_431
      have q436 := c_i2l (x0 &&& (63 : Int32))
      have q437 := rng64 ((x0 &&& (63 : Int32)).toInt64)
      have q438 := c_i2l (x1 &&& (63 : Int32))
      have q439 := rng64 ((x1 &&& (63 : Int32)).toInt64)
      have q440 := c_ladd ((x0 &&& (63 : Int32)).toInt64) ((x1 &&& (63 : Int32)).toInt64)
      have q441 := rng64 (((x0 &&& (63 : Int32)).toInt64) + ((x1 &&& (63 : Int32)).toInt64))
      have q442 := c_lcmp r_431 (((x0 &&& (63 : Int32)).toInt64) + ((x1 &&& (63 : Int32)).toInt64))
      have hc434 : (lcmpW r_431 (((x0 &&& (63 : Int32)).toInt64) + ((x1 &&& (63 : Int32)).toInt64))) = (0 : Int32) := Int32.toInt_inj.mp (by omega)
      have q443 : (lcmpW r_431 (((x0 &&& (63 : Int32)).toInt64) + ((x1 &&& (63 : Int32)).toInt64))).toInt = (0 : Int32).toInt := congrArg Int32.toInt hc434
      have K444 : ∀ t, Steps p.tables e below (T431.setTop (mkF m 114 #[.val (.int x0), .val (.int x1), .val (.long x2), .second, .val (.long x3), .second, .val (.int x4), .val (.int (x0 &&& (63 : Int32))), .val (.int (x1 &&& (63 : Int32))), .val (.ref b94), .val (.ref b107), .val (.ref b375), .val (.ref b405), .val (.long r_431), .second] [(.int (1 : Int32))])) t → Steps p.tables e below (s₁.setTop (entryFrame m #[(.int x0), (.int x1), (.long x2), (.long x3), (.int x4)] maxLocals)) t := fun t k => K433 t (by
        show Steps p.tables e below (T431.setTop (mkF m 94 #[.val (.int x0), .val (.int x1), .val (.long x2), .second, .val (.long x3), .second, .val (.int x4), .val (.int (x0 &&& (63 : Int32))), .val (.int (x1 &&& (63 : Int32))), .val (.ref b94), .val (.ref b107), .val (.ref b375), .val (.ref b405), .unset, .unset] [(.long r_431)])) t
        refine XS.lstore X431.here hx rfl (hb hby at_94) rfl (l' := #[.val (.int x0), .val (.int x1), .val (.long x2), .second, .val (.long x3), .second, .val (.int x4), .val (.int (x0 &&& (63 : Int32))), .val (.int (x1 &&& (63 : Int32))), .val (.ref b94), .val (.ref b107), .val (.ref b375), .val (.ref b405), .val (.long r_431), .second]) rfl ?_
        show Steps p.tables e below (T431.setTop (mkF m 96 #[.val (.int x0), .val (.int x1), .val (.long x2), .second, .val (.long x3), .second, .val (.int x4), .val (.int (x0 &&& (63 : Int32))), .val (.int (x1 &&& (63 : Int32))), .val (.ref b94), .val (.ref b107), .val (.ref b375), .val (.ref b405), .val (.long r_431), .second] [])) t
        refine XS.lload X431.here hx rfl (hb hby at_96) rfl ?_
        show Steps p.tables e below (T431.setTop (mkF m 98 #[.val (.int x0), .val (.int x1), .val (.long x2), .second, .val (.long x3), .second, .val (.int x4), .val (.int (x0 &&& (63 : Int32))), .val (.int (x1 &&& (63 : Int32))), .val (.ref b94), .val (.ref b107), .val (.ref b375), .val (.ref b405), .val (.long r_431), .second] [(.long r_431)])) t
        refine XS.iload X431.here hx rfl (hb hby at_98) rfl ?_
        show Steps p.tables e below (T431.setTop (mkF m 100 #[.val (.int x0), .val (.int x1), .val (.long x2), .second, .val (.long x3), .second, .val (.int x4), .val (.int (x0 &&& (63 : Int32))), .val (.int (x1 &&& (63 : Int32))), .val (.ref b94), .val (.ref b107), .val (.ref b375), .val (.ref b405), .val (.long r_431), .second] [(.int (x0 &&& (63 : Int32))), (.long r_431)])) t
        refine XS.i2l X431.here hx rfl (hb hby at_100) rfl ?_
        show Steps p.tables e below (T431.setTop (mkF m 101 #[.val (.int x0), .val (.int x1), .val (.long x2), .second, .val (.long x3), .second, .val (.int x4), .val (.int (x0 &&& (63 : Int32))), .val (.int (x1 &&& (63 : Int32))), .val (.ref b94), .val (.ref b107), .val (.ref b375), .val (.ref b405), .val (.long r_431), .second] [(.long ((x0 &&& (63 : Int32)).toInt64)), (.long r_431)])) t
        refine XS.iload X431.here hx rfl (hb hby at_101) rfl ?_
        show Steps p.tables e below (T431.setTop (mkF m 103 #[.val (.int x0), .val (.int x1), .val (.long x2), .second, .val (.long x3), .second, .val (.int x4), .val (.int (x0 &&& (63 : Int32))), .val (.int (x1 &&& (63 : Int32))), .val (.ref b94), .val (.ref b107), .val (.ref b375), .val (.ref b405), .val (.long r_431), .second] [(.int (x1 &&& (63 : Int32))), (.long ((x0 &&& (63 : Int32)).toInt64)), (.long r_431)])) t
        refine XS.i2l X431.here hx rfl (hb hby at_103) rfl ?_
        show Steps p.tables e below (T431.setTop (mkF m 104 #[.val (.int x0), .val (.int x1), .val (.long x2), .second, .val (.long x3), .second, .val (.int x4), .val (.int (x0 &&& (63 : Int32))), .val (.int (x1 &&& (63 : Int32))), .val (.ref b94), .val (.ref b107), .val (.ref b375), .val (.ref b405), .val (.long r_431), .second] [(.long ((x1 &&& (63 : Int32)).toInt64)), (.long ((x0 &&& (63 : Int32)).toInt64)), (.long r_431)])) t
        refine XS.ladd X431.here hx rfl (hb hby at_104) rfl ?_
        show Steps p.tables e below (T431.setTop (mkF m 105 #[.val (.int x0), .val (.int x1), .val (.long x2), .second, .val (.long x3), .second, .val (.int x4), .val (.int (x0 &&& (63 : Int32))), .val (.int (x1 &&& (63 : Int32))), .val (.ref b94), .val (.ref b107), .val (.ref b375), .val (.ref b405), .val (.long r_431), .second] [(.long (((x0 &&& (63 : Int32)).toInt64) + ((x1 &&& (63 : Int32)).toInt64))), (.long r_431)])) t
        refine XS.lcmp X431.here hx rfl (hb hby at_105) rfl ?_
        show Steps p.tables e below (T431.setTop (mkF m 106 #[.val (.int x0), .val (.int x1), .val (.long x2), .second, .val (.long x3), .second, .val (.int x4), .val (.int (x0 &&& (63 : Int32))), .val (.int (x1 &&& (63 : Int32))), .val (.ref b94), .val (.ref b107), .val (.ref b375), .val (.ref b405), .val (.long r_431), .second] [(.int (lcmpW r_431 (((x0 &&& (63 : Int32)).toInt64) + ((x1 &&& (63 : Int32)).toInt64))))])) t
        refine XS.ifNo X431.here hx rfl (hb hby at_106) rfl ((if0 _ _).trans (teq hc434).2) ?_
        show Steps p.tables e below (T431.setTop (mkF m 109 #[.val (.int x0), .val (.int x1), .val (.long x2), .second, .val (.long x3), .second, .val (.int x4), .val (.int (x0 &&& (63 : Int32))), .val (.int (x1 &&& (63 : Int32))), .val (.ref b94), .val (.ref b107), .val (.ref b375), .val (.ref b405), .val (.long r_431), .second] [])) t
        refine XS.iconst X431.here hx rfl (hb hby at_109) ?_
        show Steps p.tables e below (T431.setTop (mkF m 110 #[.val (.int x0), .val (.int x1), .val (.long x2), .second, .val (.long x3), .second, .val (.int x4), .val (.int (x0 &&& (63 : Int32))), .val (.int (x1 &&& (63 : Int32))), .val (.ref b94), .val (.ref b107), .val (.ref b375), .val (.ref b405), .val (.long r_431), .second] [(.int (1 : Int32))])) t
        refine XS.goto X431.here hx rfl (pc0 := 110) (pc' := 114) rfl (hb hby at_110) (by decide) (by decide) ?_
        exact k)
      obtain ⟨fs, hr, hrun, hended, hW, hsame⟩ := X431.leave (v := some (.int (1 : Int32))) (fun h => by rw [Bd.returns] at h; cases h)
      refine ⟨_, _, K444 _ ?_, hrun, hended, _, _, rfl, ?_, ⟨_, rfl⟩, hW, hsame.mono (by decide) (by decide)⟩
      · exact retN X431 hx (t := .boolean) Bd.returns (by simp) (hb hby at_114) hr
      · show Q_rm0 Z x0 x1 x2 x3 x4 h0 n0 _ T431.heap _
        have q445 := (by decide : (1 : Int32).toInt = 1)
        rw [eh431]
        exact ⟨rfl, (by trivial), N432, Kp427⟩
set_option maxRecDepth 65536 in
set_option maxHeartbeats 40000000 in
theorem comes_1 {Post : Tables → Env → Array Value → State → Outcome → State → Prop} (hpost : ∀ tb e args s v u, (limb_1_1.after args s (.returned v) u = true ∧ limb_1_2.after args s (.returned v) u = true ∧ True) → FrameEnd s (.returned v) u (Jvm.fieldLocs frame_1_writes args s ++ Jvm.arrayLocs frame_1_arrays args s ++ Jvm.staticLocs frame_1_statics s) 16 384 → Post tb e args s (.returned v) u) :
    ArmFor flags0 classFile x code maxLocals ret World_1 tables_1 room_1 Calls_1 rest_1 Pre_1 Post := by
  intro l hfl _ _ p e ha hc hk s m args below hf hA hF happ hP
  obtain ⟨hcalls, hrest, hpre⟩ := hP
  obtain ⟨-, -, -, hnamed, -, -, -, hat⟩ := (Spec.applies_iff hf).mp happ
  obtain ⟨hg, hn⟩ := and_e (Cond.before_iff.mp (show (Jvm.Cond.and given_1 narrow_1).before args s = true from hpre))
  obtain ⟨gg1, gg2⟩ := and_e hg
  obtain ⟨gg3, gg4⟩ := and_e gg2
  obtain ⟨gg5, gg6⟩ := and_e gg4
  obtain ⟨gg7, gg8⟩ := and_e gg6
  obtain ⟨gg9, gg10⟩ := and_e gg8
  obtain ⟨w0, w1, w2, w3, w4, rfl⟩ : ∃ w0 w1 w2 w3 w4 : Value, args = #[w0, w1, w2, w3, w4] := by
    have hs : args.size = 5 := by simpa [Cond.value, given_1] using gg1
    obtain ⟨L⟩ := args
    match L, hs with
    | [w0, w1, w2, w3, w4], _ => exact ⟨w0, w1, w2, w3, w4, rfl⟩
  have hw := fun d (hd : d ∈ tables_1) => atoms_spec (ws := Jvm.Cond.code x code maxLocals ret :: tables_1) hat d (List.mem_cons_of_mem _ hd)
  obtain ⟨i0, ei0⟩ := is_v gg3
  obtain rfl : w0 = (.int i0) := Option.some.inj ei0
  obtain ⟨i1, ei1⟩ := is_v gg5
  obtain rfl : w1 = (.int i1) := Option.some.inj ei1
  obtain ⟨i2, ei2⟩ := isL_v gg7
  obtain rfl : w2 = (.long i2) := Option.some.inj ei2
  obtain ⟨i3, ei3⟩ := isL_v gg9
  obtain rfl : w3 = (.long i3) := Option.some.inj ei3
  obtain ⟨i4, ei4⟩ := is_v gg10
  obtain rfl : w4 = (.int i4) := Option.some.inj ei4
  obtain ⟨n, o, h1, h2, h3, _, L, rfl, ⟨rfl, -, N, -⟩, hq⟩ := rm0 l s _ hw tables_1 i0 i1 i2 i3 i4 s.heap s.heap.size (Nat.le_refl _) p e ha hc hk s m _ below hf ((Spec.applies_iff_loose hf).mp happ).1 ⟨rfl, State.Warmed39.refl s, rfl⟩ trivial
  refine ⟨n, _, h1, h2, h3, hpost _ _ _ _ _ _ ⟨Cond.after_iff.mpr rfl, Cond.after_iff.mpr (eq_i res_at (Term.int_eval (1)) rfl), trivial⟩ ⟨hq.1, hq.2.1, (hq.2.2.sift fun y hy => Or.inr (N y hy)).mono (by decide) (by decide)⟩⟩
theorem main_1_1 : Claimed_1_1 := comes_1 fun _ _ _ _ _ _ h hF => ⟨h.1, hF⟩
theorem main_1_2 : Claimed_1_2 := comes_1 fun _ _ _ _ _ _ h hF => ⟨h.2.1, hF⟩
end Jvm.Pilot.@@N@@
namespace Jvm.Pilot.@@N@@
open Jvm Jvm.ClassFile Sem Op Lib Jvm.Free Jvm.Stand Jvm.Pilot.@@N@@.Jvm.D
/-! MADE BY PROGRAM (witnessworld.py) out of the Statement's table words and the real class files: 12 classes; the members and pool entries that the words name. The judged class is class 1, her method 1. -/
namespace start1
open Jvm.ClassFile
def u (s : String) : CpInfo := .utf8 (stringToUtf16 s)
/-- a pool by its gaps: so many unusable entries, then the entry; so many at the end -/
def gap : Nat → List CpInfo → List CpInfo
  | 0, r => r
  | n + 1, r => .unusable :: gap n r
def poolList (es : List (Nat × CpInfo)) (last : Nat) : List CpInfo := es.foldr (fun e r => gap e.1 (e.2 :: r)) (gap last [])
def pool (es : List (Nat × CpInfo)) (last : Nat) : Array CpInfo := ⟨poolList es last⟩
def fileOf (pool : Array CpInfo) (this : Nat) (attrs : Array Attribute := #[]) (ms : Array MethodInfo := #[]) (fl : Nat := 33) (sup : Nat := 0) (ifs : Array Nat := #[]) (fds : Array FieldInfo := #[]) : ClassFile where
  minorVersion := 0
  majorVersion := 65
  constantPool := pool
  accessFlags := fl
  thisClass := this
  superClass := sup
  interfaces := ifs
  fields := fds
  methods := ms
  attributes := attrs
def plain (name : String) (sup : Option ClassId) : Class where
  name := name
  kind := .ordinary
  loader := none
  accessFlags := 33
  super := sup
  interfaces := #[]
  cf := none
  fields := #[]
  methods := #[]
  instanceTypes := #[]
  staticTypes := #[]
  resolved := #[]
  callSites := []
  init := .initialized
  statics := none
  mirror := none

def pool0 : Array CpInfo := pool [(5, u "<init>"), (0, u "()V"), (1, .class_ 10), (1, u "java/lang/Object")] 113

def k0c0 : Code := { maxStack := 0, maxLocals := 1, code := object_method_1_code, exceptionTable := #[], attributes := #[] }
def k0m0 : Method := { name := "<init>", desc := "()V", sig := { parameters := [], returnType := none }, accessFlags := 1, code := some k0c0 }
/-- java/lang/Object -/
def k0 : Class := { plain "java/lang/Object" none with
  accessFlags := 33
  interfaces := #[]
  cf := some (fileOf pool0 8 #[] #[{ accessFlags := 1, nameIndex := 5, descriptorIndex := 6, attributes := #[] }] 33 0 #[] #[])
  fields := #[]
  methods := #[k0m0]
  instanceTypes := #[]
  staticTypes := #[]
  resolved := Array.replicate 124 none
  statics := none }

def pool1 : Array CpInfo := pool [(2, .class_ 4), (1, u "java/lang/Object"), (0, u "<init>"), (0, u "()V"), (0, .class_ 8), (0, u "com/example/cursorweave/cursorweave/store/Position"), (2, .long 9223372036854775807), (1, .methodref 7 14), (0, .nameAndType 5 15), (0, u "(JJ)V"), (0, .class_ 17), (0, u "com/example/cursorweave/cursorweave/store/Entry"), (0, .methodref 16 19), (0, .nameAndType 5 20), (0, u "(Lcom/example/cursorweave/cursorweave/store/Position;[B[B)V"), (0, .methodref 16 22), (0, .nameAndType 23 24), (0, u "size"), (0, u "()J"), (0, .class_ 26), (0, u "com/example/cursorweave/cursorweave/store/EntrySizePinLaw"), (2, u "law"), (0, u "(IIJJI)Z")] 5

def k1m0 : Method := { name := "<init>", desc := "()V", sig := { parameters := [], returnType := none }, accessFlags := 1, code := none }
def k1c1 : Code := { maxStack := 8, maxLocals := 15, code := code, exceptionTable := #[], attributes := #[] }
def k1m1 : Method := { name := "law", desc := "(IIJJI)Z", sig := { parameters := [.int, .int, .long, .long, .int], returnType := some .boolean }, accessFlags := 9, code := some k1c1 }
/-- com/example/cursorweave/cursorweave/store/EntrySizePinLaw -/
def k1 : Class := { plain "com/example/cursorweave/cursorweave/store/EntrySizePinLaw" (some 0) with
  accessFlags := 49
  interfaces := #[]
  cf := some (fileOf pool1 25 #[] #[{ accessFlags := 1, nameIndex := 5, descriptorIndex := 6, attributes := #[] }, { accessFlags := 9, nameIndex := 29, descriptorIndex := 30, attributes := #[] }] 49 2 #[] #[])
  fields := #[]
  methods := #[k1m0, k1m1]
  instanceTypes := #[]
  staticTypes := #[]
  resolved := Array.replicate 36 none
  statics := none }

def pool2 : Array CpInfo := pool [(1, .methodref 2 3), (0, .class_ 4), (0, .nameAndType 5 6), (0, u "java/lang/Object"), (0, u "<init>"), (0, u "()V"), (0, .class_ 8), (0, u "java/lang/Record")] 13

def k2c0 : Code := { maxStack := 1, maxLocals := 1, code := jdk_30_method_1_code, exceptionTable := #[], attributes := #[] }
def k2m0 : Method := { name := "<init>", desc := "()V", sig := { parameters := [], returnType := none }, accessFlags := 4, code := some k2c0 }
/-- java/lang/Record -/
def k2 : Class := { plain "java/lang/Record" (some 0) with
  accessFlags := 1057
  interfaces := #[]
  cf := some (fileOf pool2 7 #[] #[{ accessFlags := 4, nameIndex := 5, descriptorIndex := 6, attributes := #[] }] 1057 2 #[] #[])
  fields := #[]
  methods := #[k2m0]
  instanceTypes := #[]
  staticTypes := #[]
  resolved := Array.replicate 22 none
  statics := none }

def pool3 : Array CpInfo := pool [(1, .class_ 2), (0, u "java/lang/Comparable"), (0, .class_ 4), (0, u "java/lang/Object")] 7

/-- java/lang/Comparable -/
def k3 : Class := { plain "java/lang/Comparable" (some 0) with
  accessFlags := 1537
  interfaces := #[]
  cf := some (fileOf pool3 1 #[] #[] 1537 3 #[] #[])
  fields := #[]
  methods := #[]
  instanceTypes := #[]
  staticTypes := #[]
  resolved := Array.replicate 12 none
  statics := none }

def pool4 : Array CpInfo := pool [(1, .methodref 2 3), (0, .class_ 4), (0, .nameAndType 5 6), (0, u "java/lang/Record"), (0, u "<init>"), (0, u "()V"), (9, .fieldref 17 18), (0, .class_ 19), (0, .nameAndType 20 21), (0, u "com/example/cursorweave/cursorweave/store/Position"), (0, u "ledger"), (0, u "J"), (0, .fieldref 17 23), (0, .nameAndType 24 21), (0, u "entry"), (18, .class_ 44), (0, u "java/lang/Comparable"), (0, u "(JJ)V")] 43

def k4c0 : Code := { maxStack := 6, maxLocals := 5, code := prog_49_method_1_code, exceptionTable := #[], attributes := #[] }
def k4m0 : Method := { name := "<init>", desc := "(JJ)V", sig := { parameters := [.long, .long], returnType := none }, accessFlags := 1, code := some k4c0 }
/-- com/example/cursorweave/cursorweave/store/Position -/
def k4 : Class := { plain "com/example/cursorweave/cursorweave/store/Position" (some 2) with
  accessFlags := 49
  interfaces := #[3]
  cf := some (fileOf pool4 17 #[] #[{ accessFlags := 1, nameIndex := 5, descriptorIndex := 45, attributes := #[] }] 49 2 #[43] #[{ accessFlags := 18, nameIndex := 20, descriptorIndex := 21, attributes := #[] }, { accessFlags := 18, nameIndex := 24, descriptorIndex := 21, attributes := #[] }])
  fields := #[{ name := "ledger", type := .long, accessFlags := 18, slot := 0, constantValue := 0 }, { name := "entry", type := .long, accessFlags := 18, slot := 1, constantValue := 0 }]
  methods := #[k4m0]
  instanceTypes := #[.long, .long]
  staticTypes := #[]
  resolved := Array.replicate 89 none
  statics := none }

def pool5 : Array CpInfo := pool [(1, .methodref 2 3), (0, .class_ 4), (0, .nameAndType 5 6), (0, u "java/lang/Record"), (0, u "<init>"), (0, u "()V"), (0, .fieldref 8 9), (0, .class_ 10), (0, .nameAndType 11 12), (0, u "com/example/cursorweave/cursorweave/store/Entry"), (0, u "position"), (0, u "Lcom/example/cursorweave/cursorweave/store/Position;"), (0, .fieldref 8 14), (0, .nameAndType 15 16), (0, u "metadata"), (0, u "[B"), (0, .fieldref 8 18), (0, .nameAndType 19 16), (0, u "payload"), (12, u "(Lcom/example/cursorweave/cursorweave/store/Position;[B[B)V"), (3, u "size"), (0, u "()J")] 27

def k5c0 : Code := { maxStack := 2, maxLocals := 4, code := prog_34_method_1_code, exceptionTable := #[], attributes := #[] }
def k5m0 : Method := { name := "<init>", desc := "(Lcom/example/cursorweave/cursorweave/store/Position;[B[B)V", sig := { parameters := [(.object "com/example/cursorweave/cursorweave/store/Position"), (.array .byte), (.array .byte)], returnType := none }, accessFlags := 1, code := some k5c0 }
def k5c1 : Code := { maxStack := 4, maxLocals := 1, code := prog_34_method_2_code, exceptionTable := #[], attributes := #[] }
def k5m1 : Method := { name := "size", desc := "()J", sig := { parameters := [], returnType := some .long }, accessFlags := 1, code := some k5c1 }
/-- com/example/cursorweave/cursorweave/store/Entry -/
def k5 : Class := { plain "com/example/cursorweave/cursorweave/store/Entry" (some 2) with
  accessFlags := 49
  interfaces := #[]
  cf := some (fileOf pool5 8 #[] #[{ accessFlags := 1, nameIndex := 5, descriptorIndex := 32, attributes := #[] }, { accessFlags := 1, nameIndex := 36, descriptorIndex := 37, attributes := #[] }] 49 2 #[] #[{ accessFlags := 18, nameIndex := 11, descriptorIndex := 12, attributes := #[] }, { accessFlags := 18, nameIndex := 15, descriptorIndex := 16, attributes := #[] }, { accessFlags := 18, nameIndex := 19, descriptorIndex := 16, attributes := #[] }])
  fields := #[{ name := "position", type := (.object "com/example/cursorweave/cursorweave/store/Position"), accessFlags := 18, slot := 0, constantValue := 0 }, { name := "metadata", type := (.array .byte), accessFlags := 18, slot := 1, constantValue := 0 }, { name := "payload", type := (.array .byte), accessFlags := 18, slot := 2, constantValue := 0 }]
  methods := #[k5m0, k5m1]
  instanceTypes := #[(.object "com/example/cursorweave/cursorweave/store/Position"), (.array .byte), (.array .byte)]
  staticTypes := #[]
  resolved := Array.replicate 65 none
  statics := none }

def pool6 : Array CpInfo := pool [(1, u "java/lang/Cloneable"), (0, .class_ 1), (0, u "java/lang/Object"), (0, .class_ 3)] 3

/-- java/lang/Cloneable -/
def k6 : Class := { plain "java/lang/Cloneable" (some 0) with
  accessFlags := 1537
  interfaces := #[]
  cf := some (fileOf pool6 2 #[] #[] 1537 4 #[] #[])
  fields := #[]
  methods := #[]
  instanceTypes := #[]
  staticTypes := #[]
  resolved := Array.replicate 8 none
  statics := none }

def pool7 : Array CpInfo := pool [(1, u "java/io/Serializable"), (0, .class_ 1), (0, u "java/lang/Object"), (0, .class_ 3)] 3

/-- java/io/Serializable -/
def k7 : Class := { plain "java/io/Serializable" (some 0) with
  accessFlags := 1537
  interfaces := #[]
  cf := some (fileOf pool7 2 #[] #[] 1537 4 #[] #[])
  fields := #[]
  methods := #[]
  instanceTypes := #[]
  staticTypes := #[]
  resolved := Array.replicate 8 none
  statics := none }

/-- the primitive byte -/
def k8 : Class := { plain "byte" none with kind := .primitive 'B', accessFlags := 0x411 }
/-- [B -/
def k9 : Class := { plain "[B" (some 0) with kind := .array 8 .byte, interfaces := #[6, 7], accessFlags := 1041 }

/-- the primitive int -/
def k10 : Class := { plain "int" none with kind := .primitive 'I', accessFlags := 0x411 }
/-- [I -/
def k11 : Class := { plain "[I" (some 0) with kind := .array 10 .int, interfaces := #[6, 7], accessFlags := 1041 }

def heap : Heap := #[]
def classes : Array Class := #[k0, k1, k2, k3, k4, k5, k6, k7, k8, k9, k10, k11]
def interned : List (Array UInt16 × Addr) := []
def slotsUsed : Nat := 0
def theMethod : MethodId := ⟨1, 1⟩
def args0 : Array Value := #[.int 5, .int 7, .long 9, .long 3, .int 77]
def aboutOver (below : List Frame) : State where
  vm := { classes := classes, interned := interned.toArray }
  heap := heap
  slotsUsed := slotsUsed
  threads := #[{ frames := .invoking theMethod args0 :: below }]
def below0 : List Frame := [.native { method := ⟨0, 0⟩, args := #[] }]
def about1 : State := aboutOver below0
def p0 : Program := .bare "" "" ""
def e0 : Env := launch0.env 0 0 0
theorem w_frames : about1.frames = Frame.invoking theMethod args0 :: below0 := rfl
set_option maxRecDepth 65536 in
theorem w_args : argsFit about1.vm theMethod args0 = true := by decide +kernel
set_option maxRecDepth 65536 in
theorem w_heap : heapFits about1 = true := by decide +kernel
set_option maxRecDepth 65536 in
theorem w_runnable : about1.curStatus? = some .runnable := by decide +kernel
set_option maxRecDepth 65536 in
theorem w_alone : about1.alone = true := by decide +kernel
set_option maxRecDepth 65536 in
theorem w_named : about1.methodNamed? x = some theMethod := by decide +kernel
set_option maxRecDepth 65536 in
theorem w_hears : about1.hears theMethod below0 = true := by decide +kernel
set_option maxRecDepth 65536 in
theorem w_ripe : about1.ripe theMethod args0 below0 = true := by decide +kernel
theorem w_running : about1.status = .running := rfl
set_option maxRecDepth 65536 in
theorem w_room : about1.hasRoom e0.platform room_1 = true :=
  launch0.hasRoom_least _ room_1 (by decide +kernel) (by decide +kernel) (by decide +kernel) (by decide +kernel) (by decide +kernel) (by decide +kernel)
theorem allAtoms_all (ts : List Jvm.Cond) (a : Array Jvm.Value) (st : Jvm.State) : (allAtoms ts).before a st = ts.all (fun c => c.before a st) := by
  induction ts with
  | nil => rfl
  | cons c t ih =>
    show (Jvm.Cond.and c (allAtoms t)).before a st = _
    rw [Jvm.Cond.before_and, ih, List.all_cons]
def words1 : List Jvm.Cond := Jvm.Cond.code x code maxLocals ret :: tables_1
/-- a 'code' word, met by the world's own term for the bytes: nothing is compared byte by byte -/
theorem code_word {y : MethodName} {bytes : ByteArray} {mx : Nat} {rt : Option FieldType} {a : Array Value} {s : State} {m : MethodId} {meth : Method} {c : Code} (h1 : s.methodNamed? y = some m) (h2 : s.vm.method? m = some meth) (h3 : meth.code = some c) (h4 : c.code = bytes)
    (h5 : (c.maxLocals == mx && c.exceptionTable.isEmpty && decide (c.maxStack ≤ mostOperands) && decide (meth.sig.returnType = rt) && !meth.locks && decide (parseMethodDescriptor y.desc = some meth.sig)) = true) : (Jvm.Cond.code y bytes mx rt).before a s = true := by
  simp only [Bool.and_eq_true, beq_iff_eq, Bool.not_eq_true', decide_eq_true_eq] at h5
  obtain ⟨⟨⟨⟨⟨g1, g2⟩, g3⟩, g4⟩, g5⟩, g6⟩ := h5
  simp [Cond.before, Cond.holds, Cond.value, h1, h2, h3, h4, g1, g2, g3, g4, g5, g6]
def isCode : Jvm.Cond → Bool
  | .code _ _ _ _ => true
  | _ => false
theorem all_split {L : List Jvm.Cond} {P : Jvm.Cond → Bool} (h1 : L.all (fun c => isCode c || P c) = true) (h2 : ∀ c ∈ L.filter isCode, P c = true) : L.all P = true := by
  refine List.all_eq_true.mpr fun c hc => ?_
  have h := List.all_eq_true.mp h1 c hc
  rcases Bool.eq_false_or_eq_true (isCode c) with hi | hi
  · exact h2 c (List.mem_filter.mpr ⟨hc, hi⟩)
  · simpa [hi] using h
set_option maxRecDepth 65536 in
theorem w_c0 : (Jvm.Cond.code x code maxLocals ret).before args0 about1 = true := code_word (m := ⟨1, 1⟩) (meth := k1m1) (c := k1c1) (by decide +kernel) rfl rfl rfl (by decide +kernel)
set_option maxRecDepth 65536 in
theorem w_c1 : (Jvm.Cond.code ({ cls := "com/example/cursorweave/cursorweave/store/Position", name := "<init>", desc := "(JJ)V" } : Jvm.MethodName) prog_49_method_1_code (5 : Nat) (Option.none : Option Jvm.ClassFile.FieldType)).before args0 about1 = true := code_word (m := ⟨4, 0⟩) (meth := k4m0) (c := k4c0) (by decide +kernel) rfl rfl rfl (by decide +kernel)
set_option maxRecDepth 65536 in
theorem w_c2 : (Jvm.Cond.code ({ cls := "java/lang/Record", name := "<init>", desc := "()V" } : Jvm.MethodName) jdk_30_method_1_code (1 : Nat) (Option.none : Option Jvm.ClassFile.FieldType)).before args0 about1 = true := code_word (m := ⟨2, 0⟩) (meth := k2m0) (c := k2c0) (by decide +kernel) rfl rfl rfl (by decide +kernel)
set_option maxRecDepth 65536 in
theorem w_c3 : (Jvm.Cond.code ({ cls := "java/lang/Object", name := "<init>", desc := "()V" } : Jvm.MethodName) object_method_1_code (1 : Nat) (Option.none : Option Jvm.ClassFile.FieldType)).before args0 about1 = true := code_word (m := ⟨0, 0⟩) (meth := k0m0) (c := k0c0) (by decide +kernel) rfl rfl rfl (by decide +kernel)
set_option maxRecDepth 65536 in
theorem w_c4 : (Jvm.Cond.code ({ cls := "com/example/cursorweave/cursorweave/store/Entry", name := "<init>", desc := "(Lcom/example/cursorweave/cursorweave/store/Position;[B[B)V" } : Jvm.MethodName) prog_34_method_1_code (4 : Nat) (Option.none : Option Jvm.ClassFile.FieldType)).before args0 about1 = true := code_word (m := ⟨5, 0⟩) (meth := k5m0) (c := k5c0) (by decide +kernel) rfl rfl rfl (by decide +kernel)
set_option maxRecDepth 65536 in
theorem w_c5 : (Jvm.Cond.code ({ cls := "com/example/cursorweave/cursorweave/store/Entry", name := "size", desc := "()J" } : Jvm.MethodName) prog_34_method_2_code (1 : Nat) (Option.some Jvm.ClassFile.FieldType.long)).before args0 about1 = true := code_word (m := ⟨5, 1⟩) (meth := k5m1) (c := k5c1) (by decide +kernel) rfl rfl rfl (by decide +kernel)
def codes1 : List Jvm.Cond := [Jvm.Cond.code x code maxLocals ret, Jvm.Cond.code ({ cls := "com/example/cursorweave/cursorweave/store/Position", name := "<init>", desc := "(JJ)V" } : Jvm.MethodName) prog_49_method_1_code (5 : Nat) (Option.none : Option Jvm.ClassFile.FieldType), Jvm.Cond.code ({ cls := "java/lang/Record", name := "<init>", desc := "()V" } : Jvm.MethodName) jdk_30_method_1_code (1 : Nat) (Option.none : Option Jvm.ClassFile.FieldType), Jvm.Cond.code ({ cls := "java/lang/Object", name := "<init>", desc := "()V" } : Jvm.MethodName) object_method_1_code (1 : Nat) (Option.none : Option Jvm.ClassFile.FieldType), Jvm.Cond.code ({ cls := "com/example/cursorweave/cursorweave/store/Entry", name := "<init>", desc := "(Lcom/example/cursorweave/cursorweave/store/Position;[B[B)V" } : Jvm.MethodName) prog_34_method_1_code (4 : Nat) (Option.none : Option Jvm.ClassFile.FieldType), Jvm.Cond.code ({ cls := "com/example/cursorweave/cursorweave/store/Entry", name := "size", desc := "()J" } : Jvm.MethodName) prog_34_method_2_code (1 : Nat) (Option.some Jvm.ClassFile.FieldType.long)]
set_option maxRecDepth 65536 in
theorem codes_eq : words1.filter isCode = codes1 := rfl
theorem w_codes : ∀ c ∈ words1.filter isCode, c.before args0 about1 = true := by
  rw [codes_eq]
  intro c hc
  simp only [codes1, List.mem_cons, List.not_mem_nil, or_false] at hc
  rcases hc with rfl | rfl | rfl | rfl | rfl | rfl
  · exact w_c0
  · exact w_c1
  · exact w_c2
  · exact w_c3
  · exact w_c4
  · exact w_c5
set_option maxRecDepth 65536 in
theorem w_t1 : (words1.take 24).all (fun c => isCode c || c.before args0 about1) = true := by decide +kernel
set_option maxRecDepth 65536 in
theorem w_t2 : (words1.drop 24).all (fun c => isCode c || c.before args0 about1) = true := by decide +kernel
theorem w_tables : (allAtoms (Jvm.Cond.code x code maxLocals ret :: tables_1)).before args0 about1 = true := by
  rw [allAtoms_all]
  show words1.all (fun c => c.before args0 about1) = true
  refine all_split ?_ w_codes
  rw [← List.take_append_drop 24 words1, List.all_append, w_t1, w_t2]
  rfl
set_option maxRecDepth 65536 in
theorem w_case : (Jvm.Cond.and given_1 narrow_1).before args0 about1 = true := by decide +kernel
theorem w_applies : (headSpec (Jvm.Cond.code x code maxLocals ret :: tables_1) room_1).applies x e0.platform about1 = true :=
  (Spec.applies_iff w_frames).mpr ⟨w_running, w_runnable, w_alone, w_named, w_hears, w_ripe, w_room, w_tables⟩
theorem atStart : AtStart classFile x code maxLocals ret World_1 tables_1 room_1 Calls_1 rest_1 Pre_1 launch0 p0 e0 about1 theMethod args0 below0 :=
  ⟨lists_1, trivial, launch0.admits_env _ _ _, launch0.least_env, fairChoices_fair.cas, fairChoices_fair.clock, w_frames, w_args, w_heap, w_applies, trivial, trivial, w_case⟩
end start1
theorem witness_1 : WitnessClaimed_1 := ⟨start1.p0, start1.e0, start1.about1, start1.theMethod, start1.args0, start1.below0, start1.atStart⟩
end Jvm.Pilot.@@N@@
