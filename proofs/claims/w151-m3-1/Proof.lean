import JvmDerived
import JvmDerived.Pilot.@@N@@Statement
import JvmDerived.Pilot.@@N@@Code
set_option linter.unusedVariables false
set_option linter.unusedSimpArgs false
namespace Jvm.RoadKit
open Sem ClassFile Op Lib Jvm.Stand Jvm.Free Jvm.LawKit
section New
variable {p : Program} {l : Launch} {e : Env} {R : Room} {s : State} {m : MethodId} {args : Array Value} {below : List Frame} {meth : Method} {c : Code} {T : State} {locs : List Loc} {cells slots : Nat}
theorem retI (X : Stand p l e R s m args below meth c T locs cells slots) (hx : p.tables.exec = Jvm.exec) {pc : Nat} {Ls : Array Slot} {z : Int32} {rest : List Value} (hret : meth.sig.returnType = some .int) (hd : decode c.code pc = .ok (.ireturn, 1)) {fs : List Frame}
    (hl : ∀ (f : JFrame) (acts : List Action), f.method = m → f.locked = none → f.entered = [] → (doReturn e (T.setTop f) acts (some (.int z))).1 = T.setFrames fs) : Steps p.tables e below (T.setTop (mkF m pc Ls (.int z :: rest))) (T.setFrames fs) := by
  have hm' : T.vm.method? m = some meth := X.method'
  have hn : narrow .int (.int z) = .int z := rfl
  show Steps p.tables e below (T.setTop { method := m, pc := pc, locals := Ls, stack := _ :: rest, locked := none }) _
  jvm_step X.here [X.here.top, hx, hd, hm', hret, hn]
  first | (intro acts; rw [hl _ acts rfl rfl rfl]) | rw [hl _ _ rfl rfl rfl]
  exact Steps.refl _
end New
end Jvm.RoadKit
namespace Jvm.Pilot.@@N@@
open Jvm Jvm.ClassFile Sem Op Lib Jvm.Free Jvm.Stand Jvm.LawKit Jvm.RoadKit Bundle Jvm.Pilot.@@N@@.Jvm.D
/-- an array of ints (bytes) of which the length is known -/
def own_Arl (Z : State) (h : Heap) (a : Addr) (ty : FieldType) (z : Int32) : Prop := ∃ c : Cell, Arr Z h a c ty ∧ c.slots.size = z.toNatClampNeg ∧ ¬ z < 0
/-- an array of ints (bytes) that holds f -/
def own_Arf (Z : State) (h : Heap) (a : Addr) (ty : FieldType) (z : Int32) (f : Nat → Int32) : Prop := ∃ c : Cell, Arr Z h a c ty ∧ c.slots.size = z.toNatClampNeg ∧ ¬ z < 0 ∧ ∀ i, i < z.toNatClampNeg → c.slots[i]? = some (.int (f i))
section Arrs
variable {Z : State} {h h' : Heap} {a b : Addr} {ty : FieldType} {z j x : Int32} {f g : Nat → Int32} {sl : Nat} {v : Value} {ws : List Addr} {k : ClassId} {vs : List Value} {dv : Value} {c : Cell}
theorem own_Arl.lt (F : own_Arl Z h a ty z) : a < h.size := by obtain ⟨c, A, -⟩ := F; exact A.lt
theorem own_Arl.ext (F : own_Arl Z h a ty z) (E : Ext h h') : own_Arl Z h' a ty z := by obtain ⟨c, A, r⟩ := F; exact ⟨c, A.ext E, r⟩
theorem own_Arl.other (F : own_Arl Z h b ty z) (W : Wr h h' a sl v) (q : b ≠ a) : own_Arl Z h' b ty z := by obtain ⟨c, A, r⟩ := F; exact ⟨c, A.other W q, r⟩
theorem own_Arl.keep (F : own_Arl Z h a ty z) (K : Keep h h' ws) (q : a ∉ ws) : own_Arl Z h' a ty z := by obtain ⟨c, A, r⟩ := F; exact ⟨c, ⟨K.2.1 a c A.1 q, A.2⟩, r⟩
theorem own_Arl.new (A : Arr Z h a (newA k ty z) ty) (q : ¬ z < 0) : own_Arl Z h a ty z := ⟨_, A, sz_new _ _ _, q⟩
theorem own_Arl.same (A : Arr Z h a c ty) (S : c.slots.size = z.toNatClampNeg) (q : ¬ z < 0) (W : Wr h h' a sl v) : own_Arl Z h' a ty z := ⟨_, A.same W, (sz_set _ _ _).trans S, q⟩
theorem own_Arl.ofV (F : Arv Z h a k ty z vs dv) : own_Arl Z h a ty z := by obtain ⟨c, A, -, S, N, -⟩ := F; exact ⟨c, A, S, N⟩
theorem own_Arl.ofA (F : own_Arf Z h a ty z f) : own_Arl Z h a ty z := by obtain ⟨c, A, S, N, -⟩ := F; exact ⟨c, A, S, N⟩
theorem own_Arf.lt (F : own_Arf Z h a ty z f) : a < h.size := by obtain ⟨c, A, -⟩ := F; exact A.lt
theorem own_Arf.ext (F : own_Arf Z h a ty z f) (E : Ext h h') : own_Arf Z h' a ty z f := by obtain ⟨c, A, r⟩ := F; exact ⟨c, A.ext E, r⟩
theorem own_Arf.other (F : own_Arf Z h b ty z f) (W : Wr h h' a sl v) (q : b ≠ a) : own_Arf Z h' b ty z f := by obtain ⟨c, A, r⟩ := F; exact ⟨c, A.other W q, r⟩
theorem own_Arf.keep (F : own_Arf Z h a ty z f) (K : Keep h h' ws) (q : a ∉ ws) : own_Arf Z h' a ty z f := by obtain ⟨c, A, r⟩ := F; exact ⟨c, ⟨K.2.1 a c A.1 q, A.2⟩, r⟩
theorem own_Arf.new (A : Arr Z h a (newA k ty z) ty) (q : ¬ z < 0) (hd : defaultValue ty = .int 0) : own_Arf Z h a ty z (fun _ => 0) := ⟨_, A, sz_new _ _ _, q, fun i hi => by simp [newA, hi, hd]⟩
theorem own_Arf.set (A : Arr Z h a c ty) (S : c.slots.size = z.toNatClampNeg) (q : ¬ z < 0) (H : ∀ i, i < z.toNatClampNeg → c.slots[i]? = some (.int (f i))) (W : Wr h h' a sl (.int x)) (e : sl = j.toNatClampNeg) (hg : g = fun i => if i = j.toNatClampNeg then x else f i) : own_Arf Z h' a ty z g := by
  subst e hg
  refine ⟨_, A.same W, (sz_set _ _ _).trans S, q, fun i hi => ?_⟩
  by_cases hij : i = j.toNatClampNeg
  · subst hij
    have hs : j.toNatClampNeg < c.slots.size := by rw [S]; exact hi
    simp [Cell.setSlot, hs]
  · rw [show (c.setSlot j.toNatClampNeg (.int x)).slots[i]? = c.slots[i]? from Array.getElem?_setIfInBounds_ne (Ne.symm hij), H i hi]
    simp [hij]
theorem own_Arf.ofV (F : Arv Z h a k ty z vs dv) (e : ∀ i, i < z.toNatClampNeg → vs.getD i dv = .int (f i)) : own_Arf Z h a ty z f := by
  obtain ⟨c, A, -, S, N, H, -⟩ := F
  exact ⟨c, A, S, N, fun i hi => by rw [H i (by rw [S]; exact hi), e i hi]⟩
theorem own_Arf.congr (F : own_Arf Z h a ty z f) (e : ∀ i, i < z.toNatClampNeg → f i = g i) : own_Arf Z h a ty z g := by obtain ⟨c, A, S, N, H⟩ := F; exact ⟨c, A, S, N, fun i hi => by rw [← e i hi]; exact H i hi⟩
theorem own_at (H : ∀ i, i < z.toNatClampNeg → c.slots[i]? = some (.int (f i))) (S : c.slots.size = z.toNatClampNeg) (q : ¬ (j < 0 ∨ c.slots.size ≤ j.toNatClampNeg)) (e : f j.toNatClampNeg = x) : c.slots[j.toNatClampNeg]? = some (.int x) := by
  rw [← e]; exact H _ (by rw [← S]; exact Nat.lt_of_not_le fun y => q (Or.inr y))
end Arrs
theorem own_d6_0 : decode jdk_29_method_70_code 0 = .ok (.lload_n 0, 1) := by decide +kernel
theorem own_d6_1 : decode jdk_29_method_70_code 1 = .ok (.lload_n 2, 1) := by decide +kernel
theorem own_d6_2 : decode jdk_29_method_70_code 2 = .ok (.lcmp, 1) := by decide +kernel
theorem own_d6_3 : decode jdk_29_method_70_code 3 = .ok (.ifCond .gt 7, 3) := by decide +kernel
theorem own_d6_6 : decode jdk_29_method_70_code 6 = .ok (.lload_n 0, 1) := by decide +kernel
theorem own_d6_7 : decode jdk_29_method_70_code 7 = .ok (.goto 4, 3) := by decide +kernel
theorem own_d6_10 : decode jdk_29_method_70_code 10 = .ok (.lload_n 2, 1) := by decide +kernel
theorem own_d6_11 : decode jdk_29_method_70_code 11 = .ok (.lreturn, 1) := by decide +kernel
def Q_rm6 (Z : State) (ua : Int64) (ub : Int64) (h0 : Heap) (n0 : Nat) (v : Option Value) (h : Heap) (L : List Loc) : Prop := ∃ (r : Int64), v = some (.long r) ∧ ((r.toInt = ua.toInt ∧ ua.toInt ≤ ub.toInt) ∨ (r.toInt = ub.toInt ∧ ub.toInt < ua.toInt)) ∧ Fr n0 L ∧ h = h0
theorem own_ef_rm6 (m : MethodId) (ua : Int64) (ub : Int64) : entryFrame m #[(.long ua), (.long ub)] 4 = mkF m 0 #[.val (.long ua), .second, .val (.long ub), .second] [] := by first | (simp [entryFrame, mkF, argsToLocals, Value.category]; done) | rfl
set_option maxRecDepth 65536 in
set_option maxHeartbeats 40000000 in
theorem rm6 (l : Launch) (Z : State) (a0 : Array Value) (hw : ∀ d ∈ tables_1, d.before a0 Z = true) (ws : List Jvm.Cond) (ua : Int64) (ub : Int64) (h0 : Heap) (n0 : Nat) (Z0 : n0 ≤ h0.size) :
    MetFree l (⟨"java/lang/Math", "min", "(JJ)J"⟩ : MethodName) (head1 (Jvm.Cond.code (⟨"java/lang/Math", "min", "(JJ)J"⟩ : MethodName) jdk_29_method_70_code 4 (some .long) :: ws) ({ frames := 0, cells := 0, slots := 0, locals := 0 } : Room)) (fun a U => a = #[(.long ua), (.long ub)] ∧ Z.Warmed39 U.vm ∧ U.heap = h0) (fun _ _ _ _ _ => True) (fun _ U o U' => ∃ v L, o = .returned v ∧ Q_rm6 Z ua ub h0 n0 v U'.heap L ∧ FrameEnd U o U' L ({ frames := 0, cells := 0, slots := 0, locals := 0 } : Room).cells ({ frames := 0, cells := 0, slots := 0, locals := 0 } : Room).slots) := by
  refine MetFree.of_bodySF (Jvm.Free.JP.mathPlain rfl (by decide +kernel)) hisR ?_
  intro p e s m args below meth c s₁ Bd hml0 hP hK
  obtain ⟨rfl, hZ, hh⟩ := hP
  have hx := Bd.exec
  have hby := Bd.bytes
  have hml : c.maxLocals = 4 := hml0
  have hown : s.vm.findClass "java/lang/Math" = some m.cls := findClass_of_methodNamed Bd.named
  have hnm := (name_of_methodNamed Bd.named Bd.method).1
  have X0 : Stand p l e ({ frames := 0, cells := 0, slots := 0, locals := 0 } : Room) s m #[(.long ua), (.long ub)] below meth c s₁ [] 0 0 := Stand.of_body Bd
  have e0 : s₁.heap = h0 := by rw [← hh, Bd.state]; rfl
  have N0 := Fr.nil n0
  have pre0 : ∀ t, Steps p.tables e below (s₁.setTop (mkF m 0 #[.val (.long ua), .second, .val (.long ub), .second] [])) t → Steps p.tables e below (s₁.setTop (entryFrame m #[(.long ua), (.long ub)] 4)) t := fun t k => castTop (own_ef_rm6 m ua ub) k
  have K2 : ∀ t, Steps p.tables e below (s₁.setTop (mkF m 3 #[.val (.long ua), .second, .val (.long ub), .second] [(.int (lcmpW ua ub))])) t → Steps p.tables e below (s₁.setTop (entryFrame m #[(.long ua), (.long ub)] 4)) t := fun t k => pre0 t (by
    show Steps p.tables e below (s₁.setTop (mkF m 0 #[.val (.long ua), .second, .val (.long ub), .second] [])) t
    refine XS.lloadN X0.here hx rfl (hb hby own_d6_0) rfl ?_
    show Steps p.tables e below (s₁.setTop (mkF m 1 #[.val (.long ua), .second, .val (.long ub), .second] [(.long ua)])) t
    refine XS.lloadN X0.here hx rfl (hb hby own_d6_1) rfl ?_
    show Steps p.tables e below (s₁.setTop (mkF m 2 #[.val (.long ua), .second, .val (.long ub), .second] [(.long ub), (.long ua)])) t
    refine XS.lcmp X0.here hx rfl (hb hby own_d6_2) rfl ?_
    exact k)
  have q3 := (by decide : (0 : Int32).toInt = 0)
  have q4 := rng64 ua
  have q5 := rng64 ub
  have q6 := c_lcmp ua ub
  by_cases hc1 : (0 : Int32) < (lcmpW ua ub)
  · have q7 : (0 : Int32).toInt < (lcmpW ua ub).toInt := Int32.lt_iff_toInt_lt.mp hc1
    have K8 : ∀ t, Steps p.tables e below (s₁.setTop (mkF m 11 #[.val (.long ua), .second, .val (.long ub), .second] [(.long ub)])) t → Steps p.tables e below (s₁.setTop (entryFrame m #[(.long ua), (.long ub)] 4)) t := fun t k => K2 t (by
      show Steps p.tables e below (s₁.setTop (mkF m 3 #[.val (.long ua), .second, .val (.long ub), .second] [(.int (lcmpW ua ub))])) t
      refine XS.ifYes X0.here hx rfl (pc0 := 3) (pc' := 10) rfl (hb hby own_d6_3) rfl ((if0 _ _).trans (tlt hc1).2.2.1) (by decide) (by decide) ?_
      show Steps p.tables e below (s₁.setTop (mkF m 10 #[.val (.long ua), .second, .val (.long ub), .second] [])) t
      refine XS.lloadN X0.here hx rfl (hb hby own_d6_10) rfl ?_
      exact k)
    obtain ⟨fs, hr, hrun, hended, hW, hsame⟩ := X0.leave (v := some (.long ub)) (fun h => by rw [Bd.returns] at h; cases h)
    refine ⟨_, _, K8 _ ?_, hrun, hended, _, _, rfl, ?_, ⟨_, rfl⟩, hW, hsame.mono (by decide) (by decide)⟩
    · jvm_step X0.here [X0.here.top, hx, (hb hby own_d6_11), X0.method', Bd.returns, narrow]
      first | (intro acts; rw [hr _ acts rfl rfl rfl]) | rw [hr _ _ rfl rfl rfl]
      exact Steps.refl _
    · show Q_rm6 Z ua ub h0 n0 _ s₁.heap _
      rw [e0]
      exact ⟨ub, rfl, (by omega), N0, rfl⟩
  · have q9 : ¬ (0 : Int32).toInt < (lcmpW ua ub).toInt := fun q => hc1 (Int32.lt_iff_toInt_lt.mpr q)
    have K10 : ∀ t, Steps p.tables e below (s₁.setTop (mkF m 11 #[.val (.long ua), .second, .val (.long ub), .second] [(.long ua)])) t → Steps p.tables e below (s₁.setTop (entryFrame m #[(.long ua), (.long ub)] 4)) t := fun t k => K2 t (by
      show Steps p.tables e below (s₁.setTop (mkF m 3 #[.val (.long ua), .second, .val (.long ub), .second] [(.int (lcmpW ua ub))])) t
      refine XS.ifNo X0.here hx rfl (hb hby own_d6_3) rfl ((if0 _ _).trans (flt hc1).2.2.1) ?_
      show Steps p.tables e below (s₁.setTop (mkF m 6 #[.val (.long ua), .second, .val (.long ub), .second] [])) t
      refine XS.lloadN X0.here hx rfl (hb hby own_d6_6) rfl ?_
      show Steps p.tables e below (s₁.setTop (mkF m 7 #[.val (.long ua), .second, .val (.long ub), .second] [(.long ua)])) t
      refine XS.goto X0.here hx rfl (pc0 := 7) (pc' := 11) rfl (hb hby own_d6_7) (by decide) (by decide) ?_
      exact k)
    obtain ⟨fs, hr, hrun, hended, hW, hsame⟩ := X0.leave (v := some (.long ua)) (fun h => by rw [Bd.returns] at h; cases h)
    refine ⟨_, _, K10 _ ?_, hrun, hended, _, _, rfl, ?_, ⟨_, rfl⟩, hW, hsame.mono (by decide) (by decide)⟩
    · jvm_step X0.here [X0.here.top, hx, (hb hby own_d6_11), X0.method', Bd.returns, narrow]
      first | (intro acts; rw [hr _ acts rfl rfl rfl]) | rw [hr _ _ rfl rfl rfl]
      exact Steps.refl _
    · show Q_rm6 Z ua ub h0 n0 _ s₁.heap _
      rw [e0]
      exact ⟨ua, rfl, (by omega), N0, rfl⟩
theorem own_d2_0 : decode prog_9_method_2_code 0 = .ok (.aload_n 0, 1) := by decide +kernel
theorem own_d2_1 : decode prog_9_method_2_code 1 = .ok (.invokespecial 9, 3) := by decide +kernel
theorem own_d2_4 : decode prog_9_method_2_code 4 = .ok (.aload_n 0, 1) := by decide +kernel
theorem own_d2_5 : decode prog_9_method_2_code 5 = .ok (.iload_n 1, 1) := by decide +kernel
theorem own_d2_6 : decode prog_9_method_2_code 6 = .ok (.newarray .byte, 2) := by decide +kernel
theorem own_d2_8 : decode prog_9_method_2_code 8 = .ok (.putfield 14, 3) := by decide +kernel
theorem own_d2_11 : decode prog_9_method_2_code 11 = .ok (.return_, 1) := by decide +kernel
theorem own_pn0 : plainName "com/example/relay_queue/relayqueue/broker/ByteWriter" = true := by first | (simp [plainName, overriddenIn]; done) | decide +kernel
def Q_rm2 (Z : State) (bc : Addr) (h0 : Heap) (n0 : Nat) (v : Option Value) (h : Heap) (L : List Loc) : Prop := v = none ∧ (True) ∧ Fr n0 L ∧ Keep h0 h [bc] ∧ Exa Z h bc "com/example/relay_queue/relayqueue/broker/ByteCounter" ∧ Fld Z h bc "com/example/relay_queue/relayqueue/broker/ByteCounter" "count" "J" (.long (0 : Int64))
theorem own_ef_rm2 (m : MethodId) (bc : Addr) : entryFrame m #[(.ref bc), (.int (0 : Int32))] 2 = mkF m 0 #[.val (.ref bc), .val (.int (0 : Int32))] [] := by first | (simp [entryFrame, mkF, argsToLocals, Value.category]; done) | rfl
set_option maxRecDepth 65536 in
set_option maxHeartbeats 40000000 in
theorem rm2 (l : Launch) (Z : State) (a0 : Array Value) (hw : ∀ d ∈ tables_1, d.before a0 Z = true) (ws : List Jvm.Cond) (bc : Addr) (h0 : Heap) (n0 : Nat) (Z0 : n0 ≤ h0.size) (P_0 : Exa Z h0 bc "com/example/relay_queue/relayqueue/broker/ByteCounter") (P_1 : Fld Z h0 bc "com/example/relay_queue/relayqueue/broker/ByteWriter" "bytes" "[B" .null) (P_2 : n0 ≤ bc) (P_3 : Fld Z h0 bc "com/example/relay_queue/relayqueue/broker/ByteCounter" "count" "J" (.long (0 : Int64))) :
    MetFree l (⟨"com/example/relay_queue/relayqueue/broker/ByteWriter", "<init>", "(I)V"⟩ : MethodName) (head1 (Jvm.Cond.code (⟨"com/example/relay_queue/relayqueue/broker/ByteWriter", "<init>", "(I)V"⟩ : MethodName) prog_9_method_2_code 2 none :: ws) ({ frames := 1, cells := 1, slots := 0, locals := 12 } : Room)) (fun a U => a = #[(.ref bc), (.int (0 : Int32))] ∧ Z.Warmed39 U.vm ∧ U.heap = h0) (fun _ _ _ _ _ => True) (fun _ U o U' => ∃ v L, o = .returned v ∧ Q_rm2 Z bc h0 n0 v U'.heap L ∧ FrameEnd U o U' L ({ frames := 1, cells := 1, slots := 0, locals := 12 } : Room).cells ({ frames := 1, cells := 1, slots := 0, locals := 12 } : Room).slots) := by
  refine MetFree.of_bodySF (plainFor_of_name own_pn0) hisR ?_
  intro p e s m args below meth c s₁ Bd hml0 hP hK
  obtain ⟨rfl, hZ, hh⟩ := hP
  have hx := Bd.exec
  have hby := Bd.bytes
  have hml : c.maxLocals = 2 := hml0
  have hown : s.vm.findClass "com/example/relay_queue/relayqueue/broker/ByteWriter" = some m.cls := findClass_of_methodNamed Bd.named
  have hnm := (name_of_methodNamed Bd.named Bd.method).1
  have X0 : Stand p l e ({ frames := 1, cells := 1, slots := 0, locals := 12 } : Room) s m #[(.ref bc), (.int (0 : Int32))] below meth c s₁ [] 0 0 := Stand.of_body Bd
  have e0 : s₁.heap = h0 := by rw [← hh, Bd.state]; rfl
  have N0 := Fr.nil n0
  have pre0 : ∀ t, Steps p.tables e below (s₁.setTop (mkF m 0 #[.val (.ref bc), .val (.int (0 : Int32))] [])) t → Steps p.tables e below (s₁.setTop (entryFrame m #[(.ref bc), (.int (0 : Int32))] 2)) t := fun t k => castTop (own_ef_rm2 m bc) k
  have K11 : ∀ t, Steps p.tables e below (s₁.setTop (mkF m 1 #[.val (.ref bc), .val (.int (0 : Int32))] [(.ref bc)])) t → Steps p.tables e below (s₁.setTop (entryFrame m #[(.ref bc), (.int (0 : Int32))] 2)) t := fun t k => pre0 t (by
    show Steps p.tables e below (s₁.setTop (mkF m 0 #[.val (.ref bc), .val (.int (0 : Int32))] [])) t
    refine XS.aloadN X0.here hx rfl (hb hby own_d2_0) rfl rfl ?_
    exact k)
  obtain ⟨T12, X12, e12, st12⟩ := initO X0 hx hZ hown (hw _ (List.mem_of_getElem? (i := 12) rfl)) (hw _ (List.mem_of_getElem? (i := 13) rfl)) (hw _ (List.mem_of_getElem? (i := 14) rfl)) e0 (g := (mkF m 1 #[.val (.ref bc), .val (.int (0 : Int32))] [(.ref bc)])) rfl (by rw [hml]; rfl) rfl (hb hby own_d2_1) (by decide) (W := 0) (by show 2 * 0 + _ ≤ _; exact Nat.le_of_eq rfl) (by decide)
  have K13 : ∀ t, Steps p.tables e below (T12.setTop (mkF m 4 #[.val (.ref bc), .val (.int (0 : Int32))] [])) t → Steps p.tables e below (s₁.setTop (entryFrame m #[(.ref bc), (.int (0 : Int32))] 2)) t := fun t k => K11 t (st12 _ k)
  have K14 : ∀ t, Steps p.tables e below (T12.setTop (mkF m 6 #[.val (.ref bc), .val (.int (0 : Int32))] [(.int (0 : Int32)), (.ref bc)])) t → Steps p.tables e below (s₁.setTop (entryFrame m #[(.ref bc), (.int (0 : Int32))] 2)) t := fun t k => K13 t (by
    show Steps p.tables e below (T12.setTop (mkF m 4 #[.val (.ref bc), .val (.int (0 : Int32))] [])) t
    refine XS.aloadN X12.here hx rfl (hb hby own_d2_4) rfl rfl ?_
    show Steps p.tables e below (T12.setTop (mkF m 5 #[.val (.ref bc), .val (.int (0 : Int32))] [(.ref bc)])) t
    refine XS.iloadN X12.here hx rfl (hb hby own_d2_5) rfl ?_
    exact k)
  obtain ⟨T15, h15, k15, X15, e15, E15, A15, st15⟩ := newP X12 hx hZ (hw _ (List.mem_of_getElem? (i := 15) rfl)) e12 (g := (mkF m 6 #[.val (.ref bc), .val (.int (0 : Int32))] [(.int (0 : Int32)), (.ref bc)])) rfl (hb hby own_d2_6) rfl (by decide) (cap := 0) (by decide) (by decide) (by decide) (by decide)
  obtain ⟨b15, g15⟩ : ∃ z, z = h0.size := ⟨_, rfl⟩
  rw [← g15] at A15 st15
  have ne16 : bc ≠ b15 := Nat.ne_of_lt (Nat.lt_of_lt_of_le P_0.lt (Nat.le_of_eq g15.symm))
  have gb17 : n0 ≤ b15 := Nat.le_trans Z0 (Nat.le_of_eq g15.symm)
  have sb18 : h0.size ≤ b15 := Nat.le_trans (Keep.refl h0 [bc]).1 (Nat.le_of_eq g15.symm)
  have F19 := P_0.ext E15
  have F20 := P_1.ext E15
  have F21 := P_3.ext E15
  have Z22 : n0 ≤ h15.size := Nat.le_trans Z0 E15.1
  have Kp23 : Keep h0 h15 [bc] := Keep.ext (Keep.refl h0 [bc]) E15
  have V24 : own_Arl Z h15 b15 .byte (0 : Int32) := own_Arl.new A15 (by decide)
  have K25 : ∀ t, Steps p.tables e below (T15.setTop (mkF m 8 #[.val (.ref bc), .val (.int (0 : Int32))] [(.ref b15), (.ref bc)])) t → Steps p.tables e below (s₁.setTop (entryFrame m #[(.ref bc), (.int (0 : Int32))] 2)) t := fun t k => K14 t (st15 _ k)
  obtain ⟨T26, h26, X26, e26, W26, st26⟩ := putF X15 hx hZ hown (host := "") (Or.inl (hw _ (List.mem_of_getElem? (i := 16) rfl))) Via.refl e15 F20 F19 (Or.inl (hw _ (List.mem_of_getElem? (i := 17) rfl))) (hw _ (List.mem_of_getElem? (i := 2) rfl)) (ty := (.array .byte)) (by decide) rfl rfl (g := (mkF m 8 #[.val (.ref bc), .val (.int (0 : Int32))] [(.ref b15), (.ref bc)])) rfl rfl (hb hby own_d2_8)
  have F27 := F20.same W26
  have Kp28 : Keep h0 h26 [bc] := Keep.wr Kp23 W26 (Or.inl (List.mem_of_getElem? (i := 0) rfl))
  have Z29 : n0 ≤ h26.size := Nat.le_trans Z22 (Keep.of_wr W26).1
  have N30 := Fr.snoc X26 N0 P_2
  have F31 := F19.wr W26
  have F32 := F21.other W26 (Or.inr (slot_ne (Or.inl (hw _ (List.mem_of_getElem? (i := 31) rfl))) (Or.inl (hw _ (List.mem_of_getElem? (i := 17) rfl))) (by decide) (t := .long) (t' := (.array .byte)) (by decide) (by decide)))
  have F33 := V24.other W26 (Ne.symm ne16)
  have K34 : ∀ t, Steps p.tables e below (T26.setTop (mkF m 11 #[.val (.ref bc), .val (.int (0 : Int32))] [])) t → Steps p.tables e below (s₁.setTop (entryFrame m #[(.ref bc), (.int (0 : Int32))] 2)) t := fun t k => K25 t (st26 _ k)
  obtain ⟨fs, hr, hrun, hended, hW, hsame⟩ := X26.leave (v := none) (fun _ => rfl)
  refine ⟨_, _, K34 _ ?_, hrun, hended, _, _, rfl, ?_, ⟨_, rfl⟩, hW, hsame.mono (by decide) (by decide)⟩
  · exact X26.returnOut hx Bd.returns (hb hby own_d2_11) hr
  · show Q_rm2 Z bc h0 n0 _ T26.heap _
    rw [e26]
    exact ⟨rfl, (by trivial), N30, Kp28, F31, F32⟩
theorem own_d1_0 : decode prog_6_method_1_code 0 = .ok (.aload_n 0, 1) := by decide +kernel
theorem own_d1_1 : decode prog_6_method_1_code 1 = .ok (.iconst 0, 1) := by decide +kernel
theorem own_d1_2 : decode prog_6_method_1_code 2 = .ok (.invokespecial 1, 3) := by decide +kernel
theorem own_d1_5 : decode prog_6_method_1_code 5 = .ok (.return_, 1) := by decide +kernel
theorem own_pn1 : plainName "com/example/relay_queue/relayqueue/broker/ByteCounter" = true := by first | (simp [plainName, overriddenIn]; done) | decide +kernel
theorem own_pd0 : parseMethodDescriptor "(I)V" = some ⟨[.int], none⟩ := by decide +kernel
def Q_rm1 (Z : State) (bc : Addr) (h0 : Heap) (n0 : Nat) (v : Option Value) (h : Heap) (L : List Loc) : Prop := v = none ∧ (True) ∧ Fr n0 L ∧ Keep h0 h [bc] ∧ Exa Z h bc "com/example/relay_queue/relayqueue/broker/ByteCounter" ∧ Fld Z h bc "com/example/relay_queue/relayqueue/broker/ByteCounter" "count" "J" (.long (0 : Int64))
theorem own_ef_rm1 (m : MethodId) (bc : Addr) : entryFrame m #[(.ref bc)] 1 = mkF m 0 #[.val (.ref bc)] [] := by first | (simp [entryFrame, mkF, argsToLocals, Value.category]; done) | rfl
set_option maxRecDepth 65536 in
set_option maxHeartbeats 40000000 in
theorem rm1 (l : Launch) (Z : State) (a0 : Array Value) (hw : ∀ d ∈ tables_1, d.before a0 Z = true) (ws : List Jvm.Cond) (bc : Addr) (h0 : Heap) (n0 : Nat) (Z0 : n0 ≤ h0.size) (P_0 : Exa Z h0 bc "com/example/relay_queue/relayqueue/broker/ByteCounter") (P_1 : Fld Z h0 bc "com/example/relay_queue/relayqueue/broker/ByteWriter" "bytes" "[B" .null) (P_2 : Fld Z h0 bc "com/example/relay_queue/relayqueue/broker/ByteCounter" "count" "J" (.long (0 : Int64))) (P_3 : n0 ≤ bc) :
    MetFree l (⟨"com/example/relay_queue/relayqueue/broker/ByteCounter", "<init>", "()V"⟩ : MethodName) (head1 (Jvm.Cond.code (⟨"com/example/relay_queue/relayqueue/broker/ByteCounter", "<init>", "()V"⟩ : MethodName) prog_6_method_1_code 1 none :: ws) ({ frames := 2, cells := 1, slots := 0, locals := 25 } : Room)) (fun a U => a = #[(.ref bc)] ∧ Z.Warmed39 U.vm ∧ U.heap = h0) (fun _ _ _ _ _ => True) (fun _ U o U' => ∃ v L, o = .returned v ∧ Q_rm1 Z bc h0 n0 v U'.heap L ∧ FrameEnd U o U' L ({ frames := 2, cells := 1, slots := 0, locals := 25 } : Room).cells ({ frames := 2, cells := 1, slots := 0, locals := 25 } : Room).slots) := by
  refine MetFree.of_bodySF (plainFor_of_name own_pn1) hisR ?_
  intro p e s m args below meth c s₁ Bd hml0 hP hK
  obtain ⟨rfl, hZ, hh⟩ := hP
  have hx := Bd.exec
  have hby := Bd.bytes
  have hml : c.maxLocals = 1 := hml0
  have hown : s.vm.findClass "com/example/relay_queue/relayqueue/broker/ByteCounter" = some m.cls := findClass_of_methodNamed Bd.named
  have hnm := (name_of_methodNamed Bd.named Bd.method).1
  have X0 : Stand p l e ({ frames := 2, cells := 1, slots := 0, locals := 25 } : Room) s m #[(.ref bc)] below meth c s₁ [] 0 0 := Stand.of_body Bd
  have e0 : s₁.heap = h0 := by rw [← hh, Bd.state]; rfl
  have N0 := Fr.nil n0
  have pre0 : ∀ t, Steps p.tables e below (s₁.setTop (mkF m 0 #[.val (.ref bc)] [])) t → Steps p.tables e below (s₁.setTop (entryFrame m #[(.ref bc)] 1)) t := fun t k => castTop (own_ef_rm1 m bc) k
  have K35 : ∀ t, Steps p.tables e below (s₁.setTop (mkF m 2 #[.val (.ref bc)] [(.int (0 : Int32)), (.ref bc)])) t → Steps p.tables e below (s₁.setTop (entryFrame m #[(.ref bc)] 1)) t := fun t k => pre0 t (by
    show Steps p.tables e below (s₁.setTop (mkF m 0 #[.val (.ref bc)] [])) t
    refine XS.aloadN X0.here hx rfl (hb hby own_d1_0) rfl rfl ?_
    show Steps p.tables e below (s₁.setTop (mkF m 1 #[.val (.ref bc)] [(.ref bc)])) t
    refine XS.iconst X0.here hx rfl (hb hby own_d1_1) ?_
    exact k)
  have q36 := (by decide : (0 : Int32).toInt = 0)
  obtain ⟨_, _, ⟨T37, L37, kk37, nn37⟩, -, X37, ⟨Lc37, hQ37, l37, y37, z37⟩, st37⟩ := X0.specialBack hx (y := (⟨"com/example/relay_queue/relayqueue/broker/ByteWriter", "<init>", "(I)V"⟩ : MethodName)) rfl hown (mvT hZ (hw _ (List.mem_of_getElem? (i := 7) rfl))) (mvT hZ (hw _ (List.mem_of_getElem? (i := 8) rfl))) (mvT hZ (hw _ (List.mem_of_getElem? (i := 11) rfl))) (by decide) (backOf (W := 0) (rm2 l Z a0 hw [] bc h0 n0 Z0 P_0 P_1 P_3 P_2) hZ (hw _ (List.mem_of_getElem? (i := 11) rfl)) (hw _ (List.mem_of_getElem? (i := 10) rfl)) (by decide) (by decide)) (g := (mkF m 2 #[.val (.ref bc)] [(.int (0 : Int32)), (.ref bc)])) rfl (by rw [hml]; rfl) (Steps.refl _) (a := bc) (argsL := [(.int (0 : Int32))]) (rest := []) (lenOf own_pd0 rfl) rfl (by show 2 * 0 + _ ≤ _; exact Nat.le_of_eq rfl) (hb hby own_d1_2) (fun _ _ => ⟨rfl, e0, (by decide : 0 + 1 ≤ _), (by decide : 0 + 0 ≤ _)⟩)
  dsimp only [Pt.U, Pt.locs, Pt.cells, Pt.slots] at X37 l37 y37 z37 st37 hQ37
  subst l37 y37 z37
  obtain ⟨rfl, Sp37, Nq37, Kc37, Pc37_0, Pc37_1⟩ := hQ37
  have N38 := Fr.app N0 Nq37
  obtain ⟨h37, e37⟩ : ∃ z, z = T37.heap := ⟨_, rfl⟩
  rw [← e37] at Kc37 Pc37_0 Pc37_1
  have F39 := P_0.keep Kc37
  have Kp40 : Keep h0 h37 [bc] := Keep.trans (Keep.refl h0 [bc]) Kc37 (allS (Or.inl (List.mem_of_getElem? (i := 0) rfl)) all0)
  have Z41 : n0 ≤ h37.size := Nat.le_trans Z0 Kc37.1
  have K42 : ∀ t, Steps p.tables e below (T37.setTop (mkF m 5 #[.val (.ref bc)] [])) t → Steps p.tables e below (s₁.setTop (entryFrame m #[(.ref bc)] 1)) t := fun t k => K35 t (st37.trans k)
  obtain ⟨fs, hr, hrun, hended, hW, hsame⟩ := X37.leave (v := none) (fun _ => rfl)
  refine ⟨_, _, K42 _ ?_, hrun, hended, _, _, rfl, ?_, ⟨_, rfl⟩, hW, hsame.mono (by decide) (by decide)⟩
  · exact X37.returnOut hx Bd.returns (hb hby own_d1_5) hr
  · show Q_rm1 Z bc h0 n0 _ T37.heap _
    rw [e37.symm]
    exact ⟨rfl, (by trivial), N38, Kp40, Pc37_0, Pc37_1⟩
theorem own_d4_0 : decode prog_6_method_6_code 0 = .ok (.aload_n 0, 1) := by decide +kernel
theorem own_d4_1 : decode prog_6_method_6_code 1 = .ok (.dup, 1) := by decide +kernel
theorem own_d4_2 : decode prog_6_method_6_code 2 = .ok (.getfield 7, 3) := by decide +kernel
theorem own_d4_5 : decode prog_6_method_6_code 5 = .ok (.lload_n 2, 1) := by decide +kernel
theorem own_d4_6 : decode prog_6_method_6_code 6 = .ok (.ladd, 1) := by decide +kernel
theorem own_d4_7 : decode prog_6_method_6_code 7 = .ok (.putfield 7, 3) := by decide +kernel
theorem own_d4_10 : decode prog_6_method_6_code 10 = .ok (.return_, 1) := by decide +kernel
def Q_rm4 (Z : State) (bc : Addr) (sx : Addr) (ub : Int64) (w : Int64) (h0 : Heap) (n0 : Nat) (v : Option Value) (h : Heap) (L : List Loc) : Prop := ∃ (w' : Int64), v = none ∧ (w'.toInt = w.toInt + ub.toInt) ∧ Fr n0 L ∧ Keep h0 h [bc] ∧ Exa Z h bc "com/example/relay_queue/relayqueue/broker/ByteCounter" ∧ Fld Z h bc "com/example/relay_queue/relayqueue/broker/ByteCounter" "count" "J" (.long w')
theorem own_ef_rm4 (m : MethodId) (bc : Addr) (sx : Addr) (ub : Int64) : entryFrame m #[(.ref bc), (.ref sx), (.long ub)] 4 = mkF m 0 #[.val (.ref bc), .val (.ref sx), .val (.long ub), .second] [] := by first | (simp [entryFrame, mkF, argsToLocals, Value.category]; done) | rfl
set_option maxRecDepth 65536 in
set_option maxHeartbeats 40000000 in
theorem rm4 (l : Launch) (Z : State) (a0 : Array Value) (hw : ∀ d ∈ tables_1, d.before a0 Z = true) (ws : List Jvm.Cond) (bc : Addr) (sx : Addr) (ub : Int64) (w : Int64) (h0 : Heap) (n0 : Nat) (Z0 : n0 ≤ h0.size) (P_0 : Exa Z h0 bc "com/example/relay_queue/relayqueue/broker/ByteCounter") (P_1 : Fld Z h0 bc "com/example/relay_queue/relayqueue/broker/ByteCounter" "count" "J" (.long w)) (P_2 : n0 ≤ bc) (P_3 : 0 ≤ w.toInt ∧ 0 ≤ ub.toInt ∧ w.toInt + ub.toInt < 9223372036854775807) :
    MetFree l (⟨"com/example/relay_queue/relayqueue/broker/ByteCounter", "writeUtf8", "(Ljava/lang/String;J)V"⟩ : MethodName) (head1 (Jvm.Cond.code (⟨"com/example/relay_queue/relayqueue/broker/ByteCounter", "writeUtf8", "(Ljava/lang/String;J)V"⟩ : MethodName) prog_6_method_6_code 4 none :: ws) ({ frames := 0, cells := 0, slots := 0, locals := 0 } : Room)) (fun a U => a = #[(.ref bc), (.ref sx), (.long ub)] ∧ Z.Warmed39 U.vm ∧ U.heap = h0) (fun _ _ _ _ _ => True) (fun _ U o U' => ∃ v L, o = .returned v ∧ Q_rm4 Z bc sx ub w h0 n0 v U'.heap L ∧ FrameEnd U o U' L ({ frames := 0, cells := 0, slots := 0, locals := 0 } : Room).cells ({ frames := 0, cells := 0, slots := 0, locals := 0 } : Room).slots) := by
  refine MetFree.of_bodySF (plainFor_of_name own_pn1) hisR ?_
  intro p e s m args below meth c s₁ Bd hml0 hP hK
  obtain ⟨rfl, hZ, hh⟩ := hP
  have hx := Bd.exec
  have hby := Bd.bytes
  have hml : c.maxLocals = 4 := hml0
  have hown : s.vm.findClass "com/example/relay_queue/relayqueue/broker/ByteCounter" = some m.cls := findClass_of_methodNamed Bd.named
  have hnm := (name_of_methodNamed Bd.named Bd.method).1
  have X0 : Stand p l e ({ frames := 0, cells := 0, slots := 0, locals := 0 } : Room) s m #[(.ref bc), (.ref sx), (.long ub)] below meth c s₁ [] 0 0 := Stand.of_body Bd
  have e0 : s₁.heap = h0 := by rw [← hh, Bd.state]; rfl
  have N0 := Fr.nil n0
  have pre0 : ∀ t, Steps p.tables e below (s₁.setTop (mkF m 0 #[.val (.ref bc), .val (.ref sx), .val (.long ub), .second] [])) t → Steps p.tables e below (s₁.setTop (entryFrame m #[(.ref bc), (.ref sx), (.long ub)] 4)) t := fun t k => castTop (own_ef_rm4 m bc sx ub) k
  have K43 : ∀ t, Steps p.tables e below (s₁.setTop (mkF m 2 #[.val (.ref bc), .val (.ref sx), .val (.long ub), .second] [(.ref bc), (.ref bc)])) t → Steps p.tables e below (s₁.setTop (entryFrame m #[(.ref bc), (.ref sx), (.long ub)] 4)) t := fun t k => pre0 t (by
    show Steps p.tables e below (s₁.setTop (mkF m 0 #[.val (.ref bc), .val (.ref sx), .val (.long ub), .second] [])) t
    refine XS.aloadN X0.here hx rfl (hb hby own_d4_0) rfl rfl ?_
    show Steps p.tables e below (s₁.setTop (mkF m 1 #[.val (.ref bc), .val (.ref sx), .val (.long ub), .second] [(.ref bc)])) t
    refine XS.dup X0.here hx rfl (hb hby own_d4_1) rfl rfl ?_
    exact k)
  obtain ⟨T44, X44, e44, st44⟩ := getF X0 hx hZ hown (host := "") (Or.inl (hw _ (List.mem_of_getElem? (i := 30) rfl))) Via.refl e0 P_1 (g := (mkF m 2 #[.val (.ref bc), .val (.ref sx), .val (.long ub), .second] [(.ref bc), (.ref bc)])) rfl rfl (hb hby own_d4_2)
  have K45 : ∀ t, Steps p.tables e below (T44.setTop (mkF m 5 #[.val (.ref bc), .val (.ref sx), .val (.long ub), .second] [(.long w), (.ref bc)])) t → Steps p.tables e below (s₁.setTop (entryFrame m #[(.ref bc), (.ref sx), (.long ub)] 4)) t := fun t k => K43 t (st44 _ k)
  have K46 : ∀ t, Steps p.tables e below (T44.setTop (mkF m 7 #[.val (.ref bc), .val (.ref sx), .val (.long ub), .second] [(.long (w + ub)), (.ref bc)])) t → Steps p.tables e below (s₁.setTop (entryFrame m #[(.ref bc), (.ref sx), (.long ub)] 4)) t := fun t k => K45 t (by
    show Steps p.tables e below (T44.setTop (mkF m 5 #[.val (.ref bc), .val (.ref sx), .val (.long ub), .second] [(.long w), (.ref bc)])) t
    refine XS.lloadN X44.here hx rfl (hb hby own_d4_5) rfl ?_
    show Steps p.tables e below (T44.setTop (mkF m 6 #[.val (.ref bc), .val (.ref sx), .val (.long ub), .second] [(.long ub), (.long w), (.ref bc)])) t
    refine XS.ladd X44.here hx rfl (hb hby own_d4_6) rfl ?_
    exact k)
  obtain ⟨T47, h47, X47, e47, W47, st47⟩ := putF X44 hx hZ hown (host := "") (Or.inl (hw _ (List.mem_of_getElem? (i := 30) rfl))) Via.refl e44 P_1 P_0 (Or.inl (hw _ (List.mem_of_getElem? (i := 31) rfl))) (hw _ (List.mem_of_getElem? (i := 2) rfl)) (ty := .long) (by decide) rfl rfl (g := (mkF m 7 #[.val (.ref bc), .val (.ref sx), .val (.long ub), .second] [(.long (w + ub)), (.ref bc)])) rfl rfl (hb hby own_d4_7)
  have F48 := P_1.same W47
  have Kp49 : Keep h0 h47 [bc] := Keep.wr (Keep.refl h0 [bc]) W47 (Or.inl (List.mem_of_getElem? (i := 0) rfl))
  have Z50 : n0 ≤ h47.size := Nat.le_trans Z0 (Keep.of_wr W47).1
  have N51 := Fr.snoc X47 N0 P_2
  have F52 := P_0.wr W47
  have K53 : ∀ t, Steps p.tables e below (T47.setTop (mkF m 10 #[.val (.ref bc), .val (.ref sx), .val (.long ub), .second] [])) t → Steps p.tables e below (s₁.setTop (entryFrame m #[(.ref bc), (.ref sx), (.long ub)] 4)) t := fun t k => K46 t (st47 _ k)
  have q54 := rng64 w
  have q55 := rng64 ub
  have q56 := c_ladd w ub
  have q57 := rng64 (w + ub)
  obtain ⟨fs, hr, hrun, hended, hW, hsame⟩ := X47.leave (v := none) (fun _ => rfl)
  refine ⟨_, _, K53 _ ?_, hrun, hended, _, _, rfl, ?_, ⟨_, rfl⟩, hW, hsame.mono (by decide) (by decide)⟩
  · exact X47.returnOut hx Bd.returns (hb hby own_d4_10) hr
  · show Q_rm4 Z bc sx ub w h0 n0 _ T47.heap _
    rw [e47]
    exact ⟨(w + ub), rfl, (by omega), N51, Kp49, F52, F48⟩
theorem own_d7_0 : decode prog_6_method_4_code 0 = .ok (.aload_n 0, 1) := by decide +kernel
theorem own_d7_1 : decode prog_6_method_4_code 1 = .ok (.dup, 1) := by decide +kernel
theorem own_d7_2 : decode prog_6_method_4_code 2 = .ok (.getfield 7, 3) := by decide +kernel
theorem own_d7_5 : decode prog_6_method_4_code 5 = .ok (.ldc2_w 21, 3) := by decide +kernel
theorem own_d7_8 : decode prog_6_method_4_code 8 = .ok (.ladd, 1) := by decide +kernel
theorem own_d7_9 : decode prog_6_method_4_code 9 = .ok (.putfield 7, 3) := by decide +kernel
theorem own_d7_12 : decode prog_6_method_4_code 12 = .ok (.return_, 1) := by decide +kernel
def Q_rm7 (Z : State) (bc : Addr) (pv : Int32) (w : Int64) (h0 : Heap) (n0 : Nat) (v : Option Value) (h : Heap) (L : List Loc) : Prop := ∃ (w' : Int64), v = none ∧ (w'.toInt = w.toInt + 4) ∧ Fr n0 L ∧ Keep h0 h [bc] ∧ Exa Z h bc "com/example/relay_queue/relayqueue/broker/ByteCounter" ∧ Fld Z h bc "com/example/relay_queue/relayqueue/broker/ByteCounter" "count" "J" (.long w')
theorem own_ef_rm7 (m : MethodId) (bc : Addr) (pv : Int32) : entryFrame m #[(.ref bc), (.int pv)] 2 = mkF m 0 #[.val (.ref bc), .val (.int pv)] [] := by first | (simp [entryFrame, mkF, argsToLocals, Value.category]; done) | rfl
set_option maxRecDepth 65536 in
set_option maxHeartbeats 40000000 in
theorem rm7 (l : Launch) (Z : State) (a0 : Array Value) (hw : ∀ d ∈ tables_1, d.before a0 Z = true) (ws : List Jvm.Cond) (bc : Addr) (pv : Int32) (w : Int64) (h0 : Heap) (n0 : Nat) (Z0 : n0 ≤ h0.size) (P_0 : Exa Z h0 bc "com/example/relay_queue/relayqueue/broker/ByteCounter") (P_1 : Fld Z h0 bc "com/example/relay_queue/relayqueue/broker/ByteCounter" "count" "J" (.long w)) (P_2 : n0 ≤ bc) (P_3 : 0 ≤ w.toInt ∧ 0 ≤ 4 ∧ w.toInt + 4 < 9223372036854775807) :
    MetFree l (⟨"com/example/relay_queue/relayqueue/broker/ByteCounter", "writeInt", "(I)V"⟩ : MethodName) (head1 (Jvm.Cond.code (⟨"com/example/relay_queue/relayqueue/broker/ByteCounter", "writeInt", "(I)V"⟩ : MethodName) prog_6_method_4_code 2 none :: ws) ({ frames := 0, cells := 0, slots := 0, locals := 0 } : Room)) (fun a U => a = #[(.ref bc), (.int pv)] ∧ Z.Warmed39 U.vm ∧ U.heap = h0) (fun _ _ _ _ _ => True) (fun _ U o U' => ∃ v L, o = .returned v ∧ Q_rm7 Z bc pv w h0 n0 v U'.heap L ∧ FrameEnd U o U' L ({ frames := 0, cells := 0, slots := 0, locals := 0 } : Room).cells ({ frames := 0, cells := 0, slots := 0, locals := 0 } : Room).slots) := by
  refine MetFree.of_bodySF (plainFor_of_name own_pn1) hisR ?_
  intro p e s m args below meth c s₁ Bd hml0 hP hK
  obtain ⟨rfl, hZ, hh⟩ := hP
  have hx := Bd.exec
  have hby := Bd.bytes
  have hml : c.maxLocals = 2 := hml0
  have hown : s.vm.findClass "com/example/relay_queue/relayqueue/broker/ByteCounter" = some m.cls := findClass_of_methodNamed Bd.named
  have hnm := (name_of_methodNamed Bd.named Bd.method).1
  have X0 : Stand p l e ({ frames := 0, cells := 0, slots := 0, locals := 0 } : Room) s m #[(.ref bc), (.int pv)] below meth c s₁ [] 0 0 := Stand.of_body Bd
  have e0 : s₁.heap = h0 := by rw [← hh, Bd.state]; rfl
  have N0 := Fr.nil n0
  have pre0 : ∀ t, Steps p.tables e below (s₁.setTop (mkF m 0 #[.val (.ref bc), .val (.int pv)] [])) t → Steps p.tables e below (s₁.setTop (entryFrame m #[(.ref bc), (.int pv)] 2)) t := fun t k => castTop (own_ef_rm7 m bc pv) k
  have K58 : ∀ t, Steps p.tables e below (s₁.setTop (mkF m 2 #[.val (.ref bc), .val (.int pv)] [(.ref bc), (.ref bc)])) t → Steps p.tables e below (s₁.setTop (entryFrame m #[(.ref bc), (.int pv)] 2)) t := fun t k => pre0 t (by
    show Steps p.tables e below (s₁.setTop (mkF m 0 #[.val (.ref bc), .val (.int pv)] [])) t
    refine XS.aloadN X0.here hx rfl (hb hby own_d7_0) rfl rfl ?_
    show Steps p.tables e below (s₁.setTop (mkF m 1 #[.val (.ref bc), .val (.int pv)] [(.ref bc)])) t
    refine XS.dup X0.here hx rfl (hb hby own_d7_1) rfl rfl ?_
    exact k)
  obtain ⟨T59, X59, e59, st59⟩ := getF X0 hx hZ hown (host := "") (Or.inl (hw _ (List.mem_of_getElem? (i := 30) rfl))) Via.refl e0 P_1 (g := (mkF m 2 #[.val (.ref bc), .val (.int pv)] [(.ref bc), (.ref bc)])) rfl rfl (hb hby own_d7_2)
  have K60 : ∀ t, Steps p.tables e below (T59.setTop (mkF m 5 #[.val (.ref bc), .val (.int pv)] [(.long w), (.ref bc)])) t → Steps p.tables e below (s₁.setTop (entryFrame m #[(.ref bc), (.int pv)] 2)) t := fun t k => K58 t (st59 _ k)
  have K61 : ∀ t, Steps p.tables e below (T59.setTop (mkF m 9 #[.val (.ref bc), .val (.int pv)] [(.long (w + (4 : Int64))), (.ref bc)])) t → Steps p.tables e below (s₁.setTop (entryFrame m #[(.ref bc), (.int pv)] 2)) t := fun t k => K60 t (by
    show Steps p.tables e below (T59.setTop (mkF m 5 #[.val (.ref bc), .val (.int pv)] [(.long w), (.ref bc)])) t
    refine X59.ldc2Long hx hown (mvT hZ (hw _ (List.mem_of_getElem? (i := 47) rfl))) (g := (mkF m 5 #[.val (.ref bc), .val (.int pv)] [(.long w), (.ref bc)])) rfl (hb hby own_d7_5) _ ?_
    show Steps p.tables e below (T59.setTop (mkF m 8 #[.val (.ref bc), .val (.int pv)] [(.long (4 : Int64)), (.long w), (.ref bc)])) t
    refine XS.ladd X59.here hx rfl (hb hby own_d7_8) rfl ?_
    exact k)
  obtain ⟨T62, h62, X62, e62, W62, st62⟩ := putF X59 hx hZ hown (host := "") (Or.inl (hw _ (List.mem_of_getElem? (i := 30) rfl))) Via.refl e59 P_1 P_0 (Or.inl (hw _ (List.mem_of_getElem? (i := 31) rfl))) (hw _ (List.mem_of_getElem? (i := 2) rfl)) (ty := .long) (by decide) rfl rfl (g := (mkF m 9 #[.val (.ref bc), .val (.int pv)] [(.long (w + (4 : Int64))), (.ref bc)])) rfl rfl (hb hby own_d7_9)
  have F63 := P_1.same W62
  have Kp64 : Keep h0 h62 [bc] := Keep.wr (Keep.refl h0 [bc]) W62 (Or.inl (List.mem_of_getElem? (i := 0) rfl))
  have Z65 : n0 ≤ h62.size := Nat.le_trans Z0 (Keep.of_wr W62).1
  have N66 := Fr.snoc X62 N0 P_2
  have F67 := P_0.wr W62
  have K68 : ∀ t, Steps p.tables e below (T62.setTop (mkF m 12 #[.val (.ref bc), .val (.int pv)] [])) t → Steps p.tables e below (s₁.setTop (entryFrame m #[(.ref bc), (.int pv)] 2)) t := fun t k => K61 t (st62 _ k)
  have q69 := rng64 w
  have q70 := (by decide : (4 : Int64).toInt = 4)
  have q71 := c_ladd w (4 : Int64)
  have q72 := rng64 (w + (4 : Int64))
  obtain ⟨fs, hr, hrun, hended, hW, hsame⟩ := X62.leave (v := none) (fun _ => rfl)
  refine ⟨_, _, K68 _ ?_, hrun, hended, _, _, rfl, ?_, ⟨_, rfl⟩, hW, hsame.mono (by decide) (by decide)⟩
  · exact X62.returnOut hx Bd.returns (hb hby own_d7_12) hr
  · show Q_rm7 Z bc pv w h0 n0 _ T62.heap _
    rw [e62]
    exact ⟨(w + (4 : Int64)), rfl, (by omega), N66, Kp64, F67, F63⟩
theorem own_d5_0 : decode prog_6_method_7_code 0 = .ok (.aload_n 0, 1) := by decide +kernel
theorem own_d5_1 : decode prog_6_method_7_code 1 = .ok (.getfield 7, 3) := by decide +kernel
theorem own_d5_4 : decode prog_6_method_7_code 4 = .ok (.ldc2_w 23, 3) := by decide +kernel
theorem own_d5_7 : decode prog_6_method_7_code 7 = .ok (.invokestatic 25, 3) := by decide +kernel
theorem own_d5_10 : decode prog_6_method_7_code 10 = .ok (.l2i, 1) := by decide +kernel
theorem own_d5_11 : decode prog_6_method_7_code 11 = .ok (.ireturn, 1) := by decide +kernel
theorem own_pd1 : parseMethodDescriptor "(JJ)J" = some ⟨[.long, .long], some .long⟩ := by decide +kernel
def Q_rm5 (Z : State) (bc : Addr) (w : Int64) (h0 : Heap) (n0 : Nat) (v : Option Value) (h : Heap) (L : List Loc) : Prop := ∃ (r : Int32), v = some (.int r) ∧ ((w.toInt ≤ 2147483647 → r.toInt = w.toInt) ∧ (2147483647 < w.toInt → r.toInt = 2147483647)) ∧ Fr n0 L ∧ h = h0
theorem own_ef_rm5 (m : MethodId) (bc : Addr) : entryFrame m #[(.ref bc)] 1 = mkF m 0 #[.val (.ref bc)] [] := by first | (simp [entryFrame, mkF, argsToLocals, Value.category]; done) | rfl
set_option maxRecDepth 65536 in
set_option maxHeartbeats 40000000 in
theorem rm5 (l : Launch) (Z : State) (a0 : Array Value) (hw : ∀ d ∈ tables_1, d.before a0 Z = true) (ws : List Jvm.Cond) (bc : Addr) (w : Int64) (h0 : Heap) (n0 : Nat) (Z0 : n0 ≤ h0.size) (P_0 : Fld Z h0 bc "com/example/relay_queue/relayqueue/broker/ByteCounter" "count" "J" (.long w)) (P_1 : 0 ≤ w.toInt) :
    MetFree l (⟨"com/example/relay_queue/relayqueue/broker/ByteCounter", "size", "()I"⟩ : MethodName) (head1 (Jvm.Cond.code (⟨"com/example/relay_queue/relayqueue/broker/ByteCounter", "size", "()I"⟩ : MethodName) prog_6_method_7_code 1 (some .int) :: ws) ({ frames := 1, cells := 0, slots := 0, locals := 15 } : Room)) (fun a U => a = #[(.ref bc)] ∧ Z.Warmed39 U.vm ∧ U.heap = h0) (fun _ _ _ _ _ => True) (fun _ U o U' => ∃ v L, o = .returned v ∧ Q_rm5 Z bc w h0 n0 v U'.heap L ∧ FrameEnd U o U' L ({ frames := 1, cells := 0, slots := 0, locals := 15 } : Room).cells ({ frames := 1, cells := 0, slots := 0, locals := 15 } : Room).slots) := by
  refine MetFree.of_bodySF (plainFor_of_name own_pn1) hisR ?_
  intro p e s m args below meth c s₁ Bd hml0 hP hK
  obtain ⟨rfl, hZ, hh⟩ := hP
  have hx := Bd.exec
  have hby := Bd.bytes
  have hml : c.maxLocals = 1 := hml0
  have hown : s.vm.findClass "com/example/relay_queue/relayqueue/broker/ByteCounter" = some m.cls := findClass_of_methodNamed Bd.named
  have hnm := (name_of_methodNamed Bd.named Bd.method).1
  have X0 : Stand p l e ({ frames := 1, cells := 0, slots := 0, locals := 15 } : Room) s m #[(.ref bc)] below meth c s₁ [] 0 0 := Stand.of_body Bd
  have e0 : s₁.heap = h0 := by rw [← hh, Bd.state]; rfl
  have N0 := Fr.nil n0
  have pre0 : ∀ t, Steps p.tables e below (s₁.setTop (mkF m 0 #[.val (.ref bc)] [])) t → Steps p.tables e below (s₁.setTop (entryFrame m #[(.ref bc)] 1)) t := fun t k => castTop (own_ef_rm5 m bc) k
  have K73 : ∀ t, Steps p.tables e below (s₁.setTop (mkF m 1 #[.val (.ref bc)] [(.ref bc)])) t → Steps p.tables e below (s₁.setTop (entryFrame m #[(.ref bc)] 1)) t := fun t k => pre0 t (by
    show Steps p.tables e below (s₁.setTop (mkF m 0 #[.val (.ref bc)] [])) t
    refine XS.aloadN X0.here hx rfl (hb hby own_d5_0) rfl rfl ?_
    exact k)
  obtain ⟨T74, X74, e74, st74⟩ := getF X0 hx hZ hown (host := "") (Or.inl (hw _ (List.mem_of_getElem? (i := 30) rfl))) Via.refl e0 P_0 (g := (mkF m 1 #[.val (.ref bc)] [(.ref bc)])) rfl rfl (hb hby own_d5_1)
  have K75 : ∀ t, Steps p.tables e below (T74.setTop (mkF m 4 #[.val (.ref bc)] [(.long w)])) t → Steps p.tables e below (s₁.setTop (entryFrame m #[(.ref bc)] 1)) t := fun t k => K73 t (st74 _ k)
  have q76 := rng64 w
  have K77 : ∀ t, Steps p.tables e below (T74.setTop (mkF m 7 #[.val (.ref bc)] [(.long (2147483647 : Int64)), (.long w)])) t → Steps p.tables e below (s₁.setTop (entryFrame m #[(.ref bc)] 1)) t := fun t k => K75 t (by
    show Steps p.tables e below (T74.setTop (mkF m 4 #[.val (.ref bc)] [(.long w)])) t
    refine X74.ldc2Long hx hown (mvT hZ (hw _ (List.mem_of_getElem? (i := 37) rfl))) (g := (mkF m 4 #[.val (.ref bc)] [(.long w)])) rfl (hb hby own_d5_4) _ ?_
    exact k)
  have q78 := (by decide : (2147483647 : Int64).toInt = 2147483647)
  obtain ⟨_, _, ⟨T79, L79, kk79, nn79⟩, -, X79, ⟨Lc79, hQ79, l79, y79, z79⟩, st79⟩ := Jvm.LawKit.callS X74 hx (y := (⟨"java/lang/Math", "min", "(JJ)J"⟩ : MethodName)) hown (mvT hZ (hw _ (List.mem_of_getElem? (i := 38) rfl))) (mvT hZ (hw _ (List.mem_of_getElem? (i := 39) rfl))) (mvT hZ (hw _ (List.mem_of_getElem? (i := 40) rfl))) (mvT hZ (hw _ (List.mem_of_getElem? (i := 41) rfl))) (by decide) (backOf (W := 0) (rm6 l Z a0 hw [] w (2147483647 : Int64) h0 n0 Z0) hZ (hw _ (List.mem_of_getElem? (i := 41) rfl)) (hw _ (List.mem_of_getElem? (i := 40) rfl)) (by decide) (by decide)) (g := (mkF m 7 #[.val (.ref bc)] [(.long (2147483647 : Int64)), (.long w)])) rfl (by rw [hml]; rfl) (argsL := [(.long w), (.long (2147483647 : Int64))]) (rest := []) (lenOf own_pd1 rfl) rfl (by show 2 * 0 + _ ≤ _; exact Nat.le_of_eq rfl) (hb hby own_d5_7) (fun _ _ => ⟨rfl, e74, (by decide : 0 + 0 ≤ _), (by decide : 0 + 0 ≤ _)⟩)
  dsimp only [Pt.U, Pt.locs, Pt.cells, Pt.slots] at X79 l79 y79 z79 st79 hQ79
  subst l79 y79 z79
  obtain ⟨r_79, rfl, Sp79, Nq79, eh79⟩ := hQ79
  have N80 := Fr.app N0 Nq79
  have K81 : ∀ t, Steps p.tables e below (T79.setTop (mkF m 10 #[.val (.ref bc)] [(.long r_79)])) t → Steps p.tables e below (s₁.setTop (entryFrame m #[(.ref bc)] 1)) t := fun t k => K77 t (st79 _ k)
  have K82 : ∀ t, Steps p.tables e below (T79.setTop (mkF m 11 #[.val (.ref bc)] [(.int (r_79.toInt32))])) t → Steps p.tables e below (s₁.setTop (entryFrame m #[(.ref bc)] 1)) t := fun t k => K81 t (by
    show Steps p.tables e below (T79.setTop (mkF m 10 #[.val (.ref bc)] [(.long r_79)])) t
    refine XS.l2i X79.here hx rfl (hb hby own_d5_10) rfl ?_
    exact k)
  obtain ⟨fs, hr, hrun, hended, hW, hsame⟩ := X79.leave (v := some (.int (r_79.toInt32))) (fun h => by rw [Bd.returns] at h; cases h)
  refine ⟨_, _, K82 _ ?_, hrun, hended, _, _, rfl, ?_, ⟨_, rfl⟩, hW, hsame.mono (by decide) (by decide)⟩
  · exact retI X79 hx Bd.returns (hb hby own_d5_11) hr
  · show Q_rm5 Z bc w h0 n0 _ T79.heap _
    have q83 := rng64 r_79
    have q84 := c_l2i r_79
    have q85 := rng32 (r_79.toInt32)
    rw [eh79]
    exact ⟨(r_79.toInt32), rfl, (by omega), N80, rfl⟩
theorem own_d8_0 : decode method_2_code 0 = .ok (.lload_n 0, 1) := by decide +kernel
theorem own_d8_1 : decode method_2_code 1 = .ok (.ldc2_w 9, 3) := by decide +kernel
theorem own_d8_4 : decode method_2_code 4 = .ok (.lcmp, 1) := by decide +kernel
theorem own_d8_5 : decode method_2_code 5 = .ok (.ifCond .le 6, 3) := by decide +kernel
theorem own_d8_8 : decode method_2_code 8 = .ok (.ldc 11, 2) := by decide +kernel
theorem own_d8_10 : decode method_2_code 10 = .ok (.ireturn, 1) := by decide +kernel
theorem own_d8_11 : decode method_2_code 11 = .ok (.lload_n 0, 1) := by decide +kernel
theorem own_d8_12 : decode method_2_code 12 = .ok (.l2i, 1) := by decide +kernel
theorem own_d8_13 : decode method_2_code 13 = .ok (.ireturn, 1) := by decide +kernel
theorem own_pn2 : plainName "com/example/relay_queue/relayqueue/broker/ByteCounterWriteIntPinLaw" = true := by first | (simp [plainName, overriddenIn]; done) | decide +kernel
def Q_rm8 (Z : State) (w : Int64) (h0 : Heap) (n0 : Nat) (v : Option Value) (h : Heap) (L : List Loc) : Prop := ∃ (r : Int32), v = some (.int r) ∧ ((w.toInt ≤ 2147483647 → r.toInt = w.toInt) ∧ (2147483647 < w.toInt → r.toInt = 2147483647)) ∧ Fr n0 L ∧ h = h0
theorem own_ef_rm8 (m : MethodId) (w : Int64) : entryFrame m #[(.long w)] 2 = mkF m 0 #[.val (.long w), .second] [] := by first | (simp [entryFrame, mkF, argsToLocals, Value.category]; done) | rfl
set_option maxRecDepth 65536 in
set_option maxHeartbeats 40000000 in
theorem rm8 (l : Launch) (Z : State) (a0 : Array Value) (hw : ∀ d ∈ tables_1, d.before a0 Z = true) (ws : List Jvm.Cond) (w : Int64) (h0 : Heap) (n0 : Nat) (Z0 : n0 ≤ h0.size) (P_0 : 0 ≤ w.toInt) :
    MetFree l (⟨"com/example/relay_queue/relayqueue/broker/ByteCounterWriteIntPinLaw", "saturated", "(J)I"⟩ : MethodName) (head1 (Jvm.Cond.code (⟨"com/example/relay_queue/relayqueue/broker/ByteCounterWriteIntPinLaw", "saturated", "(J)I"⟩ : MethodName) method_2_code 2 (some .int) :: ws) ({ frames := 0, cells := 0, slots := 0, locals := 0 } : Room)) (fun a U => a = #[(.long w)] ∧ Z.Warmed39 U.vm ∧ U.heap = h0) (fun _ _ _ _ _ => True) (fun _ U o U' => ∃ v L, o = .returned v ∧ Q_rm8 Z w h0 n0 v U'.heap L ∧ FrameEnd U o U' L ({ frames := 0, cells := 0, slots := 0, locals := 0 } : Room).cells ({ frames := 0, cells := 0, slots := 0, locals := 0 } : Room).slots) := by
  refine MetFree.of_bodySF (plainFor_of_name own_pn2) hisR ?_
  intro p e s m args below meth c s₁ Bd hml0 hP hK
  obtain ⟨rfl, hZ, hh⟩ := hP
  have hx := Bd.exec
  have hby := Bd.bytes
  have hml : c.maxLocals = 2 := hml0
  have hown : s.vm.findClass "com/example/relay_queue/relayqueue/broker/ByteCounterWriteIntPinLaw" = some m.cls := findClass_of_methodNamed Bd.named
  have hnm := (name_of_methodNamed Bd.named Bd.method).1
  have X0 : Stand p l e ({ frames := 0, cells := 0, slots := 0, locals := 0 } : Room) s m #[(.long w)] below meth c s₁ [] 0 0 := Stand.of_body Bd
  have e0 : s₁.heap = h0 := by rw [← hh, Bd.state]; rfl
  have N0 := Fr.nil n0
  have pre0 : ∀ t, Steps p.tables e below (s₁.setTop (mkF m 0 #[.val (.long w), .second] [])) t → Steps p.tables e below (s₁.setTop (entryFrame m #[(.long w)] 2)) t := fun t k => castTop (own_ef_rm8 m w) k
  have K87 : ∀ t, Steps p.tables e below (s₁.setTop (mkF m 5 #[.val (.long w), .second] [(.int (lcmpW w (2147483647 : Int64)))])) t → Steps p.tables e below (s₁.setTop (entryFrame m #[(.long w)] 2)) t := fun t k => pre0 t (by
    show Steps p.tables e below (s₁.setTop (mkF m 0 #[.val (.long w), .second] [])) t
    refine XS.lloadN X0.here hx rfl (hb hby own_d8_0) rfl ?_
    show Steps p.tables e below (s₁.setTop (mkF m 1 #[.val (.long w), .second] [(.long w)])) t
    refine X0.ldc2Long hx hown (mvT hZ (hw _ (List.mem_of_getElem? (i := 52) rfl))) (g := (mkF m 1 #[.val (.long w), .second] [(.long w)])) rfl (hb hby own_d8_1) _ ?_
    show Steps p.tables e below (s₁.setTop (mkF m 4 #[.val (.long w), .second] [(.long (2147483647 : Int64)), (.long w)])) t
    refine XS.lcmp X0.here hx rfl (hb hby own_d8_4) rfl ?_
    exact k)
  have q88 := (by decide : (0 : Int32).toInt = 0)
  have q89 := rng64 w
  have q90 := (by decide : (2147483647 : Int64).toInt = 2147483647)
  have q91 := c_lcmp w (2147483647 : Int64)
  by_cases hc86 : (0 : Int32) < (lcmpW w (2147483647 : Int64))
  · have q92 : (0 : Int32).toInt < (lcmpW w (2147483647 : Int64)).toInt := Int32.lt_iff_toInt_lt.mp hc86
    have K93 : ∀ t, Steps p.tables e below (s₁.setTop (mkF m 10 #[.val (.long w), .second] [(.int (2147483647 : Int32))])) t → Steps p.tables e below (s₁.setTop (entryFrame m #[(.long w)] 2)) t := fun t k => K87 t (by
      show Steps p.tables e below (s₁.setTop (mkF m 5 #[.val (.long w), .second] [(.int (lcmpW w (2147483647 : Int64)))])) t
      refine XS.ifNo X0.here hx rfl (hb hby own_d8_5) rfl ((if0 _ _).trans (tlt hc86).2.2.2) ?_
      show Steps p.tables e below (s₁.setTop (mkF m 8 #[.val (.long w), .second] [])) t
      refine X0.ldcInt hx hown (mvT hZ (hw _ (List.mem_of_getElem? (i := 57) rfl))) (g := (mkF m 8 #[.val (.long w), .second] [])) rfl (hb hby own_d8_8) _ ?_
      exact k)
    obtain ⟨fs, hr, hrun, hended, hW, hsame⟩ := X0.leave (v := some (.int (2147483647 : Int32))) (fun h => by rw [Bd.returns] at h; cases h)
    refine ⟨_, _, K93 _ ?_, hrun, hended, _, _, rfl, ?_, ⟨_, rfl⟩, hW, hsame.mono (by decide) (by decide)⟩
    · exact retI X0 hx Bd.returns (hb hby own_d8_10) hr
    · show Q_rm8 Z w h0 n0 _ s₁.heap _
      have q94 := (by decide : (2147483647 : Int32).toInt = 2147483647)
      rw [e0]
      exact ⟨(2147483647 : Int32), rfl, (by omega), N0, rfl⟩
  · have q95 : ¬ (0 : Int32).toInt < (lcmpW w (2147483647 : Int64)).toInt := fun q => hc86 (Int32.lt_iff_toInt_lt.mpr q)
    have K96 : ∀ t, Steps p.tables e below (s₁.setTop (mkF m 13 #[.val (.long w), .second] [(.int (w.toInt32))])) t → Steps p.tables e below (s₁.setTop (entryFrame m #[(.long w)] 2)) t := fun t k => K87 t (by
      show Steps p.tables e below (s₁.setTop (mkF m 5 #[.val (.long w), .second] [(.int (lcmpW w (2147483647 : Int64)))])) t
      refine XS.ifYes X0.here hx rfl (pc0 := 5) (pc' := 11) rfl (hb hby own_d8_5) rfl ((if0 _ _).trans (flt hc86).2.2.2) (by decide) (by decide) ?_
      show Steps p.tables e below (s₁.setTop (mkF m 11 #[.val (.long w), .second] [])) t
      refine XS.lloadN X0.here hx rfl (hb hby own_d8_11) rfl ?_
      show Steps p.tables e below (s₁.setTop (mkF m 12 #[.val (.long w), .second] [(.long w)])) t
      refine XS.l2i X0.here hx rfl (hb hby own_d8_12) rfl ?_
      exact k)
    obtain ⟨fs, hr, hrun, hended, hW, hsame⟩ := X0.leave (v := some (.int (w.toInt32))) (fun h => by rw [Bd.returns] at h; cases h)
    refine ⟨_, _, K96 _ ?_, hrun, hended, _, _, rfl, ?_, ⟨_, rfl⟩, hW, hsame.mono (by decide) (by decide)⟩
    · exact retI X0 hx Bd.returns (hb hby own_d8_13) hr
    · show Q_rm8 Z w h0 n0 _ s₁.heap _
      have q97 := c_l2i w
      have q98 := rng32 (w.toInt32)
      rw [e0]
      exact ⟨(w.toInt32), rfl, (by omega), N0, rfl⟩
theorem own_pd2 : parseMethodDescriptor "()V" = some ⟨[], none⟩ := by decide +kernel
theorem own_pd3 : parseMethodDescriptor "(Ljava/lang/String;J)V" = some ⟨[(.object "java/lang/String"), .long], none⟩ := by decide +kernel
theorem own_pd4 : parseMethodDescriptor "()I" = some ⟨[], some .int⟩ := by decide +kernel
theorem own_pd5 : parseMethodDescriptor "(J)I" = some ⟨[.long], some .int⟩ := by decide +kernel
def Q_rm0 (Z : State) (x0 : Int64) (x1 : Int32) (x2 : Int32) (x3 : Int32) (h0 : Heap) (n0 : Nat) (v : Option Value) (h : Heap) (L : List Loc) : Prop := v = some (.int (1 : Int32)) ∧ (True) ∧ Fr n0 L ∧ Keep h0 h []
theorem own_ef_rm0 (m : MethodId) (x0 : Int64) (x1 : Int32) (x2 : Int32) (x3 : Int32) : entryFrame m #[(.long x0), (.int x1), (.int x2), (.int x3)] maxLocals = mkF m 0 #[.val (.long x0), .second, .val (.int x1), .val (.int x2), .val (.int x3), .unset, .unset, .unset, .unset, .unset, .unset] [] := by first | (simp [entryFrame, mkF, argsToLocals, Value.category, maxLocals]; done) | rfl
set_option maxRecDepth 65536 in
set_option maxHeartbeats 40000000 in
theorem rm0 (l : Launch) (Z : State) (a0 : Array Value) (hw : ∀ d ∈ tables_1, d.before a0 Z = true) (ws : List Jvm.Cond) (x0 : Int64) (x1 : Int32) (x2 : Int32) (x3 : Int32) (h0 : Heap) (n0 : Nat) (Z0 : n0 ≤ h0.size) :
    MetFree l x (head1 (Jvm.Cond.code x code maxLocals ret :: ws) room_1) (fun a U => a = #[(.long x0), (.int x1), (.int x2), (.int x3)] ∧ Z.Warmed39 U.vm ∧ U.heap = h0) (fun _ _ _ _ _ => True) (fun _ U o U' => ∃ v L, o = .returned v ∧ Q_rm0 Z x0 x1 x2 x3 h0 n0 v U'.heap L ∧ ReturnedEndW U o U' L room_1.cells room_1.slots) := by
  refine MetFree.of_bodySF (plainFor_of_name own_pn2) hisR ?_
  intro p e s m args below meth c s₁ Bd hml0 hP hK
  obtain ⟨rfl, hZ, hh⟩ := hP
  have hx := Bd.exec
  have hby := Bd.bytes
  have hml : c.maxLocals = 11 := hml0
  have hown : s.vm.findClass "com/example/relay_queue/relayqueue/broker/ByteCounterWriteIntPinLaw" = some m.cls := findClass_of_methodNamed Bd.named
  have hnm := (name_of_methodNamed Bd.named Bd.method).1
  have X0 : Stand p l e room_1 s m #[(.long x0), (.int x1), (.int x2), (.int x3)] below meth c s₁ [] 0 0 := Stand.of_body Bd
  have e0 : s₁.heap = h0 := by rw [← hh, Bd.state]; rfl
  have N0 := Fr.nil n0
  have pre0 : ∀ t, Steps p.tables e below (s₁.setTop (mkF m 0 #[.val (.long x0), .second, .val (.int x1), .val (.int x2), .val (.int x3), .unset, .unset, .unset, .unset, .unset, .unset] [])) t → Steps p.tables e below (s₁.setTop (entryFrame m #[(.long x0), (.int x1), (.int x2), (.int x3)] maxLocals)) t := fun t k => castTop (own_ef_rm0 m x0 x1 x2 x3) k
  obtain ⟨sr_99, Sp99, K100⟩ : ∃ (sr_99 : Int64), (0 ≤ sr_99.toInt ∧ sr_99.toInt < 68719476736) ∧ ∀ t, Steps p.tables e below (s₁.setTop (mkF m 27 #[.val (.long x0), .second, .val (.int x1), .val (.int x2), .val (.int x3), .val (.long sr_99), .second, .unset, .unset, .unset, .unset] [])) t → Steps p.tables e below (s₁.setTop (entryFrame m #[(.long x0), (.int x1), (.int x2), (.int x3)] maxLocals)) t := by
    have K102 : ∀ t, Steps p.tables e below (s₁.setTop (mkF m 3 #[.val (.long x0), .second, .val (.int x1), .val (.int x2), .val (.int x3), .unset, .unset, .unset, .unset, .unset, .unset] [(.int (x1 &&& (1 : Int32)))])) t → Steps p.tables e below (s₁.setTop (entryFrame m #[(.long x0), (.int x1), (.int x2), (.int x3)] maxLocals)) t := fun t k => pre0 t (by
      show Steps p.tables e below (s₁.setTop (mkF m 0 #[.val (.long x0), .second, .val (.int x1), .val (.int x2), .val (.int x3), .unset, .unset, .unset, .unset, .unset, .unset] [])) t
      refine XS.iloadN X0.here hx rfl (hb hby at_0) rfl ?_
      show Steps p.tables e below (s₁.setTop (mkF m 1 #[.val (.long x0), .second, .val (.int x1), .val (.int x2), .val (.int x3), .unset, .unset, .unset, .unset, .unset, .unset] [(.int x1)])) t
      refine XS.iconst X0.here hx rfl (hb hby at_1) ?_
      show Steps p.tables e below (s₁.setTop (mkF m 2 #[.val (.long x0), .second, .val (.int x1), .val (.int x2), .val (.int x3), .unset, .unset, .unset, .unset, .unset, .unset] [(.int (1 : Int32)), (.int x1)])) t
      refine XS.iand X0.here hx rfl (hb hby at_2) rfl ?_
      exact k)
    have q103 := rng32 x1
    have q104 := (by decide : (1 : Int32).toInt = 1)
    have q105 := (show (x1 &&& (1 : Int32)).toInt = x1.toInt % 2 from c_mask x1 (1 : Int32) 1 (by decide) (by decide))
    have q106 := rng32 (x1 &&& (1 : Int32))
    have q107 := (by decide : (0 : Int32).toInt = 0)
    by_cases hc101 : (x1 &&& (1 : Int32)) = (0 : Int32)
    · have q108 : (x1 &&& (1 : Int32)).toInt = (0 : Int32).toInt := congrArg Int32.toInt hc101
      have q109 := rng64 x0
      have q110 := (by decide : (68719476735 : Int64).toInt = 68719476735)
      have q111 := (show (x0 &&& (68719476735 : Int64)).toInt = x0.toInt % 68719476736 from c_maskL x0 (68719476735 : Int64) 36 (by decide) (by decide))
      have q112 := rng64 (x0 &&& (68719476735 : Int64))
      refine ⟨(x0 &&& (68719476735 : Int64)), ?_, fun t k => K102 t ?_⟩
      · omega
      show Steps p.tables e below (s₁.setTop (mkF m 3 #[.val (.long x0), .second, .val (.int x1), .val (.int x2), .val (.int x3), .unset, .unset, .unset, .unset, .unset, .unset] [(.int (x1 &&& (1 : Int32)))])) t
      refine XS.ifYes X0.here hx rfl (pc0 := 3) (pc' := 20) rfl (hb hby at_3) rfl ((if0 _ _).trans (teq hc101).1) (by decide) (by decide) ?_
      show Steps p.tables e below (s₁.setTop (mkF m 20 #[.val (.long x0), .second, .val (.int x1), .val (.int x2), .val (.int x3), .unset, .unset, .unset, .unset, .unset, .unset] [])) t
      refine XS.lloadN X0.here hx rfl (hb hby at_20) rfl ?_
      show Steps p.tables e below (s₁.setTop (mkF m 21 #[.val (.long x0), .second, .val (.int x1), .val (.int x2), .val (.int x3), .unset, .unset, .unset, .unset, .unset, .unset] [(.long x0)])) t
      refine X0.ldc2Long hx hown (mvT hZ (hw _ (List.mem_of_getElem? (i := 0) rfl))) (g := (mkF m 21 #[.val (.long x0), .second, .val (.int x1), .val (.int x2), .val (.int x3), .unset, .unset, .unset, .unset, .unset, .unset] [(.long x0)])) rfl (hb hby at_21) _ ?_
      show Steps p.tables e below (s₁.setTop (mkF m 24 #[.val (.long x0), .second, .val (.int x1), .val (.int x2), .val (.int x3), .unset, .unset, .unset, .unset, .unset, .unset] [(.long (68719476735 : Int64)), (.long x0)])) t
      refine XS.land X0.here hx rfl (hb hby at_24) rfl ?_
      show Steps p.tables e below (s₁.setTop (mkF m 25 #[.val (.long x0), .second, .val (.int x1), .val (.int x2), .val (.int x3), .unset, .unset, .unset, .unset, .unset, .unset] [(.long (x0 &&& (68719476735 : Int64)))])) t
      refine XS.lstore X0.here hx rfl (hb hby at_25) rfl (l' := #[.val (.long x0), .second, .val (.int x1), .val (.int x2), .val (.int x3), .val (.long (x0 &&& (68719476735 : Int64))), .second, .unset, .unset, .unset, .unset]) rfl ?_
      exact k
    · have q113 : ¬ (x1 &&& (1 : Int32)).toInt = (0 : Int32).toInt := fun q => hc101 (Int32.toInt_inj.mp q)
      have q114 := (by decide : (2147483631 : Int64).toInt = 2147483631)
      have q115 := rng64 x0
      have q116 := (by decide : (31 : Int64).toInt = 31)
      have q117 := (show (x0 &&& (31 : Int64)).toInt = x0.toInt % 32 from c_maskL x0 (31 : Int64) 5 (by decide) (by decide))
      have q118 := rng64 (x0 &&& (31 : Int64))
      have q119 := c_ladd (2147483631 : Int64) (x0 &&& (31 : Int64))
      have q120 := rng64 ((2147483631 : Int64) + (x0 &&& (31 : Int64)))
      refine ⟨((2147483631 : Int64) + (x0 &&& (31 : Int64))), ?_, fun t k => K102 t ?_⟩
      · omega
      show Steps p.tables e below (s₁.setTop (mkF m 3 #[.val (.long x0), .second, .val (.int x1), .val (.int x2), .val (.int x3), .unset, .unset, .unset, .unset, .unset, .unset] [(.int (x1 &&& (1 : Int32)))])) t
      refine XS.ifNo X0.here hx rfl (hb hby at_3) rfl ((if0 _ _).trans (feq hc101).1) ?_
      show Steps p.tables e below (s₁.setTop (mkF m 6 #[.val (.long x0), .second, .val (.int x1), .val (.int x2), .val (.int x3), .unset, .unset, .unset, .unset, .unset, .unset] [])) t
      refine X0.ldc2Long hx hown (mvT hZ (hw _ (List.mem_of_getElem? (i := 55) rfl))) (g := (mkF m 6 #[.val (.long x0), .second, .val (.int x1), .val (.int x2), .val (.int x3), .unset, .unset, .unset, .unset, .unset, .unset] [])) rfl (hb hby at_6) _ ?_
      show Steps p.tables e below (s₁.setTop (mkF m 9 #[.val (.long x0), .second, .val (.int x1), .val (.int x2), .val (.int x3), .unset, .unset, .unset, .unset, .unset, .unset] [(.long (2147483631 : Int64))])) t
      refine XS.lloadN X0.here hx rfl (hb hby at_9) rfl ?_
      show Steps p.tables e below (s₁.setTop (mkF m 10 #[.val (.long x0), .second, .val (.int x1), .val (.int x2), .val (.int x3), .unset, .unset, .unset, .unset, .unset, .unset] [(.long x0), (.long (2147483631 : Int64))])) t
      refine X0.ldc2Long hx hown (mvT hZ (hw _ (List.mem_of_getElem? (i := 56) rfl))) (g := (mkF m 10 #[.val (.long x0), .second, .val (.int x1), .val (.int x2), .val (.int x3), .unset, .unset, .unset, .unset, .unset, .unset] [(.long x0), (.long (2147483631 : Int64))])) rfl (hb hby at_10) _ ?_
      show Steps p.tables e below (s₁.setTop (mkF m 13 #[.val (.long x0), .second, .val (.int x1), .val (.int x2), .val (.int x3), .unset, .unset, .unset, .unset, .unset, .unset] [(.long (31 : Int64)), (.long x0), (.long (2147483631 : Int64))])) t
      refine XS.land X0.here hx rfl (hb hby at_13) rfl ?_
      show Steps p.tables e below (s₁.setTop (mkF m 14 #[.val (.long x0), .second, .val (.int x1), .val (.int x2), .val (.int x3), .unset, .unset, .unset, .unset, .unset, .unset] [(.long (x0 &&& (31 : Int64))), (.long (2147483631 : Int64))])) t
      refine XS.ladd X0.here hx rfl (hb hby at_14) rfl ?_
      show Steps p.tables e below (s₁.setTop (mkF m 15 #[.val (.long x0), .second, .val (.int x1), .val (.int x2), .val (.int x3), .unset, .unset, .unset, .unset, .unset, .unset] [(.long ((2147483631 : Int64) + (x0 &&& (31 : Int64))))])) t
      refine XS.lstore X0.here hx rfl (hb hby at_15) rfl (l' := #[.val (.long x0), .second, .val (.int x1), .val (.int x2), .val (.int x3), .val (.long ((2147483631 : Int64) + (x0 &&& (31 : Int64)))), .second, .unset, .unset, .unset, .unset]) rfl ?_
      show Steps p.tables e below (s₁.setTop (mkF m 17 #[.val (.long x0), .second, .val (.int x1), .val (.int x2), .val (.int x3), .val (.long ((2147483631 : Int64) + (x0 &&& (31 : Int64)))), .second, .unset, .unset, .unset, .unset] [])) t
      refine XS.goto X0.here hx rfl (pc0 := 17) (pc' := 27) rfl (hb hby at_17) (by decide) (by decide) ?_
      exact k
  obtain ⟨T121, h121, X121, e121, E121, A121, D121, M121, st121⟩ := newO X0 hx hZ hown (hw _ (List.mem_of_getElem? (i := 1) rfl)) (hw _ (List.mem_of_getElem? (i := 2) rfl)) (hw _ (List.mem_of_getElem? (i := 3) rfl)) e0 (g := (mkF m 27 #[.val (.long x0), .second, .val (.int x1), .val (.int x2), .val (.int x3), .val (.long sr_99), .second, .unset, .unset, .unset, .unset] [])) rfl (hb hby at_27) (by decide) (by decide)
  obtain ⟨b121, g121⟩ : ∃ z, z = h0.size := ⟨_, rfl⟩
  rw [← g121] at A121 D121 M121 st121
  have gb122 : n0 ≤ b121 := Nat.le_trans Z0 (Nat.le_of_eq g121.symm)
  have sb123 : h0.size ≤ b121 := Nat.le_trans (Keep.refl h0 []).1 (Nat.le_of_eq g121.symm)
  have Z124 : n0 ≤ h121.size := Nat.le_trans Z0 E121.1
  have Kp125 : Keep h0 h121 [] := Keep.ext (Keep.refl h0 []) E121
  have F126 : Fld Z h121 b121 "com/example/relay_queue/relayqueue/broker/ByteWriter" "bytes" "[B" .null := D121 (Or.inl (hw _ (List.mem_of_getElem? (i := 17) rfl))) (ty := (.array .byte)) (by decide)
  have F127 : Fld Z h121 b121 "com/example/relay_queue/relayqueue/broker/ByteCounter" "count" "J" (.long (0 : Int64)) := D121 (Or.inl (hw _ (List.mem_of_getElem? (i := 31) rfl))) (ty := .long) (by decide)
  have K128 : ∀ t, Steps p.tables e below (T121.setTop (mkF m 30 #[.val (.long x0), .second, .val (.int x1), .val (.int x2), .val (.int x3), .val (.long sr_99), .second, .unset, .unset, .unset, .unset] [(.ref b121)])) t → Steps p.tables e below (s₁.setTop (entryFrame m #[(.long x0), (.int x1), (.int x2), (.int x3)] maxLocals)) t := fun t k => K100 t (st121 _ k)
  have K129 : ∀ t, Steps p.tables e below (T121.setTop (mkF m 31 #[.val (.long x0), .second, .val (.int x1), .val (.int x2), .val (.int x3), .val (.long sr_99), .second, .unset, .unset, .unset, .unset] [(.ref b121), (.ref b121)])) t → Steps p.tables e below (s₁.setTop (entryFrame m #[(.long x0), (.int x1), (.int x2), (.int x3)] maxLocals)) t := fun t k => K128 t (by
    show Steps p.tables e below (T121.setTop (mkF m 30 #[.val (.long x0), .second, .val (.int x1), .val (.int x2), .val (.int x3), .val (.long sr_99), .second, .unset, .unset, .unset, .unset] [(.ref b121)])) t
    refine XS.dup X121.here hx rfl (hb hby at_30) rfl rfl ?_
    exact k)
  obtain ⟨_, _, ⟨T130, L130, kk130, nn130⟩, -, X130, ⟨Lc130, hQ130, l130, y130, z130⟩, st130⟩ := X121.specialBack hx (y := (⟨"com/example/relay_queue/relayqueue/broker/ByteCounter", "<init>", "()V"⟩ : MethodName)) rfl hown (mvT hZ (hw _ (List.mem_of_getElem? (i := 4) rfl))) (mvT hZ (hw _ (List.mem_of_getElem? (i := 5) rfl))) (mvT hZ (hw _ (List.mem_of_getElem? (i := 6) rfl))) (by decide) (backOf (W := 1) (rm1 l Z a0 hw [] b121 h121 n0 Z124 A121 F126 F127 gb122) hZ (hw _ (List.mem_of_getElem? (i := 6) rfl)) (hw _ (List.mem_of_getElem? (i := 3) rfl)) (by decide) (by decide)) (g := (mkF m 31 #[.val (.long x0), .second, .val (.int x1), .val (.int x2), .val (.int x3), .val (.long sr_99), .second, .unset, .unset, .unset, .unset] [(.ref b121), (.ref b121)])) rfl (by rw [hml]; rfl) (Steps.refl _) (a := b121) (argsL := []) (rest := [(.ref b121)]) (lenOf own_pd2 rfl) rfl (by show 2 * 0 + _ ≤ _; exact Nat.le_of_eq rfl) (hb hby at_31) (fun _ _ => ⟨rfl, e121, (by decide : 1 + 1 ≤ _), (by decide : 3 + 0 ≤ _)⟩)
  dsimp only [Pt.U, Pt.locs, Pt.cells, Pt.slots] at X130 l130 y130 z130 st130 hQ130
  subst l130 y130 z130
  obtain ⟨rfl, Sp130, Nq130, Kc130, Pc130_0, Pc130_1⟩ := hQ130
  have N131 := Fr.app N0 Nq130
  obtain ⟨h130, e130⟩ : ∃ z, z = T130.heap := ⟨_, rfl⟩
  rw [← e130] at Kc130 Pc130_0 Pc130_1
  have F132 := A121.keep Kc130
  have Kp133 : Keep h0 h130 [] := Keep.trans Kp125 Kc130 (allS (Or.inr sb123) all0)
  have Z134 : n0 ≤ h130.size := Nat.le_trans Z124 Kc130.1
  have K135 : ∀ t, Steps p.tables e below (T130.setTop (mkF m 34 #[.val (.long x0), .second, .val (.int x1), .val (.int x2), .val (.int x3), .val (.long sr_99), .second, .unset, .unset, .unset, .unset] [(.ref b121)])) t → Steps p.tables e below (s₁.setTop (entryFrame m #[(.long x0), (.int x1), (.int x2), (.int x3)] maxLocals)) t := fun t k => K129 t (st130.trans k)
  have K136 : ∀ t, Steps p.tables e below (T130.setTop (mkF m 38 #[.val (.long x0), .second, .val (.int x1), .val (.int x2), .val (.int x3), .val (.long sr_99), .second, .val (.ref b121), .unset, .unset, .unset] [(.ref b121)])) t → Steps p.tables e below (s₁.setTop (entryFrame m #[(.long x0), (.int x1), (.int x2), (.int x3)] maxLocals)) t := fun t k => K135 t (by
    show Steps p.tables e below (T130.setTop (mkF m 34 #[.val (.long x0), .second, .val (.int x1), .val (.int x2), .val (.int x3), .val (.long sr_99), .second, .unset, .unset, .unset, .unset] [(.ref b121)])) t
    refine XS.astore X130.here hx rfl (hb hby at_34) rfl rfl (l' := #[.val (.long x0), .second, .val (.int x1), .val (.int x2), .val (.int x3), .val (.long sr_99), .second, .val (.ref b121), .unset, .unset, .unset]) rfl ?_
    show Steps p.tables e below (T130.setTop (mkF m 36 #[.val (.long x0), .second, .val (.int x1), .val (.int x2), .val (.int x3), .val (.long sr_99), .second, .val (.ref b121), .unset, .unset, .unset] [])) t
    refine XS.aload X130.here hx rfl (hb hby at_36) rfl rfl ?_
    exact k)
  have hS0 : s.Since s.vm 0 := (State.WarmedH.refl s).since 0
  have wSt : ∀ a ∈ Bundle.stringAtoms, a.before a0 Z = true := fun a ha => by
    simp only [Bundle.stringAtoms, List.mem_cons, List.not_mem_nil, or_false] at ha
    rcases ha with rfl | rfl | rfl | rfl | rfl | rfl | rfl
    · exact (hw _ (List.mem_of_getElem? (i := 19) rfl))
    · exact (hw _ (List.mem_of_getElem? (i := 20) rfl))
    · exact (hw _ (List.mem_of_getElem? (i := 15) rfl))
    · exact (hw _ (List.mem_of_getElem? (i := 21) rfl))
    · exact (hw _ (List.mem_of_getElem? (i := 22) rfl))
    · exact (hw _ (List.mem_of_getElem? (i := 23) rfl))
    · exact (hw _ (List.mem_of_getElem? (i := 24) rfl))
  obtain ⟨a137, T137, h137, kx137, X137, e137, E137, hS137, hk137, hZ137, hown137, st137⟩ := ldcS (s := s) (vm0 := s.vm) X130 hx hZ hown (hw _ (List.mem_of_getElem? (i := 18) rfl)) wSt e130.symm hS0 (Nat.zero_le _) (g := (mkF m 38 #[.val (.long x0), .second, .val (.int x1), .val (.int x2), .val (.int x3), .val (.long sr_99), .second, .val (.ref b121), .unset, .unset, .unset] [(.ref b121)])) rfl (hb hby at_38) (n := 0) (by decide) (by decide) (by decide) (by decide)
  have hZ := hZ137
  have hown := hown137
  have F138 := Pc130_0.ext E137
  have F139 := Pc130_1.ext E137
  have Z140 : n0 ≤ h137.size := Nat.le_trans Z134 E137.1
  have Kp141 : Keep h0 h137 [] := Keep.ext Kp133 E137
  have K142 : ∀ t, Steps p.tables e below (T137.setTop (mkF m 40 #[.val (.long x0), .second, .val (.int x1), .val (.int x2), .val (.int x3), .val (.long sr_99), .second, .val (.ref b121), .unset, .unset, .unset] [(.ref a137), (.ref b121)])) t → Steps p.tables e below (s₁.setTop (entryFrame m #[(.long x0), (.int x1), (.int x2), (.int x3)] maxLocals)) t := fun t k => K136 t (st137 _ k)
  have K143 : ∀ t, Steps p.tables e below (T137.setTop (mkF m 42 #[.val (.long x0), .second, .val (.int x1), .val (.int x2), .val (.int x3), .val (.long sr_99), .second, .val (.ref b121), .unset, .unset, .unset] [(.long sr_99), (.ref a137), (.ref b121)])) t → Steps p.tables e below (s₁.setTop (entryFrame m #[(.long x0), (.int x1), (.int x2), (.int x3)] maxLocals)) t := fun t k => K142 t (by
    show Steps p.tables e below (T137.setTop (mkF m 40 #[.val (.long x0), .second, .val (.int x1), .val (.int x2), .val (.int x3), .val (.long sr_99), .second, .val (.ref b121), .unset, .unset, .unset] [(.ref a137), (.ref b121)])) t
    refine XS.lload X137.here hx rfl (hb hby at_40) rfl ?_
    exact k)
  have q144 := (by decide : (0 : Int64).toInt = 0)
  have q146 := rng64 sr_99
  have q145 : 0 ≤ (0 : Int64).toInt ∧ 0 ≤ sr_99.toInt ∧ (0 : Int64).toInt + sr_99.toInt < 9223372036854775807 := by omega
  obtain ⟨cq147, kq147, q147a, q147b, q147c⟩ := isOf hZ e137 F138
  obtain ⟨_, _, ⟨T147, L147, kk147, nn147⟩, -, X147, ⟨Lc147, hQ147, l147, y147, z147⟩, st147⟩ := X137.virtualBack hx (y := (⟨"com/example/relay_queue/relayqueue/broker/ByteCounter", "writeUtf8", "(Ljava/lang/String;J)V"⟩ : MethodName)) (z := (⟨"com/example/relay_queue/relayqueue/broker/ByteCounter", "writeUtf8", "(Ljava/lang/String;J)V"⟩ : MethodName)) hown (mvT hZ (hw _ (List.mem_of_getElem? (i := 25) rfl))) (mvT hZ (hw _ (List.mem_of_getElem? (i := 26) rfl))) (notFace_of_selects (args := #[]) (mvT hZ (hw _ (List.mem_of_getElem? (i := 28) rfl)))) (mvT hZ (hw _ (List.mem_of_getElem? (i := 28) rfl))) (mvT hZ (hw _ (List.mem_of_getElem? (i := 27) rfl))) (by decide) (backOf (W := 0) (rm4 l Z a0 hw [] b121 a137 sr_99 (0 : Int64) h137 n0 Z140 F138 F139 gb122 q145) hZ (hw _ (List.mem_of_getElem? (i := 29) rfl)) (hw _ (List.mem_of_getElem? (i := 3) rfl)) (by decide) (by decide)) q147a q147c (g := (mkF m 42 #[.val (.long x0), .second, .val (.int x1), .val (.int x2), .val (.int x3), .val (.long sr_99), .second, .val (.ref b121), .unset, .unset, .unset] [(.long sr_99), (.ref a137), (.ref b121)])) rfl (by rw [hml]; rfl) (Steps.refl _) (argsL := [(.ref a137), (.long sr_99)]) (rest := []) (lenOf own_pd3 rfl) rfl (by show 2 * 0 + _ ≤ _; exact Nat.le_of_eq rfl) (hb hby at_42) (fun _ _ => ⟨rfl, e137, (by decide : 4 + 0 ≤ _), (by decide : 7 + 0 ≤ _)⟩)
  dsimp only [Pt.U, Pt.locs, Pt.cells, Pt.slots] at X147 l147 y147 z147 st147 hQ147
  subst l147 y147 z147
  obtain ⟨w'_147, rfl, Sp147, Nq147, Kc147, Pc147_0, Pc147_1⟩ := hQ147
  have N148 := Fr.app N131 Nq147
  obtain ⟨h147, e147⟩ : ∃ z, z = T147.heap := ⟨_, rfl⟩
  rw [← e147] at Kc147 Pc147_0 Pc147_1
  have F149 := F138.keep Kc147
  have Kp150 : Keep h0 h147 [] := Keep.trans Kp141 Kc147 (allS (Or.inr sb123) all0)
  have Z151 : n0 ≤ h147.size := Nat.le_trans Z140 Kc147.1
  have Zk152 := Nat.le_trans hk137 Kc147.1
  have K153 : ∀ t, Steps p.tables e below (T147.setTop (mkF m 45 #[.val (.long x0), .second, .val (.int x1), .val (.int x2), .val (.int x3), .val (.long sr_99), .second, .val (.ref b121), .unset, .unset, .unset] [])) t → Steps p.tables e below (s₁.setTop (entryFrame m #[(.long x0), (.int x1), (.int x2), (.int x3)] maxLocals)) t := fun t k => K143 t (st147.trans k)
  have K154 : ∀ t, Steps p.tables e below (T147.setTop (mkF m 47 #[.val (.long x0), .second, .val (.int x1), .val (.int x2), .val (.int x3), .val (.long sr_99), .second, .val (.ref b121), .unset, .unset, .unset] [(.ref b121)])) t → Steps p.tables e below (s₁.setTop (entryFrame m #[(.long x0), (.int x1), (.int x2), (.int x3)] maxLocals)) t := fun t k => K153 t (by
    show Steps p.tables e below (T147.setTop (mkF m 45 #[.val (.long x0), .second, .val (.int x1), .val (.int x2), .val (.int x3), .val (.long sr_99), .second, .val (.ref b121), .unset, .unset, .unset] [])) t
    refine XS.aload X147.here hx rfl (hb hby at_45) rfl rfl ?_
    exact k)
  have q155 := rng64 w'_147
  have q156 : 0 ≤ w'_147.toInt := by omega
  obtain ⟨cq157, kq157, q157a, q157b, q157c⟩ := isOf hZ e147.symm Pc147_0
  obtain ⟨_, _, ⟨T157, L157, kk157, nn157⟩, -, X157, ⟨Lc157, hQ157, l157, y157, z157⟩, st157⟩ := X147.virtualBack hx (y := (⟨"com/example/relay_queue/relayqueue/broker/ByteCounter", "size", "()I"⟩ : MethodName)) (z := (⟨"com/example/relay_queue/relayqueue/broker/ByteCounter", "size", "()I"⟩ : MethodName)) hown (mvT hZ (hw _ (List.mem_of_getElem? (i := 32) rfl))) (mvT hZ (hw _ (List.mem_of_getElem? (i := 33) rfl))) (notFace_of_selects (args := #[]) (mvT hZ (hw _ (List.mem_of_getElem? (i := 35) rfl)))) (mvT hZ (hw _ (List.mem_of_getElem? (i := 35) rfl))) (mvT hZ (hw _ (List.mem_of_getElem? (i := 34) rfl))) (by decide) (backOf (W := 0) (rm5 l Z a0 hw [] b121 w'_147 h147 n0 Z151 Pc147_1 q156) hZ (hw _ (List.mem_of_getElem? (i := 36) rfl)) (hw _ (List.mem_of_getElem? (i := 3) rfl)) (by decide) (by decide)) q157a q157c (g := (mkF m 47 #[.val (.long x0), .second, .val (.int x1), .val (.int x2), .val (.int x3), .val (.long sr_99), .second, .val (.ref b121), .unset, .unset, .unset] [(.ref b121)])) rfl (by rw [hml]; rfl) (Steps.refl _) (argsL := []) (rest := []) (lenOf own_pd4 rfl) rfl (by show 2 * 0 + _ ≤ _; exact Nat.le_of_eq rfl) (hb hby at_47) (fun _ _ => ⟨rfl, e147.symm, (by decide : 4 + 0 ≤ _), (by decide : 7 + 0 ≤ _)⟩)
  dsimp only [Pt.U, Pt.locs, Pt.cells, Pt.slots] at X157 l157 y157 z157 st157 hQ157
  subst l157 y157 z157
  obtain ⟨r_157, rfl, Sp157, Nq157, eh157⟩ := hQ157
  have N158 := Fr.app N148 Nq157
  have K159 : ∀ t, Steps p.tables e below (T157.setTop (mkF m 50 #[.val (.long x0), .second, .val (.int x1), .val (.int x2), .val (.int x3), .val (.long sr_99), .second, .val (.ref b121), .unset, .unset, .unset] [(.int r_157)])) t → Steps p.tables e below (s₁.setTop (entryFrame m #[(.long x0), (.int x1), (.int x2), (.int x3)] maxLocals)) t := fun t k => K154 t (st157.trans k)
  have K160 : ∀ t, Steps p.tables e below (T157.setTop (mkF m 55 #[.val (.long x0), .second, .val (.int x1), .val (.int x2), .val (.int x3), .val (.long sr_99), .second, .val (.ref b121), .val (.int r_157), .unset, .unset] [(.int x2), (.ref b121)])) t → Steps p.tables e below (s₁.setTop (entryFrame m #[(.long x0), (.int x1), (.int x2), (.int x3)] maxLocals)) t := fun t k => K159 t (by
    show Steps p.tables e below (T157.setTop (mkF m 50 #[.val (.long x0), .second, .val (.int x1), .val (.int x2), .val (.int x3), .val (.long sr_99), .second, .val (.ref b121), .unset, .unset, .unset] [(.int r_157)])) t
    refine XS.istore X157.here hx rfl (hb hby at_50) rfl (l' := #[.val (.long x0), .second, .val (.int x1), .val (.int x2), .val (.int x3), .val (.long sr_99), .second, .val (.ref b121), .val (.int r_157), .unset, .unset]) rfl ?_
    show Steps p.tables e below (T157.setTop (mkF m 52 #[.val (.long x0), .second, .val (.int x1), .val (.int x2), .val (.int x3), .val (.long sr_99), .second, .val (.ref b121), .val (.int r_157), .unset, .unset] [])) t
    refine XS.aload X157.here hx rfl (hb hby at_52) rfl rfl ?_
    show Steps p.tables e below (T157.setTop (mkF m 54 #[.val (.long x0), .second, .val (.int x1), .val (.int x2), .val (.int x3), .val (.long sr_99), .second, .val (.ref b121), .val (.int r_157), .unset, .unset] [(.ref b121)])) t
    refine XS.iloadN X157.here hx rfl (hb hby at_54) rfl ?_
    exact k)
  have q162 := rng32 x2
  have q161 : 0 ≤ w'_147.toInt ∧ 0 ≤ 4 ∧ w'_147.toInt + 4 < 9223372036854775807 := by omega
  obtain ⟨cq163, kq163, q163a, q163b, q163c⟩ := isOf hZ eh157 Pc147_0
  obtain ⟨_, _, ⟨T163, L163, kk163, nn163⟩, -, X163, ⟨Lc163, hQ163, l163, y163, z163⟩, st163⟩ := X157.virtualBack hx (y := (⟨"com/example/relay_queue/relayqueue/broker/ByteCounter", "writeInt", "(I)V"⟩ : MethodName)) (z := (⟨"com/example/relay_queue/relayqueue/broker/ByteCounter", "writeInt", "(I)V"⟩ : MethodName)) hown (mvT hZ (hw _ (List.mem_of_getElem? (i := 42) rfl))) (mvT hZ (hw _ (List.mem_of_getElem? (i := 43) rfl))) (notFace_of_selects (args := #[]) (mvT hZ (hw _ (List.mem_of_getElem? (i := 45) rfl)))) (mvT hZ (hw _ (List.mem_of_getElem? (i := 45) rfl))) (mvT hZ (hw _ (List.mem_of_getElem? (i := 44) rfl))) (by decide) (backOf (W := 0) (rm7 l Z a0 hw [] b121 x2 w'_147 h147 n0 Z151 Pc147_0 Pc147_1 gb122 q161) hZ (hw _ (List.mem_of_getElem? (i := 46) rfl)) (hw _ (List.mem_of_getElem? (i := 3) rfl)) (by decide) (by decide)) q163a q163c (g := (mkF m 55 #[.val (.long x0), .second, .val (.int x1), .val (.int x2), .val (.int x3), .val (.long sr_99), .second, .val (.ref b121), .val (.int r_157), .unset, .unset] [(.int x2), (.ref b121)])) rfl (by rw [hml]; rfl) (Steps.refl _) (argsL := [(.int x2)]) (rest := []) (lenOf own_pd0 rfl) rfl (by show 2 * 0 + _ ≤ _; exact Nat.le_of_eq rfl) (hb hby at_55) (fun _ _ => ⟨rfl, eh157, (by decide : 4 + 0 ≤ _), (by decide : 7 + 0 ≤ _)⟩)
  dsimp only [Pt.U, Pt.locs, Pt.cells, Pt.slots] at X163 l163 y163 z163 st163 hQ163
  subst l163 y163 z163
  obtain ⟨w'_163, rfl, Sp163, Nq163, Kc163, Pc163_0, Pc163_1⟩ := hQ163
  have N164 := Fr.app N158 Nq163
  obtain ⟨h163, e163⟩ : ∃ z, z = T163.heap := ⟨_, rfl⟩
  rw [← e163] at Kc163 Pc163_0 Pc163_1
  have F165 := Pc147_0.keep Kc163
  have Kp166 : Keep h0 h163 [] := Keep.trans Kp150 Kc163 (allS (Or.inr sb123) all0)
  have Z167 : n0 ≤ h163.size := Nat.le_trans Z151 Kc163.1
  have Zk168 := Nat.le_trans Zk152 Kc163.1
  have K169 : ∀ t, Steps p.tables e below (T163.setTop (mkF m 58 #[.val (.long x0), .second, .val (.int x1), .val (.int x2), .val (.int x3), .val (.long sr_99), .second, .val (.ref b121), .val (.int r_157), .unset, .unset] [])) t → Steps p.tables e below (s₁.setTop (entryFrame m #[(.long x0), (.int x1), (.int x2), (.int x3)] maxLocals)) t := fun t k => K160 t (st163.trans k)
  have K170 : ∀ t, Steps p.tables e below (T163.setTop (mkF m 60 #[.val (.long x0), .second, .val (.int x1), .val (.int x2), .val (.int x3), .val (.long sr_99), .second, .val (.ref b121), .val (.int r_157), .unset, .unset] [(.ref b121)])) t → Steps p.tables e below (s₁.setTop (entryFrame m #[(.long x0), (.int x1), (.int x2), (.int x3)] maxLocals)) t := fun t k => K169 t (by
    show Steps p.tables e below (T163.setTop (mkF m 58 #[.val (.long x0), .second, .val (.int x1), .val (.int x2), .val (.int x3), .val (.long sr_99), .second, .val (.ref b121), .val (.int r_157), .unset, .unset] [])) t
    refine XS.aload X163.here hx rfl (hb hby at_58) rfl rfl ?_
    exact k)
  have q171 := rng64 w'_163
  have q172 : 0 ≤ w'_163.toInt := by omega
  obtain ⟨cq173, kq173, q173a, q173b, q173c⟩ := isOf hZ e163.symm Pc163_0
  obtain ⟨_, _, ⟨T173, L173, kk173, nn173⟩, -, X173, ⟨Lc173, hQ173, l173, y173, z173⟩, st173⟩ := X163.virtualBack hx (y := (⟨"com/example/relay_queue/relayqueue/broker/ByteCounter", "size", "()I"⟩ : MethodName)) (z := (⟨"com/example/relay_queue/relayqueue/broker/ByteCounter", "size", "()I"⟩ : MethodName)) hown (mvT hZ (hw _ (List.mem_of_getElem? (i := 32) rfl))) (mvT hZ (hw _ (List.mem_of_getElem? (i := 33) rfl))) (notFace_of_selects (args := #[]) (mvT hZ (hw _ (List.mem_of_getElem? (i := 35) rfl)))) (mvT hZ (hw _ (List.mem_of_getElem? (i := 35) rfl))) (mvT hZ (hw _ (List.mem_of_getElem? (i := 34) rfl))) (by decide) (backOf (W := 0) (rm5 l Z a0 hw [] b121 w'_163 h163 n0 Z167 Pc163_1 q172) hZ (hw _ (List.mem_of_getElem? (i := 36) rfl)) (hw _ (List.mem_of_getElem? (i := 3) rfl)) (by decide) (by decide)) q173a q173c (g := (mkF m 60 #[.val (.long x0), .second, .val (.int x1), .val (.int x2), .val (.int x3), .val (.long sr_99), .second, .val (.ref b121), .val (.int r_157), .unset, .unset] [(.ref b121)])) rfl (by rw [hml]; rfl) (Steps.refl _) (argsL := []) (rest := []) (lenOf own_pd4 rfl) rfl (by show 2 * 0 + _ ≤ _; exact Nat.le_of_eq rfl) (hb hby at_60) (fun _ _ => ⟨rfl, e163.symm, (by decide : 4 + 0 ≤ _), (by decide : 7 + 0 ≤ _)⟩)
  dsimp only [Pt.U, Pt.locs, Pt.cells, Pt.slots] at X173 l173 y173 z173 st173 hQ173
  subst l173 y173 z173
  obtain ⟨r_173, rfl, Sp173, Nq173, eh173⟩ := hQ173
  have N174 := Fr.app N164 Nq173
  have K175 : ∀ t, Steps p.tables e below (T173.setTop (mkF m 63 #[.val (.long x0), .second, .val (.int x1), .val (.int x2), .val (.int x3), .val (.long sr_99), .second, .val (.ref b121), .val (.int r_157), .unset, .unset] [(.int r_173)])) t → Steps p.tables e below (s₁.setTop (entryFrame m #[(.long x0), (.int x1), (.int x2), (.int x3)] maxLocals)) t := fun t k => K170 t (st173.trans k)
  have K176 : ∀ t, Steps p.tables e below (T173.setTop (mkF m 69 #[.val (.long x0), .second, .val (.int x1), .val (.int x2), .val (.int x3), .val (.long sr_99), .second, .val (.ref b121), .val (.int r_157), .val (.int r_173), .unset] [(.int x3), (.ref b121)])) t → Steps p.tables e below (s₁.setTop (entryFrame m #[(.long x0), (.int x1), (.int x2), (.int x3)] maxLocals)) t := fun t k => K175 t (by
    show Steps p.tables e below (T173.setTop (mkF m 63 #[.val (.long x0), .second, .val (.int x1), .val (.int x2), .val (.int x3), .val (.long sr_99), .second, .val (.ref b121), .val (.int r_157), .unset, .unset] [(.int r_173)])) t
    refine XS.istore X173.here hx rfl (hb hby at_63) rfl (l' := #[.val (.long x0), .second, .val (.int x1), .val (.int x2), .val (.int x3), .val (.long sr_99), .second, .val (.ref b121), .val (.int r_157), .val (.int r_173), .unset]) rfl ?_
    show Steps p.tables e below (T173.setTop (mkF m 65 #[.val (.long x0), .second, .val (.int x1), .val (.int x2), .val (.int x3), .val (.long sr_99), .second, .val (.ref b121), .val (.int r_157), .val (.int r_173), .unset] [])) t
    refine XS.aload X173.here hx rfl (hb hby at_65) rfl rfl ?_
    show Steps p.tables e below (T173.setTop (mkF m 67 #[.val (.long x0), .second, .val (.int x1), .val (.int x2), .val (.int x3), .val (.long sr_99), .second, .val (.ref b121), .val (.int r_157), .val (.int r_173), .unset] [(.ref b121)])) t
    refine XS.iload X173.here hx rfl (hb hby at_67) rfl ?_
    exact k)
  have q178 := rng32 x3
  have q177 : 0 ≤ w'_163.toInt ∧ 0 ≤ 4 ∧ w'_163.toInt + 4 < 9223372036854775807 := by omega
  obtain ⟨cq179, kq179, q179a, q179b, q179c⟩ := isOf hZ eh173 Pc163_0
  obtain ⟨_, _, ⟨T179, L179, kk179, nn179⟩, -, X179, ⟨Lc179, hQ179, l179, y179, z179⟩, st179⟩ := X173.virtualBack hx (y := (⟨"com/example/relay_queue/relayqueue/broker/ByteCounter", "writeInt", "(I)V"⟩ : MethodName)) (z := (⟨"com/example/relay_queue/relayqueue/broker/ByteCounter", "writeInt", "(I)V"⟩ : MethodName)) hown (mvT hZ (hw _ (List.mem_of_getElem? (i := 42) rfl))) (mvT hZ (hw _ (List.mem_of_getElem? (i := 43) rfl))) (notFace_of_selects (args := #[]) (mvT hZ (hw _ (List.mem_of_getElem? (i := 45) rfl)))) (mvT hZ (hw _ (List.mem_of_getElem? (i := 45) rfl))) (mvT hZ (hw _ (List.mem_of_getElem? (i := 44) rfl))) (by decide) (backOf (W := 0) (rm7 l Z a0 hw [] b121 x3 w'_163 h163 n0 Z167 Pc163_0 Pc163_1 gb122 q177) hZ (hw _ (List.mem_of_getElem? (i := 46) rfl)) (hw _ (List.mem_of_getElem? (i := 3) rfl)) (by decide) (by decide)) q179a q179c (g := (mkF m 69 #[.val (.long x0), .second, .val (.int x1), .val (.int x2), .val (.int x3), .val (.long sr_99), .second, .val (.ref b121), .val (.int r_157), .val (.int r_173), .unset] [(.int x3), (.ref b121)])) rfl (by rw [hml]; rfl) (Steps.refl _) (argsL := [(.int x3)]) (rest := []) (lenOf own_pd0 rfl) rfl (by show 2 * 0 + _ ≤ _; exact Nat.le_of_eq rfl) (hb hby at_69) (fun _ _ => ⟨rfl, eh173, (by decide : 4 + 0 ≤ _), (by decide : 7 + 0 ≤ _)⟩)
  dsimp only [Pt.U, Pt.locs, Pt.cells, Pt.slots] at X179 l179 y179 z179 st179 hQ179
  subst l179 y179 z179
  obtain ⟨w'_179, rfl, Sp179, Nq179, Kc179, Pc179_0, Pc179_1⟩ := hQ179
  have N180 := Fr.app N174 Nq179
  obtain ⟨h179, e179⟩ : ∃ z, z = T179.heap := ⟨_, rfl⟩
  rw [← e179] at Kc179 Pc179_0 Pc179_1
  have F181 := Pc163_0.keep Kc179
  have Kp182 : Keep h0 h179 [] := Keep.trans Kp166 Kc179 (allS (Or.inr sb123) all0)
  have Z183 : n0 ≤ h179.size := Nat.le_trans Z167 Kc179.1
  have Zk184 := Nat.le_trans Zk168 Kc179.1
  have K185 : ∀ t, Steps p.tables e below (T179.setTop (mkF m 72 #[.val (.long x0), .second, .val (.int x1), .val (.int x2), .val (.int x3), .val (.long sr_99), .second, .val (.ref b121), .val (.int r_157), .val (.int r_173), .unset] [])) t → Steps p.tables e below (s₁.setTop (entryFrame m #[(.long x0), (.int x1), (.int x2), (.int x3)] maxLocals)) t := fun t k => K176 t (st179.trans k)
  have K186 : ∀ t, Steps p.tables e below (T179.setTop (mkF m 74 #[.val (.long x0), .second, .val (.int x1), .val (.int x2), .val (.int x3), .val (.long sr_99), .second, .val (.ref b121), .val (.int r_157), .val (.int r_173), .unset] [(.ref b121)])) t → Steps p.tables e below (s₁.setTop (entryFrame m #[(.long x0), (.int x1), (.int x2), (.int x3)] maxLocals)) t := fun t k => K185 t (by
    show Steps p.tables e below (T179.setTop (mkF m 72 #[.val (.long x0), .second, .val (.int x1), .val (.int x2), .val (.int x3), .val (.long sr_99), .second, .val (.ref b121), .val (.int r_157), .val (.int r_173), .unset] [])) t
    refine XS.aload X179.here hx rfl (hb hby at_72) rfl rfl ?_
    exact k)
  have q187 := rng64 w'_179
  have q188 : 0 ≤ w'_179.toInt := by omega
  obtain ⟨cq189, kq189, q189a, q189b, q189c⟩ := isOf hZ e179.symm Pc179_0
  obtain ⟨_, _, ⟨T189, L189, kk189, nn189⟩, -, X189, ⟨Lc189, hQ189, l189, y189, z189⟩, st189⟩ := X179.virtualBack hx (y := (⟨"com/example/relay_queue/relayqueue/broker/ByteCounter", "size", "()I"⟩ : MethodName)) (z := (⟨"com/example/relay_queue/relayqueue/broker/ByteCounter", "size", "()I"⟩ : MethodName)) hown (mvT hZ (hw _ (List.mem_of_getElem? (i := 32) rfl))) (mvT hZ (hw _ (List.mem_of_getElem? (i := 33) rfl))) (notFace_of_selects (args := #[]) (mvT hZ (hw _ (List.mem_of_getElem? (i := 35) rfl)))) (mvT hZ (hw _ (List.mem_of_getElem? (i := 35) rfl))) (mvT hZ (hw _ (List.mem_of_getElem? (i := 34) rfl))) (by decide) (backOf (W := 0) (rm5 l Z a0 hw [] b121 w'_179 h179 n0 Z183 Pc179_1 q188) hZ (hw _ (List.mem_of_getElem? (i := 36) rfl)) (hw _ (List.mem_of_getElem? (i := 3) rfl)) (by decide) (by decide)) q189a q189c (g := (mkF m 74 #[.val (.long x0), .second, .val (.int x1), .val (.int x2), .val (.int x3), .val (.long sr_99), .second, .val (.ref b121), .val (.int r_157), .val (.int r_173), .unset] [(.ref b121)])) rfl (by rw [hml]; rfl) (Steps.refl _) (argsL := []) (rest := []) (lenOf own_pd4 rfl) rfl (by show 2 * 0 + _ ≤ _; exact Nat.le_of_eq rfl) (hb hby at_74) (fun _ _ => ⟨rfl, e179.symm, (by decide : 4 + 0 ≤ _), (by decide : 7 + 0 ≤ _)⟩)
  dsimp only [Pt.U, Pt.locs, Pt.cells, Pt.slots] at X189 l189 y189 z189 st189 hQ189
  subst l189 y189 z189
  obtain ⟨r_189, rfl, Sp189, Nq189, eh189⟩ := hQ189
  have N190 := Fr.app N180 Nq189
  have K191 : ∀ t, Steps p.tables e below (T189.setTop (mkF m 77 #[.val (.long x0), .second, .val (.int x1), .val (.int x2), .val (.int x3), .val (.long sr_99), .second, .val (.ref b121), .val (.int r_157), .val (.int r_173), .unset] [(.int r_189)])) t → Steps p.tables e below (s₁.setTop (entryFrame m #[(.long x0), (.int x1), (.int x2), (.int x3)] maxLocals)) t := fun t k => K186 t (st189.trans k)
  have K192 : ∀ t, Steps p.tables e below (T189.setTop (mkF m 83 #[.val (.long x0), .second, .val (.int x1), .val (.int x2), .val (.int x3), .val (.long sr_99), .second, .val (.ref b121), .val (.int r_157), .val (.int r_173), .val (.int r_189)] [(.long sr_99), (.int r_157)])) t → Steps p.tables e below (s₁.setTop (entryFrame m #[(.long x0), (.int x1), (.int x2), (.int x3)] maxLocals)) t := fun t k => K191 t (by
    show Steps p.tables e below (T189.setTop (mkF m 77 #[.val (.long x0), .second, .val (.int x1), .val (.int x2), .val (.int x3), .val (.long sr_99), .second, .val (.ref b121), .val (.int r_157), .val (.int r_173), .unset] [(.int r_189)])) t
    refine XS.istore X189.here hx rfl (hb hby at_77) rfl (l' := #[.val (.long x0), .second, .val (.int x1), .val (.int x2), .val (.int x3), .val (.long sr_99), .second, .val (.ref b121), .val (.int r_157), .val (.int r_173), .val (.int r_189)]) rfl ?_
    show Steps p.tables e below (T189.setTop (mkF m 79 #[.val (.long x0), .second, .val (.int x1), .val (.int x2), .val (.int x3), .val (.long sr_99), .second, .val (.ref b121), .val (.int r_157), .val (.int r_173), .val (.int r_189)] [])) t
    refine XS.iload X189.here hx rfl (hb hby at_79) rfl ?_
    show Steps p.tables e below (T189.setTop (mkF m 81 #[.val (.long x0), .second, .val (.int x1), .val (.int x2), .val (.int x3), .val (.long sr_99), .second, .val (.ref b121), .val (.int r_157), .val (.int r_173), .val (.int r_189)] [(.int r_157)])) t
    refine XS.lload X189.here hx rfl (hb hby at_81) rfl ?_
    exact k)
  have q193 : 0 ≤ sr_99.toInt := by omega
  obtain ⟨_, _, ⟨T194, L194, kk194, nn194⟩, -, X194, ⟨Lc194, hQ194, l194, y194, z194⟩, st194⟩ := Jvm.LawKit.callS X189 hx (y := (⟨"com/example/relay_queue/relayqueue/broker/ByteCounterWriteIntPinLaw", "saturated", "(J)I"⟩ : MethodName)) hown (mvT hZ (hw _ (List.mem_of_getElem? (i := 48) rfl))) (mvT hZ (hw _ (List.mem_of_getElem? (i := 49) rfl))) (mvT hZ (hw _ (List.mem_of_getElem? (i := 50) rfl))) (mvT hZ (hw _ (List.mem_of_getElem? (i := 51) rfl))) (by decide) (backOf (W := 1) (rm8 l Z a0 hw [] sr_99 h179 n0 Z183 q193) hZ (hw _ (List.mem_of_getElem? (i := 51) rfl)) (hw _ (List.mem_of_getElem? (i := 50) rfl)) (by decide) (by decide)) (g := (mkF m 83 #[.val (.long x0), .second, .val (.int x1), .val (.int x2), .val (.int x3), .val (.long sr_99), .second, .val (.ref b121), .val (.int r_157), .val (.int r_173), .val (.int r_189)] [(.long sr_99), (.int r_157)])) rfl (by rw [hml]; rfl) (argsL := [(.long sr_99)]) (rest := [(.int r_157)]) (lenOf own_pd5 rfl) rfl (by show 2 * 0 + _ ≤ _; exact Nat.le_of_eq rfl) (hb hby at_83) (fun _ _ => ⟨rfl, eh189, (by decide : 4 + 0 ≤ _), (by decide : 7 + 0 ≤ _)⟩)
  dsimp only [Pt.U, Pt.locs, Pt.cells, Pt.slots] at X194 l194 y194 z194 st194 hQ194
  subst l194 y194 z194
  obtain ⟨r_194, rfl, Sp194, Nq194, eh194⟩ := hQ194
  have N195 := Fr.app N190 Nq194
  have K196 : ∀ t, Steps p.tables e below (T194.setTop (mkF m 86 #[.val (.long x0), .second, .val (.int x1), .val (.int x2), .val (.int x3), .val (.long sr_99), .second, .val (.ref b121), .val (.int r_157), .val (.int r_173), .val (.int r_189)] [(.int r_194), (.int r_157)])) t → Steps p.tables e below (s₁.setTop (entryFrame m #[(.long x0), (.int x1), (.int x2), (.int x3)] maxLocals)) t := fun t k => K192 t (st194 _ k)
  have q198 := rng32 r_157
  have q199 := rng32 r_194
  have hc197 : r_157 = r_194 := Int32.toInt_inj.mp (by omega)
  have q200 : r_157.toInt = r_194.toInt := congrArg Int32.toInt hc197
  have K201 : ∀ t, Steps p.tables e below (T194.setTop (mkF m 97 #[.val (.long x0), .second, .val (.int x1), .val (.int x2), .val (.int x3), .val (.long sr_99), .second, .val (.ref b121), .val (.int r_157), .val (.int r_173), .val (.int r_189)] [(.long (sr_99 + (4 : Int64))), (.int r_173)])) t → Steps p.tables e below (s₁.setTop (entryFrame m #[(.long x0), (.int x1), (.int x2), (.int x3)] maxLocals)) t := fun t k => K196 t (by
    show Steps p.tables e below (T194.setTop (mkF m 86 #[.val (.long x0), .second, .val (.int x1), .val (.int x2), .val (.int x3), .val (.long sr_99), .second, .val (.ref b121), .val (.int r_157), .val (.int r_173), .val (.int r_189)] [(.int r_194), (.int r_157)])) t
    refine XS.icmpNo X194.here hx rfl (hb hby at_86) rfl (teq hc197).2 ?_
    show Steps p.tables e below (T194.setTop (mkF m 89 #[.val (.long x0), .second, .val (.int x1), .val (.int x2), .val (.int x3), .val (.long sr_99), .second, .val (.ref b121), .val (.int r_157), .val (.int r_173), .val (.int r_189)] [])) t
    refine XS.iload X194.here hx rfl (hb hby at_89) rfl ?_
    show Steps p.tables e below (T194.setTop (mkF m 91 #[.val (.long x0), .second, .val (.int x1), .val (.int x2), .val (.int x3), .val (.long sr_99), .second, .val (.ref b121), .val (.int r_157), .val (.int r_173), .val (.int r_189)] [(.int r_173)])) t
    refine XS.lload X194.here hx rfl (hb hby at_91) rfl ?_
    show Steps p.tables e below (T194.setTop (mkF m 93 #[.val (.long x0), .second, .val (.int x1), .val (.int x2), .val (.int x3), .val (.long sr_99), .second, .val (.ref b121), .val (.int r_157), .val (.int r_173), .val (.int r_189)] [(.long sr_99), (.int r_173)])) t
    refine X194.ldc2Long hx hown (mvT hZ (hw _ (List.mem_of_getElem? (i := 53) rfl))) (g := (mkF m 93 #[.val (.long x0), .second, .val (.int x1), .val (.int x2), .val (.int x3), .val (.long sr_99), .second, .val (.ref b121), .val (.int r_157), .val (.int r_173), .val (.int r_189)] [(.long sr_99), (.int r_173)])) rfl (hb hby at_93) _ ?_
    show Steps p.tables e below (T194.setTop (mkF m 96 #[.val (.long x0), .second, .val (.int x1), .val (.int x2), .val (.int x3), .val (.long sr_99), .second, .val (.ref b121), .val (.int r_157), .val (.int r_173), .val (.int r_189)] [(.long (4 : Int64)), (.long sr_99), (.int r_173)])) t
    refine XS.ladd X194.here hx rfl (hb hby at_96) rfl ?_
    exact k)
  have q203 := (by decide : (4 : Int64).toInt = 4)
  have q204 := c_ladd sr_99 (4 : Int64)
  have q205 := rng64 (sr_99 + (4 : Int64))
  have q202 : 0 ≤ (sr_99 + (4 : Int64)).toInt := by omega
  obtain ⟨_, _, ⟨T206, L206, kk206, nn206⟩, -, X206, ⟨Lc206, hQ206, l206, y206, z206⟩, st206⟩ := Jvm.LawKit.callS X194 hx (y := (⟨"com/example/relay_queue/relayqueue/broker/ByteCounterWriteIntPinLaw", "saturated", "(J)I"⟩ : MethodName)) hown (mvT hZ (hw _ (List.mem_of_getElem? (i := 48) rfl))) (mvT hZ (hw _ (List.mem_of_getElem? (i := 49) rfl))) (mvT hZ (hw _ (List.mem_of_getElem? (i := 50) rfl))) (mvT hZ (hw _ (List.mem_of_getElem? (i := 51) rfl))) (by decide) (backOf (W := 1) (rm8 l Z a0 hw [] (sr_99 + (4 : Int64)) h179 n0 Z183 q202) hZ (hw _ (List.mem_of_getElem? (i := 51) rfl)) (hw _ (List.mem_of_getElem? (i := 50) rfl)) (by decide) (by decide)) (g := (mkF m 97 #[.val (.long x0), .second, .val (.int x1), .val (.int x2), .val (.int x3), .val (.long sr_99), .second, .val (.ref b121), .val (.int r_157), .val (.int r_173), .val (.int r_189)] [(.long (sr_99 + (4 : Int64))), (.int r_173)])) rfl (by rw [hml]; rfl) (argsL := [(.long (sr_99 + (4 : Int64)))]) (rest := [(.int r_173)]) (lenOf own_pd5 rfl) rfl (by show 2 * 0 + _ ≤ _; exact Nat.le_of_eq rfl) (hb hby at_97) (fun _ _ => ⟨rfl, eh194, (by decide : 4 + 0 ≤ _), (by decide : 7 + 0 ≤ _)⟩)
  dsimp only [Pt.U, Pt.locs, Pt.cells, Pt.slots] at X206 l206 y206 z206 st206 hQ206
  subst l206 y206 z206
  obtain ⟨r_206, rfl, Sp206, Nq206, eh206⟩ := hQ206
  have N207 := Fr.app N195 Nq206
  have K208 : ∀ t, Steps p.tables e below (T206.setTop (mkF m 100 #[.val (.long x0), .second, .val (.int x1), .val (.int x2), .val (.int x3), .val (.long sr_99), .second, .val (.ref b121), .val (.int r_157), .val (.int r_173), .val (.int r_189)] [(.int r_206), (.int r_173)])) t → Steps p.tables e below (s₁.setTop (entryFrame m #[(.long x0), (.int x1), (.int x2), (.int x3)] maxLocals)) t := fun t k => K201 t (st206 _ k)
  have q210 := rng32 r_173
  have q211 := rng32 r_206
  have hc209 : r_173 = r_206 := Int32.toInt_inj.mp (by omega)
  have q212 : r_173.toInt = r_206.toInt := congrArg Int32.toInt hc209
  have K213 : ∀ t, Steps p.tables e below (T206.setTop (mkF m 111 #[.val (.long x0), .second, .val (.int x1), .val (.int x2), .val (.int x3), .val (.long sr_99), .second, .val (.ref b121), .val (.int r_157), .val (.int r_173), .val (.int r_189)] [(.long (sr_99 + (8 : Int64))), (.int r_189)])) t → Steps p.tables e below (s₁.setTop (entryFrame m #[(.long x0), (.int x1), (.int x2), (.int x3)] maxLocals)) t := fun t k => K208 t (by
    show Steps p.tables e below (T206.setTop (mkF m 100 #[.val (.long x0), .second, .val (.int x1), .val (.int x2), .val (.int x3), .val (.long sr_99), .second, .val (.ref b121), .val (.int r_157), .val (.int r_173), .val (.int r_189)] [(.int r_206), (.int r_173)])) t
    refine XS.icmpNo X206.here hx rfl (hb hby at_100) rfl (teq hc209).2 ?_
    show Steps p.tables e below (T206.setTop (mkF m 103 #[.val (.long x0), .second, .val (.int x1), .val (.int x2), .val (.int x3), .val (.long sr_99), .second, .val (.ref b121), .val (.int r_157), .val (.int r_173), .val (.int r_189)] [])) t
    refine XS.iload X206.here hx rfl (hb hby at_103) rfl ?_
    show Steps p.tables e below (T206.setTop (mkF m 105 #[.val (.long x0), .second, .val (.int x1), .val (.int x2), .val (.int x3), .val (.long sr_99), .second, .val (.ref b121), .val (.int r_157), .val (.int r_173), .val (.int r_189)] [(.int r_189)])) t
    refine XS.lload X206.here hx rfl (hb hby at_105) rfl ?_
    show Steps p.tables e below (T206.setTop (mkF m 107 #[.val (.long x0), .second, .val (.int x1), .val (.int x2), .val (.int x3), .val (.long sr_99), .second, .val (.ref b121), .val (.int r_157), .val (.int r_173), .val (.int r_189)] [(.long sr_99), (.int r_189)])) t
    refine X206.ldc2Long hx hown (mvT hZ (hw _ (List.mem_of_getElem? (i := 54) rfl))) (g := (mkF m 107 #[.val (.long x0), .second, .val (.int x1), .val (.int x2), .val (.int x3), .val (.long sr_99), .second, .val (.ref b121), .val (.int r_157), .val (.int r_173), .val (.int r_189)] [(.long sr_99), (.int r_189)])) rfl (hb hby at_107) _ ?_
    show Steps p.tables e below (T206.setTop (mkF m 110 #[.val (.long x0), .second, .val (.int x1), .val (.int x2), .val (.int x3), .val (.long sr_99), .second, .val (.ref b121), .val (.int r_157), .val (.int r_173), .val (.int r_189)] [(.long (8 : Int64)), (.long sr_99), (.int r_189)])) t
    refine XS.ladd X206.here hx rfl (hb hby at_110) rfl ?_
    exact k)
  have q215 := (by decide : (8 : Int64).toInt = 8)
  have q216 := c_ladd sr_99 (8 : Int64)
  have q217 := rng64 (sr_99 + (8 : Int64))
  have q214 : 0 ≤ (sr_99 + (8 : Int64)).toInt := by omega
  obtain ⟨_, _, ⟨T218, L218, kk218, nn218⟩, -, X218, ⟨Lc218, hQ218, l218, y218, z218⟩, st218⟩ := Jvm.LawKit.callS X206 hx (y := (⟨"com/example/relay_queue/relayqueue/broker/ByteCounterWriteIntPinLaw", "saturated", "(J)I"⟩ : MethodName)) hown (mvT hZ (hw _ (List.mem_of_getElem? (i := 48) rfl))) (mvT hZ (hw _ (List.mem_of_getElem? (i := 49) rfl))) (mvT hZ (hw _ (List.mem_of_getElem? (i := 50) rfl))) (mvT hZ (hw _ (List.mem_of_getElem? (i := 51) rfl))) (by decide) (backOf (W := 1) (rm8 l Z a0 hw [] (sr_99 + (8 : Int64)) h179 n0 Z183 q214) hZ (hw _ (List.mem_of_getElem? (i := 51) rfl)) (hw _ (List.mem_of_getElem? (i := 50) rfl)) (by decide) (by decide)) (g := (mkF m 111 #[.val (.long x0), .second, .val (.int x1), .val (.int x2), .val (.int x3), .val (.long sr_99), .second, .val (.ref b121), .val (.int r_157), .val (.int r_173), .val (.int r_189)] [(.long (sr_99 + (8 : Int64))), (.int r_189)])) rfl (by rw [hml]; rfl) (argsL := [(.long (sr_99 + (8 : Int64)))]) (rest := [(.int r_189)]) (lenOf own_pd5 rfl) rfl (by show 2 * 0 + _ ≤ _; exact Nat.le_of_eq rfl) (hb hby at_111) (fun _ _ => ⟨rfl, eh206, (by decide : 4 + 0 ≤ _), (by decide : 7 + 0 ≤ _)⟩)
  dsimp only [Pt.U, Pt.locs, Pt.cells, Pt.slots] at X218 l218 y218 z218 st218 hQ218
  subst l218 y218 z218
  obtain ⟨r_218, rfl, Sp218, Nq218, eh218⟩ := hQ218
  have N219 := Fr.app N207 Nq218
  have K220 : ∀ t, Steps p.tables e below (T218.setTop (mkF m 114 #[.val (.long x0), .second, .val (.int x1), .val (.int x2), .val (.int x3), .val (.long sr_99), .second, .val (.ref b121), .val (.int r_157), .val (.int r_173), .val (.int r_189)] [(.int r_218), (.int r_189)])) t → Steps p.tables e below (s₁.setTop (entryFrame m #[(.long x0), (.int x1), (.int x2), (.int x3)] maxLocals)) t := fun t k => K213 t (st218 _ k)
  have q222 := rng32 r_189
  have q223 := rng32 r_218
  have hc221 : r_189 = r_218 := Int32.toInt_inj.mp (by omega)
  have q224 : r_189.toInt = r_218.toInt := congrArg Int32.toInt hc221
  have K225 : ∀ t, Steps p.tables e below (T218.setTop (mkF m 122 #[.val (.long x0), .second, .val (.int x1), .val (.int x2), .val (.int x3), .val (.long sr_99), .second, .val (.ref b121), .val (.int r_157), .val (.int r_173), .val (.int r_189)] [(.int (1 : Int32))])) t → Steps p.tables e below (s₁.setTop (entryFrame m #[(.long x0), (.int x1), (.int x2), (.int x3)] maxLocals)) t := fun t k => K220 t (by
    show Steps p.tables e below (T218.setTop (mkF m 114 #[.val (.long x0), .second, .val (.int x1), .val (.int x2), .val (.int x3), .val (.long sr_99), .second, .val (.ref b121), .val (.int r_157), .val (.int r_173), .val (.int r_189)] [(.int r_218), (.int r_189)])) t
    refine XS.icmpNo X218.here hx rfl (hb hby at_114) rfl (teq hc221).2 ?_
    show Steps p.tables e below (T218.setTop (mkF m 117 #[.val (.long x0), .second, .val (.int x1), .val (.int x2), .val (.int x3), .val (.long sr_99), .second, .val (.ref b121), .val (.int r_157), .val (.int r_173), .val (.int r_189)] [])) t
    refine XS.iconst X218.here hx rfl (hb hby at_117) ?_
    show Steps p.tables e below (T218.setTop (mkF m 118 #[.val (.long x0), .second, .val (.int x1), .val (.int x2), .val (.int x3), .val (.long sr_99), .second, .val (.ref b121), .val (.int r_157), .val (.int r_173), .val (.int r_189)] [(.int (1 : Int32))])) t
    refine XS.goto X218.here hx rfl (pc0 := 118) (pc' := 122) rfl (hb hby at_118) (by decide) (by decide) ?_
    exact k)
  obtain ⟨fs, hr, hrun, hended, hRE⟩ := Stand.leaveW (s := s) X218 hS137 (by rw [eh218]; exact Zk184) (v := some (.int (1 : Int32))) (fun h => by rw [Bd.returns] at h; cases h)
  refine ⟨_, _, K225 _ ?_, hrun, hended, _, _, rfl, ?_, hRE.1, hRE.2.1, hRE.2.2.1, hRE.2.2.2.mono (by decide) (by decide)⟩
  · exact retN X218 hx (t := .boolean) Bd.returns (by simp) (hb hby at_122) hr
  · show Q_rm0 Z x0 x1 x2 x3 h0 n0 _ T218.heap _
    have q226 := (by decide : (1 : Int32).toInt = 1)
    rw [eh218]
    exact ⟨rfl, (by trivial), N219, Kp182⟩
set_option maxRecDepth 65536 in
set_option maxHeartbeats 40000000 in
theorem comes_1 {Post : Tables → Env → Array Value → State → Outcome → State → Prop} (hpost : ∀ tb e args s v u, (limb_1_1.after args s (.returned v) u = true ∧ limb_1_2.after args s (.returned v) u = true ∧ True) → ReturnedEndW s (.returned v) u (Jvm.fieldLocs frame_1_writes args s ++ Jvm.arrayLocs frame_1_arrays args s ++ Jvm.staticLocs frame_1_statics s) 16 1152 → Post tb e args s (.returned v) u) :
    ArmFor flags0 classFile x code maxLocals ret World_1 tables_1 room_1 Calls_1 rest_1 Pre_1 Post := by
  intro l hfl _ _ p e ha hc hk s m args below hf hA hF happ hP
  obtain ⟨hcalls, hrest, hpre⟩ := hP
  obtain ⟨-, -, -, hnamed, -, -, -, hat⟩ := (Spec.applies_iff hf).mp happ
  obtain ⟨hg, hn⟩ := and_e (Cond.before_iff.mp (show (Jvm.Cond.and given_1 narrow_1).before args s = true from hpre))
  obtain ⟨gg1, gg2⟩ := and_e hg
  obtain ⟨gg3, gg4⟩ := and_e gg2
  obtain ⟨gg5, gg6⟩ := and_e gg4
  obtain ⟨gg7, gg8⟩ := and_e gg6
  obtain ⟨w0, w1, w2, w3, rfl⟩ : ∃ w0 w1 w2 w3 : Value, args = #[w0, w1, w2, w3] := by
    have hs : args.size = 4 := by simpa [Cond.value, given_1] using gg1
    obtain ⟨L⟩ := args
    match L, hs with
    | [w0, w1, w2, w3], _ => exact ⟨w0, w1, w2, w3, rfl⟩
  have hw := fun d (hd : d ∈ tables_1) => atoms_spec (ws := Jvm.Cond.code x code maxLocals ret :: tables_1) hat d (List.mem_cons_of_mem _ hd)
  obtain ⟨i0, ei0⟩ := isL_v gg3
  obtain rfl : w0 = (.long i0) := Option.some.inj ei0
  obtain ⟨i1, ei1⟩ := is_v gg5
  obtain rfl : w1 = (.int i1) := Option.some.inj ei1
  obtain ⟨i2, ei2⟩ := is_v gg7
  obtain rfl : w2 = (.int i2) := Option.some.inj ei2
  obtain ⟨i3, ei3⟩ := is_v gg8
  obtain rfl : w3 = (.int i3) := Option.some.inj ei3
  obtain ⟨n, o, h1, h2, h3, _, L, rfl, ⟨rfl, -, N, -⟩, hq⟩ := rm0 l s _ hw tables_1 i0 i1 i2 i3 s.heap s.heap.size (Nat.le_refl _) p e ha hc hk s m _ below hf ((Spec.applies_iff_loose hf).mp happ).1 ⟨rfl, State.Warmed39.refl s, rfl⟩ trivial
  refine ⟨n, _, h1, h2, h3, hpost _ _ _ _ _ _ ⟨Cond.after_iff.mpr rfl, Cond.after_iff.mpr (eq_i res_at (Term.int_eval (1)) rfl), trivial⟩ ⟨hq.1, hq.2.1, hq.2.2.1, (hq.2.2.2.sift fun y hy => Or.inr (N y hy)).mono (by decide) (by decide)⟩⟩
theorem main_1_1 : Claimed_1_1 := comes_1 fun _ _ _ _ _ _ h hF => ⟨h.1, hF⟩
theorem main_1_2 : Claimed_1_2 := comes_1 fun _ _ _ _ _ _ h hF => ⟨h.2.1, hF⟩
end Jvm.Pilot.@@N@@
namespace Jvm.Pilot.@@N@@
open Jvm Jvm.ClassFile Sem Op Lib Jvm.Free Jvm.Stand Jvm.Pilot.@@N@@.Jvm.D
/-! MADE BY PROGRAM (witnessworld.py) out of the Statement's table words and the real class files: 16 classes; the members and pool entries that the words name. The judged class is class 1, her method 2. -/
namespace start1
open Jvm.ClassFile
def u (s : String) : CpInfo := .utf8 (stringToUtf16 s)
/-- a pool by its gaps: so many unusable entries, then the entry; so many at the end -/
def gap : Nat → List CpInfo → List CpInfo
  | 0, r => r
  | n + 1, r => .unusable :: gap n r
def poolList (es : List (Nat × CpInfo)) (last : Nat) : List CpInfo := es.foldr (fun e r => gap e.1 (e.2 :: r)) (gap last [])
def pool (es : List (Nat × CpInfo)) (last : Nat) : Array CpInfo := ⟨poolList es last⟩
def fileOf (pool : Array CpInfo) (this : Nat) (attrs : Array Attribute := #[]) (ms : Array MethodInfo := #[]) (fl : Nat := 33) (sup : Nat := 0) (ifs : Array Nat := #[]) (fds : Array FieldInfo := #[]) : ClassFile where
  minorVersion := 0
  majorVersion := 65
  constantPool := pool
  accessFlags := fl
  thisClass := this
  superClass := sup
  interfaces := ifs
  fields := fds
  methods := ms
  attributes := attrs
def plain (name : String) (sup : Option ClassId) : Class where
  name := name
  kind := .ordinary
  loader := none
  accessFlags := 33
  super := sup
  interfaces := #[]
  cf := none
  fields := #[]
  methods := #[]
  instanceTypes := #[]
  staticTypes := #[]
  resolved := #[]
  callSites := []
  init := .initialized
  statics := none
  mirror := none

def pool0 : Array CpInfo := pool [(5, u "<init>"), (0, u "()V"), (1, .class_ 10), (1, u "java/lang/Object")] 113

def k0c0 : Code := { maxStack := 0, maxLocals := 1, code := object_method_1_code, exceptionTable := #[], attributes := #[] }
def k0m0 : Method := { name := "<init>", desc := "()V", sig := { parameters := [], returnType := none }, accessFlags := 1, code := some k0c0 }
/-- java/lang/Object -/
def k0 : Class := { plain "java/lang/Object" none with
  accessFlags := 33
  interfaces := #[]
  cf := some (fileOf pool0 8 #[] #[{ accessFlags := 1, nameIndex := 5, descriptorIndex := 6, attributes := #[] }] 33 0 #[] #[])
  fields := #[]
  methods := #[k0m0]
  instanceTypes := #[]
  staticTypes := #[]
  resolved := Array.replicate 124 none
  statics := none }

def pool1 : Array CpInfo := pool [(2, .class_ 4), (0, .nameAndType 5 6), (0, u "java/lang/Object"), (0, u "<init>"), (0, u "()V"), (2, .long 2147483647), (1, .integer 2147483647), (0, .long 2147483631), (1, .long 31), (1, .long 68719476735), (1, .class_ 19), (0, u "com/example/relay_queue/relayqueue/broker/ByteCounter"), (0, .methodref 18 3), (0, .string 22), (0, u ""), (0, .methodref 18 24), (0, .nameAndType 25 26), (0, u "writeUtf8"), (0, u "(Ljava/lang/String;J)V"), (0, .methodref 18 28), (0, .nameAndType 29 30), (0, u "size"), (0, u "()I"), (0, .methodref 18 32), (0, .nameAndType 33 34), (0, u "writeInt"), (0, u "(I)V"), (0, .methodref 36 37), (0, .class_ 38), (0, .nameAndType 39 40), (0, u "com/example/relay_queue/relayqueue/broker/ByteCounterWriteIntPinLaw"), (0, u "saturated"), (0, u "(J)I"), (0, .long 4), (1, .long 8), (4, u "law"), (0, u "(JIII)Z")] 2

def k1m0 : Method := { name := "<init>", desc := "()V", sig := { parameters := [], returnType := none }, accessFlags := 1, code := none }
def k1c1 : Code := { maxStack := 4, maxLocals := 2, code := method_2_code, exceptionTable := #[], attributes := #[] }
def k1m1 : Method := { name := "saturated", desc := "(J)I", sig := { parameters := [.long], returnType := some .int }, accessFlags := 10, code := some k1c1 }
def k1c2 : Code := { maxStack := 6, maxLocals := 11, code := code, exceptionTable := #[], attributes := #[] }
def k1m2 : Method := { name := "law", desc := "(JIII)Z", sig := { parameters := [.long, .int, .int, .int], returnType := some .boolean }, accessFlags := 9, code := some k1c2 }
/-- com/example/relay_queue/relayqueue/broker/ByteCounterWriteIntPinLaw -/
def k1 : Class := { plain "com/example/relay_queue/relayqueue/broker/ByteCounterWriteIntPinLaw" (some 0) with
  accessFlags := 49
  interfaces := #[]
  cf := some (fileOf pool1 36 #[] #[{ accessFlags := 1, nameIndex := 5, descriptorIndex := 6, attributes := #[] }, { accessFlags := 10, nameIndex := 39, descriptorIndex := 40, attributes := #[] }, { accessFlags := 9, nameIndex := 48, descriptorIndex := 49, attributes := #[] }] 49 2 #[] #[])
  fields := #[]
  methods := #[k1m0, k1m1, k1m2]
  instanceTypes := #[]
  staticTypes := #[]
  resolved := Array.replicate 52 none
  statics := none }

def pool2 : Array CpInfo := pool [(3, .class_ 4), (0, u "com/example/relay_queue/relayqueue/broker/ByteWriter"), (2, u "<init>"), (0, u "(I)V"), (0, .methodref 10 11), (0, .class_ 12), (0, .nameAndType 7 13), (0, u "java/lang/Object"), (0, u "()V"), (0, .fieldref 3 15), (0, .nameAndType 16 17), (0, u "bytes"), (0, u "[B"), (5, u "size"), (0, u "I"), (104, u "DEFAULT_CAPACITY"), (2, u "LARGEST_DOUBLING"), (1, u "UTF8_PIECE_CHARS")] 32

def k2m0 : Method := { name := "<init>", desc := "()V", sig := { parameters := [], returnType := none }, accessFlags := 1, code := none }
def k2c1 : Code := { maxStack := 2, maxLocals := 2, code := prog_9_method_2_code, exceptionTable := #[], attributes := #[] }
def k2m1 : Method := { name := "<init>", desc := "(I)V", sig := { parameters := [.int], returnType := none }, accessFlags := 1, code := some k2c1 }
/-- com/example/relay_queue/relayqueue/broker/ByteWriter -/
def k2 : Class := { plain "com/example/relay_queue/relayqueue/broker/ByteWriter" (some 0) with
  accessFlags := 33
  interfaces := #[]
  cf := some (fileOf pool2 3 #[] #[{ accessFlags := 1, nameIndex := 7, descriptorIndex := 13, attributes := #[] }, { accessFlags := 1, nameIndex := 7, descriptorIndex := 8, attributes := #[] }] 33 10 #[] #[{ accessFlags := 26, nameIndex := 129, descriptorIndex := 24, attributes := #[] }, { accessFlags := 26, nameIndex := 132, descriptorIndex := 24, attributes := #[] }, { accessFlags := 26, nameIndex := 134, descriptorIndex := 24, attributes := #[] }, { accessFlags := 2, nameIndex := 16, descriptorIndex := 17, attributes := #[] }, { accessFlags := 2, nameIndex := 23, descriptorIndex := 24, attributes := #[] }])
  fields := #[{ name := "DEFAULT_CAPACITY", type := .int, accessFlags := 26, slot := 0, constantValue := 0 }, { name := "LARGEST_DOUBLING", type := .int, accessFlags := 26, slot := 1, constantValue := 0 }, { name := "UTF8_PIECE_CHARS", type := .int, accessFlags := 26, slot := 2, constantValue := 0 }, { name := "bytes", type := (.array .byte), accessFlags := 2, slot := 0, constantValue := 0 }, { name := "size", type := .int, accessFlags := 2, slot := 1, constantValue := 0 }]
  methods := #[k2m0, k2m1]
  instanceTypes := #[(.array .byte), .int]
  staticTypes := #[.int, .int, .int]
  resolved := Array.replicate 167 none
  statics := none }

def pool3 : Array CpInfo := pool [(1, .methodref 2 3), (0, .class_ 4), (0, .nameAndType 5 6), (0, u "com/example/relay_queue/relayqueue/broker/ByteWriter"), (0, u "<init>"), (0, u "(I)V"), (0, .fieldref 8 9), (0, .class_ 10), (0, .nameAndType 11 12), (0, u "com/example/relay_queue/relayqueue/broker/ByteCounter"), (0, u "count"), (0, u "J"), (8, .long 4), (1, .long 2147483647), (1, .methodref 26 27), (0, .class_ 28), (0, .nameAndType 29 30), (0, u "java/lang/Math"), (0, u "min"), (0, u "(JJ)J"), (11, u "()V"), (4, u "writeInt"), (2, u "writeUtf8"), (0, u "(Ljava/lang/String;J)V"), (0, u "size"), (0, u "()I")] 3

def k3c0 : Code := { maxStack := 2, maxLocals := 1, code := prog_6_method_1_code, exceptionTable := #[], attributes := #[] }
def k3m0 : Method := { name := "<init>", desc := "()V", sig := { parameters := [], returnType := none }, accessFlags := 1, code := some k3c0 }
def k3c1 : Code := { maxStack := 5, maxLocals := 2, code := prog_6_method_4_code, exceptionTable := #[], attributes := #[] }
def k3m1 : Method := { name := "writeInt", desc := "(I)V", sig := { parameters := [.int], returnType := none }, accessFlags := 1, code := some k3c1 }
def k3c2 : Code := { maxStack := 5, maxLocals := 4, code := prog_6_method_6_code, exceptionTable := #[], attributes := #[] }
def k3m2 : Method := { name := "writeUtf8", desc := "(Ljava/lang/String;J)V", sig := { parameters := [(.object "java/lang/String"), .long], returnType := none }, accessFlags := 1, code := some k3c2 }
def k3c3 : Code := { maxStack := 4, maxLocals := 1, code := prog_6_method_7_code, exceptionTable := #[], attributes := #[] }
def k3m3 : Method := { name := "size", desc := "()I", sig := { parameters := [], returnType := some .int }, accessFlags := 1, code := some k3c3 }
/-- com/example/relay_queue/relayqueue/broker/ByteCounter -/
def k3 : Class := { plain "com/example/relay_queue/relayqueue/broker/ByteCounter" (some 2) with
  accessFlags := 33
  interfaces := #[]
  cf := some (fileOf pool3 8 #[] #[{ accessFlags := 1, nameIndex := 5, descriptorIndex := 42, attributes := #[] }, { accessFlags := 1, nameIndex := 47, descriptorIndex := 6, attributes := #[] }, { accessFlags := 1, nameIndex := 50, descriptorIndex := 51, attributes := #[] }, { accessFlags := 1, nameIndex := 52, descriptorIndex := 53, attributes := #[] }] 33 2 #[] #[{ accessFlags := 2, nameIndex := 11, descriptorIndex := 12, attributes := #[] }])
  fields := #[{ name := "count", type := .long, accessFlags := 2, slot := 2, constantValue := 0 }]
  methods := #[k3m0, k3m1, k3m2, k3m3]
  instanceTypes := #[(.array .byte), .int, .long]
  staticTypes := #[]
  resolved := Array.replicate 57 none
  statics := none }

def pool4 : Array CpInfo := pool [(1, .class_ 2), (0, u "java/io/Serializable"), (0, .class_ 4), (0, u "java/lang/Object")] 2

/-- java/io/Serializable -/
def k4 : Class := { plain "java/io/Serializable" (some 0) with
  accessFlags := 1537
  interfaces := #[]
  cf := some (fileOf pool4 1 #[] #[] 1537 3 #[] #[])
  fields := #[]
  methods := #[]
  instanceTypes := #[]
  staticTypes := #[]
  resolved := Array.replicate 7 none
  statics := none }

def pool5 : Array CpInfo := pool [(1, .class_ 2), (0, u "java/lang/Comparable"), (0, .class_ 4), (0, u "java/lang/Object")] 7

/-- java/lang/Comparable -/
def k5 : Class := { plain "java/lang/Comparable" (some 0) with
  accessFlags := 1537
  interfaces := #[]
  cf := some (fileOf pool5 1 #[] #[] 1537 3 #[] #[])
  fields := #[]
  methods := #[]
  instanceTypes := #[]
  staticTypes := #[]
  resolved := Array.replicate 12 none
  statics := none }

def pool6 : Array CpInfo := pool [(2, .class_ 4), (1, u "java/lang/CharSequence"), (42, .class_ 48), (0, u "java/lang/CharSequence$1CodePointIterator"), (10, .class_ 60), (0, u "java/lang/CharSequence$1CharIterator"), (5, .class_ 67), (0, u "java/lang/Object")] 63

/-- java/lang/CharSequence -/
def k6 : Class := { plain "java/lang/CharSequence" (some 0) with
  accessFlags := 1537
  interfaces := #[]
  cf := some (fileOf pool6 2 #[.nestMembers #[47, 59]] #[] 1537 66 #[] #[])
  fields := #[]
  methods := #[]
  instanceTypes := #[]
  staticTypes := #[]
  resolved := Array.replicate 131 none
  statics := none }

def pool7 : Array CpInfo := pool [(1, .class_ 2), (0, u "java/lang/constant/Constable"), (0, .class_ 4), (0, u "java/lang/Object")] 6

/-- java/lang/constant/Constable -/
def k7 : Class := { plain "java/lang/constant/Constable" (some 0) with
  accessFlags := 1537
  interfaces := #[]
  cf := some (fileOf pool7 1 #[] #[] 1537 3 #[] #[])
  fields := #[]
  methods := #[]
  instanceTypes := #[]
  staticTypes := #[]
  resolved := Array.replicate 11 none
  statics := none }

def pool8 : Array CpInfo := pool [(1, .class_ 2), (0, u "java/lang/constant/ConstantDesc"), (0, .class_ 4), (0, u "java/lang/Object")] 32

/-- java/lang/constant/ConstantDesc -/
def k8 : Class := { plain "java/lang/constant/ConstantDesc" (some 0) with
  accessFlags := 1537
  interfaces := #[]
  cf := some (fileOf pool8 1 #[] #[] 1537 3 #[] #[])
  fields := #[]
  methods := #[]
  instanceTypes := #[]
  staticTypes := #[]
  resolved := Array.replicate 37 none
  statics := none }

def pool9 : Array CpInfo := pool [(2, .class_ 4), (1, u "java/lang/Object"), (0, u "<init>"), (0, u "()V"), (3, .class_ 12), (1, u "java/lang/String"), (0, u "value"), (0, u "[B"), (2, u "coder"), (0, u "B"), (2, u "hash"), (0, u "I"), (2, u "hashIsZero"), (0, u "Z"), (13, u "COMPACT_STRINGS"), (534, .class_ 576), (0, u "java/lang/CharSequence"), (22, u "CASE_INSENSITIVE_ORDER"), (0, u "Ljava/util/Comparator;"), (500, u "serialPersistentFields"), (0, u "[Ljava/io/ObjectStreamField;"), (0, .class_ 1104), (0, u "java/lang/String$CaseInsensitiveComparator"), (1, .class_ 1107), (0, u "java/io/Serializable"), (0, .class_ 1109), (0, u "java/lang/Comparable"), (0, .class_ 1111), (0, u "java/lang/constant/Constable"), (0, .class_ 1113), (0, u "java/lang/constant/ConstantDesc"), (2, u "serialVersionUID"), (0, u "J"), (3, u "REPL"), (0, u "C"), (2, u "LATIN1"), (1, u "UTF16")] 323

def k9m0 : Method := { name := "<init>", desc := "()V", sig := { parameters := [], returnType := none }, accessFlags := 1, code := none }
/-- java/lang/String -/
def k9 : Class := { plain "java/lang/String" (some 0) with
  accessFlags := 49
  interfaces := #[4, 5, 6, 7, 8]
  cf := some (fileOf pool9 10 #[.nestMembers #[1103]] #[{ accessFlags := 1, nameIndex := 5, descriptorIndex := 6, attributes := #[] }] 49 2 #[1106, 1108, 575, 1110, 1112] #[{ accessFlags := 18, nameIndex := 13, descriptorIndex := 14, attributes := #[] }, { accessFlags := 18, nameIndex := 17, descriptorIndex := 18, attributes := #[] }, { accessFlags := 2, nameIndex := 21, descriptorIndex := 22, attributes := #[] }, { accessFlags := 2, nameIndex := 25, descriptorIndex := 26, attributes := #[] }, { accessFlags := 26, nameIndex := 1116, descriptorIndex := 1117, attributes := #[] }, { accessFlags := 24, nameIndex := 40, descriptorIndex := 26, attributes := #[] }, { accessFlags := 26, nameIndex := 1101, descriptorIndex := 1102, attributes := #[] }, { accessFlags := 26, nameIndex := 1121, descriptorIndex := 1122, attributes := #[] }, { accessFlags := 25, nameIndex := 599, descriptorIndex := 600, attributes := #[] }, { accessFlags := 24, nameIndex := 1125, descriptorIndex := 18, attributes := #[] }, { accessFlags := 24, nameIndex := 1127, descriptorIndex := 18, attributes := #[] }])
  fields := #[{ name := "value", type := (.array .byte), accessFlags := 18, slot := 0, constantValue := 0 }, { name := "coder", type := .byte, accessFlags := 18, slot := 1, constantValue := 0 }, { name := "hash", type := .int, accessFlags := 2, slot := 2, constantValue := 0 }, { name := "hashIsZero", type := .boolean, accessFlags := 2, slot := 3, constantValue := 0 }, { name := "serialVersionUID", type := .long, accessFlags := 26, slot := 0, constantValue := 0 }, { name := "COMPACT_STRINGS", type := .boolean, accessFlags := 24, slot := 1, constantValue := 0 }, { name := "serialPersistentFields", type := (.array (.object "java/io/ObjectStreamField")), accessFlags := 26, slot := 2, constantValue := 0 }, { name := "REPL", type := .char, accessFlags := 26, slot := 3, constantValue := 0 }, { name := "CASE_INSENSITIVE_ORDER", type := (.object "java/util/Comparator"), accessFlags := 25, slot := 4, constantValue := 0 }, { name := "LATIN1", type := .byte, accessFlags := 24, slot := 5, constantValue := 0 }, { name := "UTF16", type := .byte, accessFlags := 24, slot := 6, constantValue := 0 }]
  methods := #[k9m0]
  instanceTypes := #[(.array .byte), .byte, .int, .boolean]
  staticTypes := #[.long, .boolean, (.array (.object "java/io/ObjectStreamField")), .char, (.object "java/util/Comparator"), .byte, .byte]
  resolved := Array.replicate 1451 none
  statics := none }

def pool10 : Array CpInfo := pool [(1, .class_ 2), (0, u "java/lang/Math"), (1, .class_ 6), (1, u "java/lang/Object"), (0, u "<init>"), (0, u "()V"), (89, .class_ 100), (1, u "java/lang/Math$RandomNumberGeneratorHolder"), (20, u "(JJ)J"), (50, u "negativeZeroFloatBits"), (0, u "J"), (2, u "negativeZeroDoubleBits"), (24, u "min"), (43, u "$assertionsDisabled"), (0, u "Z"), (91, u "twoToTheDoubleScaleDown"), (0, u "D"), (4, u "twoToTheDoubleScaleUp"), (9, u "E"), (3, u "PI"), (2, u "TAU"), (2, u "DEGREES_TO_RADIANS"), (0, u "RADIANS_TO_DEGREES")] 94

def k10m0 : Method := { name := "<init>", desc := "()V", sig := { parameters := [], returnType := none }, accessFlags := 2, code := none }
def k10c1 : Code := { maxStack := 4, maxLocals := 4, code := jdk_29_method_70_code, exceptionTable := #[], attributes := #[] }
def k10m1 : Method := { name := "min", desc := "(JJ)J", sig := { parameters := [.long, .long], returnType := some .long }, accessFlags := 9, code := some k10c1 }
/-- java/lang/Math -/
def k10 : Class := { plain "java/lang/Math" (some 0) with
  accessFlags := 49
  interfaces := #[]
  cf := some (fileOf pool10 1 #[.nestMembers #[98]] #[{ accessFlags := 2, nameIndex := 7, descriptorIndex := 8, attributes := #[] }, { accessFlags := 9, nameIndex := 201, descriptorIndex := 121, attributes := #[] }] 49 4 #[] #[{ accessFlags := 25, nameIndex := 354, descriptorIndex := 339, attributes := #[] }, { accessFlags := 25, nameIndex := 358, descriptorIndex := 339, attributes := #[] }, { accessFlags := 25, nameIndex := 361, descriptorIndex := 339, attributes := #[] }, { accessFlags := 26, nameIndex := 364, descriptorIndex := 339, attributes := #[] }, { accessFlags := 26, nameIndex := 365, descriptorIndex := 339, attributes := #[] }, { accessFlags := 26, nameIndex := 172, descriptorIndex := 173, attributes := #[] }, { accessFlags := 26, nameIndex := 176, descriptorIndex := 173, attributes := #[] }, { accessFlags := 8, nameIndex := 344, descriptorIndex := 339, attributes := #[] }, { accessFlags := 8, nameIndex := 338, descriptorIndex := 339, attributes := #[] }, { accessFlags := 4120, nameIndex := 245, descriptorIndex := 246, attributes := #[] }])
  fields := #[{ name := "E", type := .double, accessFlags := 25, slot := 0, constantValue := 0 }, { name := "PI", type := .double, accessFlags := 25, slot := 1, constantValue := 0 }, { name := "TAU", type := .double, accessFlags := 25, slot := 2, constantValue := 0 }, { name := "DEGREES_TO_RADIANS", type := .double, accessFlags := 26, slot := 3, constantValue := 0 }, { name := "RADIANS_TO_DEGREES", type := .double, accessFlags := 26, slot := 4, constantValue := 0 }, { name := "negativeZeroFloatBits", type := .long, accessFlags := 26, slot := 5, constantValue := 0 }, { name := "negativeZeroDoubleBits", type := .long, accessFlags := 26, slot := 6, constantValue := 0 }, { name := "twoToTheDoubleScaleUp", type := .double, accessFlags := 8, slot := 7, constantValue := 0 }, { name := "twoToTheDoubleScaleDown", type := .double, accessFlags := 8, slot := 8, constantValue := 0 }, { name := "$assertionsDisabled", type := .boolean, accessFlags := 4120, slot := 9, constantValue := 0 }]
  methods := #[k10m0, k10m1]
  instanceTypes := #[]
  staticTypes := #[.double, .double, .double, .double, .double, .long, .long, .double, .double, .boolean]
  resolved := Array.replicate 460 none
  statics := none }

def pool11 : Array CpInfo := pool [(1, u "java/lang/Cloneable"), (0, .class_ 1), (0, u "java/lang/Object"), (0, .class_ 3)] 3

/-- java/lang/Cloneable -/
def k11 : Class := { plain "java/lang/Cloneable" (some 0) with
  accessFlags := 1537
  interfaces := #[]
  cf := some (fileOf pool11 2 #[] #[] 1537 4 #[] #[])
  fields := #[]
  methods := #[]
  instanceTypes := #[]
  staticTypes := #[]
  resolved := Array.replicate 8 none
  statics := none }

/-- the primitive byte -/
def k12 : Class := { plain "byte" none with kind := .primitive 'B', accessFlags := 0x411 }
/-- [B -/
def k13 : Class := { plain "[B" (some 0) with kind := .array 12 .byte, interfaces := #[11, 4], accessFlags := 1041 }

/-- the primitive int -/
def k14 : Class := { plain "int" none with kind := .primitive 'I', accessFlags := 0x411 }
/-- [I -/
def k15 : Class := { plain "[I" (some 0) with kind := .array 14 .int, interfaces := #[11, 4], accessFlags := 1041 }

def heap : Heap := #[]
def classes : Array Class := #[k0, k1, k2, k3, k4, k5, k6, k7, k8, k9, k10, k11, k12, k13, k14, k15]
def interned : List (Array UInt16 × Addr) := []
def slotsUsed : Nat := 0
def theMethod : MethodId := ⟨1, 2⟩
def args0 : Array Value := #[.long 5, .int 7, .int 9, .int 3]
def aboutOver (below : List Frame) : State where
  vm := { classes := classes, interned := interned.toArray }
  heap := heap
  slotsUsed := slotsUsed
  threads := #[{ frames := .invoking theMethod args0 :: below }]
def below0 : List Frame := [.native { method := ⟨0, 0⟩, args := #[] }]
def about1 : State := aboutOver below0
def p0 : Program := .bare "" "" ""
def e0 : Env := launch0.env 0 0 0
theorem w_frames : about1.frames = Frame.invoking theMethod args0 :: below0 := rfl
set_option maxRecDepth 65536 in
theorem w_args : argsFit about1.vm theMethod args0 = true := by decide +kernel
set_option maxRecDepth 65536 in
theorem w_heap : heapFits about1 = true := by decide +kernel
set_option maxRecDepth 65536 in
theorem w_runnable : about1.curStatus? = some .runnable := by decide +kernel
set_option maxRecDepth 65536 in
theorem w_alone : about1.alone = true := by decide +kernel
set_option maxRecDepth 65536 in
theorem w_named : about1.methodNamed? x = some theMethod := by decide +kernel
set_option maxRecDepth 65536 in
theorem w_hears : about1.hears theMethod below0 = true := by decide +kernel
set_option maxRecDepth 65536 in
theorem w_ripe : about1.ripe theMethod args0 below0 = true := by decide +kernel
theorem w_running : about1.status = .running := rfl
set_option maxRecDepth 65536 in
theorem w_room : about1.hasRoom e0.platform room_1 = true :=
  launch0.hasRoom_least _ room_1 (by decide +kernel) (by decide +kernel) (by decide +kernel) (by decide +kernel) (by decide +kernel) (by decide +kernel)
theorem allAtoms_all (ts : List Jvm.Cond) (a : Array Jvm.Value) (st : Jvm.State) : (allAtoms ts).before a st = ts.all (fun c => c.before a st) := by
  induction ts with
  | nil => rfl
  | cons c t ih =>
    show (Jvm.Cond.and c (allAtoms t)).before a st = _
    rw [Jvm.Cond.before_and, ih, List.all_cons]
def words1 : List Jvm.Cond := Jvm.Cond.code x code maxLocals ret :: tables_1
/-- a 'code' word, met by the world's own term for the bytes: nothing is compared byte by byte -/
theorem code_word {y : MethodName} {bytes : ByteArray} {mx : Nat} {rt : Option FieldType} {a : Array Value} {s : State} {m : MethodId} {meth : Method} {c : Code} (h1 : s.methodNamed? y = some m) (h2 : s.vm.method? m = some meth) (h3 : meth.code = some c) (h4 : c.code = bytes)
    (h5 : (c.maxLocals == mx && c.exceptionTable.isEmpty && decide (c.maxStack ≤ mostOperands) && decide (meth.sig.returnType = rt) && !meth.locks && decide (parseMethodDescriptor y.desc = some meth.sig)) = true) : (Jvm.Cond.code y bytes mx rt).before a s = true := by
  simp only [Bool.and_eq_true, beq_iff_eq, Bool.not_eq_true', decide_eq_true_eq] at h5
  obtain ⟨⟨⟨⟨⟨g1, g2⟩, g3⟩, g4⟩, g5⟩, g6⟩ := h5
  simp [Cond.before, Cond.holds, Cond.value, h1, h2, h3, h4, g1, g2, g3, g4, g5, g6]
def isCode : Jvm.Cond → Bool
  | .code _ _ _ _ => true
  | _ => false
theorem all_split {L : List Jvm.Cond} {P : Jvm.Cond → Bool} (h1 : L.all (fun c => isCode c || P c) = true) (h2 : ∀ c ∈ L.filter isCode, P c = true) : L.all P = true := by
  refine List.all_eq_true.mpr fun c hc => ?_
  have h := List.all_eq_true.mp h1 c hc
  rcases Bool.eq_false_or_eq_true (isCode c) with hi | hi
  · exact h2 c (List.mem_filter.mpr ⟨hc, hi⟩)
  · simpa [hi] using h
set_option maxRecDepth 65536 in
theorem w_c0 : (Jvm.Cond.code x code maxLocals ret).before args0 about1 = true := code_word (m := ⟨1, 2⟩) (meth := k1m2) (c := k1c2) (by decide +kernel) rfl rfl rfl (by decide +kernel)
set_option maxRecDepth 65536 in
theorem w_c1 : (Jvm.Cond.code ({ cls := "com/example/relay_queue/relayqueue/broker/ByteCounter", name := "<init>", desc := "()V" } : Jvm.MethodName) prog_6_method_1_code (1 : Nat) (Option.none : Option Jvm.ClassFile.FieldType)).before args0 about1 = true := code_word (m := ⟨3, 0⟩) (meth := k3m0) (c := k3c0) (by decide +kernel) rfl rfl rfl (by decide +kernel)
set_option maxRecDepth 65536 in
theorem w_c2 : (Jvm.Cond.code ({ cls := "com/example/relay_queue/relayqueue/broker/ByteWriter", name := "<init>", desc := "(I)V" } : Jvm.MethodName) prog_9_method_2_code (2 : Nat) (Option.none : Option Jvm.ClassFile.FieldType)).before args0 about1 = true := code_word (m := ⟨2, 1⟩) (meth := k2m1) (c := k2c1) (by decide +kernel) rfl rfl rfl (by decide +kernel)
set_option maxRecDepth 65536 in
theorem w_c3 : (Jvm.Cond.code ({ cls := "java/lang/Object", name := "<init>", desc := "()V" } : Jvm.MethodName) object_method_1_code (1 : Nat) (Option.none : Option Jvm.ClassFile.FieldType)).before args0 about1 = true := code_word (m := ⟨0, 0⟩) (meth := k0m0) (c := k0c0) (by decide +kernel) rfl rfl rfl (by decide +kernel)
set_option maxRecDepth 65536 in
theorem w_c4 : (Jvm.Cond.code ({ cls := "com/example/relay_queue/relayqueue/broker/ByteCounter", name := "writeUtf8", desc := "(Ljava/lang/String;J)V" } : Jvm.MethodName) prog_6_method_6_code (4 : Nat) (Option.none : Option Jvm.ClassFile.FieldType)).before args0 about1 = true := code_word (m := ⟨3, 2⟩) (meth := k3m2) (c := k3c2) (by decide +kernel) rfl rfl rfl (by decide +kernel)
set_option maxRecDepth 65536 in
theorem w_c5 : (Jvm.Cond.code ({ cls := "com/example/relay_queue/relayqueue/broker/ByteCounter", name := "size", desc := "()I" } : Jvm.MethodName) prog_6_method_7_code (1 : Nat) (Option.some Jvm.ClassFile.FieldType.int)).before args0 about1 = true := code_word (m := ⟨3, 3⟩) (meth := k3m3) (c := k3c3) (by decide +kernel) rfl rfl rfl (by decide +kernel)
set_option maxRecDepth 65536 in
theorem w_c6 : (Jvm.Cond.code ({ cls := "java/lang/Math", name := "min", desc := "(JJ)J" } : Jvm.MethodName) jdk_29_method_70_code (4 : Nat) (Option.some Jvm.ClassFile.FieldType.long)).before args0 about1 = true := code_word (m := ⟨10, 1⟩) (meth := k10m1) (c := k10c1) (by decide +kernel) rfl rfl rfl (by decide +kernel)
set_option maxRecDepth 65536 in
theorem w_c7 : (Jvm.Cond.code ({ cls := "com/example/relay_queue/relayqueue/broker/ByteCounter", name := "writeInt", desc := "(I)V" } : Jvm.MethodName) prog_6_method_4_code (2 : Nat) (Option.none : Option Jvm.ClassFile.FieldType)).before args0 about1 = true := code_word (m := ⟨3, 1⟩) (meth := k3m1) (c := k3c1) (by decide +kernel) rfl rfl rfl (by decide +kernel)
set_option maxRecDepth 65536 in
theorem w_c8 : (Jvm.Cond.code ({ cls := "com/example/relay_queue/relayqueue/broker/ByteCounterWriteIntPinLaw", name := "saturated", desc := "(J)I" } : Jvm.MethodName) method_2_code (2 : Nat) (Option.some Jvm.ClassFile.FieldType.int)).before args0 about1 = true := code_word (m := ⟨1, 1⟩) (meth := k1m1) (c := k1c1) (by decide +kernel) rfl rfl rfl (by decide +kernel)
def codes1 : List Jvm.Cond := [Jvm.Cond.code x code maxLocals ret, Jvm.Cond.code ({ cls := "com/example/relay_queue/relayqueue/broker/ByteCounter", name := "<init>", desc := "()V" } : Jvm.MethodName) prog_6_method_1_code (1 : Nat) (Option.none : Option Jvm.ClassFile.FieldType), Jvm.Cond.code ({ cls := "com/example/relay_queue/relayqueue/broker/ByteWriter", name := "<init>", desc := "(I)V" } : Jvm.MethodName) prog_9_method_2_code (2 : Nat) (Option.none : Option Jvm.ClassFile.FieldType), Jvm.Cond.code ({ cls := "java/lang/Object", name := "<init>", desc := "()V" } : Jvm.MethodName) object_method_1_code (1 : Nat) (Option.none : Option Jvm.ClassFile.FieldType), Jvm.Cond.code ({ cls := "com/example/relay_queue/relayqueue/broker/ByteCounter", name := "writeUtf8", desc := "(Ljava/lang/String;J)V" } : Jvm.MethodName) prog_6_method_6_code (4 : Nat) (Option.none : Option Jvm.ClassFile.FieldType), Jvm.Cond.code ({ cls := "com/example/relay_queue/relayqueue/broker/ByteCounter", name := "size", desc := "()I" } : Jvm.MethodName) prog_6_method_7_code (1 : Nat) (Option.some Jvm.ClassFile.FieldType.int), Jvm.Cond.code ({ cls := "java/lang/Math", name := "min", desc := "(JJ)J" } : Jvm.MethodName) jdk_29_method_70_code (4 : Nat) (Option.some Jvm.ClassFile.FieldType.long), Jvm.Cond.code ({ cls := "com/example/relay_queue/relayqueue/broker/ByteCounter", name := "writeInt", desc := "(I)V" } : Jvm.MethodName) prog_6_method_4_code (2 : Nat) (Option.none : Option Jvm.ClassFile.FieldType), Jvm.Cond.code ({ cls := "com/example/relay_queue/relayqueue/broker/ByteCounterWriteIntPinLaw", name := "saturated", desc := "(J)I" } : Jvm.MethodName) method_2_code (2 : Nat) (Option.some Jvm.ClassFile.FieldType.int)]
set_option maxRecDepth 65536 in
theorem codes_eq : words1.filter isCode = codes1 := rfl
theorem w_codes : ∀ c ∈ words1.filter isCode, c.before args0 about1 = true := by
  rw [codes_eq]
  intro c hc
  simp only [codes1, List.mem_cons, List.not_mem_nil, or_false] at hc
  rcases hc with rfl | rfl | rfl | rfl | rfl | rfl | rfl | rfl | rfl
  · exact w_c0
  · exact w_c1
  · exact w_c2
  · exact w_c3
  · exact w_c4
  · exact w_c5
  · exact w_c6
  · exact w_c7
  · exact w_c8
set_option maxRecDepth 65536 in
theorem w_t1 : (words1.take 24).all (fun c => isCode c || c.before args0 about1) = true := by decide +kernel
set_option maxRecDepth 65536 in
theorem w_t2 : ((words1.drop 24).take 24).all (fun c => isCode c || c.before args0 about1) = true := by decide +kernel
set_option maxRecDepth 65536 in
theorem w_t3 : ((words1.drop 24).drop 24).all (fun c => isCode c || c.before args0 about1) = true := by decide +kernel
theorem w_tables : (allAtoms (Jvm.Cond.code x code maxLocals ret :: tables_1)).before args0 about1 = true := by
  rw [allAtoms_all]
  show words1.all (fun c => c.before args0 about1) = true
  refine all_split ?_ w_codes
  rw [← List.take_append_drop 24 words1, List.all_append, w_t1, ← List.take_append_drop 24 (words1.drop 24), List.all_append, w_t2, w_t3]
  rfl
set_option maxRecDepth 65536 in
theorem w_case : (Jvm.Cond.and given_1 narrow_1).before args0 about1 = true := by decide +kernel
theorem w_applies : (headSpec (Jvm.Cond.code x code maxLocals ret :: tables_1) room_1).applies x e0.platform about1 = true :=
  (Spec.applies_iff w_frames).mpr ⟨w_running, w_runnable, w_alone, w_named, w_hears, w_ripe, w_room, w_tables⟩
theorem atStart : AtStart classFile x code maxLocals ret World_1 tables_1 room_1 Calls_1 rest_1 Pre_1 launch0 p0 e0 about1 theMethod args0 below0 :=
  ⟨lists_1, trivial, launch0.admits_env _ _ _, launch0.least_env, fairChoices_fair.cas, fairChoices_fair.clock, w_frames, w_args, w_heap, w_applies, trivial, trivial, w_case⟩
end start1
theorem witness_1 : WitnessClaimed_1 := ⟨start1.p0, start1.e0, start1.about1, start1.theMethod, start1.args0, start1.below0, start1.atStart⟩
end Jvm.Pilot.@@N@@
