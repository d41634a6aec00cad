import JvmDerived
import JvmDerived.Pilot.@@N@@Statement
import JvmDerived.Pilot.@@N@@Code
set_option linter.unusedVariables false
set_option linter.unusedSimpArgs false
namespace Jvm.RoadKit
open Sem ClassFile Op Lib Jvm.Stand Jvm.Free Jvm.LawKit
section New
variable {p : Program} {l : Launch} {e : Env} {R : Room} {s : State} {m : MethodId} {args : Array Value} {below : List Frame} {meth : Method} {c : Code} {T : State} {locs : List Loc} {cells slots : Nat}
theorem retI (X : Stand p l e R s m args below meth c T locs cells slots) (hx : p.tables.exec = Jvm.exec) {pc : Nat} {Ls : Array Slot} {z : Int32} {rest : List Value} (hret : meth.sig.returnType = some .int) (hd : decode c.code pc = .ok (.ireturn, 1)) {fs : List Frame}
    (hl : ∀ (f : JFrame) (acts : List Action), f.method = m → f.locked = none → f.entered = [] → (doReturn e (T.setTop f) acts (some (.int z))).1 = T.setFrames fs) : Steps p.tables e below (T.setTop (mkF m pc Ls (.int z :: rest))) (T.setFrames fs) := by
  have hm' : T.vm.method? m = some meth := X.method'
  have hn : narrow .int (.int z) = .int z := rfl
  show Steps p.tables e below (T.setTop { method := m, pc := pc, locals := Ls, stack := _ :: rest, locked := none }) _
  jvm_step X.here [X.here.top, hx, hd, hm', hret, hn]
  first | (intro acts; rw [hl _ acts rfl rfl rfl]) | rw [hl _ _ rfl rfl rfl]
  exact Steps.refl _
end New
end Jvm.RoadKit
namespace Jvm.Pilot.@@N@@
open Jvm Jvm.ClassFile Sem Op Lib Jvm.Free Jvm.Stand Jvm.LawKit Jvm.RoadKit Bundle Jvm.Pilot.@@N@@.Jvm.D
/-- an array of ints (bytes) of which the length is known -/
def own_Arl (Z : State) (h : Heap) (a : Addr) (ty : FieldType) (z : Int32) : Prop := ∃ c : Cell, Arr Z h a c ty ∧ c.slots.size = z.toNatClampNeg ∧ ¬ z < 0
/-- an array of ints (bytes) that holds f -/
def own_Arf (Z : State) (h : Heap) (a : Addr) (ty : FieldType) (z : Int32) (f : Nat → Int32) : Prop := ∃ c : Cell, Arr Z h a c ty ∧ c.slots.size = z.toNatClampNeg ∧ ¬ z < 0 ∧ ∀ i, i < z.toNatClampNeg → c.slots[i]? = some (.int (f i))
section Arrs
variable {Z : State} {h h' : Heap} {a b : Addr} {ty : FieldType} {z j x : Int32} {f g : Nat → Int32} {sl : Nat} {v : Value} {ws : List Addr} {k : ClassId} {vs : List Value} {dv : Value} {c : Cell}
theorem own_Arl.lt (F : own_Arl Z h a ty z) : a < h.size := by obtain ⟨c, A, -⟩ := F; exact A.lt
theorem own_Arl.ext (F : own_Arl Z h a ty z) (E : Ext h h') : own_Arl Z h' a ty z := by obtain ⟨c, A, r⟩ := F; exact ⟨c, A.ext E, r⟩
theorem own_Arl.other (F : own_Arl Z h b ty z) (W : Wr h h' a sl v) (q : b ≠ a) : own_Arl Z h' b ty z := by obtain ⟨c, A, r⟩ := F; exact ⟨c, A.other W q, r⟩
theorem own_Arl.keep (F : own_Arl Z h a ty z) (K : Keep h h' ws) (q : a ∉ ws) : own_Arl Z h' a ty z := by obtain ⟨c, A, r⟩ := F; exact ⟨c, ⟨K.2.1 a c A.1 q, A.2⟩, r⟩
theorem own_Arl.new (A : Arr Z h a (newA k ty z) ty) (q : ¬ z < 0) : own_Arl Z h a ty z := ⟨_, A, sz_new _ _ _, q⟩
theorem own_Arl.same (A : Arr Z h a c ty) (S : c.slots.size = z.toNatClampNeg) (q : ¬ z < 0) (W : Wr h h' a sl v) : own_Arl Z h' a ty z := ⟨_, A.same W, (sz_set _ _ _).trans S, q⟩
theorem own_Arl.ofV (F : Arv Z h a k ty z vs dv) : own_Arl Z h a ty z := by obtain ⟨c, A, -, S, N, -⟩ := F; exact ⟨c, A, S, N⟩
theorem own_Arl.ofA (F : own_Arf Z h a ty z f) : own_Arl Z h a ty z := by obtain ⟨c, A, S, N, -⟩ := F; exact ⟨c, A, S, N⟩
theorem own_Arf.lt (F : own_Arf Z h a ty z f) : a < h.size := by obtain ⟨c, A, -⟩ := F; exact A.lt
theorem own_Arf.ext (F : own_Arf Z h a ty z f) (E : Ext h h') : own_Arf Z h' a ty z f := by obtain ⟨c, A, r⟩ := F; exact ⟨c, A.ext E, r⟩
theorem own_Arf.other (F : own_Arf Z h b ty z f) (W : Wr h h' a sl v) (q : b ≠ a) : own_Arf Z h' b ty z f := by obtain ⟨c, A, r⟩ := F; exact ⟨c, A.other W q, r⟩
theorem own_Arf.keep (F : own_Arf Z h a ty z f) (K : Keep h h' ws) (q : a ∉ ws) : own_Arf Z h' a ty z f := by obtain ⟨c, A, r⟩ := F; exact ⟨c, ⟨K.2.1 a c A.1 q, A.2⟩, r⟩
theorem own_Arf.new (A : Arr Z h a (newA k ty z) ty) (q : ¬ z < 0) (hd : defaultValue ty = .int 0) : own_Arf Z h a ty z (fun _ => 0) := ⟨_, A, sz_new _ _ _, q, fun i hi => by simp [newA, hi, hd]⟩
theorem own_Arf.set (A : Arr Z h a c ty) (S : c.slots.size = z.toNatClampNeg) (q : ¬ z < 0) (H : ∀ i, i < z.toNatClampNeg → c.slots[i]? = some (.int (f i))) (W : Wr h h' a sl (.int x)) (e : sl = j.toNatClampNeg) (hg : g = fun i => if i = j.toNatClampNeg then x else f i) : own_Arf Z h' a ty z g := by
  subst e hg
  refine ⟨_, A.same W, (sz_set _ _ _).trans S, q, fun i hi => ?_⟩
  by_cases hij : i = j.toNatClampNeg
  · subst hij
    have hs : j.toNatClampNeg < c.slots.size := by rw [S]; exact hi
    simp [Cell.setSlot, hs]
  · rw [show (c.setSlot j.toNatClampNeg (.int x)).slots[i]? = c.slots[i]? from Array.getElem?_setIfInBounds_ne (Ne.symm hij), H i hi]
    simp [hij]
theorem own_Arf.ofV (F : Arv Z h a k ty z vs dv) (e : ∀ i, i < z.toNatClampNeg → vs.getD i dv = .int (f i)) : own_Arf Z h a ty z f := by
  obtain ⟨c, A, -, S, N, H, -⟩ := F
  exact ⟨c, A, S, N, fun i hi => by rw [H i (by rw [S]; exact hi), e i hi]⟩
theorem own_Arf.congr (F : own_Arf Z h a ty z f) (e : ∀ i, i < z.toNatClampNeg → f i = g i) : own_Arf Z h a ty z g := by obtain ⟨c, A, S, N, H⟩ := F; exact ⟨c, A, S, N, fun i hi => by rw [← e i hi]; exact H i hi⟩
theorem own_sta_keep {C n d : String} (F : Sta Z h C n d v) (K : Keep h h' []) : Sta Z h' C n d v := by
  obtain ⟨cf, i, k, f, st, cell, h1, h2, h3, h4, h5, r⟩ := F
  exact ⟨cf, i, k, f, st, cell, h1, h2, h3, h4, K.2.1 _ _ h5 nin0, r⟩
theorem own_at (H : ∀ i, i < z.toNatClampNeg → c.slots[i]? = some (.int (f i))) (S : c.slots.size = z.toNatClampNeg) (q : ¬ (j < 0 ∨ c.slots.size ≤ j.toNatClampNeg)) (e : f j.toNatClampNeg = x) : c.slots[j.toNatClampNeg]? = some (.int x) := by
  rw [← e]; exact H _ (by rw [← S]; exact Nat.lt_of_not_le fun y => q (Or.inr y))
end Arrs
theorem own_d7_0 : decode jdk_29_method_70_code 0 = .ok (.lload_n 0, 1) := by decide +kernel
theorem own_d7_1 : decode jdk_29_method_70_code 1 = .ok (.lload_n 2, 1) := by decide +kernel
theorem own_d7_2 : decode jdk_29_method_70_code 2 = .ok (.lcmp, 1) := by decide +kernel
theorem own_d7_3 : decode jdk_29_method_70_code 3 = .ok (.ifCond .gt 7, 3) := by decide +kernel
theorem own_d7_6 : decode jdk_29_method_70_code 6 = .ok (.lload_n 0, 1) := by decide +kernel
theorem own_d7_7 : decode jdk_29_method_70_code 7 = .ok (.goto 4, 3) := by decide +kernel
theorem own_d7_10 : decode jdk_29_method_70_code 10 = .ok (.lload_n 2, 1) := by decide +kernel
theorem own_d7_11 : decode jdk_29_method_70_code 11 = .ok (.lreturn, 1) := by decide +kernel
def Q_rm7 (Z : State) (ua : Int64) (ub : Int64) (h0 : Heap) (n0 : Nat) (v : Option Value) (h : Heap) (L : List Loc) : Prop := ∃ (r : Int64), v = some (.long r) ∧ ((r.toInt = ua.toInt ∧ ua.toInt ≤ ub.toInt) ∨ (r.toInt = ub.toInt ∧ ub.toInt < ua.toInt)) ∧ Fr n0 L ∧ h = h0
theorem own_ef_rm7 (m : MethodId) (ua : Int64) (ub : Int64) : entryFrame m #[(.long ua), (.long ub)] 4 = mkF m 0 #[.val (.long ua), .second, .val (.long ub), .second] [] := by first | (simp [entryFrame, mkF, argsToLocals, Value.category]; done) | rfl
set_option maxRecDepth 65536 in
set_option maxHeartbeats 40000000 in
theorem rm7 (l : Launch) (Z : State) (a0 : Array Value) (hw : ∀ d ∈ tables_1, d.before a0 Z = true) (ws : List Jvm.Cond) (ua : Int64) (ub : Int64) (h0 : Heap) (n0 : Nat) (Z0 : n0 ≤ h0.size) :
    MetFree l (⟨"java/lang/Math", "min", "(JJ)J"⟩ : MethodName) (head1 (Jvm.Cond.code (⟨"java/lang/Math", "min", "(JJ)J"⟩ : MethodName) jdk_29_method_70_code 4 (some .long) :: ws) ({ frames := 0, cells := 0, slots := 0, locals := 0 } : Room)) (fun a U => a = #[(.long ua), (.long ub)] ∧ Z.Warmed39 U.vm ∧ U.heap = h0) (fun _ _ _ _ _ => True) (fun _ U o U' => ∃ v L, o = .returned v ∧ Q_rm7 Z ua ub h0 n0 v U'.heap L ∧ FrameEnd U o U' L ({ frames := 0, cells := 0, slots := 0, locals := 0 } : Room).cells ({ frames := 0, cells := 0, slots := 0, locals := 0 } : Room).slots) := by
  refine MetFree.of_bodySF (Jvm.Free.JP.mathPlain rfl (by decide +kernel)) hisR ?_
  intro p e s m args below meth c s₁ Bd hml0 hP hK
  obtain ⟨rfl, hZ, hh⟩ := hP
  have hx := Bd.exec
  have hby := Bd.bytes
  have hml : c.maxLocals = 4 := hml0
  have hown : s.vm.findClass "java/lang/Math" = some m.cls := findClass_of_methodNamed Bd.named
  have hnm := (name_of_methodNamed Bd.named Bd.method).1
  have X0 : Stand p l e ({ frames := 0, cells := 0, slots := 0, locals := 0 } : Room) s m #[(.long ua), (.long ub)] below meth c s₁ [] 0 0 := Stand.of_body Bd
  have e0 : s₁.heap = h0 := by rw [← hh, Bd.state]; rfl
  have N0 := Fr.nil n0
  have pre0 : ∀ t, Steps p.tables e below (s₁.setTop (mkF m 0 #[.val (.long ua), .second, .val (.long ub), .second] [])) t → Steps p.tables e below (s₁.setTop (entryFrame m #[(.long ua), (.long ub)] 4)) t := fun t k => castTop (own_ef_rm7 m ua ub) k
  have K2 : ∀ t, Steps p.tables e below (s₁.setTop (mkF m 3 #[.val (.long ua), .second, .val (.long ub), .second] [(.int (lcmpW ua ub))])) t → Steps p.tables e below (s₁.setTop (entryFrame m #[(.long ua), (.long ub)] 4)) t := fun t k => pre0 t (by
    show Steps p.tables e below (s₁.setTop (mkF m 0 #[.val (.long ua), .second, .val (.long ub), .second] [])) t
    refine XS.lloadN X0.here hx rfl (hb hby own_d7_0) rfl ?_
    show Steps p.tables e below (s₁.setTop (mkF m 1 #[.val (.long ua), .second, .val (.long ub), .second] [(.long ua)])) t
    refine XS.lloadN X0.here hx rfl (hb hby own_d7_1) rfl ?_
    show Steps p.tables e below (s₁.setTop (mkF m 2 #[.val (.long ua), .second, .val (.long ub), .second] [(.long ub), (.long ua)])) t
    refine XS.lcmp X0.here hx rfl (hb hby own_d7_2) rfl ?_
    exact k)
  have q3 := (by decide : (0 : Int32).toInt = 0)
  have q4 := rng64 ua
  have q5 := rng64 ub
  have q6 := c_lcmp ua ub
  by_cases hc1 : (0 : Int32) < (lcmpW ua ub)
  · have q7 : (0 : Int32).toInt < (lcmpW ua ub).toInt := Int32.lt_iff_toInt_lt.mp hc1
    have K8 : ∀ t, Steps p.tables e below (s₁.setTop (mkF m 11 #[.val (.long ua), .second, .val (.long ub), .second] [(.long ub)])) t → Steps p.tables e below (s₁.setTop (entryFrame m #[(.long ua), (.long ub)] 4)) t := fun t k => K2 t (by
      show Steps p.tables e below (s₁.setTop (mkF m 3 #[.val (.long ua), .second, .val (.long ub), .second] [(.int (lcmpW ua ub))])) t
      refine XS.ifYes X0.here hx rfl (pc0 := 3) (pc' := 10) rfl (hb hby own_d7_3) rfl ((if0 _ _).trans (tlt hc1).2.2.1) (by decide) (by decide) ?_
      show Steps p.tables e below (s₁.setTop (mkF m 10 #[.val (.long ua), .second, .val (.long ub), .second] [])) t
      refine XS.lloadN X0.here hx rfl (hb hby own_d7_10) rfl ?_
      exact k)
    obtain ⟨fs, hr, hrun, hended, hW, hsame⟩ := X0.leave (v := some (.long ub)) (fun h => by rw [Bd.returns] at h; cases h)
    refine ⟨_, _, K8 _ ?_, hrun, hended, _, _, rfl, ?_, ⟨_, rfl⟩, hW, hsame.mono (by decide) (by decide)⟩
    · jvm_step X0.here [X0.here.top, hx, (hb hby own_d7_11), X0.method', Bd.returns, narrow]
      first | (intro acts; rw [hr _ acts rfl rfl rfl]) | rw [hr _ _ rfl rfl rfl]
      exact Steps.refl _
    · show Q_rm7 Z ua ub h0 n0 _ s₁.heap _
      rw [e0]
      exact ⟨ub, rfl, (by omega), N0, rfl⟩
  · have q9 : ¬ (0 : Int32).toInt < (lcmpW ua ub).toInt := fun q => hc1 (Int32.lt_iff_toInt_lt.mpr q)
    have K10 : ∀ t, Steps p.tables e below (s₁.setTop (mkF m 11 #[.val (.long ua), .second, .val (.long ub), .second] [(.long ua)])) t → Steps p.tables e below (s₁.setTop (entryFrame m #[(.long ua), (.long ub)] 4)) t := fun t k => K2 t (by
      show Steps p.tables e below (s₁.setTop (mkF m 3 #[.val (.long ua), .second, .val (.long ub), .second] [(.int (lcmpW ua ub))])) t
      refine XS.ifNo X0.here hx rfl (hb hby own_d7_3) rfl ((if0 _ _).trans (flt hc1).2.2.1) ?_
      show Steps p.tables e below (s₁.setTop (mkF m 6 #[.val (.long ua), .second, .val (.long ub), .second] [])) t
      refine XS.lloadN X0.here hx rfl (hb hby own_d7_6) rfl ?_
      show Steps p.tables e below (s₁.setTop (mkF m 7 #[.val (.long ua), .second, .val (.long ub), .second] [(.long ua)])) t
      refine XS.goto X0.here hx rfl (pc0 := 7) (pc' := 11) rfl (hb hby own_d7_7) (by decide) (by decide) ?_
      exact k)
    obtain ⟨fs, hr, hrun, hended, hW, hsame⟩ := X0.leave (v := some (.long ua)) (fun h => by rw [Bd.returns] at h; cases h)
    refine ⟨_, _, K10 _ ?_, hrun, hended, _, _, rfl, ?_, ⟨_, rfl⟩, hW, hsame.mono (by decide) (by decide)⟩
    · jvm_step X0.here [X0.here.top, hx, (hb hby own_d7_11), X0.method', Bd.returns, narrow]
      first | (intro acts; rw [hr _ acts rfl rfl rfl]) | rw [hr _ _ rfl rfl rfl]
      exact Steps.refl _
    · show Q_rm7 Z ua ub h0 n0 _ s₁.heap _
      rw [e0]
      exact ⟨ua, rfl, (by omega), N0, rfl⟩
theorem own_d3_0 : decode prog_9_method_2_code 0 = .ok (.aload_n 0, 1) := by decide +kernel
theorem own_d3_1 : decode prog_9_method_2_code 1 = .ok (.invokespecial 9, 3) := by decide +kernel
theorem own_d3_4 : decode prog_9_method_2_code 4 = .ok (.aload_n 0, 1) := by decide +kernel
theorem own_d3_5 : decode prog_9_method_2_code 5 = .ok (.iload_n 1, 1) := by decide +kernel
theorem own_d3_6 : decode prog_9_method_2_code 6 = .ok (.newarray .byte, 2) := by decide +kernel
theorem own_d3_8 : decode prog_9_method_2_code 8 = .ok (.putfield 14, 3) := by decide +kernel
theorem own_d3_11 : decode prog_9_method_2_code 11 = .ok (.return_, 1) := by decide +kernel
theorem own_pn0 : plainName "com/example/relay_queue/relayqueue/broker/ByteWriter" = true := by first | (simp [plainName, overriddenIn]; done) | decide +kernel
def Q_rm3 (Z : State) (bc : Addr) (h0 : Heap) (n0 : Nat) (v : Option Value) (h : Heap) (L : List Loc) : Prop := v = none ∧ (True) ∧ Fr n0 L ∧ Keep h0 h [bc] ∧ Exa Z h bc "com/example/relay_queue/relayqueue/broker/ByteCounter" ∧ Fld Z h bc "com/example/relay_queue/relayqueue/broker/ByteCounter" "count" "J" (.long (0 : Int64))
theorem own_ef_rm3 (m : MethodId) (bc : Addr) : entryFrame m #[(.ref bc), (.int (0 : Int32))] 2 = mkF m 0 #[.val (.ref bc), .val (.int (0 : Int32))] [] := by first | (simp [entryFrame, mkF, argsToLocals, Value.category]; done) | rfl
set_option maxRecDepth 65536 in
set_option maxHeartbeats 40000000 in
theorem rm3 (l : Launch) (Z : State) (a0 : Array Value) (hw : ∀ d ∈ tables_1, d.before a0 Z = true) (ws : List Jvm.Cond) (bc : Addr) (h0 : Heap) (n0 : Nat) (Z0 : n0 ≤ h0.size) (P_0 : Exa Z h0 bc "com/example/relay_queue/relayqueue/broker/ByteCounter") (P_1 : Fld Z h0 bc "com/example/relay_queue/relayqueue/broker/ByteWriter" "bytes" "[B" .null) (P_2 : n0 ≤ bc) (P_3 : Fld Z h0 bc "com/example/relay_queue/relayqueue/broker/ByteCounter" "count" "J" (.long (0 : Int64))) :
    MetFree l (⟨"com/example/relay_queue/relayqueue/broker/ByteWriter", "<init>", "(I)V"⟩ : MethodName) (head1 (Jvm.Cond.code (⟨"com/example/relay_queue/relayqueue/broker/ByteWriter", "<init>", "(I)V"⟩ : MethodName) prog_9_method_2_code 2 none :: ws) ({ frames := 1, cells := 1, slots := 0, locals := 12 } : Room)) (fun a U => a = #[(.ref bc), (.int (0 : Int32))] ∧ Z.Warmed39 U.vm ∧ U.heap = h0) (fun _ _ _ _ _ => True) (fun _ U o U' => ∃ v L, o = .returned v ∧ Q_rm3 Z bc h0 n0 v U'.heap L ∧ FrameEnd U o U' L ({ frames := 1, cells := 1, slots := 0, locals := 12 } : Room).cells ({ frames := 1, cells := 1, slots := 0, locals := 12 } : Room).slots) := by
  refine MetFree.of_bodySF (plainFor_of_name own_pn0) hisR ?_
  intro p e s m args below meth c s₁ Bd hml0 hP hK
  obtain ⟨rfl, hZ, hh⟩ := hP
  have hx := Bd.exec
  have hby := Bd.bytes
  have hml : c.maxLocals = 2 := hml0
  have hown : s.vm.findClass "com/example/relay_queue/relayqueue/broker/ByteWriter" = some m.cls := findClass_of_methodNamed Bd.named
  have hnm := (name_of_methodNamed Bd.named Bd.method).1
  have X0 : Stand p l e ({ frames := 1, cells := 1, slots := 0, locals := 12 } : Room) s m #[(.ref bc), (.int (0 : Int32))] below meth c s₁ [] 0 0 := Stand.of_body Bd
  have e0 : s₁.heap = h0 := by rw [← hh, Bd.state]; rfl
  have N0 := Fr.nil n0
  have pre0 : ∀ t, Steps p.tables e below (s₁.setTop (mkF m 0 #[.val (.ref bc), .val (.int (0 : Int32))] [])) t → Steps p.tables e below (s₁.setTop (entryFrame m #[(.ref bc), (.int (0 : Int32))] 2)) t := fun t k => castTop (own_ef_rm3 m bc) k
  have K11 : ∀ t, Steps p.tables e below (s₁.setTop (mkF m 1 #[.val (.ref bc), .val (.int (0 : Int32))] [(.ref bc)])) t → Steps p.tables e below (s₁.setTop (entryFrame m #[(.ref bc), (.int (0 : Int32))] 2)) t := fun t k => pre0 t (by
    show Steps p.tables e below (s₁.setTop (mkF m 0 #[.val (.ref bc), .val (.int (0 : Int32))] [])) t
    refine XS.aloadN X0.here hx rfl (hb hby own_d3_0) rfl rfl ?_
    exact k)
  obtain ⟨T12, X12, e12, st12⟩ := initO X0 hx hZ hown (hw _ (List.mem_of_getElem? (i := 19) rfl)) (hw _ (List.mem_of_getElem? (i := 20) rfl)) (hw _ (List.mem_of_getElem? (i := 21) rfl)) e0 (g := (mkF m 1 #[.val (.ref bc), .val (.int (0 : Int32))] [(.ref bc)])) rfl (by rw [hml]; rfl) rfl (hb hby own_d3_1) (by decide) (W := 0) (by show 2 * 0 + _ ≤ _; exact Nat.le_of_eq rfl) (by decide)
  have K13 : ∀ t, Steps p.tables e below (T12.setTop (mkF m 4 #[.val (.ref bc), .val (.int (0 : Int32))] [])) t → Steps p.tables e below (s₁.setTop (entryFrame m #[(.ref bc), (.int (0 : Int32))] 2)) t := fun t k => K11 t (st12 _ k)
  have K14 : ∀ t, Steps p.tables e below (T12.setTop (mkF m 6 #[.val (.ref bc), .val (.int (0 : Int32))] [(.int (0 : Int32)), (.ref bc)])) t → Steps p.tables e below (s₁.setTop (entryFrame m #[(.ref bc), (.int (0 : Int32))] 2)) t := fun t k => K13 t (by
    show Steps p.tables e below (T12.setTop (mkF m 4 #[.val (.ref bc), .val (.int (0 : Int32))] [])) t
    refine XS.aloadN X12.here hx rfl (hb hby own_d3_4) rfl rfl ?_
    show Steps p.tables e below (T12.setTop (mkF m 5 #[.val (.ref bc), .val (.int (0 : Int32))] [(.ref bc)])) t
    refine XS.iloadN X12.here hx rfl (hb hby own_d3_5) rfl ?_
    exact k)
  obtain ⟨T15, h15, k15, X15, e15, E15, A15, st15⟩ := newP X12 hx hZ (hw _ (List.mem_of_getElem? (i := 6) rfl)) e12 (g := (mkF m 6 #[.val (.ref bc), .val (.int (0 : Int32))] [(.int (0 : Int32)), (.ref bc)])) rfl (hb hby own_d3_6) rfl (by decide) (cap := 0) (by decide) (by decide) (by decide) (by decide)
  obtain ⟨b15, g15⟩ : ∃ z, z = h0.size := ⟨_, rfl⟩
  rw [← g15] at A15 st15
  have ne16 : bc ≠ b15 := Nat.ne_of_lt (Nat.lt_of_lt_of_le P_0.lt (Nat.le_of_eq g15.symm))
  have gb17 : n0 ≤ b15 := Nat.le_trans Z0 (Nat.le_of_eq g15.symm)
  have sb18 : h0.size ≤ b15 := Nat.le_trans (Keep.refl h0 [bc]).1 (Nat.le_of_eq g15.symm)
  have F19 := P_0.ext E15
  have F20 := P_1.ext E15
  have F21 := P_3.ext E15
  have Z22 : n0 ≤ h15.size := Nat.le_trans Z0 E15.1
  have Kp23 : Keep h0 h15 [bc] := Keep.ext (Keep.refl h0 [bc]) E15
  have V24 : own_Arl Z h15 b15 .byte (0 : Int32) := own_Arl.new A15 (by decide)
  have K25 : ∀ t, Steps p.tables e below (T15.setTop (mkF m 8 #[.val (.ref bc), .val (.int (0 : Int32))] [(.ref b15), (.ref bc)])) t → Steps p.tables e below (s₁.setTop (entryFrame m #[(.ref bc), (.int (0 : Int32))] 2)) t := fun t k => K14 t (st15 _ k)
  obtain ⟨T26, h26, X26, e26, W26, st26⟩ := putF X15 hx hZ hown (host := "") (Or.inl (hw _ (List.mem_of_getElem? (i := 22) rfl))) Via.refl e15 F20 F19 (Or.inl (hw _ (List.mem_of_getElem? (i := 23) rfl))) (hw _ (List.mem_of_getElem? (i := 9) rfl)) (ty := (.array .byte)) (by decide) rfl rfl (g := (mkF m 8 #[.val (.ref bc), .val (.int (0 : Int32))] [(.ref b15), (.ref bc)])) rfl rfl (hb hby own_d3_8)
  have F27 := F20.same W26
  have Kp28 : Keep h0 h26 [bc] := Keep.wr Kp23 W26 (Or.inl (List.mem_of_getElem? (i := 0) rfl))
  have Z29 : n0 ≤ h26.size := Nat.le_trans Z22 (Keep.of_wr W26).1
  have N30 := Fr.snoc X26 N0 P_2
  have F31 := F19.wr W26
  have F32 := F21.other W26 (Or.inr (slot_ne (Or.inl (hw _ (List.mem_of_getElem? (i := 37) rfl))) (Or.inl (hw _ (List.mem_of_getElem? (i := 23) rfl))) (by decide) (t := .long) (t' := (.array .byte)) (by decide) (by decide)))
  have F33 := V24.other W26 (Ne.symm ne16)
  have K34 : ∀ t, Steps p.tables e below (T26.setTop (mkF m 11 #[.val (.ref bc), .val (.int (0 : Int32))] [])) t → Steps p.tables e below (s₁.setTop (entryFrame m #[(.ref bc), (.int (0 : Int32))] 2)) t := fun t k => K25 t (st26 _ k)
  obtain ⟨fs, hr, hrun, hended, hW, hsame⟩ := X26.leave (v := none) (fun _ => rfl)
  refine ⟨_, _, K34 _ ?_, hrun, hended, _, _, rfl, ?_, ⟨_, rfl⟩, hW, hsame.mono (by decide) (by decide)⟩
  · exact X26.returnOut hx Bd.returns (hb hby own_d3_11) hr
  · show Q_rm3 Z bc h0 n0 _ T26.heap _
    rw [e26]
    exact ⟨rfl, (by trivial), N30, Kp28, F31, F32⟩
theorem own_d2_0 : decode prog_6_method_1_code 0 = .ok (.aload_n 0, 1) := by decide +kernel
theorem own_d2_1 : decode prog_6_method_1_code 1 = .ok (.iconst 0, 1) := by decide +kernel
theorem own_d2_2 : decode prog_6_method_1_code 2 = .ok (.invokespecial 1, 3) := by decide +kernel
theorem own_d2_5 : decode prog_6_method_1_code 5 = .ok (.return_, 1) := by decide +kernel
theorem own_pn1 : plainName "com/example/relay_queue/relayqueue/broker/ByteCounter" = true := by first | (simp [plainName, overriddenIn]; done) | decide +kernel
theorem own_pd0 : parseMethodDescriptor "(I)V" = some ⟨[.int], none⟩ := by decide +kernel
def Q_rm2 (Z : State) (bc : Addr) (h0 : Heap) (n0 : Nat) (v : Option Value) (h : Heap) (L : List Loc) : Prop := v = none ∧ (True) ∧ Fr n0 L ∧ Keep h0 h [bc] ∧ Exa Z h bc "com/example/relay_queue/relayqueue/broker/ByteCounter" ∧ Fld Z h bc "com/example/relay_queue/relayqueue/broker/ByteCounter" "count" "J" (.long (0 : Int64))
theorem own_ef_rm2 (m : MethodId) (bc : Addr) : entryFrame m #[(.ref bc)] 1 = mkF m 0 #[.val (.ref bc)] [] := by first | (simp [entryFrame, mkF, argsToLocals, Value.category]; done) | rfl
set_option maxRecDepth 65536 in
set_option maxHeartbeats 40000000 in
theorem rm2 (l : Launch) (Z : State) (a0 : Array Value) (hw : ∀ d ∈ tables_1, d.before a0 Z = true) (ws : List Jvm.Cond) (bc : Addr) (h0 : Heap) (n0 : Nat) (Z0 : n0 ≤ h0.size) (P_0 : Exa Z h0 bc "com/example/relay_queue/relayqueue/broker/ByteCounter") (P_1 : Fld Z h0 bc "com/example/relay_queue/relayqueue/broker/ByteWriter" "bytes" "[B" .null) (P_2 : Fld Z h0 bc "com/example/relay_queue/relayqueue/broker/ByteCounter" "count" "J" (.long (0 : Int64))) (P_3 : n0 ≤ bc) :
    MetFree l (⟨"com/example/relay_queue/relayqueue/broker/ByteCounter", "<init>", "()V"⟩ : MethodName) (head1 (Jvm.Cond.code (⟨"com/example/relay_queue/relayqueue/broker/ByteCounter", "<init>", "()V"⟩ : MethodName) prog_6_method_1_code 1 none :: ws) ({ frames := 2, cells := 1, slots := 0, locals := 25 } : Room)) (fun a U => a = #[(.ref bc)] ∧ Z.Warmed39 U.vm ∧ U.heap = h0) (fun _ _ _ _ _ => True) (fun _ U o U' => ∃ v L, o = .returned v ∧ Q_rm2 Z bc h0 n0 v U'.heap L ∧ FrameEnd U o U' L ({ frames := 2, cells := 1, slots := 0, locals := 25 } : Room).cells ({ frames := 2, cells := 1, slots := 0, locals := 25 } : Room).slots) := by
  refine MetFree.of_bodySF (plainFor_of_name own_pn1) hisR ?_
  intro p e s m args below meth c s₁ Bd hml0 hP hK
  obtain ⟨rfl, hZ, hh⟩ := hP
  have hx := Bd.exec
  have hby := Bd.bytes
  have hml : c.maxLocals = 1 := hml0
  have hown : s.vm.findClass "com/example/relay_queue/relayqueue/broker/ByteCounter" = some m.cls := findClass_of_methodNamed Bd.named
  have hnm := (name_of_methodNamed Bd.named Bd.method).1
  have X0 : Stand p l e ({ frames := 2, cells := 1, slots := 0, locals := 25 } : Room) s m #[(.ref bc)] below meth c s₁ [] 0 0 := Stand.of_body Bd
  have e0 : s₁.heap = h0 := by rw [← hh, Bd.state]; rfl
  have N0 := Fr.nil n0
  have pre0 : ∀ t, Steps p.tables e below (s₁.setTop (mkF m 0 #[.val (.ref bc)] [])) t → Steps p.tables e below (s₁.setTop (entryFrame m #[(.ref bc)] 1)) t := fun t k => castTop (own_ef_rm2 m bc) k
  have K35 : ∀ t, Steps p.tables e below (s₁.setTop (mkF m 2 #[.val (.ref bc)] [(.int (0 : Int32)), (.ref bc)])) t → Steps p.tables e below (s₁.setTop (entryFrame m #[(.ref bc)] 1)) t := fun t k => pre0 t (by
    show Steps p.tables e below (s₁.setTop (mkF m 0 #[.val (.ref bc)] [])) t
    refine XS.aloadN X0.here hx rfl (hb hby own_d2_0) rfl rfl ?_
    show Steps p.tables e below (s₁.setTop (mkF m 1 #[.val (.ref bc)] [(.ref bc)])) t
    refine XS.iconst X0.here hx rfl (hb hby own_d2_1) ?_
    exact k)
  have q36 := (by decide : (0 : Int32).toInt = 0)
  obtain ⟨_, _, ⟨T37, L37, kk37, nn37⟩, -, X37, ⟨Lc37, hQ37, l37, y37, z37⟩, st37⟩ := X0.specialBack hx (y := (⟨"com/example/relay_queue/relayqueue/broker/ByteWriter", "<init>", "(I)V"⟩ : MethodName)) rfl hown (mvT hZ (hw _ (List.mem_of_getElem? (i := 14) rfl))) (mvT hZ (hw _ (List.mem_of_getElem? (i := 15) rfl))) (mvT hZ (hw _ (List.mem_of_getElem? (i := 18) rfl))) (by decide) (backOf (W := 0) (rm3 l Z a0 hw [] bc h0 n0 Z0 P_0 P_1 P_3 P_2) hZ (hw _ (List.mem_of_getElem? (i := 18) rfl)) (hw _ (List.mem_of_getElem? (i := 17) rfl)) (by decide) (by decide)) (g := (mkF m 2 #[.val (.ref bc)] [(.int (0 : Int32)), (.ref bc)])) rfl (by rw [hml]; rfl) (Steps.refl _) (a := bc) (argsL := [(.int (0 : Int32))]) (rest := []) (lenOf own_pd0 rfl) rfl (by show 2 * 0 + _ ≤ _; exact Nat.le_of_eq rfl) (hb hby own_d2_2) (fun _ _ => ⟨rfl, e0, (by decide : 0 + 1 ≤ _), (by decide : 0 + 0 ≤ _)⟩)
  dsimp only [Pt.U, Pt.locs, Pt.cells, Pt.slots] at X37 l37 y37 z37 st37 hQ37
  subst l37 y37 z37
  obtain ⟨rfl, Sp37, Nq37, Kc37, Pc37_0, Pc37_1⟩ := hQ37
  have N38 := Fr.app N0 Nq37
  obtain ⟨h37, e37⟩ : ∃ z, z = T37.heap := ⟨_, rfl⟩
  rw [← e37] at Kc37 Pc37_0 Pc37_1
  have F39 := P_0.keep Kc37
  have Kp40 : Keep h0 h37 [bc] := Keep.trans (Keep.refl h0 [bc]) Kc37 (allS (Or.inl (List.mem_of_getElem? (i := 0) rfl)) all0)
  have Z41 : n0 ≤ h37.size := Nat.le_trans Z0 Kc37.1
  have K42 : ∀ t, Steps p.tables e below (T37.setTop (mkF m 5 #[.val (.ref bc)] [])) t → Steps p.tables e below (s₁.setTop (entryFrame m #[(.ref bc)] 1)) t := fun t k => K35 t (st37.trans k)
  obtain ⟨fs, hr, hrun, hended, hW, hsame⟩ := X37.leave (v := none) (fun _ => rfl)
  refine ⟨_, _, K42 _ ?_, hrun, hended, _, _, rfl, ?_, ⟨_, rfl⟩, hW, hsame.mono (by decide) (by decide)⟩
  · exact X37.returnOut hx Bd.returns (hb hby own_d2_5) hr
  · show Q_rm2 Z bc h0 n0 _ T37.heap _
    rw [e37.symm]
    exact ⟨rfl, (by trivial), N38, Kp40, Pc37_0, Pc37_1⟩
theorem own_d5_0 : decode prog_6_method_6_code 0 = .ok (.aload_n 0, 1) := by decide +kernel
theorem own_d5_1 : decode prog_6_method_6_code 1 = .ok (.dup, 1) := by decide +kernel
theorem own_d5_2 : decode prog_6_method_6_code 2 = .ok (.getfield 7, 3) := by decide +kernel
theorem own_d5_5 : decode prog_6_method_6_code 5 = .ok (.lload_n 2, 1) := by decide +kernel
theorem own_d5_6 : decode prog_6_method_6_code 6 = .ok (.ladd, 1) := by decide +kernel
theorem own_d5_7 : decode prog_6_method_6_code 7 = .ok (.putfield 7, 3) := by decide +kernel
theorem own_d5_10 : decode prog_6_method_6_code 10 = .ok (.return_, 1) := by decide +kernel
def Q_rm5 (Z : State) (bc : Addr) (sx : Addr) (ub : Int64) (w : Int64) (h0 : Heap) (n0 : Nat) (v : Option Value) (h : Heap) (L : List Loc) : Prop := ∃ (w' : Int64), v = none ∧ (w'.toInt = w.toInt + ub.toInt) ∧ Fr n0 L ∧ Keep h0 h [bc] ∧ Exa Z h bc "com/example/relay_queue/relayqueue/broker/ByteCounter" ∧ Fld Z h bc "com/example/relay_queue/relayqueue/broker/ByteCounter" "count" "J" (.long w')
theorem own_ef_rm5 (m : MethodId) (bc : Addr) (sx : Addr) (ub : Int64) : entryFrame m #[(.ref bc), (.ref sx), (.long ub)] 4 = mkF m 0 #[.val (.ref bc), .val (.ref sx), .val (.long ub), .second] [] := by first | (simp [entryFrame, mkF, argsToLocals, Value.category]; done) | rfl
set_option maxRecDepth 65536 in
set_option maxHeartbeats 40000000 in
theorem rm5 (l : Launch) (Z : State) (a0 : Array Value) (hw : ∀ d ∈ tables_1, d.before a0 Z = true) (ws : List Jvm.Cond) (bc : Addr) (sx : Addr) (ub : Int64) (w : Int64) (h0 : Heap) (n0 : Nat) (Z0 : n0 ≤ h0.size) (P_0 : Exa Z h0 bc "com/example/relay_queue/relayqueue/broker/ByteCounter") (P_1 : Fld Z h0 bc "com/example/relay_queue/relayqueue/broker/ByteCounter" "count" "J" (.long w)) (P_2 : n0 ≤ bc) (P_3 : 0 ≤ w.toInt ∧ 0 ≤ ub.toInt ∧ w.toInt + ub.toInt < 9223372036854775807) :
    MetFree l (⟨"com/example/relay_queue/relayqueue/broker/ByteCounter", "writeUtf8", "(Ljava/lang/String;J)V"⟩ : MethodName) (head1 (Jvm.Cond.code (⟨"com/example/relay_queue/relayqueue/broker/ByteCounter", "writeUtf8", "(Ljava/lang/String;J)V"⟩ : MethodName) prog_6_method_6_code 4 none :: ws) ({ frames := 0, cells := 0, slots := 0, locals := 0 } : Room)) (fun a U => a = #[(.ref bc), (.ref sx), (.long ub)] ∧ Z.Warmed39 U.vm ∧ U.heap = h0) (fun _ _ _ _ _ => True) (fun _ U o U' => ∃ v L, o = .returned v ∧ Q_rm5 Z bc sx ub w h0 n0 v U'.heap L ∧ FrameEnd U o U' L ({ frames := 0, cells := 0, slots := 0, locals := 0 } : Room).cells ({ frames := 0, cells := 0, slots := 0, locals := 0 } : Room).slots) := by
  refine MetFree.of_bodySF (plainFor_of_name own_pn1) hisR ?_
  intro p e s m args below meth c s₁ Bd hml0 hP hK
  obtain ⟨rfl, hZ, hh⟩ := hP
  have hx := Bd.exec
  have hby := Bd.bytes
  have hml : c.maxLocals = 4 := hml0
  have hown : s.vm.findClass "com/example/relay_queue/relayqueue/broker/ByteCounter" = some m.cls := findClass_of_methodNamed Bd.named
  have hnm := (name_of_methodNamed Bd.named Bd.method).1
  have X0 : Stand p l e ({ frames := 0, cells := 0, slots := 0, locals := 0 } : Room) s m #[(.ref bc), (.ref sx), (.long ub)] below meth c s₁ [] 0 0 := Stand.of_body Bd
  have e0 : s₁.heap = h0 := by rw [← hh, Bd.state]; rfl
  have N0 := Fr.nil n0
  have pre0 : ∀ t, Steps p.tables e below (s₁.setTop (mkF m 0 #[.val (.ref bc), .val (.ref sx), .val (.long ub), .second] [])) t → Steps p.tables e below (s₁.setTop (entryFrame m #[(.ref bc), (.ref sx), (.long ub)] 4)) t := fun t k => castTop (own_ef_rm5 m bc sx ub) k
  have K43 : ∀ t, Steps p.tables e below (s₁.setTop (mkF m 2 #[.val (.ref bc), .val (.ref sx), .val (.long ub), .second] [(.ref bc), (.ref bc)])) t → Steps p.tables e below (s₁.setTop (entryFrame m #[(.ref bc), (.ref sx), (.long ub)] 4)) t := fun t k => pre0 t (by
    show Steps p.tables e below (s₁.setTop (mkF m 0 #[.val (.ref bc), .val (.ref sx), .val (.long ub), .second] [])) t
    refine XS.aloadN X0.here hx rfl (hb hby own_d5_0) rfl rfl ?_
    show Steps p.tables e below (s₁.setTop (mkF m 1 #[.val (.ref bc), .val (.ref sx), .val (.long ub), .second] [(.ref bc)])) t
    refine XS.dup X0.here hx rfl (hb hby own_d5_1) rfl rfl ?_
    exact k)
  obtain ⟨T44, X44, e44, st44⟩ := getF X0 hx hZ hown (host := "") (Or.inl (hw _ (List.mem_of_getElem? (i := 36) rfl))) Via.refl e0 P_1 (g := (mkF m 2 #[.val (.ref bc), .val (.ref sx), .val (.long ub), .second] [(.ref bc), (.ref bc)])) rfl rfl (hb hby own_d5_2)
  have K45 : ∀ t, Steps p.tables e below (T44.setTop (mkF m 5 #[.val (.ref bc), .val (.ref sx), .val (.long ub), .second] [(.long w), (.ref bc)])) t → Steps p.tables e below (s₁.setTop (entryFrame m #[(.ref bc), (.ref sx), (.long ub)] 4)) t := fun t k => K43 t (st44 _ k)
  have K46 : ∀ t, Steps p.tables e below (T44.setTop (mkF m 7 #[.val (.ref bc), .val (.ref sx), .val (.long ub), .second] [(.long (w + ub)), (.ref bc)])) t → Steps p.tables e below (s₁.setTop (entryFrame m #[(.ref bc), (.ref sx), (.long ub)] 4)) t := fun t k => K45 t (by
    show Steps p.tables e below (T44.setTop (mkF m 5 #[.val (.ref bc), .val (.ref sx), .val (.long ub), .second] [(.long w), (.ref bc)])) t
    refine XS.lloadN X44.here hx rfl (hb hby own_d5_5) rfl ?_
    show Steps p.tables e below (T44.setTop (mkF m 6 #[.val (.ref bc), .val (.ref sx), .val (.long ub), .second] [(.long ub), (.long w), (.ref bc)])) t
    refine XS.ladd X44.here hx rfl (hb hby own_d5_6) rfl ?_
    exact k)
  obtain ⟨T47, h47, X47, e47, W47, st47⟩ := putF X44 hx hZ hown (host := "") (Or.inl (hw _ (List.mem_of_getElem? (i := 36) rfl))) Via.refl e44 P_1 P_0 (Or.inl (hw _ (List.mem_of_getElem? (i := 37) rfl))) (hw _ (List.mem_of_getElem? (i := 9) rfl)) (ty := .long) (by decide) rfl rfl (g := (mkF m 7 #[.val (.ref bc), .val (.ref sx), .val (.long ub), .second] [(.long (w + ub)), (.ref bc)])) rfl rfl (hb hby own_d5_7)
  have F48 := P_1.same W47
  have Kp49 : Keep h0 h47 [bc] := Keep.wr (Keep.refl h0 [bc]) W47 (Or.inl (List.mem_of_getElem? (i := 0) rfl))
  have Z50 : n0 ≤ h47.size := Nat.le_trans Z0 (Keep.of_wr W47).1
  have N51 := Fr.snoc X47 N0 P_2
  have F52 := P_0.wr W47
  have K53 : ∀ t, Steps p.tables e below (T47.setTop (mkF m 10 #[.val (.ref bc), .val (.ref sx), .val (.long ub), .second] [])) t → Steps p.tables e below (s₁.setTop (entryFrame m #[(.ref bc), (.ref sx), (.long ub)] 4)) t := fun t k => K46 t (st47 _ k)
  have q54 := rng64 w
  have q55 := rng64 ub
  have q56 := c_ladd w ub
  have q57 := rng64 (w + ub)
  obtain ⟨fs, hr, hrun, hended, hW, hsame⟩ := X47.leave (v := none) (fun _ => rfl)
  refine ⟨_, _, K53 _ ?_, hrun, hended, _, _, rfl, ?_, ⟨_, rfl⟩, hW, hsame.mono (by decide) (by decide)⟩
  · exact X47.returnOut hx Bd.returns (hb hby own_d5_10) hr
  · show Q_rm5 Z bc sx ub w h0 n0 _ T47.heap _
    rw [e47]
    exact ⟨(w + ub), rfl, (by omega), N51, Kp49, F52, F48⟩
theorem own_d9_0 : decode prog_6_method_5_code 0 = .ok (.aload_n 0, 1) := by decide +kernel
theorem own_d9_1 : decode prog_6_method_5_code 1 = .ok (.dup, 1) := by decide +kernel
theorem own_d9_2 : decode prog_6_method_5_code 2 = .ok (.getfield 7, 3) := by decide +kernel
theorem own_d9_5 : decode prog_6_method_5_code 5 = .ok (.aload_n 1, 1) := by decide +kernel
theorem own_d9_6 : decode prog_6_method_5_code 6 = .ok (.arraylength, 1) := by decide +kernel
theorem own_d9_7 : decode prog_6_method_5_code 7 = .ok (.i2l, 1) := by decide +kernel
theorem own_d9_8 : decode prog_6_method_5_code 8 = .ok (.ladd, 1) := by decide +kernel
theorem own_d9_9 : decode prog_6_method_5_code 9 = .ok (.putfield 7, 3) := by decide +kernel
theorem own_d9_12 : decode prog_6_method_5_code 12 = .ok (.return_, 1) := by decide +kernel
def Q_rm9 (Z : State) (bc : Addr) (ba : Addr) (w : Int64) (za : Int32) (h0 : Heap) (n0 : Nat) (v : Option Value) (h : Heap) (L : List Loc) : Prop := ∃ (w' : Int64), v = none ∧ (w'.toInt = w.toInt + za.toInt) ∧ Fr n0 L ∧ Keep h0 h [bc] ∧ Exa Z h bc "com/example/relay_queue/relayqueue/broker/ByteCounter" ∧ Fld Z h bc "com/example/relay_queue/relayqueue/broker/ByteCounter" "count" "J" (.long w')
theorem own_ef_rm9 (m : MethodId) (bc : Addr) (ba : Addr) : entryFrame m #[(.ref bc), (.ref ba)] 2 = mkF m 0 #[.val (.ref bc), .val (.ref ba)] [] := by first | (simp [entryFrame, mkF, argsToLocals, Value.category]; done) | rfl
set_option maxRecDepth 65536 in
set_option maxHeartbeats 40000000 in
theorem rm9 (l : Launch) (Z : State) (a0 : Array Value) (hw : ∀ d ∈ tables_1, d.before a0 Z = true) (ws : List Jvm.Cond) (bc : Addr) (ba : Addr) (w : Int64) (za : Int32) (h0 : Heap) (n0 : Nat) (Z0 : n0 ≤ h0.size) (P_0 : Exa Z h0 bc "com/example/relay_queue/relayqueue/broker/ByteCounter") (P_1 : Fld Z h0 bc "com/example/relay_queue/relayqueue/broker/ByteCounter" "count" "J" (.long w)) (P_2 : n0 ≤ bc) (P_3 : own_Arl Z h0 ba .byte za) (P_4 : 0 ≤ w.toInt ∧ 0 ≤ za.toInt ∧ w.toInt + za.toInt < 9223372036854775807) :
    MetFree l (⟨"com/example/relay_queue/relayqueue/broker/ByteCounter", "write", "([B)V"⟩ : MethodName) (head1 (Jvm.Cond.code (⟨"com/example/relay_queue/relayqueue/broker/ByteCounter", "write", "([B)V"⟩ : MethodName) prog_6_method_5_code 2 none :: ws) ({ frames := 0, cells := 0, slots := 0, locals := 0 } : Room)) (fun a U => a = #[(.ref bc), (.ref ba)] ∧ Z.Warmed39 U.vm ∧ U.heap = h0) (fun _ _ _ _ _ => True) (fun _ U o U' => ∃ v L, o = .returned v ∧ Q_rm9 Z bc ba w za h0 n0 v U'.heap L ∧ FrameEnd U o U' L ({ frames := 0, cells := 0, slots := 0, locals := 0 } : Room).cells ({ frames := 0, cells := 0, slots := 0, locals := 0 } : Room).slots) := by
  refine MetFree.of_bodySF (plainFor_of_name own_pn1) hisR ?_
  intro p e s m args below meth c s₁ Bd hml0 hP hK
  obtain ⟨rfl, hZ, hh⟩ := hP
  have hx := Bd.exec
  have hby := Bd.bytes
  have hml : c.maxLocals = 2 := hml0
  have hown : s.vm.findClass "com/example/relay_queue/relayqueue/broker/ByteCounter" = some m.cls := findClass_of_methodNamed Bd.named
  have hnm := (name_of_methodNamed Bd.named Bd.method).1
  have X0 : Stand p l e ({ frames := 0, cells := 0, slots := 0, locals := 0 } : Room) s m #[(.ref bc), (.ref ba)] below meth c s₁ [] 0 0 := Stand.of_body Bd
  have e0 : s₁.heap = h0 := by rw [← hh, Bd.state]; rfl
  have N0 := Fr.nil n0
  have pre0 : ∀ t, Steps p.tables e below (s₁.setTop (mkF m 0 #[.val (.ref bc), .val (.ref ba)] [])) t → Steps p.tables e below (s₁.setTop (entryFrame m #[(.ref bc), (.ref ba)] 2)) t := fun t k => castTop (own_ef_rm9 m bc ba) k
  have K58 : ∀ t, Steps p.tables e below (s₁.setTop (mkF m 2 #[.val (.ref bc), .val (.ref ba)] [(.ref bc), (.ref bc)])) t → Steps p.tables e below (s₁.setTop (entryFrame m #[(.ref bc), (.ref ba)] 2)) t := fun t k => pre0 t (by
    show Steps p.tables e below (s₁.setTop (mkF m 0 #[.val (.ref bc), .val (.ref ba)] [])) t
    refine XS.aloadN X0.here hx rfl (hb hby own_d9_0) rfl rfl ?_
    show Steps p.tables e below (s₁.setTop (mkF m 1 #[.val (.ref bc), .val (.ref ba)] [(.ref bc)])) t
    refine XS.dup X0.here hx rfl (hb hby own_d9_1) rfl rfl ?_
    exact k)
  obtain ⟨T59, X59, e59, st59⟩ := getF X0 hx hZ hown (host := "") (Or.inl (hw _ (List.mem_of_getElem? (i := 36) rfl))) Via.refl e0 P_1 (g := (mkF m 2 #[.val (.ref bc), .val (.ref ba)] [(.ref bc), (.ref bc)])) rfl rfl (hb hby own_d9_2)
  have K60 : ∀ t, Steps p.tables e below (T59.setTop (mkF m 5 #[.val (.ref bc), .val (.ref ba)] [(.long w), (.ref bc)])) t → Steps p.tables e below (s₁.setTop (entryFrame m #[(.ref bc), (.ref ba)] 2)) t := fun t k => K58 t (st59 _ k)
  obtain ⟨cl61, Ar61, S61, N61⟩ := id P_3
  have K62 : ∀ t, Steps p.tables e below (T59.setTop (mkF m 9 #[.val (.ref bc), .val (.ref ba)] [(.long (w + (za.toInt64))), (.ref bc)])) t → Steps p.tables e below (s₁.setTop (entryFrame m #[(.ref bc), (.ref ba)] 2)) t := fun t k => K60 t (by
    show Steps p.tables e below (T59.setTop (mkF m 5 #[.val (.ref bc), .val (.ref ba)] [(.long w), (.ref bc)])) t
    refine XS.aloadN X59.here hx rfl (hb hby own_d9_5) rfl rfl ?_
    show Steps p.tables e below (T59.setTop (mkF m 6 #[.val (.ref bc), .val (.ref ba)] [(.ref ba), (.long w), (.ref bc)])) t
    refine X59.arraylength hx (by rw [e59]; exact Ar61.1) (State.isArrayOf_alike hZ.alike Ar61.2.1) (g := (mkF m 6 #[.val (.ref bc), .val (.ref ba)] [(.ref ba), (.long w), (.ref bc)])) rfl rfl (hb hby own_d9_6) _ ?_
    rw [len_of S61 N61]
    show Steps p.tables e below (T59.setTop (mkF m 7 #[.val (.ref bc), .val (.ref ba)] [(.int za), (.long w), (.ref bc)])) t
    refine XS.i2l X59.here hx rfl (hb hby own_d9_7) rfl ?_
    show Steps p.tables e below (T59.setTop (mkF m 8 #[.val (.ref bc), .val (.ref ba)] [(.long (za.toInt64)), (.long w), (.ref bc)])) t
    refine XS.ladd X59.here hx rfl (hb hby own_d9_8) rfl ?_
    exact k)
  obtain ⟨T63, h63, X63, e63, W63, st63⟩ := putF X59 hx hZ hown (host := "") (Or.inl (hw _ (List.mem_of_getElem? (i := 36) rfl))) Via.refl e59 P_1 P_0 (Or.inl (hw _ (List.mem_of_getElem? (i := 37) rfl))) (hw _ (List.mem_of_getElem? (i := 9) rfl)) (ty := .long) (by decide) rfl rfl (g := (mkF m 9 #[.val (.ref bc), .val (.ref ba)] [(.long (w + (za.toInt64))), (.ref bc)])) rfl rfl (hb hby own_d9_9)
  have F64 := P_1.same W63
  have Kp65 : Keep h0 h63 [bc] := Keep.wr (Keep.refl h0 [bc]) W63 (Or.inl (List.mem_of_getElem? (i := 0) rfl))
  have Z66 : n0 ≤ h63.size := Nat.le_trans Z0 (Keep.of_wr W63).1
  have N67 := Fr.snoc X63 N0 P_2
  have F68 := P_0.wr W63
  have K69 : ∀ t, Steps p.tables e below (T63.setTop (mkF m 12 #[.val (.ref bc), .val (.ref ba)] [])) t → Steps p.tables e below (s₁.setTop (entryFrame m #[(.ref bc), (.ref ba)] 2)) t := fun t k => K62 t (st63 _ k)
  have q70 := rng64 w
  have q71 := rng32 za
  have q72 := c_i2l za
  have q73 := rng64 (za.toInt64)
  have q74 := c_ladd w (za.toInt64)
  have q75 := rng64 (w + (za.toInt64))
  obtain ⟨fs, hr, hrun, hended, hW, hsame⟩ := X63.leave (v := none) (fun _ => rfl)
  refine ⟨_, _, K69 _ ?_, hrun, hended, _, _, rfl, ?_, ⟨_, rfl⟩, hW, hsame.mono (by decide) (by decide)⟩
  · exact X63.returnOut hx Bd.returns (hb hby own_d9_12) hr
  · show Q_rm9 Z bc ba w za h0 n0 _ T63.heap _
    rw [e63]
    exact ⟨(w + (za.toInt64)), rfl, (by omega), N67, Kp65, F68, F64⟩
theorem own_d6_0 : decode prog_6_method_7_code 0 = .ok (.aload_n 0, 1) := by decide +kernel
theorem own_d6_1 : decode prog_6_method_7_code 1 = .ok (.getfield 7, 3) := by decide +kernel
theorem own_d6_4 : decode prog_6_method_7_code 4 = .ok (.ldc2_w 23, 3) := by decide +kernel
theorem own_d6_7 : decode prog_6_method_7_code 7 = .ok (.invokestatic 25, 3) := by decide +kernel
theorem own_d6_10 : decode prog_6_method_7_code 10 = .ok (.l2i, 1) := by decide +kernel
theorem own_d6_11 : decode prog_6_method_7_code 11 = .ok (.ireturn, 1) := by decide +kernel
theorem own_pd1 : parseMethodDescriptor "(JJ)J" = some ⟨[.long, .long], some .long⟩ := by decide +kernel
def Q_rm6 (Z : State) (bc : Addr) (w : Int64) (h0 : Heap) (n0 : Nat) (v : Option Value) (h : Heap) (L : List Loc) : Prop := ∃ (r : Int32), v = some (.int r) ∧ ((w.toInt ≤ 2147483647 → r.toInt = w.toInt) ∧ (2147483647 < w.toInt → r.toInt = 2147483647)) ∧ Fr n0 L ∧ h = h0
theorem own_ef_rm6 (m : MethodId) (bc : Addr) : entryFrame m #[(.ref bc)] 1 = mkF m 0 #[.val (.ref bc)] [] := by first | (simp [entryFrame, mkF, argsToLocals, Value.category]; done) | rfl
set_option maxRecDepth 65536 in
set_option maxHeartbeats 40000000 in
theorem rm6 (l : Launch) (Z : State) (a0 : Array Value) (hw : ∀ d ∈ tables_1, d.before a0 Z = true) (ws : List Jvm.Cond) (bc : Addr) (w : Int64) (h0 : Heap) (n0 : Nat) (Z0 : n0 ≤ h0.size) (P_0 : Fld Z h0 bc "com/example/relay_queue/relayqueue/broker/ByteCounter" "count" "J" (.long w)) (P_1 : 0 ≤ w.toInt) :
    MetFree l (⟨"com/example/relay_queue/relayqueue/broker/ByteCounter", "size", "()I"⟩ : MethodName) (head1 (Jvm.Cond.code (⟨"com/example/relay_queue/relayqueue/broker/ByteCounter", "size", "()I"⟩ : MethodName) prog_6_method_7_code 1 (some .int) :: ws) ({ frames := 1, cells := 0, slots := 0, locals := 15 } : Room)) (fun a U => a = #[(.ref bc)] ∧ Z.Warmed39 U.vm ∧ U.heap = h0) (fun _ _ _ _ _ => True) (fun _ U o U' => ∃ v L, o = .returned v ∧ Q_rm6 Z bc w h0 n0 v U'.heap L ∧ FrameEnd U o U' L ({ frames := 1, cells := 0, slots := 0, locals := 15 } : Room).cells ({ frames := 1, cells := 0, slots := 0, locals := 15 } : Room).slots) := by
  refine MetFree.of_bodySF (plainFor_of_name own_pn1) hisR ?_
  intro p e s m args below meth c s₁ Bd hml0 hP hK
  obtain ⟨rfl, hZ, hh⟩ := hP
  have hx := Bd.exec
  have hby := Bd.bytes
  have hml : c.maxLocals = 1 := hml0
  have hown : s.vm.findClass "com/example/relay_queue/relayqueue/broker/ByteCounter" = some m.cls := findClass_of_methodNamed Bd.named
  have hnm := (name_of_methodNamed Bd.named Bd.method).1
  have X0 : Stand p l e ({ frames := 1, cells := 0, slots := 0, locals := 15 } : Room) s m #[(.ref bc)] below meth c s₁ [] 0 0 := Stand.of_body Bd
  have e0 : s₁.heap = h0 := by rw [← hh, Bd.state]; rfl
  have N0 := Fr.nil n0
  have pre0 : ∀ t, Steps p.tables e below (s₁.setTop (mkF m 0 #[.val (.ref bc)] [])) t → Steps p.tables e below (s₁.setTop (entryFrame m #[(.ref bc)] 1)) t := fun t k => castTop (own_ef_rm6 m bc) k
  have K76 : ∀ t, Steps p.tables e below (s₁.setTop (mkF m 1 #[.val (.ref bc)] [(.ref bc)])) t → Steps p.tables e below (s₁.setTop (entryFrame m #[(.ref bc)] 1)) t := fun t k => pre0 t (by
    show Steps p.tables e below (s₁.setTop (mkF m 0 #[.val (.ref bc)] [])) t
    refine XS.aloadN X0.here hx rfl (hb hby own_d6_0) rfl rfl ?_
    exact k)
  obtain ⟨T77, X77, e77, st77⟩ := getF X0 hx hZ hown (host := "") (Or.inl (hw _ (List.mem_of_getElem? (i := 36) rfl))) Via.refl e0 P_0 (g := (mkF m 1 #[.val (.ref bc)] [(.ref bc)])) rfl rfl (hb hby own_d6_1)
  have K78 : ∀ t, Steps p.tables e below (T77.setTop (mkF m 4 #[.val (.ref bc)] [(.long w)])) t → Steps p.tables e below (s₁.setTop (entryFrame m #[(.ref bc)] 1)) t := fun t k => K76 t (st77 _ k)
  have q79 := rng64 w
  have K80 : ∀ t, Steps p.tables e below (T77.setTop (mkF m 7 #[.val (.ref bc)] [(.long (2147483647 : Int64)), (.long w)])) t → Steps p.tables e below (s₁.setTop (entryFrame m #[(.ref bc)] 1)) t := fun t k => K78 t (by
    show Steps p.tables e below (T77.setTop (mkF m 4 #[.val (.ref bc)] [(.long w)])) t
    refine X77.ldc2Long hx hown (mvT hZ (hw _ (List.mem_of_getElem? (i := 43) rfl))) (g := (mkF m 4 #[.val (.ref bc)] [(.long w)])) rfl (hb hby own_d6_4) _ ?_
    exact k)
  have q81 := (by decide : (2147483647 : Int64).toInt = 2147483647)
  obtain ⟨_, _, ⟨T82, L82, kk82, nn82⟩, -, X82, ⟨Lc82, hQ82, l82, y82, z82⟩, st82⟩ := Jvm.LawKit.callS X77 hx (y := (⟨"java/lang/Math", "min", "(JJ)J"⟩ : MethodName)) hown (mvT hZ (hw _ (List.mem_of_getElem? (i := 44) rfl))) (mvT hZ (hw _ (List.mem_of_getElem? (i := 45) rfl))) (mvT hZ (hw _ (List.mem_of_getElem? (i := 46) rfl))) (mvT hZ (hw _ (List.mem_of_getElem? (i := 47) rfl))) (by decide) (backOf (W := 0) (rm7 l Z a0 hw [] w (2147483647 : Int64) h0 n0 Z0) hZ (hw _ (List.mem_of_getElem? (i := 47) rfl)) (hw _ (List.mem_of_getElem? (i := 46) rfl)) (by decide) (by decide)) (g := (mkF m 7 #[.val (.ref bc)] [(.long (2147483647 : Int64)), (.long w)])) rfl (by rw [hml]; rfl) (argsL := [(.long w), (.long (2147483647 : Int64))]) (rest := []) (lenOf own_pd1 rfl) rfl (by show 2 * 0 + _ ≤ _; exact Nat.le_of_eq rfl) (hb hby own_d6_7) (fun _ _ => ⟨rfl, e77, (by decide : 0 + 0 ≤ _), (by decide : 0 + 0 ≤ _)⟩)
  dsimp only [Pt.U, Pt.locs, Pt.cells, Pt.slots] at X82 l82 y82 z82 st82 hQ82
  subst l82 y82 z82
  obtain ⟨r_82, rfl, Sp82, Nq82, eh82⟩ := hQ82
  have N83 := Fr.app N0 Nq82
  have K84 : ∀ t, Steps p.tables e below (T82.setTop (mkF m 10 #[.val (.ref bc)] [(.long r_82)])) t → Steps p.tables e below (s₁.setTop (entryFrame m #[(.ref bc)] 1)) t := fun t k => K80 t (st82 _ k)
  have K85 : ∀ t, Steps p.tables e below (T82.setTop (mkF m 11 #[.val (.ref bc)] [(.int (r_82.toInt32))])) t → Steps p.tables e below (s₁.setTop (entryFrame m #[(.ref bc)] 1)) t := fun t k => K84 t (by
    show Steps p.tables e below (T82.setTop (mkF m 10 #[.val (.ref bc)] [(.long r_82)])) t
    refine XS.l2i X82.here hx rfl (hb hby own_d6_10) rfl ?_
    exact k)
  obtain ⟨fs, hr, hrun, hended, hW, hsame⟩ := X82.leave (v := some (.int (r_82.toInt32))) (fun h => by rw [Bd.returns] at h; cases h)
  refine ⟨_, _, K85 _ ?_, hrun, hended, _, _, rfl, ?_, ⟨_, rfl⟩, hW, hsame.mono (by decide) (by decide)⟩
  · exact retI X82 hx Bd.returns (hb hby own_d6_11) hr
  · show Q_rm6 Z bc w h0 n0 _ T82.heap _
    have q86 := rng64 r_82
    have q87 := c_l2i r_82
    have q88 := rng32 (r_82.toInt32)
    rw [eh82]
    exact ⟨(r_82.toInt32), rfl, (by omega), N83, rfl⟩
theorem own_d8_0 : decode method_2_code 0 = .ok (.lload_n 0, 1) := by decide +kernel
theorem own_d8_1 : decode method_2_code 1 = .ok (.ldc2_w 9, 3) := by decide +kernel
theorem own_d8_4 : decode method_2_code 4 = .ok (.lcmp, 1) := by decide +kernel
theorem own_d8_5 : decode method_2_code 5 = .ok (.ifCond .le 6, 3) := by decide +kernel
theorem own_d8_8 : decode method_2_code 8 = .ok (.ldc 11, 2) := by decide +kernel
theorem own_d8_10 : decode method_2_code 10 = .ok (.ireturn, 1) := by decide +kernel
theorem own_d8_11 : decode method_2_code 11 = .ok (.lload_n 0, 1) := by decide +kernel
theorem own_d8_12 : decode method_2_code 12 = .ok (.l2i, 1) := by decide +kernel
theorem own_d8_13 : decode method_2_code 13 = .ok (.ireturn, 1) := by decide +kernel
theorem own_pn2 : plainName "com/example/relay_queue/relayqueue/broker/ByteCounterWritePinLaw" = true := by first | (simp [plainName, overriddenIn]; done) | decide +kernel
def Q_rm8 (Z : State) (w : Int64) (h0 : Heap) (n0 : Nat) (v : Option Value) (h : Heap) (L : List Loc) : Prop := ∃ (r : Int32), v = some (.int r) ∧ ((w.toInt ≤ 2147483647 → r.toInt = w.toInt) ∧ (2147483647 < w.toInt → r.toInt = 2147483647)) ∧ Fr n0 L ∧ h = h0
theorem own_ef_rm8 (m : MethodId) (w : Int64) : entryFrame m #[(.long w)] 2 = mkF m 0 #[.val (.long w), .second] [] := by first | (simp [entryFrame, mkF, argsToLocals, Value.category]; done) | rfl
set_option maxRecDepth 65536 in
set_option maxHeartbeats 40000000 in
theorem rm8 (l : Launch) (Z : State) (a0 : Array Value) (hw : ∀ d ∈ tables_1, d.before a0 Z = true) (ws : List Jvm.Cond) (w : Int64) (h0 : Heap) (n0 : Nat) (Z0 : n0 ≤ h0.size) (P_0 : 0 ≤ w.toInt) :
    MetFree l (⟨"com/example/relay_queue/relayqueue/broker/ByteCounterWritePinLaw", "ref", "(J)I"⟩ : MethodName) (head1 (Jvm.Cond.code (⟨"com/example/relay_queue/relayqueue/broker/ByteCounterWritePinLaw", "ref", "(J)I"⟩ : MethodName) method_2_code 2 (some .int) :: ws) ({ frames := 0, cells := 0, slots := 0, locals := 0 } : Room)) (fun a U => a = #[(.long w)] ∧ Z.Warmed39 U.vm ∧ U.heap = h0) (fun _ _ _ _ _ => True) (fun _ U o U' => ∃ v L, o = .returned v ∧ Q_rm8 Z w h0 n0 v U'.heap L ∧ FrameEnd U o U' L ({ frames := 0, cells := 0, slots := 0, locals := 0 } : Room).cells ({ frames := 0, cells := 0, slots := 0, locals := 0 } : Room).slots) := by
  refine MetFree.of_bodySF (plainFor_of_name own_pn2) hisR ?_
  intro p e s m args below meth c s₁ Bd hml0 hP hK
  obtain ⟨rfl, hZ, hh⟩ := hP
  have hx := Bd.exec
  have hby := Bd.bytes
  have hml : c.maxLocals = 2 := hml0
  have hown : s.vm.findClass "com/example/relay_queue/relayqueue/broker/ByteCounterWritePinLaw" = some m.cls := findClass_of_methodNamed Bd.named
  have hnm := (name_of_methodNamed Bd.named Bd.method).1
  have X0 : Stand p l e ({ frames := 0, cells := 0, slots := 0, locals := 0 } : Room) s m #[(.long w)] below meth c s₁ [] 0 0 := Stand.of_body Bd
  have e0 : s₁.heap = h0 := by rw [← hh, Bd.state]; rfl
  have N0 := Fr.nil n0
  have pre0 : ∀ t, Steps p.tables e below (s₁.setTop (mkF m 0 #[.val (.long w), .second] [])) t → Steps p.tables e below (s₁.setTop (entryFrame m #[(.long w)] 2)) t := fun t k => castTop (own_ef_rm8 m w) k
  have K90 : ∀ t, Steps p.tables e below (s₁.setTop (mkF m 5 #[.val (.long w), .second] [(.int (lcmpW w (2147483647 : Int64)))])) t → Steps p.tables e below (s₁.setTop (entryFrame m #[(.long w)] 2)) t := fun t k => pre0 t (by
    show Steps p.tables e below (s₁.setTop (mkF m 0 #[.val (.long w), .second] [])) t
    refine XS.lloadN X0.here hx rfl (hb hby own_d8_0) rfl ?_
    show Steps p.tables e below (s₁.setTop (mkF m 1 #[.val (.long w), .second] [(.long w)])) t
    refine X0.ldc2Long hx hown (mvT hZ (hw _ (List.mem_of_getElem? (i := 51) rfl))) (g := (mkF m 1 #[.val (.long w), .second] [(.long w)])) rfl (hb hby own_d8_1) _ ?_
    show Steps p.tables e below (s₁.setTop (mkF m 4 #[.val (.long w), .second] [(.long (2147483647 : Int64)), (.long w)])) t
    refine XS.lcmp X0.here hx rfl (hb hby own_d8_4) rfl ?_
    exact k)
  have q91 := (by decide : (0 : Int32).toInt = 0)
  have q92 := rng64 w
  have q93 := (by decide : (2147483647 : Int64).toInt = 2147483647)
  have q94 := c_lcmp w (2147483647 : Int64)
  by_cases hc89 : (0 : Int32) < (lcmpW w (2147483647 : Int64))
  · have q95 : (0 : Int32).toInt < (lcmpW w (2147483647 : Int64)).toInt := Int32.lt_iff_toInt_lt.mp hc89
    have K96 : ∀ t, Steps p.tables e below (s₁.setTop (mkF m 10 #[.val (.long w), .second] [(.int (2147483647 : Int32))])) t → Steps p.tables e below (s₁.setTop (entryFrame m #[(.long w)] 2)) t := fun t k => K90 t (by
      show Steps p.tables e below (s₁.setTop (mkF m 5 #[.val (.long w), .second] [(.int (lcmpW w (2147483647 : Int64)))])) t
      refine XS.ifNo X0.here hx rfl (hb hby own_d8_5) rfl ((if0 _ _).trans (tlt hc89).2.2.2) ?_
      show Steps p.tables e below (s₁.setTop (mkF m 8 #[.val (.long w), .second] [])) t
      refine X0.ldcInt hx hown (mvT hZ (hw _ (List.mem_of_getElem? (i := 0) rfl))) (g := (mkF m 8 #[.val (.long w), .second] [])) rfl (hb hby own_d8_8) _ ?_
      exact k)
    obtain ⟨fs, hr, hrun, hended, hW, hsame⟩ := X0.leave (v := some (.int (2147483647 : Int32))) (fun h => by rw [Bd.returns] at h; cases h)
    refine ⟨_, _, K96 _ ?_, hrun, hended, _, _, rfl, ?_, ⟨_, rfl⟩, hW, hsame.mono (by decide) (by decide)⟩
    · exact retI X0 hx Bd.returns (hb hby own_d8_10) hr
    · show Q_rm8 Z w h0 n0 _ s₁.heap _
      have q97 := (by decide : (2147483647 : Int32).toInt = 2147483647)
      rw [e0]
      exact ⟨(2147483647 : Int32), rfl, (by omega), N0, rfl⟩
  · have q98 : ¬ (0 : Int32).toInt < (lcmpW w (2147483647 : Int64)).toInt := fun q => hc89 (Int32.lt_iff_toInt_lt.mpr q)
    have K99 : ∀ t, Steps p.tables e below (s₁.setTop (mkF m 13 #[.val (.long w), .second] [(.int (w.toInt32))])) t → Steps p.tables e below (s₁.setTop (entryFrame m #[(.long w)] 2)) t := fun t k => K90 t (by
      show Steps p.tables e below (s₁.setTop (mkF m 5 #[.val (.long w), .second] [(.int (lcmpW w (2147483647 : Int64)))])) t
      refine XS.ifYes X0.here hx rfl (pc0 := 5) (pc' := 11) rfl (hb hby own_d8_5) rfl ((if0 _ _).trans (flt hc89).2.2.2) (by decide) (by decide) ?_
      show Steps p.tables e below (s₁.setTop (mkF m 11 #[.val (.long w), .second] [])) t
      refine XS.lloadN X0.here hx rfl (hb hby own_d8_11) rfl ?_
      show Steps p.tables e below (s₁.setTop (mkF m 12 #[.val (.long w), .second] [(.long w)])) t
      refine XS.l2i X0.here hx rfl (hb hby own_d8_12) rfl ?_
      exact k)
    obtain ⟨fs, hr, hrun, hended, hW, hsame⟩ := X0.leave (v := some (.int (w.toInt32))) (fun h => by rw [Bd.returns] at h; cases h)
    refine ⟨_, _, K99 _ ?_, hrun, hended, _, _, rfl, ?_, ⟨_, rfl⟩, hW, hsame.mono (by decide) (by decide)⟩
    · exact retI X0 hx Bd.returns (hb hby own_d8_13) hr
    · show Q_rm8 Z w h0 n0 _ s₁.heap _
      have q100 := c_l2i w
      have q101 := rng32 (w.toInt32)
      rw [e0]
      exact ⟨(w.toInt32), rfl, (by omega), N0, rfl⟩
theorem own_d1_0 : decode method_3_code 0 = .ok (.iload_n 0, 1) := by decide +kernel
theorem own_d1_1 : decode method_3_code 1 = .ok (.newarray .byte, 2) := by decide +kernel
theorem own_d1_3 : decode method_3_code 3 = .ok (.astore_n 3, 1) := by decide +kernel
theorem own_d1_4 : decode method_3_code 4 = .ok (.iload_n 0, 1) := by decide +kernel
theorem own_d1_5 : decode method_3_code 5 = .ok (.ifCond .le 9, 3) := by decide +kernel
theorem own_d1_8 : decode method_3_code 8 = .ok (.aload_n 3, 1) := by decide +kernel
theorem own_d1_9 : decode method_3_code 9 = .ok (.iconst 0, 1) := by decide +kernel
theorem own_d1_10 : decode method_3_code 10 = .ok (.lload_n 1, 1) := by decide +kernel
theorem own_d1_11 : decode method_3_code 11 = .ok (.l2i, 1) := by decide +kernel
theorem own_d1_12 : decode method_3_code 12 = .ok (.i2b, 1) := by decide +kernel
theorem own_d1_13 : decode method_3_code 13 = .ok (.bastore, 1) := by decide +kernel
theorem own_d1_14 : decode method_3_code 14 = .ok (.iload_n 0, 1) := by decide +kernel
theorem own_d1_15 : decode method_3_code 15 = .ok (.iconst 1, 1) := by decide +kernel
theorem own_d1_16 : decode method_3_code 16 = .ok (.if_icmp .le 12, 3) := by decide +kernel
theorem own_d1_19 : decode method_3_code 19 = .ok (.aload_n 3, 1) := by decide +kernel
theorem own_d1_20 : decode method_3_code 20 = .ok (.iconst 1, 1) := by decide +kernel
theorem own_d1_21 : decode method_3_code 21 = .ok (.lload_n 1, 1) := by decide +kernel
theorem own_d1_22 : decode method_3_code 22 = .ok (.bipush 8, 2) := by decide +kernel
theorem own_d1_24 : decode method_3_code 24 = .ok (.lushr, 1) := by decide +kernel
theorem own_d1_25 : decode method_3_code 25 = .ok (.l2i, 1) := by decide +kernel
theorem own_d1_26 : decode method_3_code 26 = .ok (.i2b, 1) := by decide +kernel
theorem own_d1_27 : decode method_3_code 27 = .ok (.bastore, 1) := by decide +kernel
theorem own_d1_28 : decode method_3_code 28 = .ok (.iload_n 0, 1) := by decide +kernel
theorem own_d1_29 : decode method_3_code 29 = .ok (.iconst 2, 1) := by decide +kernel
theorem own_d1_30 : decode method_3_code 30 = .ok (.if_icmp .le 12, 3) := by decide +kernel
theorem own_d1_33 : decode method_3_code 33 = .ok (.aload_n 3, 1) := by decide +kernel
theorem own_d1_34 : decode method_3_code 34 = .ok (.iconst 2, 1) := by decide +kernel
theorem own_d1_35 : decode method_3_code 35 = .ok (.lload_n 1, 1) := by decide +kernel
theorem own_d1_36 : decode method_3_code 36 = .ok (.bipush 16, 2) := by decide +kernel
theorem own_d1_38 : decode method_3_code 38 = .ok (.lushr, 1) := by decide +kernel
theorem own_d1_39 : decode method_3_code 39 = .ok (.l2i, 1) := by decide +kernel
theorem own_d1_40 : decode method_3_code 40 = .ok (.i2b, 1) := by decide +kernel
theorem own_d1_41 : decode method_3_code 41 = .ok (.bastore, 1) := by decide +kernel
theorem own_d1_42 : decode method_3_code 42 = .ok (.iload_n 0, 1) := by decide +kernel
theorem own_d1_43 : decode method_3_code 43 = .ok (.iconst 3, 1) := by decide +kernel
theorem own_d1_44 : decode method_3_code 44 = .ok (.if_icmp .le 12, 3) := by decide +kernel
theorem own_d1_47 : decode method_3_code 47 = .ok (.aload_n 3, 1) := by decide +kernel
theorem own_d1_48 : decode method_3_code 48 = .ok (.iconst 3, 1) := by decide +kernel
theorem own_d1_49 : decode method_3_code 49 = .ok (.lload_n 1, 1) := by decide +kernel
theorem own_d1_50 : decode method_3_code 50 = .ok (.bipush 24, 2) := by decide +kernel
theorem own_d1_52 : decode method_3_code 52 = .ok (.lushr, 1) := by decide +kernel
theorem own_d1_53 : decode method_3_code 53 = .ok (.l2i, 1) := by decide +kernel
theorem own_d1_54 : decode method_3_code 54 = .ok (.i2b, 1) := by decide +kernel
theorem own_d1_55 : decode method_3_code 55 = .ok (.bastore, 1) := by decide +kernel
theorem own_d1_56 : decode method_3_code 56 = .ok (.iload_n 0, 1) := by decide +kernel
theorem own_d1_57 : decode method_3_code 57 = .ok (.iconst 4, 1) := by decide +kernel
theorem own_d1_58 : decode method_3_code 58 = .ok (.if_icmp .le 12, 3) := by decide +kernel
theorem own_d1_61 : decode method_3_code 61 = .ok (.aload_n 3, 1) := by decide +kernel
theorem own_d1_62 : decode method_3_code 62 = .ok (.iconst 4, 1) := by decide +kernel
theorem own_d1_63 : decode method_3_code 63 = .ok (.lload_n 1, 1) := by decide +kernel
theorem own_d1_64 : decode method_3_code 64 = .ok (.bipush 32, 2) := by decide +kernel
theorem own_d1_66 : decode method_3_code 66 = .ok (.lushr, 1) := by decide +kernel
theorem own_d1_67 : decode method_3_code 67 = .ok (.l2i, 1) := by decide +kernel
theorem own_d1_68 : decode method_3_code 68 = .ok (.i2b, 1) := by decide +kernel
theorem own_d1_69 : decode method_3_code 69 = .ok (.bastore, 1) := by decide +kernel
theorem own_d1_70 : decode method_3_code 70 = .ok (.iload_n 0, 1) := by decide +kernel
theorem own_d1_71 : decode method_3_code 71 = .ok (.iconst 5, 1) := by decide +kernel
theorem own_d1_72 : decode method_3_code 72 = .ok (.if_icmp .le 12, 3) := by decide +kernel
theorem own_d1_75 : decode method_3_code 75 = .ok (.aload_n 3, 1) := by decide +kernel
theorem own_d1_76 : decode method_3_code 76 = .ok (.iconst 5, 1) := by decide +kernel
theorem own_d1_77 : decode method_3_code 77 = .ok (.lload_n 1, 1) := by decide +kernel
theorem own_d1_78 : decode method_3_code 78 = .ok (.bipush 40, 2) := by decide +kernel
theorem own_d1_80 : decode method_3_code 80 = .ok (.lushr, 1) := by decide +kernel
theorem own_d1_81 : decode method_3_code 81 = .ok (.l2i, 1) := by decide +kernel
theorem own_d1_82 : decode method_3_code 82 = .ok (.i2b, 1) := by decide +kernel
theorem own_d1_83 : decode method_3_code 83 = .ok (.bastore, 1) := by decide +kernel
theorem own_d1_84 : decode method_3_code 84 = .ok (.iload_n 0, 1) := by decide +kernel
theorem own_d1_85 : decode method_3_code 85 = .ok (.bipush 6, 2) := by decide +kernel
theorem own_d1_87 : decode method_3_code 87 = .ok (.if_icmp .le 13, 3) := by decide +kernel
theorem own_d1_90 : decode method_3_code 90 = .ok (.aload_n 3, 1) := by decide +kernel
theorem own_d1_91 : decode method_3_code 91 = .ok (.bipush 6, 2) := by decide +kernel
theorem own_d1_93 : decode method_3_code 93 = .ok (.lload_n 1, 1) := by decide +kernel
theorem own_d1_94 : decode method_3_code 94 = .ok (.bipush 48, 2) := by decide +kernel
theorem own_d1_96 : decode method_3_code 96 = .ok (.lushr, 1) := by decide +kernel
theorem own_d1_97 : decode method_3_code 97 = .ok (.l2i, 1) := by decide +kernel
theorem own_d1_98 : decode method_3_code 98 = .ok (.i2b, 1) := by decide +kernel
theorem own_d1_99 : decode method_3_code 99 = .ok (.bastore, 1) := by decide +kernel
theorem own_d1_100 : decode method_3_code 100 = .ok (.iload_n 0, 1) := by decide +kernel
theorem own_d1_101 : decode method_3_code 101 = .ok (.bipush 7, 2) := by decide +kernel
theorem own_d1_103 : decode method_3_code 103 = .ok (.if_icmp .le 13, 3) := by decide +kernel
theorem own_d1_106 : decode method_3_code 106 = .ok (.aload_n 3, 1) := by decide +kernel
theorem own_d1_107 : decode method_3_code 107 = .ok (.bipush 7, 2) := by decide +kernel
theorem own_d1_109 : decode method_3_code 109 = .ok (.lload_n 1, 1) := by decide +kernel
theorem own_d1_110 : decode method_3_code 110 = .ok (.bipush 56, 2) := by decide +kernel
theorem own_d1_112 : decode method_3_code 112 = .ok (.lushr, 1) := by decide +kernel
theorem own_d1_113 : decode method_3_code 113 = .ok (.l2i, 1) := by decide +kernel
theorem own_d1_114 : decode method_3_code 114 = .ok (.i2b, 1) := by decide +kernel
theorem own_d1_115 : decode method_3_code 115 = .ok (.bastore, 1) := by decide +kernel
theorem own_d1_116 : decode method_3_code 116 = .ok (.aload_n 3, 1) := by decide +kernel
theorem own_d1_117 : decode method_3_code 117 = .ok (.areturn, 1) := by decide +kernel
def Q_rm1 (Z : State) (pn : Int32) (ud : Int64) (h0 : Heap) (n0 : Nat) (v : Option Value) (h : Heap) (L : List Loc) : Prop := ∃ (pa : Addr), v = some (.ref pa) ∧ (True) ∧ Fr n0 L ∧ Keep h0 h [] ∧ h0.size ≤ pa ∧ own_Arl Z h pa .byte pn
theorem own_ef_rm1 (m : MethodId) (pn : Int32) (ud : Int64) : entryFrame m #[(.int pn), (.long ud)] 4 = mkF m 0 #[.val (.int pn), .val (.long ud), .second, .unset] [] := by first | (simp [entryFrame, mkF, argsToLocals, Value.category]; done) | rfl
set_option maxRecDepth 65536 in
set_option maxHeartbeats 40000000 in
theorem rm1 (l : Launch) (Z : State) (a0 : Array Value) (hw : ∀ d ∈ tables_1, d.before a0 Z = true) (ws : List Jvm.Cond) (pn : Int32) (ud : Int64) (h0 : Heap) (n0 : Nat) (Z0 : n0 ≤ h0.size) (P_0 : 0 ≤ pn.toInt ∧ pn.toInt ≤ 8) :
    MetFree l (⟨"com/example/relay_queue/relayqueue/broker/ByteCounterWritePinLaw", "bytes", "(IJ)[B"⟩ : MethodName) (head1 (Jvm.Cond.code (⟨"com/example/relay_queue/relayqueue/broker/ByteCounterWritePinLaw", "bytes", "(IJ)[B"⟩ : MethodName) method_3_code 4 (some (.array .byte)) :: ws) ({ frames := 0, cells := 1, slots := 8, locals := 0 } : Room)) (fun a U => a = #[(.int pn), (.long ud)] ∧ Z.Warmed39 U.vm ∧ U.heap = h0) (fun _ _ _ _ _ => True) (fun _ U o U' => ∃ v L, o = .returned v ∧ Q_rm1 Z pn ud h0 n0 v U'.heap L ∧ FrameEnd U o U' L ({ frames := 0, cells := 1, slots := 8, locals := 0 } : Room).cells ({ frames := 0, cells := 1, slots := 8, locals := 0 } : Room).slots) := by
  refine MetFree.of_bodySF (plainFor_of_name own_pn2) hisR ?_
  intro p e s m args below meth c s₁ Bd hml0 hP hK
  obtain ⟨rfl, hZ, hh⟩ := hP
  have hx := Bd.exec
  have hby := Bd.bytes
  have hml : c.maxLocals = 4 := hml0
  have hown : s.vm.findClass "com/example/relay_queue/relayqueue/broker/ByteCounterWritePinLaw" = some m.cls := findClass_of_methodNamed Bd.named
  have hnm := (name_of_methodNamed Bd.named Bd.method).1
  have X0 : Stand p l e ({ frames := 0, cells := 1, slots := 8, locals := 0 } : Room) s m #[(.int pn), (.long ud)] below meth c s₁ [] 0 0 := Stand.of_body Bd
  have e0 : s₁.heap = h0 := by rw [← hh, Bd.state]; rfl
  have N0 := Fr.nil n0
  have pre0 : ∀ t, Steps p.tables e below (s₁.setTop (mkF m 0 #[.val (.int pn), .val (.long ud), .second, .unset] [])) t → Steps p.tables e below (s₁.setTop (entryFrame m #[(.int pn), (.long ud)] 4)) t := fun t k => castTop (own_ef_rm1 m pn ud) k
  have q102 := rng32 pn
  have q103 : ¬ pn < 0 := by rw [Int32.lt_iff_toInt_lt]; have q0 : (0 : Int32).toInt = 0 := rfl; omega
  have q104 : pn.toNatClampNeg ≤ 8 := by have q0 := nat_of q103; omega
  have K105 : ∀ t, Steps p.tables e below (s₁.setTop (mkF m 1 #[.val (.int pn), .val (.long ud), .second, .unset] [(.int pn)])) t → Steps p.tables e below (s₁.setTop (entryFrame m #[(.int pn), (.long ud)] 4)) t := fun t k => pre0 t (by
    show Steps p.tables e below (s₁.setTop (mkF m 0 #[.val (.int pn), .val (.long ud), .second, .unset] [])) t
    refine XS.iloadN X0.here hx rfl (hb hby own_d1_0) rfl ?_
    exact k)
  obtain ⟨T106, h106, k106, X106, e106, E106, A106, st106⟩ := newP X0 hx hZ (hw _ (List.mem_of_getElem? (i := 6) rfl)) e0 (g := (mkF m 1 #[.val (.int pn), .val (.long ud), .second, .unset] [(.int pn)])) rfl (hb hby own_d1_1) rfl q103 (cap := 8) q104 (by decide) (by decide) (by decide)
  obtain ⟨b106, g106⟩ : ∃ z, z = h0.size := ⟨_, rfl⟩
  rw [← g106] at A106 st106
  have gb107 : n0 ≤ b106 := Nat.le_trans Z0 (Nat.le_of_eq g106.symm)
  have sb108 : h0.size ≤ b106 := Nat.le_trans (Keep.refl h0 []).1 (Nat.le_of_eq g106.symm)
  have Z109 : n0 ≤ h106.size := Nat.le_trans Z0 E106.1
  have Kp110 : Keep h0 h106 [] := Keep.ext (Keep.refl h0 []) E106
  have V111 : own_Arl Z h106 b106 .byte pn := own_Arl.new A106 q103
  have K112 : ∀ t, Steps p.tables e below (T106.setTop (mkF m 3 #[.val (.int pn), .val (.long ud), .second, .unset] [(.ref b106)])) t → Steps p.tables e below (s₁.setTop (entryFrame m #[(.int pn), (.long ud)] 4)) t := fun t k => K105 t (st106 _ k)
  have K114 : ∀ t, Steps p.tables e below (T106.setTop (mkF m 5 #[.val (.int pn), .val (.long ud), .second, .val (.ref b106)] [(.int pn)])) t → Steps p.tables e below (s₁.setTop (entryFrame m #[(.int pn), (.long ud)] 4)) t := fun t k => K112 t (by
    show Steps p.tables e below (T106.setTop (mkF m 3 #[.val (.int pn), .val (.long ud), .second, .unset] [(.ref b106)])) t
    refine XS.astoreN X106.here hx rfl (hb hby own_d1_3) rfl rfl (l' := #[.val (.int pn), .val (.long ud), .second, .val (.ref b106)]) rfl ?_
    show Steps p.tables e below (T106.setTop (mkF m 4 #[.val (.int pn), .val (.long ud), .second, .val (.ref b106)] [])) t
    refine XS.iloadN X106.here hx rfl (hb hby own_d1_4) rfl ?_
    exact k)
  have q115 := (by decide : (0 : Int32).toInt = 0)
  by_cases hc113 : (0 : Int32) < pn
  · have q116 : (0 : Int32).toInt < pn.toInt := Int32.lt_iff_toInt_lt.mp hc113
    have K117 : ∀ t, Steps p.tables e below (T106.setTop (mkF m 13 #[.val (.int pn), .val (.long ud), .second, .val (.ref b106)] [(.int ((ud.toInt32).toInt8.toInt32)), (.int (0 : Int32)), (.ref b106)])) t → Steps p.tables e below (s₁.setTop (entryFrame m #[(.int pn), (.long ud)] 4)) t := fun t k => K114 t (by
      show Steps p.tables e below (T106.setTop (mkF m 5 #[.val (.int pn), .val (.long ud), .second, .val (.ref b106)] [(.int pn)])) t
      refine XS.ifNo X106.here hx rfl (hb hby own_d1_5) rfl ((if0 _ _).trans (tlt hc113).2.2.2) ?_
      show Steps p.tables e below (T106.setTop (mkF m 8 #[.val (.int pn), .val (.long ud), .second, .val (.ref b106)] [])) t
      refine XS.aloadN X106.here hx rfl (hb hby own_d1_8) rfl rfl ?_
      show Steps p.tables e below (T106.setTop (mkF m 9 #[.val (.int pn), .val (.long ud), .second, .val (.ref b106)] [(.ref b106)])) t
      refine XS.iconst X106.here hx rfl (hb hby own_d1_9) ?_
      show Steps p.tables e below (T106.setTop (mkF m 10 #[.val (.int pn), .val (.long ud), .second, .val (.ref b106)] [(.int (0 : Int32)), (.ref b106)])) t
      refine XS.lloadN X106.here hx rfl (hb hby own_d1_10) rfl ?_
      show Steps p.tables e below (T106.setTop (mkF m 11 #[.val (.int pn), .val (.long ud), .second, .val (.ref b106)] [(.long ud), (.int (0 : Int32)), (.ref b106)])) t
      refine XS.l2i X106.here hx rfl (hb hby own_d1_11) rfl ?_
      show Steps p.tables e below (T106.setTop (mkF m 12 #[.val (.int pn), .val (.long ud), .second, .val (.ref b106)] [(.int (ud.toInt32)), (.int (0 : Int32)), (.ref b106)])) t
      refine XS.i2b X106.here hx rfl (hb hby own_d1_12) rfl ?_
      exact k)
    have q119 : ¬ (0 : Int32) < 0 ∧ (0 : Int32) < pn := by rw [Int32.lt_iff_toInt_lt, Int32.lt_iff_toInt_lt]; have q0 : (0 : Int32).toInt = 0 := rfl; omega
    obtain ⟨cl118, Ar118, S118, N118⟩ := id V111
    have hin118 : ¬ ((0 : Int32) < 0 ∨ cl118.slots.size ≤ ((0 : Int32)).toNatClampNeg) := inb_of S118 q119
    obtain ⟨T118, h118, X118, e118, W118, st118⟩ := stB X106 hx hZ e106 Ar118 (j := (0 : Int32)) hin118 (g := (mkF m 13 #[.val (.int pn), .val (.long ud), .second, .val (.ref b106)] [(.int ((ud.toInt32).toInt8.toInt32)), (.int (0 : Int32)), (.ref b106)])) rfl rfl (hb hby own_d1_13)
    have V120 : own_Arl Z h118 b106 .byte pn := own_Arl.same Ar118 S118 N118 W118
    have Kp121 : Keep h0 h118 [] := Keep.wr Kp110 W118 (Or.inr sb108)
    have Z122 : n0 ≤ h118.size := Nat.le_trans Z109 (Keep.of_wr W118).1
    have N123 := Fr.snoc X118 N0 gb107
    have K124 : ∀ t, Steps p.tables e below (T118.setTop (mkF m 14 #[.val (.int pn), .val (.long ud), .second, .val (.ref b106)] [])) t → Steps p.tables e below (s₁.setTop (entryFrame m #[(.int pn), (.long ud)] 4)) t := fun t k => K117 t (st118 _ k)
    have K126 : ∀ t, Steps p.tables e below (T118.setTop (mkF m 16 #[.val (.int pn), .val (.long ud), .second, .val (.ref b106)] [(.int (1 : Int32)), (.int pn)])) t → Steps p.tables e below (s₁.setTop (entryFrame m #[(.int pn), (.long ud)] 4)) t := fun t k => K124 t (by
      show Steps p.tables e below (T118.setTop (mkF m 14 #[.val (.int pn), .val (.long ud), .second, .val (.ref b106)] [])) t
      refine XS.iloadN X118.here hx rfl (hb hby own_d1_14) rfl ?_
      show Steps p.tables e below (T118.setTop (mkF m 15 #[.val (.int pn), .val (.long ud), .second, .val (.ref b106)] [(.int pn)])) t
      refine XS.iconst X118.here hx rfl (hb hby own_d1_15) ?_
      exact k)
    have q127 := (by decide : (1 : Int32).toInt = 1)
    by_cases hc125 : (1 : Int32) < pn
    · have q128 : (1 : Int32).toInt < pn.toInt := Int32.lt_iff_toInt_lt.mp hc125
      have K129 : ∀ t, Steps p.tables e below (T118.setTop (mkF m 27 #[.val (.int pn), .val (.long ud), .second, .val (.ref b106)] [(.int ((((ud.toUInt64 >>> ((8 : Int32) &&& 0x3f).toInt64.toUInt64).toInt64).toInt32).toInt8.toInt32)), (.int (1 : Int32)), (.ref b106)])) t → Steps p.tables e below (s₁.setTop (entryFrame m #[(.int pn), (.long ud)] 4)) t := fun t k => K126 t (by
        show Steps p.tables e below (T118.setTop (mkF m 16 #[.val (.int pn), .val (.long ud), .second, .val (.ref b106)] [(.int (1 : Int32)), (.int pn)])) t
        refine XS.icmpNo X118.here hx rfl (hb hby own_d1_16) rfl (tlt hc125).2.2.2 ?_
        show Steps p.tables e below (T118.setTop (mkF m 19 #[.val (.int pn), .val (.long ud), .second, .val (.ref b106)] [])) t
        refine XS.aloadN X118.here hx rfl (hb hby own_d1_19) rfl rfl ?_
        show Steps p.tables e below (T118.setTop (mkF m 20 #[.val (.int pn), .val (.long ud), .second, .val (.ref b106)] [(.ref b106)])) t
        refine XS.iconst X118.here hx rfl (hb hby own_d1_20) ?_
        show Steps p.tables e below (T118.setTop (mkF m 21 #[.val (.int pn), .val (.long ud), .second, .val (.ref b106)] [(.int (1 : Int32)), (.ref b106)])) t
        refine XS.lloadN X118.here hx rfl (hb hby own_d1_21) rfl ?_
        show Steps p.tables e below (T118.setTop (mkF m 22 #[.val (.int pn), .val (.long ud), .second, .val (.ref b106)] [(.long ud), (.int (1 : Int32)), (.ref b106)])) t
        refine XS.bipush X118.here hx rfl (hb hby own_d1_22) ?_
        show Steps p.tables e below (T118.setTop (mkF m 24 #[.val (.int pn), .val (.long ud), .second, .val (.ref b106)] [(.int (8 : Int32)), (.long ud), (.int (1 : Int32)), (.ref b106)])) t
        refine XS.lushr X118.here hx rfl (hb hby own_d1_24) rfl ?_
        show Steps p.tables e below (T118.setTop (mkF m 25 #[.val (.int pn), .val (.long ud), .second, .val (.ref b106)] [(.long ((ud.toUInt64 >>> ((8 : Int32) &&& 0x3f).toInt64.toUInt64).toInt64)), (.int (1 : Int32)), (.ref b106)])) t
        refine XS.l2i X118.here hx rfl (hb hby own_d1_25) rfl ?_
        show Steps p.tables e below (T118.setTop (mkF m 26 #[.val (.int pn), .val (.long ud), .second, .val (.ref b106)] [(.int (((ud.toUInt64 >>> ((8 : Int32) &&& 0x3f).toInt64.toUInt64).toInt64).toInt32)), (.int (1 : Int32)), (.ref b106)])) t
        refine XS.i2b X118.here hx rfl (hb hby own_d1_26) rfl ?_
        exact k)
      have q131 : ¬ (1 : Int32) < 0 ∧ (1 : Int32) < pn := by rw [Int32.lt_iff_toInt_lt, Int32.lt_iff_toInt_lt]; have q0 : (0 : Int32).toInt = 0 := rfl; omega
      obtain ⟨cl130, Ar130, S130, N130⟩ := id V120
      have hin130 : ¬ ((1 : Int32) < 0 ∨ cl130.slots.size ≤ ((1 : Int32)).toNatClampNeg) := inb_of S130 q131
      obtain ⟨T130, h130, X130, e130, W130, st130⟩ := stB X118 hx hZ e118 Ar130 (j := (1 : Int32)) hin130 (g := (mkF m 27 #[.val (.int pn), .val (.long ud), .second, .val (.ref b106)] [(.int ((((ud.toUInt64 >>> ((8 : Int32) &&& 0x3f).toInt64.toUInt64).toInt64).toInt32).toInt8.toInt32)), (.int (1 : Int32)), (.ref b106)])) rfl rfl (hb hby own_d1_27)
      have V132 : own_Arl Z h130 b106 .byte pn := own_Arl.same Ar130 S130 N130 W130
      have Kp133 : Keep h0 h130 [] := Keep.wr Kp121 W130 (Or.inr sb108)
      have Z134 : n0 ≤ h130.size := Nat.le_trans Z122 (Keep.of_wr W130).1
      have N135 := Fr.snoc X130 N123 gb107
      have K136 : ∀ t, Steps p.tables e below (T130.setTop (mkF m 28 #[.val (.int pn), .val (.long ud), .second, .val (.ref b106)] [])) t → Steps p.tables e below (s₁.setTop (entryFrame m #[(.int pn), (.long ud)] 4)) t := fun t k => K129 t (st130 _ k)
      have K138 : ∀ t, Steps p.tables e below (T130.setTop (mkF m 30 #[.val (.int pn), .val (.long ud), .second, .val (.ref b106)] [(.int (2 : Int32)), (.int pn)])) t → Steps p.tables e below (s₁.setTop (entryFrame m #[(.int pn), (.long ud)] 4)) t := fun t k => K136 t (by
        show Steps p.tables e below (T130.setTop (mkF m 28 #[.val (.int pn), .val (.long ud), .second, .val (.ref b106)] [])) t
        refine XS.iloadN X130.here hx rfl (hb hby own_d1_28) rfl ?_
        show Steps p.tables e below (T130.setTop (mkF m 29 #[.val (.int pn), .val (.long ud), .second, .val (.ref b106)] [(.int pn)])) t
        refine XS.iconst X130.here hx rfl (hb hby own_d1_29) ?_
        exact k)
      have q139 := (by decide : (2 : Int32).toInt = 2)
      by_cases hc137 : (2 : Int32) < pn
      · have q140 : (2 : Int32).toInt < pn.toInt := Int32.lt_iff_toInt_lt.mp hc137
        have K141 : ∀ t, Steps p.tables e below (T130.setTop (mkF m 41 #[.val (.int pn), .val (.long ud), .second, .val (.ref b106)] [(.int ((((ud.toUInt64 >>> ((16 : Int32) &&& 0x3f).toInt64.toUInt64).toInt64).toInt32).toInt8.toInt32)), (.int (2 : Int32)), (.ref b106)])) t → Steps p.tables e below (s₁.setTop (entryFrame m #[(.int pn), (.long ud)] 4)) t := fun t k => K138 t (by
          show Steps p.tables e below (T130.setTop (mkF m 30 #[.val (.int pn), .val (.long ud), .second, .val (.ref b106)] [(.int (2 : Int32)), (.int pn)])) t
          refine XS.icmpNo X130.here hx rfl (hb hby own_d1_30) rfl (tlt hc137).2.2.2 ?_
          show Steps p.tables e below (T130.setTop (mkF m 33 #[.val (.int pn), .val (.long ud), .second, .val (.ref b106)] [])) t
          refine XS.aloadN X130.here hx rfl (hb hby own_d1_33) rfl rfl ?_
          show Steps p.tables e below (T130.setTop (mkF m 34 #[.val (.int pn), .val (.long ud), .second, .val (.ref b106)] [(.ref b106)])) t
          refine XS.iconst X130.here hx rfl (hb hby own_d1_34) ?_
          show Steps p.tables e below (T130.setTop (mkF m 35 #[.val (.int pn), .val (.long ud), .second, .val (.ref b106)] [(.int (2 : Int32)), (.ref b106)])) t
          refine XS.lloadN X130.here hx rfl (hb hby own_d1_35) rfl ?_
          show Steps p.tables e below (T130.setTop (mkF m 36 #[.val (.int pn), .val (.long ud), .second, .val (.ref b106)] [(.long ud), (.int (2 : Int32)), (.ref b106)])) t
          refine XS.bipush X130.here hx rfl (hb hby own_d1_36) ?_
          show Steps p.tables e below (T130.setTop (mkF m 38 #[.val (.int pn), .val (.long ud), .second, .val (.ref b106)] [(.int (16 : Int32)), (.long ud), (.int (2 : Int32)), (.ref b106)])) t
          refine XS.lushr X130.here hx rfl (hb hby own_d1_38) rfl ?_
          show Steps p.tables e below (T130.setTop (mkF m 39 #[.val (.int pn), .val (.long ud), .second, .val (.ref b106)] [(.long ((ud.toUInt64 >>> ((16 : Int32) &&& 0x3f).toInt64.toUInt64).toInt64)), (.int (2 : Int32)), (.ref b106)])) t
          refine XS.l2i X130.here hx rfl (hb hby own_d1_39) rfl ?_
          show Steps p.tables e below (T130.setTop (mkF m 40 #[.val (.int pn), .val (.long ud), .second, .val (.ref b106)] [(.int (((ud.toUInt64 >>> ((16 : Int32) &&& 0x3f).toInt64.toUInt64).toInt64).toInt32)), (.int (2 : Int32)), (.ref b106)])) t
          refine XS.i2b X130.here hx rfl (hb hby own_d1_40) rfl ?_
          exact k)
        have q143 : ¬ (2 : Int32) < 0 ∧ (2 : Int32) < pn := by rw [Int32.lt_iff_toInt_lt, Int32.lt_iff_toInt_lt]; have q0 : (0 : Int32).toInt = 0 := rfl; omega
        obtain ⟨cl142, Ar142, S142, N142⟩ := id V132
        have hin142 : ¬ ((2 : Int32) < 0 ∨ cl142.slots.size ≤ ((2 : Int32)).toNatClampNeg) := inb_of S142 q143
        obtain ⟨T142, h142, X142, e142, W142, st142⟩ := stB X130 hx hZ e130 Ar142 (j := (2 : Int32)) hin142 (g := (mkF m 41 #[.val (.int pn), .val (.long ud), .second, .val (.ref b106)] [(.int ((((ud.toUInt64 >>> ((16 : Int32) &&& 0x3f).toInt64.toUInt64).toInt64).toInt32).toInt8.toInt32)), (.int (2 : Int32)), (.ref b106)])) rfl rfl (hb hby own_d1_41)
        have V144 : own_Arl Z h142 b106 .byte pn := own_Arl.same Ar142 S142 N142 W142
        have Kp145 : Keep h0 h142 [] := Keep.wr Kp133 W142 (Or.inr sb108)
        have Z146 : n0 ≤ h142.size := Nat.le_trans Z134 (Keep.of_wr W142).1
        have N147 := Fr.snoc X142 N135 gb107
        have K148 : ∀ t, Steps p.tables e below (T142.setTop (mkF m 42 #[.val (.int pn), .val (.long ud), .second, .val (.ref b106)] [])) t → Steps p.tables e below (s₁.setTop (entryFrame m #[(.int pn), (.long ud)] 4)) t := fun t k => K141 t (st142 _ k)
        have K150 : ∀ t, Steps p.tables e below (T142.setTop (mkF m 44 #[.val (.int pn), .val (.long ud), .second, .val (.ref b106)] [(.int (3 : Int32)), (.int pn)])) t → Steps p.tables e below (s₁.setTop (entryFrame m #[(.int pn), (.long ud)] 4)) t := fun t k => K148 t (by
          show Steps p.tables e below (T142.setTop (mkF m 42 #[.val (.int pn), .val (.long ud), .second, .val (.ref b106)] [])) t
          refine XS.iloadN X142.here hx rfl (hb hby own_d1_42) rfl ?_
          show Steps p.tables e below (T142.setTop (mkF m 43 #[.val (.int pn), .val (.long ud), .second, .val (.ref b106)] [(.int pn)])) t
          refine XS.iconst X142.here hx rfl (hb hby own_d1_43) ?_
          exact k)
        have q151 := (by decide : (3 : Int32).toInt = 3)
        by_cases hc149 : (3 : Int32) < pn
        · have q152 : (3 : Int32).toInt < pn.toInt := Int32.lt_iff_toInt_lt.mp hc149
          have K153 : ∀ t, Steps p.tables e below (T142.setTop (mkF m 55 #[.val (.int pn), .val (.long ud), .second, .val (.ref b106)] [(.int ((((ud.toUInt64 >>> ((24 : Int32) &&& 0x3f).toInt64.toUInt64).toInt64).toInt32).toInt8.toInt32)), (.int (3 : Int32)), (.ref b106)])) t → Steps p.tables e below (s₁.setTop (entryFrame m #[(.int pn), (.long ud)] 4)) t := fun t k => K150 t (by
            show Steps p.tables e below (T142.setTop (mkF m 44 #[.val (.int pn), .val (.long ud), .second, .val (.ref b106)] [(.int (3 : Int32)), (.int pn)])) t
            refine XS.icmpNo X142.here hx rfl (hb hby own_d1_44) rfl (tlt hc149).2.2.2 ?_
            show Steps p.tables e below (T142.setTop (mkF m 47 #[.val (.int pn), .val (.long ud), .second, .val (.ref b106)] [])) t
            refine XS.aloadN X142.here hx rfl (hb hby own_d1_47) rfl rfl ?_
            show Steps p.tables e below (T142.setTop (mkF m 48 #[.val (.int pn), .val (.long ud), .second, .val (.ref b106)] [(.ref b106)])) t
            refine XS.iconst X142.here hx rfl (hb hby own_d1_48) ?_
            show Steps p.tables e below (T142.setTop (mkF m 49 #[.val (.int pn), .val (.long ud), .second, .val (.ref b106)] [(.int (3 : Int32)), (.ref b106)])) t
            refine XS.lloadN X142.here hx rfl (hb hby own_d1_49) rfl ?_
            show Steps p.tables e below (T142.setTop (mkF m 50 #[.val (.int pn), .val (.long ud), .second, .val (.ref b106)] [(.long ud), (.int (3 : Int32)), (.ref b106)])) t
            refine XS.bipush X142.here hx rfl (hb hby own_d1_50) ?_
            show Steps p.tables e below (T142.setTop (mkF m 52 #[.val (.int pn), .val (.long ud), .second, .val (.ref b106)] [(.int (24 : Int32)), (.long ud), (.int (3 : Int32)), (.ref b106)])) t
            refine XS.lushr X142.here hx rfl (hb hby own_d1_52) rfl ?_
            show Steps p.tables e below (T142.setTop (mkF m 53 #[.val (.int pn), .val (.long ud), .second, .val (.ref b106)] [(.long ((ud.toUInt64 >>> ((24 : Int32) &&& 0x3f).toInt64.toUInt64).toInt64)), (.int (3 : Int32)), (.ref b106)])) t
            refine XS.l2i X142.here hx rfl (hb hby own_d1_53) rfl ?_
            show Steps p.tables e below (T142.setTop (mkF m 54 #[.val (.int pn), .val (.long ud), .second, .val (.ref b106)] [(.int (((ud.toUInt64 >>> ((24 : Int32) &&& 0x3f).toInt64.toUInt64).toInt64).toInt32)), (.int (3 : Int32)), (.ref b106)])) t
            refine XS.i2b X142.here hx rfl (hb hby own_d1_54) rfl ?_
            exact k)
          have q155 : ¬ (3 : Int32) < 0 ∧ (3 : Int32) < pn := by rw [Int32.lt_iff_toInt_lt, Int32.lt_iff_toInt_lt]; have q0 : (0 : Int32).toInt = 0 := rfl; omega
          obtain ⟨cl154, Ar154, S154, N154⟩ := id V144
          have hin154 : ¬ ((3 : Int32) < 0 ∨ cl154.slots.size ≤ ((3 : Int32)).toNatClampNeg) := inb_of S154 q155
          obtain ⟨T154, h154, X154, e154, W154, st154⟩ := stB X142 hx hZ e142 Ar154 (j := (3 : Int32)) hin154 (g := (mkF m 55 #[.val (.int pn), .val (.long ud), .second, .val (.ref b106)] [(.int ((((ud.toUInt64 >>> ((24 : Int32) &&& 0x3f).toInt64.toUInt64).toInt64).toInt32).toInt8.toInt32)), (.int (3 : Int32)), (.ref b106)])) rfl rfl (hb hby own_d1_55)
          have V156 : own_Arl Z h154 b106 .byte pn := own_Arl.same Ar154 S154 N154 W154
          have Kp157 : Keep h0 h154 [] := Keep.wr Kp145 W154 (Or.inr sb108)
          have Z158 : n0 ≤ h154.size := Nat.le_trans Z146 (Keep.of_wr W154).1
          have N159 := Fr.snoc X154 N147 gb107
          have K160 : ∀ t, Steps p.tables e below (T154.setTop (mkF m 56 #[.val (.int pn), .val (.long ud), .second, .val (.ref b106)] [])) t → Steps p.tables e below (s₁.setTop (entryFrame m #[(.int pn), (.long ud)] 4)) t := fun t k => K153 t (st154 _ k)
          have K162 : ∀ t, Steps p.tables e below (T154.setTop (mkF m 58 #[.val (.int pn), .val (.long ud), .second, .val (.ref b106)] [(.int (4 : Int32)), (.int pn)])) t → Steps p.tables e below (s₁.setTop (entryFrame m #[(.int pn), (.long ud)] 4)) t := fun t k => K160 t (by
            show Steps p.tables e below (T154.setTop (mkF m 56 #[.val (.int pn), .val (.long ud), .second, .val (.ref b106)] [])) t
            refine XS.iloadN X154.here hx rfl (hb hby own_d1_56) rfl ?_
            show Steps p.tables e below (T154.setTop (mkF m 57 #[.val (.int pn), .val (.long ud), .second, .val (.ref b106)] [(.int pn)])) t
            refine XS.iconst X154.here hx rfl (hb hby own_d1_57) ?_
            exact k)
          have q163 := (by decide : (4 : Int32).toInt = 4)
          by_cases hc161 : (4 : Int32) < pn
          · have q164 : (4 : Int32).toInt < pn.toInt := Int32.lt_iff_toInt_lt.mp hc161
            have K165 : ∀ t, Steps p.tables e below (T154.setTop (mkF m 69 #[.val (.int pn), .val (.long ud), .second, .val (.ref b106)] [(.int ((((ud.toUInt64 >>> ((32 : Int32) &&& 0x3f).toInt64.toUInt64).toInt64).toInt32).toInt8.toInt32)), (.int (4 : Int32)), (.ref b106)])) t → Steps p.tables e below (s₁.setTop (entryFrame m #[(.int pn), (.long ud)] 4)) t := fun t k => K162 t (by
              show Steps p.tables e below (T154.setTop (mkF m 58 #[.val (.int pn), .val (.long ud), .second, .val (.ref b106)] [(.int (4 : Int32)), (.int pn)])) t
              refine XS.icmpNo X154.here hx rfl (hb hby own_d1_58) rfl (tlt hc161).2.2.2 ?_
              show Steps p.tables e below (T154.setTop (mkF m 61 #[.val (.int pn), .val (.long ud), .second, .val (.ref b106)] [])) t
              refine XS.aloadN X154.here hx rfl (hb hby own_d1_61) rfl rfl ?_
              show Steps p.tables e below (T154.setTop (mkF m 62 #[.val (.int pn), .val (.long ud), .second, .val (.ref b106)] [(.ref b106)])) t
              refine XS.iconst X154.here hx rfl (hb hby own_d1_62) ?_
              show Steps p.tables e below (T154.setTop (mkF m 63 #[.val (.int pn), .val (.long ud), .second, .val (.ref b106)] [(.int (4 : Int32)), (.ref b106)])) t
              refine XS.lloadN X154.here hx rfl (hb hby own_d1_63) rfl ?_
              show Steps p.tables e below (T154.setTop (mkF m 64 #[.val (.int pn), .val (.long ud), .second, .val (.ref b106)] [(.long ud), (.int (4 : Int32)), (.ref b106)])) t
              refine XS.bipush X154.here hx rfl (hb hby own_d1_64) ?_
              show Steps p.tables e below (T154.setTop (mkF m 66 #[.val (.int pn), .val (.long ud), .second, .val (.ref b106)] [(.int (32 : Int32)), (.long ud), (.int (4 : Int32)), (.ref b106)])) t
              refine XS.lushr X154.here hx rfl (hb hby own_d1_66) rfl ?_
              show Steps p.tables e below (T154.setTop (mkF m 67 #[.val (.int pn), .val (.long ud), .second, .val (.ref b106)] [(.long ((ud.toUInt64 >>> ((32 : Int32) &&& 0x3f).toInt64.toUInt64).toInt64)), (.int (4 : Int32)), (.ref b106)])) t
              refine XS.l2i X154.here hx rfl (hb hby own_d1_67) rfl ?_
              show Steps p.tables e below (T154.setTop (mkF m 68 #[.val (.int pn), .val (.long ud), .second, .val (.ref b106)] [(.int (((ud.toUInt64 >>> ((32 : Int32) &&& 0x3f).toInt64.toUInt64).toInt64).toInt32)), (.int (4 : Int32)), (.ref b106)])) t
              refine XS.i2b X154.here hx rfl (hb hby own_d1_68) rfl ?_
              exact k)
            have q167 : ¬ (4 : Int32) < 0 ∧ (4 : Int32) < pn := by rw [Int32.lt_iff_toInt_lt, Int32.lt_iff_toInt_lt]; have q0 : (0 : Int32).toInt = 0 := rfl; omega
            obtain ⟨cl166, Ar166, S166, N166⟩ := id V156
            have hin166 : ¬ ((4 : Int32) < 0 ∨ cl166.slots.size ≤ ((4 : Int32)).toNatClampNeg) := inb_of S166 q167
            obtain ⟨T166, h166, X166, e166, W166, st166⟩ := stB X154 hx hZ e154 Ar166 (j := (4 : Int32)) hin166 (g := (mkF m 69 #[.val (.int pn), .val (.long ud), .second, .val (.ref b106)] [(.int ((((ud.toUInt64 >>> ((32 : Int32) &&& 0x3f).toInt64.toUInt64).toInt64).toInt32).toInt8.toInt32)), (.int (4 : Int32)), (.ref b106)])) rfl rfl (hb hby own_d1_69)
            have V168 : own_Arl Z h166 b106 .byte pn := own_Arl.same Ar166 S166 N166 W166
            have Kp169 : Keep h0 h166 [] := Keep.wr Kp157 W166 (Or.inr sb108)
            have Z170 : n0 ≤ h166.size := Nat.le_trans Z158 (Keep.of_wr W166).1
            have N171 := Fr.snoc X166 N159 gb107
            have K172 : ∀ t, Steps p.tables e below (T166.setTop (mkF m 70 #[.val (.int pn), .val (.long ud), .second, .val (.ref b106)] [])) t → Steps p.tables e below (s₁.setTop (entryFrame m #[(.int pn), (.long ud)] 4)) t := fun t k => K165 t (st166 _ k)
            have K174 : ∀ t, Steps p.tables e below (T166.setTop (mkF m 72 #[.val (.int pn), .val (.long ud), .second, .val (.ref b106)] [(.int (5 : Int32)), (.int pn)])) t → Steps p.tables e below (s₁.setTop (entryFrame m #[(.int pn), (.long ud)] 4)) t := fun t k => K172 t (by
              show Steps p.tables e below (T166.setTop (mkF m 70 #[.val (.int pn), .val (.long ud), .second, .val (.ref b106)] [])) t
              refine XS.iloadN X166.here hx rfl (hb hby own_d1_70) rfl ?_
              show Steps p.tables e below (T166.setTop (mkF m 71 #[.val (.int pn), .val (.long ud), .second, .val (.ref b106)] [(.int pn)])) t
              refine XS.iconst X166.here hx rfl (hb hby own_d1_71) ?_
              exact k)
            have q175 := (by decide : (5 : Int32).toInt = 5)
            by_cases hc173 : (5 : Int32) < pn
            · have q176 : (5 : Int32).toInt < pn.toInt := Int32.lt_iff_toInt_lt.mp hc173
              have K177 : ∀ t, Steps p.tables e below (T166.setTop (mkF m 83 #[.val (.int pn), .val (.long ud), .second, .val (.ref b106)] [(.int ((((ud.toUInt64 >>> ((40 : Int32) &&& 0x3f).toInt64.toUInt64).toInt64).toInt32).toInt8.toInt32)), (.int (5 : Int32)), (.ref b106)])) t → Steps p.tables e below (s₁.setTop (entryFrame m #[(.int pn), (.long ud)] 4)) t := fun t k => K174 t (by
                show Steps p.tables e below (T166.setTop (mkF m 72 #[.val (.int pn), .val (.long ud), .second, .val (.ref b106)] [(.int (5 : Int32)), (.int pn)])) t
                refine XS.icmpNo X166.here hx rfl (hb hby own_d1_72) rfl (tlt hc173).2.2.2 ?_
                show Steps p.tables e below (T166.setTop (mkF m 75 #[.val (.int pn), .val (.long ud), .second, .val (.ref b106)] [])) t
                refine XS.aloadN X166.here hx rfl (hb hby own_d1_75) rfl rfl ?_
                show Steps p.tables e below (T166.setTop (mkF m 76 #[.val (.int pn), .val (.long ud), .second, .val (.ref b106)] [(.ref b106)])) t
                refine XS.iconst X166.here hx rfl (hb hby own_d1_76) ?_
                show Steps p.tables e below (T166.setTop (mkF m 77 #[.val (.int pn), .val (.long ud), .second, .val (.ref b106)] [(.int (5 : Int32)), (.ref b106)])) t
                refine XS.lloadN X166.here hx rfl (hb hby own_d1_77) rfl ?_
                show Steps p.tables e below (T166.setTop (mkF m 78 #[.val (.int pn), .val (.long ud), .second, .val (.ref b106)] [(.long ud), (.int (5 : Int32)), (.ref b106)])) t
                refine XS.bipush X166.here hx rfl (hb hby own_d1_78) ?_
                show Steps p.tables e below (T166.setTop (mkF m 80 #[.val (.int pn), .val (.long ud), .second, .val (.ref b106)] [(.int (40 : Int32)), (.long ud), (.int (5 : Int32)), (.ref b106)])) t
                refine XS.lushr X166.here hx rfl (hb hby own_d1_80) rfl ?_
                show Steps p.tables e below (T166.setTop (mkF m 81 #[.val (.int pn), .val (.long ud), .second, .val (.ref b106)] [(.long ((ud.toUInt64 >>> ((40 : Int32) &&& 0x3f).toInt64.toUInt64).toInt64)), (.int (5 : Int32)), (.ref b106)])) t
                refine XS.l2i X166.here hx rfl (hb hby own_d1_81) rfl ?_
                show Steps p.tables e below (T166.setTop (mkF m 82 #[.val (.int pn), .val (.long ud), .second, .val (.ref b106)] [(.int (((ud.toUInt64 >>> ((40 : Int32) &&& 0x3f).toInt64.toUInt64).toInt64).toInt32)), (.int (5 : Int32)), (.ref b106)])) t
                refine XS.i2b X166.here hx rfl (hb hby own_d1_82) rfl ?_
                exact k)
              have q179 : ¬ (5 : Int32) < 0 ∧ (5 : Int32) < pn := by rw [Int32.lt_iff_toInt_lt, Int32.lt_iff_toInt_lt]; have q0 : (0 : Int32).toInt = 0 := rfl; omega
              obtain ⟨cl178, Ar178, S178, N178⟩ := id V168
              have hin178 : ¬ ((5 : Int32) < 0 ∨ cl178.slots.size ≤ ((5 : Int32)).toNatClampNeg) := inb_of S178 q179
              obtain ⟨T178, h178, X178, e178, W178, st178⟩ := stB X166 hx hZ e166 Ar178 (j := (5 : Int32)) hin178 (g := (mkF m 83 #[.val (.int pn), .val (.long ud), .second, .val (.ref b106)] [(.int ((((ud.toUInt64 >>> ((40 : Int32) &&& 0x3f).toInt64.toUInt64).toInt64).toInt32).toInt8.toInt32)), (.int (5 : Int32)), (.ref b106)])) rfl rfl (hb hby own_d1_83)
              have V180 : own_Arl Z h178 b106 .byte pn := own_Arl.same Ar178 S178 N178 W178
              have Kp181 : Keep h0 h178 [] := Keep.wr Kp169 W178 (Or.inr sb108)
              have Z182 : n0 ≤ h178.size := Nat.le_trans Z170 (Keep.of_wr W178).1
              have N183 := Fr.snoc X178 N171 gb107
              have K184 : ∀ t, Steps p.tables e below (T178.setTop (mkF m 84 #[.val (.int pn), .val (.long ud), .second, .val (.ref b106)] [])) t → Steps p.tables e below (s₁.setTop (entryFrame m #[(.int pn), (.long ud)] 4)) t := fun t k => K177 t (st178 _ k)
              have K186 : ∀ t, Steps p.tables e below (T178.setTop (mkF m 87 #[.val (.int pn), .val (.long ud), .second, .val (.ref b106)] [(.int (6 : Int32)), (.int pn)])) t → Steps p.tables e below (s₁.setTop (entryFrame m #[(.int pn), (.long ud)] 4)) t := fun t k => K184 t (by
                show Steps p.tables e below (T178.setTop (mkF m 84 #[.val (.int pn), .val (.long ud), .second, .val (.ref b106)] [])) t
                refine XS.iloadN X178.here hx rfl (hb hby own_d1_84) rfl ?_
                show Steps p.tables e below (T178.setTop (mkF m 85 #[.val (.int pn), .val (.long ud), .second, .val (.ref b106)] [(.int pn)])) t
                refine XS.bipush X178.here hx rfl (hb hby own_d1_85) ?_
                exact k)
              have q187 := (by decide : (6 : Int32).toInt = 6)
              by_cases hc185 : (6 : Int32) < pn
              · have q188 : (6 : Int32).toInt < pn.toInt := Int32.lt_iff_toInt_lt.mp hc185
                have K189 : ∀ t, Steps p.tables e below (T178.setTop (mkF m 99 #[.val (.int pn), .val (.long ud), .second, .val (.ref b106)] [(.int ((((ud.toUInt64 >>> ((48 : Int32) &&& 0x3f).toInt64.toUInt64).toInt64).toInt32).toInt8.toInt32)), (.int (6 : Int32)), (.ref b106)])) t → Steps p.tables e below (s₁.setTop (entryFrame m #[(.int pn), (.long ud)] 4)) t := fun t k => K186 t (by
                  show Steps p.tables e below (T178.setTop (mkF m 87 #[.val (.int pn), .val (.long ud), .second, .val (.ref b106)] [(.int (6 : Int32)), (.int pn)])) t
                  refine XS.icmpNo X178.here hx rfl (hb hby own_d1_87) rfl (tlt hc185).2.2.2 ?_
                  show Steps p.tables e below (T178.setTop (mkF m 90 #[.val (.int pn), .val (.long ud), .second, .val (.ref b106)] [])) t
                  refine XS.aloadN X178.here hx rfl (hb hby own_d1_90) rfl rfl ?_
                  show Steps p.tables e below (T178.setTop (mkF m 91 #[.val (.int pn), .val (.long ud), .second, .val (.ref b106)] [(.ref b106)])) t
                  refine XS.bipush X178.here hx rfl (hb hby own_d1_91) ?_
                  show Steps p.tables e below (T178.setTop (mkF m 93 #[.val (.int pn), .val (.long ud), .second, .val (.ref b106)] [(.int (6 : Int32)), (.ref b106)])) t
                  refine XS.lloadN X178.here hx rfl (hb hby own_d1_93) rfl ?_
                  show Steps p.tables e below (T178.setTop (mkF m 94 #[.val (.int pn), .val (.long ud), .second, .val (.ref b106)] [(.long ud), (.int (6 : Int32)), (.ref b106)])) t
                  refine XS.bipush X178.here hx rfl (hb hby own_d1_94) ?_
                  show Steps p.tables e below (T178.setTop (mkF m 96 #[.val (.int pn), .val (.long ud), .second, .val (.ref b106)] [(.int (48 : Int32)), (.long ud), (.int (6 : Int32)), (.ref b106)])) t
                  refine XS.lushr X178.here hx rfl (hb hby own_d1_96) rfl ?_
                  show Steps p.tables e below (T178.setTop (mkF m 97 #[.val (.int pn), .val (.long ud), .second, .val (.ref b106)] [(.long ((ud.toUInt64 >>> ((48 : Int32) &&& 0x3f).toInt64.toUInt64).toInt64)), (.int (6 : Int32)), (.ref b106)])) t
                  refine XS.l2i X178.here hx rfl (hb hby own_d1_97) rfl ?_
                  show Steps p.tables e below (T178.setTop (mkF m 98 #[.val (.int pn), .val (.long ud), .second, .val (.ref b106)] [(.int (((ud.toUInt64 >>> ((48 : Int32) &&& 0x3f).toInt64.toUInt64).toInt64).toInt32)), (.int (6 : Int32)), (.ref b106)])) t
                  refine XS.i2b X178.here hx rfl (hb hby own_d1_98) rfl ?_
                  exact k)
                have q191 : ¬ (6 : Int32) < 0 ∧ (6 : Int32) < pn := by rw [Int32.lt_iff_toInt_lt, Int32.lt_iff_toInt_lt]; have q0 : (0 : Int32).toInt = 0 := rfl; omega
                obtain ⟨cl190, Ar190, S190, N190⟩ := id V180
                have hin190 : ¬ ((6 : Int32) < 0 ∨ cl190.slots.size ≤ ((6 : Int32)).toNatClampNeg) := inb_of S190 q191
                obtain ⟨T190, h190, X190, e190, W190, st190⟩ := stB X178 hx hZ e178 Ar190 (j := (6 : Int32)) hin190 (g := (mkF m 99 #[.val (.int pn), .val (.long ud), .second, .val (.ref b106)] [(.int ((((ud.toUInt64 >>> ((48 : Int32) &&& 0x3f).toInt64.toUInt64).toInt64).toInt32).toInt8.toInt32)), (.int (6 : Int32)), (.ref b106)])) rfl rfl (hb hby own_d1_99)
                have V192 : own_Arl Z h190 b106 .byte pn := own_Arl.same Ar190 S190 N190 W190
                have Kp193 : Keep h0 h190 [] := Keep.wr Kp181 W190 (Or.inr sb108)
                have Z194 : n0 ≤ h190.size := Nat.le_trans Z182 (Keep.of_wr W190).1
                have N195 := Fr.snoc X190 N183 gb107
                have K196 : ∀ t, Steps p.tables e below (T190.setTop (mkF m 100 #[.val (.int pn), .val (.long ud), .second, .val (.ref b106)] [])) t → Steps p.tables e below (s₁.setTop (entryFrame m #[(.int pn), (.long ud)] 4)) t := fun t k => K189 t (st190 _ k)
                have K198 : ∀ t, Steps p.tables e below (T190.setTop (mkF m 103 #[.val (.int pn), .val (.long ud), .second, .val (.ref b106)] [(.int (7 : Int32)), (.int pn)])) t → Steps p.tables e below (s₁.setTop (entryFrame m #[(.int pn), (.long ud)] 4)) t := fun t k => K196 t (by
                  show Steps p.tables e below (T190.setTop (mkF m 100 #[.val (.int pn), .val (.long ud), .second, .val (.ref b106)] [])) t
                  refine XS.iloadN X190.here hx rfl (hb hby own_d1_100) rfl ?_
                  show Steps p.tables e below (T190.setTop (mkF m 101 #[.val (.int pn), .val (.long ud), .second, .val (.ref b106)] [(.int pn)])) t
                  refine XS.bipush X190.here hx rfl (hb hby own_d1_101) ?_
                  exact k)
                have q199 := (by decide : (7 : Int32).toInt = 7)
                by_cases hc197 : (7 : Int32) < pn
                · have q200 : (7 : Int32).toInt < pn.toInt := Int32.lt_iff_toInt_lt.mp hc197
                  have K201 : ∀ t, Steps p.tables e below (T190.setTop (mkF m 115 #[.val (.int pn), .val (.long ud), .second, .val (.ref b106)] [(.int ((((ud.toUInt64 >>> ((56 : Int32) &&& 0x3f).toInt64.toUInt64).toInt64).toInt32).toInt8.toInt32)), (.int (7 : Int32)), (.ref b106)])) t → Steps p.tables e below (s₁.setTop (entryFrame m #[(.int pn), (.long ud)] 4)) t := fun t k => K198 t (by
                    show Steps p.tables e below (T190.setTop (mkF m 103 #[.val (.int pn), .val (.long ud), .second, .val (.ref b106)] [(.int (7 : Int32)), (.int pn)])) t
                    refine XS.icmpNo X190.here hx rfl (hb hby own_d1_103) rfl (tlt hc197).2.2.2 ?_
                    show Steps p.tables e below (T190.setTop (mkF m 106 #[.val (.int pn), .val (.long ud), .second, .val (.ref b106)] [])) t
                    refine XS.aloadN X190.here hx rfl (hb hby own_d1_106) rfl rfl ?_
                    show Steps p.tables e below (T190.setTop (mkF m 107 #[.val (.int pn), .val (.long ud), .second, .val (.ref b106)] [(.ref b106)])) t
                    refine XS.bipush X190.here hx rfl (hb hby own_d1_107) ?_
                    show Steps p.tables e below (T190.setTop (mkF m 109 #[.val (.int pn), .val (.long ud), .second, .val (.ref b106)] [(.int (7 : Int32)), (.ref b106)])) t
                    refine XS.lloadN X190.here hx rfl (hb hby own_d1_109) rfl ?_
                    show Steps p.tables e below (T190.setTop (mkF m 110 #[.val (.int pn), .val (.long ud), .second, .val (.ref b106)] [(.long ud), (.int (7 : Int32)), (.ref b106)])) t
                    refine XS.bipush X190.here hx rfl (hb hby own_d1_110) ?_
                    show Steps p.tables e below (T190.setTop (mkF m 112 #[.val (.int pn), .val (.long ud), .second, .val (.ref b106)] [(.int (56 : Int32)), (.long ud), (.int (7 : Int32)), (.ref b106)])) t
                    refine XS.lushr X190.here hx rfl (hb hby own_d1_112) rfl ?_
                    show Steps p.tables e below (T190.setTop (mkF m 113 #[.val (.int pn), .val (.long ud), .second, .val (.ref b106)] [(.long ((ud.toUInt64 >>> ((56 : Int32) &&& 0x3f).toInt64.toUInt64).toInt64)), (.int (7 : Int32)), (.ref b106)])) t
                    refine XS.l2i X190.here hx rfl (hb hby own_d1_113) rfl ?_
                    show Steps p.tables e below (T190.setTop (mkF m 114 #[.val (.int pn), .val (.long ud), .second, .val (.ref b106)] [(.int (((ud.toUInt64 >>> ((56 : Int32) &&& 0x3f).toInt64.toUInt64).toInt64).toInt32)), (.int (7 : Int32)), (.ref b106)])) t
                    refine XS.i2b X190.here hx rfl (hb hby own_d1_114) rfl ?_
                    exact k)
                  have q203 : ¬ (7 : Int32) < 0 ∧ (7 : Int32) < pn := by rw [Int32.lt_iff_toInt_lt, Int32.lt_iff_toInt_lt]; have q0 : (0 : Int32).toInt = 0 := rfl; omega
                  obtain ⟨cl202, Ar202, S202, N202⟩ := id V192
                  have hin202 : ¬ ((7 : Int32) < 0 ∨ cl202.slots.size ≤ ((7 : Int32)).toNatClampNeg) := inb_of S202 q203
                  obtain ⟨T202, h202, X202, e202, W202, st202⟩ := stB X190 hx hZ e190 Ar202 (j := (7 : Int32)) hin202 (g := (mkF m 115 #[.val (.int pn), .val (.long ud), .second, .val (.ref b106)] [(.int ((((ud.toUInt64 >>> ((56 : Int32) &&& 0x3f).toInt64.toUInt64).toInt64).toInt32).toInt8.toInt32)), (.int (7 : Int32)), (.ref b106)])) rfl rfl (hb hby own_d1_115)
                  have V204 : own_Arl Z h202 b106 .byte pn := own_Arl.same Ar202 S202 N202 W202
                  have Kp205 : Keep h0 h202 [] := Keep.wr Kp193 W202 (Or.inr sb108)
                  have Z206 : n0 ≤ h202.size := Nat.le_trans Z194 (Keep.of_wr W202).1
                  have N207 := Fr.snoc X202 N195 gb107
                  have K208 : ∀ t, Steps p.tables e below (T202.setTop (mkF m 116 #[.val (.int pn), .val (.long ud), .second, .val (.ref b106)] [])) t → Steps p.tables e below (s₁.setTop (entryFrame m #[(.int pn), (.long ud)] 4)) t := fun t k => K201 t (st202 _ k)
                  have K209 : ∀ t, Steps p.tables e below (T202.setTop (mkF m 117 #[.val (.int pn), .val (.long ud), .second, .val (.ref b106)] [(.ref b106)])) t → Steps p.tables e below (s₁.setTop (entryFrame m #[(.int pn), (.long ud)] 4)) t := fun t k => K208 t (by
                    show Steps p.tables e below (T202.setTop (mkF m 116 #[.val (.int pn), .val (.long ud), .second, .val (.ref b106)] [])) t
                    refine XS.aloadN X202.here hx rfl (hb hby own_d1_116) rfl rfl ?_
                    exact k)
                  obtain ⟨fs, hr, hrun, hended, hW, hsame⟩ := X202.leave (v := some (.ref b106)) (fun h => by rw [Bd.returns] at h; cases h)
                  refine ⟨_, _, K209 _ ?_, hrun, hended, _, _, rfl, ?_, ⟨_, rfl⟩, hW, hsame.mono (by decide) (by decide)⟩
                  · jvm_step X202.here [X202.here.top, hx, (hb hby own_d1_117), X202.method', Bd.returns, Value.isRef, FieldType.isReference]
                    first | (intro acts; rw [hr _ acts rfl rfl rfl]) | rw [hr _ _ rfl rfl rfl]
                    exact Steps.refl _
                  · show Q_rm1 Z pn ud h0 n0 _ T202.heap _
                    rw [e202]
                    exact ⟨b106, rfl, (by trivial), N207, Kp205, sb108, V204⟩
                · have q210 : ¬ (7 : Int32).toInt < pn.toInt := fun q => hc197 (Int32.lt_iff_toInt_lt.mpr q)
                  have K211 : ∀ t, Steps p.tables e below (T190.setTop (mkF m 117 #[.val (.int pn), .val (.long ud), .second, .val (.ref b106)] [(.ref b106)])) t → Steps p.tables e below (s₁.setTop (entryFrame m #[(.int pn), (.long ud)] 4)) t := fun t k => K198 t (by
                    show Steps p.tables e below (T190.setTop (mkF m 103 #[.val (.int pn), .val (.long ud), .second, .val (.ref b106)] [(.int (7 : Int32)), (.int pn)])) t
                    refine XS.icmpYes X190.here hx rfl (pc0 := 103) (pc' := 116) rfl (hb hby own_d1_103) rfl (flt hc197).2.2.2 (by decide) (by decide) ?_
                    show Steps p.tables e below (T190.setTop (mkF m 116 #[.val (.int pn), .val (.long ud), .second, .val (.ref b106)] [])) t
                    refine XS.aloadN X190.here hx rfl (hb hby own_d1_116) rfl rfl ?_
                    exact k)
                  obtain ⟨fs, hr, hrun, hended, hW, hsame⟩ := X190.leave (v := some (.ref b106)) (fun h => by rw [Bd.returns] at h; cases h)
                  refine ⟨_, _, K211 _ ?_, hrun, hended, _, _, rfl, ?_, ⟨_, rfl⟩, hW, hsame.mono (by decide) (by decide)⟩
                  · jvm_step X190.here [X190.here.top, hx, (hb hby own_d1_117), X190.method', Bd.returns, Value.isRef, FieldType.isReference]
                    first | (intro acts; rw [hr _ acts rfl rfl rfl]) | rw [hr _ _ rfl rfl rfl]
                    exact Steps.refl _
                  · show Q_rm1 Z pn ud h0 n0 _ T190.heap _
                    rw [e190]
                    exact ⟨b106, rfl, (by trivial), N195, Kp193, sb108, V192⟩
              · have q212 : ¬ (6 : Int32).toInt < pn.toInt := fun q => hc185 (Int32.lt_iff_toInt_lt.mpr q)
                have q214 := (by decide : (7 : Int32).toInt = 7)
                have hc213 : ¬ ((7 : Int32) < pn) := by rw [Int32.lt_iff_toInt_lt]; omega
                have q215 : ¬ (7 : Int32).toInt < pn.toInt := fun q => hc213 (Int32.lt_iff_toInt_lt.mpr q)
                have K216 : ∀ t, Steps p.tables e below (T178.setTop (mkF m 117 #[.val (.int pn), .val (.long ud), .second, .val (.ref b106)] [(.ref b106)])) t → Steps p.tables e below (s₁.setTop (entryFrame m #[(.int pn), (.long ud)] 4)) t := fun t k => K186 t (by
                  show Steps p.tables e below (T178.setTop (mkF m 87 #[.val (.int pn), .val (.long ud), .second, .val (.ref b106)] [(.int (6 : Int32)), (.int pn)])) t
                  refine XS.icmpYes X178.here hx rfl (pc0 := 87) (pc' := 100) rfl (hb hby own_d1_87) rfl (flt hc185).2.2.2 (by decide) (by decide) ?_
                  show Steps p.tables e below (T178.setTop (mkF m 100 #[.val (.int pn), .val (.long ud), .second, .val (.ref b106)] [])) t
                  refine XS.iloadN X178.here hx rfl (hb hby own_d1_100) rfl ?_
                  show Steps p.tables e below (T178.setTop (mkF m 101 #[.val (.int pn), .val (.long ud), .second, .val (.ref b106)] [(.int pn)])) t
                  refine XS.bipush X178.here hx rfl (hb hby own_d1_101) ?_
                  show Steps p.tables e below (T178.setTop (mkF m 103 #[.val (.int pn), .val (.long ud), .second, .val (.ref b106)] [(.int (7 : Int32)), (.int pn)])) t
                  refine XS.icmpYes X178.here hx rfl (pc0 := 103) (pc' := 116) rfl (hb hby own_d1_103) rfl (flt hc213).2.2.2 (by decide) (by decide) ?_
                  show Steps p.tables e below (T178.setTop (mkF m 116 #[.val (.int pn), .val (.long ud), .second, .val (.ref b106)] [])) t
                  refine XS.aloadN X178.here hx rfl (hb hby own_d1_116) rfl rfl ?_
                  exact k)
                obtain ⟨fs, hr, hrun, hended, hW, hsame⟩ := X178.leave (v := some (.ref b106)) (fun h => by rw [Bd.returns] at h; cases h)
                refine ⟨_, _, K216 _ ?_, hrun, hended, _, _, rfl, ?_, ⟨_, rfl⟩, hW, hsame.mono (by decide) (by decide)⟩
                · jvm_step X178.here [X178.here.top, hx, (hb hby own_d1_117), X178.method', Bd.returns, Value.isRef, FieldType.isReference]
                  first | (intro acts; rw [hr _ acts rfl rfl rfl]) | rw [hr _ _ rfl rfl rfl]
                  exact Steps.refl _
                · show Q_rm1 Z pn ud h0 n0 _ T178.heap _
                  rw [e178]
                  exact ⟨b106, rfl, (by trivial), N183, Kp181, sb108, V180⟩
            · have q217 : ¬ (5 : Int32).toInt < pn.toInt := fun q => hc173 (Int32.lt_iff_toInt_lt.mpr q)
              have q219 := (by decide : (6 : Int32).toInt = 6)
              have hc218 : ¬ ((6 : Int32) < pn) := by rw [Int32.lt_iff_toInt_lt]; omega
              have q220 : ¬ (6 : Int32).toInt < pn.toInt := fun q => hc218 (Int32.lt_iff_toInt_lt.mpr q)
              have q222 := (by decide : (7 : Int32).toInt = 7)
              have hc221 : ¬ ((7 : Int32) < pn) := by rw [Int32.lt_iff_toInt_lt]; omega
              have q223 : ¬ (7 : Int32).toInt < pn.toInt := fun q => hc221 (Int32.lt_iff_toInt_lt.mpr q)
              have K224 : ∀ t, Steps p.tables e below (T166.setTop (mkF m 117 #[.val (.int pn), .val (.long ud), .second, .val (.ref b106)] [(.ref b106)])) t → Steps p.tables e below (s₁.setTop (entryFrame m #[(.int pn), (.long ud)] 4)) t := fun t k => K174 t (by
                show Steps p.tables e below (T166.setTop (mkF m 72 #[.val (.int pn), .val (.long ud), .second, .val (.ref b106)] [(.int (5 : Int32)), (.int pn)])) t
                refine XS.icmpYes X166.here hx rfl (pc0 := 72) (pc' := 84) rfl (hb hby own_d1_72) rfl (flt hc173).2.2.2 (by decide) (by decide) ?_
                show Steps p.tables e below (T166.setTop (mkF m 84 #[.val (.int pn), .val (.long ud), .second, .val (.ref b106)] [])) t
                refine XS.iloadN X166.here hx rfl (hb hby own_d1_84) rfl ?_
                show Steps p.tables e below (T166.setTop (mkF m 85 #[.val (.int pn), .val (.long ud), .second, .val (.ref b106)] [(.int pn)])) t
                refine XS.bipush X166.here hx rfl (hb hby own_d1_85) ?_
                show Steps p.tables e below (T166.setTop (mkF m 87 #[.val (.int pn), .val (.long ud), .second, .val (.ref b106)] [(.int (6 : Int32)), (.int pn)])) t
                refine XS.icmpYes X166.here hx rfl (pc0 := 87) (pc' := 100) rfl (hb hby own_d1_87) rfl (flt hc218).2.2.2 (by decide) (by decide) ?_
                show Steps p.tables e below (T166.setTop (mkF m 100 #[.val (.int pn), .val (.long ud), .second, .val (.ref b106)] [])) t
                refine XS.iloadN X166.here hx rfl (hb hby own_d1_100) rfl ?_
                show Steps p.tables e below (T166.setTop (mkF m 101 #[.val (.int pn), .val (.long ud), .second, .val (.ref b106)] [(.int pn)])) t
                refine XS.bipush X166.here hx rfl (hb hby own_d1_101) ?_
                show Steps p.tables e below (T166.setTop (mkF m 103 #[.val (.int pn), .val (.long ud), .second, .val (.ref b106)] [(.int (7 : Int32)), (.int pn)])) t
                refine XS.icmpYes X166.here hx rfl (pc0 := 103) (pc' := 116) rfl (hb hby own_d1_103) rfl (flt hc221).2.2.2 (by decide) (by decide) ?_
                show Steps p.tables e below (T166.setTop (mkF m 116 #[.val (.int pn), .val (.long ud), .second, .val (.ref b106)] [])) t
                refine XS.aloadN X166.here hx rfl (hb hby own_d1_116) rfl rfl ?_
                exact k)
              obtain ⟨fs, hr, hrun, hended, hW, hsame⟩ := X166.leave (v := some (.ref b106)) (fun h => by rw [Bd.returns] at h; cases h)
              refine ⟨_, _, K224 _ ?_, hrun, hended, _, _, rfl, ?_, ⟨_, rfl⟩, hW, hsame.mono (by decide) (by decide)⟩
              · jvm_step X166.here [X166.here.top, hx, (hb hby own_d1_117), X166.method', Bd.returns, Value.isRef, FieldType.isReference]
                first | (intro acts; rw [hr _ acts rfl rfl rfl]) | rw [hr _ _ rfl rfl rfl]
                exact Steps.refl _
              · show Q_rm1 Z pn ud h0 n0 _ T166.heap _
                rw [e166]
                exact ⟨b106, rfl, (by trivial), N171, Kp169, sb108, V168⟩
          · have q225 : ¬ (4 : Int32).toInt < pn.toInt := fun q => hc161 (Int32.lt_iff_toInt_lt.mpr q)
            have q227 := (by decide : (5 : Int32).toInt = 5)
            have hc226 : ¬ ((5 : Int32) < pn) := by rw [Int32.lt_iff_toInt_lt]; omega
            have q228 : ¬ (5 : Int32).toInt < pn.toInt := fun q => hc226 (Int32.lt_iff_toInt_lt.mpr q)
            have q230 := (by decide : (6 : Int32).toInt = 6)
            have hc229 : ¬ ((6 : Int32) < pn) := by rw [Int32.lt_iff_toInt_lt]; omega
            have q231 : ¬ (6 : Int32).toInt < pn.toInt := fun q => hc229 (Int32.lt_iff_toInt_lt.mpr q)
            have q233 := (by decide : (7 : Int32).toInt = 7)
            have hc232 : ¬ ((7 : Int32) < pn) := by rw [Int32.lt_iff_toInt_lt]; omega
            have q234 : ¬ (7 : Int32).toInt < pn.toInt := fun q => hc232 (Int32.lt_iff_toInt_lt.mpr q)
            have K235 : ∀ t, Steps p.tables e below (T154.setTop (mkF m 117 #[.val (.int pn), .val (.long ud), .second, .val (.ref b106)] [(.ref b106)])) t → Steps p.tables e below (s₁.setTop (entryFrame m #[(.int pn), (.long ud)] 4)) t := fun t k => K162 t (by
              show Steps p.tables e below (T154.setTop (mkF m 58 #[.val (.int pn), .val (.long ud), .second, .val (.ref b106)] [(.int (4 : Int32)), (.int pn)])) t
              refine XS.icmpYes X154.here hx rfl (pc0 := 58) (pc' := 70) rfl (hb hby own_d1_58) rfl (flt hc161).2.2.2 (by decide) (by decide) ?_
              show Steps p.tables e below (T154.setTop (mkF m 70 #[.val (.int pn), .val (.long ud), .second, .val (.ref b106)] [])) t
              refine XS.iloadN X154.here hx rfl (hb hby own_d1_70) rfl ?_
              show Steps p.tables e below (T154.setTop (mkF m 71 #[.val (.int pn), .val (.long ud), .second, .val (.ref b106)] [(.int pn)])) t
              refine XS.iconst X154.here hx rfl (hb hby own_d1_71) ?_
              show Steps p.tables e below (T154.setTop (mkF m 72 #[.val (.int pn), .val (.long ud), .second, .val (.ref b106)] [(.int (5 : Int32)), (.int pn)])) t
              refine XS.icmpYes X154.here hx rfl (pc0 := 72) (pc' := 84) rfl (hb hby own_d1_72) rfl (flt hc226).2.2.2 (by decide) (by decide) ?_
              show Steps p.tables e below (T154.setTop (mkF m 84 #[.val (.int pn), .val (.long ud), .second, .val (.ref b106)] [])) t
              refine XS.iloadN X154.here hx rfl (hb hby own_d1_84) rfl ?_
              show Steps p.tables e below (T154.setTop (mkF m 85 #[.val (.int pn), .val (.long ud), .second, .val (.ref b106)] [(.int pn)])) t
              refine XS.bipush X154.here hx rfl (hb hby own_d1_85) ?_
              show Steps p.tables e below (T154.setTop (mkF m 87 #[.val (.int pn), .val (.long ud), .second, .val (.ref b106)] [(.int (6 : Int32)), (.int pn)])) t
              refine XS.icmpYes X154.here hx rfl (pc0 := 87) (pc' := 100) rfl (hb hby own_d1_87) rfl (flt hc229).2.2.2 (by decide) (by decide) ?_
              show Steps p.tables e below (T154.setTop (mkF m 100 #[.val (.int pn), .val (.long ud), .second, .val (.ref b106)] [])) t
              refine XS.iloadN X154.here hx rfl (hb hby own_d1_100) rfl ?_
              show Steps p.tables e below (T154.setTop (mkF m 101 #[.val (.int pn), .val (.long ud), .second, .val (.ref b106)] [(.int pn)])) t
              refine XS.bipush X154.here hx rfl (hb hby own_d1_101) ?_
              show Steps p.tables e below (T154.setTop (mkF m 103 #[.val (.int pn), .val (.long ud), .second, .val (.ref b106)] [(.int (7 : Int32)), (.int pn)])) t
              refine XS.icmpYes X154.here hx rfl (pc0 := 103) (pc' := 116) rfl (hb hby own_d1_103) rfl (flt hc232).2.2.2 (by decide) (by decide) ?_
              show Steps p.tables e below (T154.setTop (mkF m 116 #[.val (.int pn), .val (.long ud), .second, .val (.ref b106)] [])) t
              refine XS.aloadN X154.here hx rfl (hb hby own_d1_116) rfl rfl ?_
              exact k)
            obtain ⟨fs, hr, hrun, hended, hW, hsame⟩ := X154.leave (v := some (.ref b106)) (fun h => by rw [Bd.returns] at h; cases h)
            refine ⟨_, _, K235 _ ?_, hrun, hended, _, _, rfl, ?_, ⟨_, rfl⟩, hW, hsame.mono (by decide) (by decide)⟩
            · jvm_step X154.here [X154.here.top, hx, (hb hby own_d1_117), X154.method', Bd.returns, Value.isRef, FieldType.isReference]
              first | (intro acts; rw [hr _ acts rfl rfl rfl]) | rw [hr _ _ rfl rfl rfl]
              exact Steps.refl _
            · show Q_rm1 Z pn ud h0 n0 _ T154.heap _
              rw [e154]
              exact ⟨b106, rfl, (by trivial), N159, Kp157, sb108, V156⟩
        · have q236 : ¬ (3 : Int32).toInt < pn.toInt := fun q => hc149 (Int32.lt_iff_toInt_lt.mpr q)
          have q238 := (by decide : (4 : Int32).toInt = 4)
          have hc237 : ¬ ((4 : Int32) < pn) := by rw [Int32.lt_iff_toInt_lt]; omega
          have q239 : ¬ (4 : Int32).toInt < pn.toInt := fun q => hc237 (Int32.lt_iff_toInt_lt.mpr q)
          have q241 := (by decide : (5 : Int32).toInt = 5)
          have hc240 : ¬ ((5 : Int32) < pn) := by rw [Int32.lt_iff_toInt_lt]; omega
          have q242 : ¬ (5 : Int32).toInt < pn.toInt := fun q => hc240 (Int32.lt_iff_toInt_lt.mpr q)
          have q244 := (by decide : (6 : Int32).toInt = 6)
          have hc243 : ¬ ((6 : Int32) < pn) := by rw [Int32.lt_iff_toInt_lt]; omega
          have q245 : ¬ (6 : Int32).toInt < pn.toInt := fun q => hc243 (Int32.lt_iff_toInt_lt.mpr q)
          have q247 := (by decide : (7 : Int32).toInt = 7)
          have hc246 : ¬ ((7 : Int32) < pn) := by rw [Int32.lt_iff_toInt_lt]; omega
          have q248 : ¬ (7 : Int32).toInt < pn.toInt := fun q => hc246 (Int32.lt_iff_toInt_lt.mpr q)
          have K249 : ∀ t, Steps p.tables e below (T142.setTop (mkF m 117 #[.val (.int pn), .val (.long ud), .second, .val (.ref b106)] [(.ref b106)])) t → Steps p.tables e below (s₁.setTop (entryFrame m #[(.int pn), (.long ud)] 4)) t := fun t k => K150 t (by
            show Steps p.tables e below (T142.setTop (mkF m 44 #[.val (.int pn), .val (.long ud), .second, .val (.ref b106)] [(.int (3 : Int32)), (.int pn)])) t
            refine XS.icmpYes X142.here hx rfl (pc0 := 44) (pc' := 56) rfl (hb hby own_d1_44) rfl (flt hc149).2.2.2 (by decide) (by decide) ?_
            show Steps p.tables e below (T142.setTop (mkF m 56 #[.val (.int pn), .val (.long ud), .second, .val (.ref b106)] [])) t
            refine XS.iloadN X142.here hx rfl (hb hby own_d1_56) rfl ?_
            show Steps p.tables e below (T142.setTop (mkF m 57 #[.val (.int pn), .val (.long ud), .second, .val (.ref b106)] [(.int pn)])) t
            refine XS.iconst X142.here hx rfl (hb hby own_d1_57) ?_
            show Steps p.tables e below (T142.setTop (mkF m 58 #[.val (.int pn), .val (.long ud), .second, .val (.ref b106)] [(.int (4 : Int32)), (.int pn)])) t
            refine XS.icmpYes X142.here hx rfl (pc0 := 58) (pc' := 70) rfl (hb hby own_d1_58) rfl (flt hc237).2.2.2 (by decide) (by decide) ?_
            show Steps p.tables e below (T142.setTop (mkF m 70 #[.val (.int pn), .val (.long ud), .second, .val (.ref b106)] [])) t
            refine XS.iloadN X142.here hx rfl (hb hby own_d1_70) rfl ?_
            show Steps p.tables e below (T142.setTop (mkF m 71 #[.val (.int pn), .val (.long ud), .second, .val (.ref b106)] [(.int pn)])) t
            refine XS.iconst X142.here hx rfl (hb hby own_d1_71) ?_
            show Steps p.tables e below (T142.setTop (mkF m 72 #[.val (.int pn), .val (.long ud), .second, .val (.ref b106)] [(.int (5 : Int32)), (.int pn)])) t
            refine XS.icmpYes X142.here hx rfl (pc0 := 72) (pc' := 84) rfl (hb hby own_d1_72) rfl (flt hc240).2.2.2 (by decide) (by decide) ?_
            show Steps p.tables e below (T142.setTop (mkF m 84 #[.val (.int pn), .val (.long ud), .second, .val (.ref b106)] [])) t
            refine XS.iloadN X142.here hx rfl (hb hby own_d1_84) rfl ?_
            show Steps p.tables e below (T142.setTop (mkF m 85 #[.val (.int pn), .val (.long ud), .second, .val (.ref b106)] [(.int pn)])) t
            refine XS.bipush X142.here hx rfl (hb hby own_d1_85) ?_
            show Steps p.tables e below (T142.setTop (mkF m 87 #[.val (.int pn), .val (.long ud), .second, .val (.ref b106)] [(.int (6 : Int32)), (.int pn)])) t
            refine XS.icmpYes X142.here hx rfl (pc0 := 87) (pc' := 100) rfl (hb hby own_d1_87) rfl (flt hc243).2.2.2 (by decide) (by decide) ?_
            show Steps p.tables e below (T142.setTop (mkF m 100 #[.val (.int pn), .val (.long ud), .second, .val (.ref b106)] [])) t
            refine XS.iloadN X142.here hx rfl (hb hby own_d1_100) rfl ?_
            show Steps p.tables e below (T142.setTop (mkF m 101 #[.val (.int pn), .val (.long ud), .second, .val (.ref b106)] [(.int pn)])) t
            refine XS.bipush X142.here hx rfl (hb hby own_d1_101) ?_
            show Steps p.tables e below (T142.setTop (mkF m 103 #[.val (.int pn), .val (.long ud), .second, .val (.ref b106)] [(.int (7 : Int32)), (.int pn)])) t
            refine XS.icmpYes X142.here hx rfl (pc0 := 103) (pc' := 116) rfl (hb hby own_d1_103) rfl (flt hc246).2.2.2 (by decide) (by decide) ?_
            show Steps p.tables e below (T142.setTop (mkF m 116 #[.val (.int pn), .val (.long ud), .second, .val (.ref b106)] [])) t
            refine XS.aloadN X142.here hx rfl (hb hby own_d1_116) rfl rfl ?_
            exact k)
          obtain ⟨fs, hr, hrun, hended, hW, hsame⟩ := X142.leave (v := some (.ref b106)) (fun h => by rw [Bd.returns] at h; cases h)
          refine ⟨_, _, K249 _ ?_, hrun, hended, _, _, rfl, ?_, ⟨_, rfl⟩, hW, hsame.mono (by decide) (by decide)⟩
          · jvm_step X142.here [X142.here.top, hx, (hb hby own_d1_117), X142.method', Bd.returns, Value.isRef, FieldType.isReference]
            first | (intro acts; rw [hr _ acts rfl rfl rfl]) | rw [hr _ _ rfl rfl rfl]
            exact Steps.refl _
          · show Q_rm1 Z pn ud h0 n0 _ T142.heap _
            rw [e142]
            exact ⟨b106, rfl, (by trivial), N147, Kp145, sb108, V144⟩
      · have q250 : ¬ (2 : Int32).toInt < pn.toInt := fun q => hc137 (Int32.lt_iff_toInt_lt.mpr q)
        have q252 := (by decide : (3 : Int32).toInt = 3)
        have hc251 : ¬ ((3 : Int32) < pn) := by rw [Int32.lt_iff_toInt_lt]; omega
        have q253 : ¬ (3 : Int32).toInt < pn.toInt := fun q => hc251 (Int32.lt_iff_toInt_lt.mpr q)
        have q255 := (by decide : (4 : Int32).toInt = 4)
        have hc254 : ¬ ((4 : Int32) < pn) := by rw [Int32.lt_iff_toInt_lt]; omega
        have q256 : ¬ (4 : Int32).toInt < pn.toInt := fun q => hc254 (Int32.lt_iff_toInt_lt.mpr q)
        have q258 := (by decide : (5 : Int32).toInt = 5)
        have hc257 : ¬ ((5 : Int32) < pn) := by rw [Int32.lt_iff_toInt_lt]; omega
        have q259 : ¬ (5 : Int32).toInt < pn.toInt := fun q => hc257 (Int32.lt_iff_toInt_lt.mpr q)
        have q261 := (by decide : (6 : Int32).toInt = 6)
        have hc260 : ¬ ((6 : Int32) < pn) := by rw [Int32.lt_iff_toInt_lt]; omega
        have q262 : ¬ (6 : Int32).toInt < pn.toInt := fun q => hc260 (Int32.lt_iff_toInt_lt.mpr q)
        have q264 := (by decide : (7 : Int32).toInt = 7)
        have hc263 : ¬ ((7 : Int32) < pn) := by rw [Int32.lt_iff_toInt_lt]; omega
        have q265 : ¬ (7 : Int32).toInt < pn.toInt := fun q => hc263 (Int32.lt_iff_toInt_lt.mpr q)
        have K266 : ∀ t, Steps p.tables e below (T130.setTop (mkF m 117 #[.val (.int pn), .val (.long ud), .second, .val (.ref b106)] [(.ref b106)])) t → Steps p.tables e below (s₁.setTop (entryFrame m #[(.int pn), (.long ud)] 4)) t := fun t k => K138 t (by
          show Steps p.tables e below (T130.setTop (mkF m 30 #[.val (.int pn), .val (.long ud), .second, .val (.ref b106)] [(.int (2 : Int32)), (.int pn)])) t
          refine XS.icmpYes X130.here hx rfl (pc0 := 30) (pc' := 42) rfl (hb hby own_d1_30) rfl (flt hc137).2.2.2 (by decide) (by decide) ?_
          show Steps p.tables e below (T130.setTop (mkF m 42 #[.val (.int pn), .val (.long ud), .second, .val (.ref b106)] [])) t
          refine XS.iloadN X130.here hx rfl (hb hby own_d1_42) rfl ?_
          show Steps p.tables e below (T130.setTop (mkF m 43 #[.val (.int pn), .val (.long ud), .second, .val (.ref b106)] [(.int pn)])) t
          refine XS.iconst X130.here hx rfl (hb hby own_d1_43) ?_
          show Steps p.tables e below (T130.setTop (mkF m 44 #[.val (.int pn), .val (.long ud), .second, .val (.ref b106)] [(.int (3 : Int32)), (.int pn)])) t
          refine XS.icmpYes X130.here hx rfl (pc0 := 44) (pc' := 56) rfl (hb hby own_d1_44) rfl (flt hc251).2.2.2 (by decide) (by decide) ?_
          show Steps p.tables e below (T130.setTop (mkF m 56 #[.val (.int pn), .val (.long ud), .second, .val (.ref b106)] [])) t
          refine XS.iloadN X130.here hx rfl (hb hby own_d1_56) rfl ?_
          show Steps p.tables e below (T130.setTop (mkF m 57 #[.val (.int pn), .val (.long ud), .second, .val (.ref b106)] [(.int pn)])) t
          refine XS.iconst X130.here hx rfl (hb hby own_d1_57) ?_
          show Steps p.tables e below (T130.setTop (mkF m 58 #[.val (.int pn), .val (.long ud), .second, .val (.ref b106)] [(.int (4 : Int32)), (.int pn)])) t
          refine XS.icmpYes X130.here hx rfl (pc0 := 58) (pc' := 70) rfl (hb hby own_d1_58) rfl (flt hc254).2.2.2 (by decide) (by decide) ?_
          show Steps p.tables e below (T130.setTop (mkF m 70 #[.val (.int pn), .val (.long ud), .second, .val (.ref b106)] [])) t
          refine XS.iloadN X130.here hx rfl (hb hby own_d1_70) rfl ?_
          show Steps p.tables e below (T130.setTop (mkF m 71 #[.val (.int pn), .val (.long ud), .second, .val (.ref b106)] [(.int pn)])) t
          refine XS.iconst X130.here hx rfl (hb hby own_d1_71) ?_
          show Steps p.tables e below (T130.setTop (mkF m 72 #[.val (.int pn), .val (.long ud), .second, .val (.ref b106)] [(.int (5 : Int32)), (.int pn)])) t
          refine XS.icmpYes X130.here hx rfl (pc0 := 72) (pc' := 84) rfl (hb hby own_d1_72) rfl (flt hc257).2.2.2 (by decide) (by decide) ?_
          show Steps p.tables e below (T130.setTop (mkF m 84 #[.val (.int pn), .val (.long ud), .second, .val (.ref b106)] [])) t
          refine XS.iloadN X130.here hx rfl (hb hby own_d1_84) rfl ?_
          show Steps p.tables e below (T130.setTop (mkF m 85 #[.val (.int pn), .val (.long ud), .second, .val (.ref b106)] [(.int pn)])) t
          refine XS.bipush X130.here hx rfl (hb hby own_d1_85) ?_
          show Steps p.tables e below (T130.setTop (mkF m 87 #[.val (.int pn), .val (.long ud), .second, .val (.ref b106)] [(.int (6 : Int32)), (.int pn)])) t
          refine XS.icmpYes X130.here hx rfl (pc0 := 87) (pc' := 100) rfl (hb hby own_d1_87) rfl (flt hc260).2.2.2 (by decide) (by decide) ?_
          show Steps p.tables e below (T130.setTop (mkF m 100 #[.val (.int pn), .val (.long ud), .second, .val (.ref b106)] [])) t
          refine XS.iloadN X130.here hx rfl (hb hby own_d1_100) rfl ?_
          show Steps p.tables e below (T130.setTop (mkF m 101 #[.val (.int pn), .val (.long ud), .second, .val (.ref b106)] [(.int pn)])) t
          refine XS.bipush X130.here hx rfl (hb hby own_d1_101) ?_
          show Steps p.tables e below (T130.setTop (mkF m 103 #[.val (.int pn), .val (.long ud), .second, .val (.ref b106)] [(.int (7 : Int32)), (.int pn)])) t
          refine XS.icmpYes X130.here hx rfl (pc0 := 103) (pc' := 116) rfl (hb hby own_d1_103) rfl (flt hc263).2.2.2 (by decide) (by decide) ?_
          show Steps p.tables e below (T130.setTop (mkF m 116 #[.val (.int pn), .val (.long ud), .second, .val (.ref b106)] [])) t
          refine XS.aloadN X130.here hx rfl (hb hby own_d1_116) rfl rfl ?_
          exact k)
        obtain ⟨fs, hr, hrun, hended, hW, hsame⟩ := X130.leave (v := some (.ref b106)) (fun h => by rw [Bd.returns] at h; cases h)
        refine ⟨_, _, K266 _ ?_, hrun, hended, _, _, rfl, ?_, ⟨_, rfl⟩, hW, hsame.mono (by decide) (by decide)⟩
        · jvm_step X130.here [X130.here.top, hx, (hb hby own_d1_117), X130.method', Bd.returns, Value.isRef, FieldType.isReference]
          first | (intro acts; rw [hr _ acts rfl rfl rfl]) | rw [hr _ _ rfl rfl rfl]
          exact Steps.refl _
        · show Q_rm1 Z pn ud h0 n0 _ T130.heap _
          rw [e130]
          exact ⟨b106, rfl, (by trivial), N135, Kp133, sb108, V132⟩
    · have q267 : ¬ (1 : Int32).toInt < pn.toInt := fun q => hc125 (Int32.lt_iff_toInt_lt.mpr q)
      have q269 := (by decide : (2 : Int32).toInt = 2)
      have hc268 : ¬ ((2 : Int32) < pn) := by rw [Int32.lt_iff_toInt_lt]; omega
      have q270 : ¬ (2 : Int32).toInt < pn.toInt := fun q => hc268 (Int32.lt_iff_toInt_lt.mpr q)
      have q272 := (by decide : (3 : Int32).toInt = 3)
      have hc271 : ¬ ((3 : Int32) < pn) := by rw [Int32.lt_iff_toInt_lt]; omega
      have q273 : ¬ (3 : Int32).toInt < pn.toInt := fun q => hc271 (Int32.lt_iff_toInt_lt.mpr q)
      have q275 := (by decide : (4 : Int32).toInt = 4)
      have hc274 : ¬ ((4 : Int32) < pn) := by rw [Int32.lt_iff_toInt_lt]; omega
      have q276 : ¬ (4 : Int32).toInt < pn.toInt := fun q => hc274 (Int32.lt_iff_toInt_lt.mpr q)
      have q278 := (by decide : (5 : Int32).toInt = 5)
      have hc277 : ¬ ((5 : Int32) < pn) := by rw [Int32.lt_iff_toInt_lt]; omega
      have q279 : ¬ (5 : Int32).toInt < pn.toInt := fun q => hc277 (Int32.lt_iff_toInt_lt.mpr q)
      have q281 := (by decide : (6 : Int32).toInt = 6)
      have hc280 : ¬ ((6 : Int32) < pn) := by rw [Int32.lt_iff_toInt_lt]; omega
      have q282 : ¬ (6 : Int32).toInt < pn.toInt := fun q => hc280 (Int32.lt_iff_toInt_lt.mpr q)
      have q284 := (by decide : (7 : Int32).toInt = 7)
      have hc283 : ¬ ((7 : Int32) < pn) := by rw [Int32.lt_iff_toInt_lt]; omega
      have q285 : ¬ (7 : Int32).toInt < pn.toInt := fun q => hc283 (Int32.lt_iff_toInt_lt.mpr q)
      have K286 : ∀ t, Steps p.tables e below (T118.setTop (mkF m 117 #[.val (.int pn), .val (.long ud), .second, .val (.ref b106)] [(.ref b106)])) t → Steps p.tables e below (s₁.setTop (entryFrame m #[(.int pn), (.long ud)] 4)) t := fun t k => K126 t (by
        show Steps p.tables e below (T118.setTop (mkF m 16 #[.val (.int pn), .val (.long ud), .second, .val (.ref b106)] [(.int (1 : Int32)), (.int pn)])) t
        refine XS.icmpYes X118.here hx rfl (pc0 := 16) (pc' := 28) rfl (hb hby own_d1_16) rfl (flt hc125).2.2.2 (by decide) (by decide) ?_
        show Steps p.tables e below (T118.setTop (mkF m 28 #[.val (.int pn), .val (.long ud), .second, .val (.ref b106)] [])) t
        refine XS.iloadN X118.here hx rfl (hb hby own_d1_28) rfl ?_
        show Steps p.tables e below (T118.setTop (mkF m 29 #[.val (.int pn), .val (.long ud), .second, .val (.ref b106)] [(.int pn)])) t
        refine XS.iconst X118.here hx rfl (hb hby own_d1_29) ?_
        show Steps p.tables e below (T118.setTop (mkF m 30 #[.val (.int pn), .val (.long ud), .second, .val (.ref b106)] [(.int (2 : Int32)), (.int pn)])) t
        refine XS.icmpYes X118.here hx rfl (pc0 := 30) (pc' := 42) rfl (hb hby own_d1_30) rfl (flt hc268).2.2.2 (by decide) (by decide) ?_
        show Steps p.tables e below (T118.setTop (mkF m 42 #[.val (.int pn), .val (.long ud), .second, .val (.ref b106)] [])) t
        refine XS.iloadN X118.here hx rfl (hb hby own_d1_42) rfl ?_
        show Steps p.tables e below (T118.setTop (mkF m 43 #[.val (.int pn), .val (.long ud), .second, .val (.ref b106)] [(.int pn)])) t
        refine XS.iconst X118.here hx rfl (hb hby own_d1_43) ?_
        show Steps p.tables e below (T118.setTop (mkF m 44 #[.val (.int pn), .val (.long ud), .second, .val (.ref b106)] [(.int (3 : Int32)), (.int pn)])) t
        refine XS.icmpYes X118.here hx rfl (pc0 := 44) (pc' := 56) rfl (hb hby own_d1_44) rfl (flt hc271).2.2.2 (by decide) (by decide) ?_
        show Steps p.tables e below (T118.setTop (mkF m 56 #[.val (.int pn), .val (.long ud), .second, .val (.ref b106)] [])) t
        refine XS.iloadN X118.here hx rfl (hb hby own_d1_56) rfl ?_
        show Steps p.tables e below (T118.setTop (mkF m 57 #[.val (.int pn), .val (.long ud), .second, .val (.ref b106)] [(.int pn)])) t
        refine XS.iconst X118.here hx rfl (hb hby own_d1_57) ?_
        show Steps p.tables e below (T118.setTop (mkF m 58 #[.val (.int pn), .val (.long ud), .second, .val (.ref b106)] [(.int (4 : Int32)), (.int pn)])) t
        refine XS.icmpYes X118.here hx rfl (pc0 := 58) (pc' := 70) rfl (hb hby own_d1_58) rfl (flt hc274).2.2.2 (by decide) (by decide) ?_
        show Steps p.tables e below (T118.setTop (mkF m 70 #[.val (.int pn), .val (.long ud), .second, .val (.ref b106)] [])) t
        refine XS.iloadN X118.here hx rfl (hb hby own_d1_70) rfl ?_
        show Steps p.tables e below (T118.setTop (mkF m 71 #[.val (.int pn), .val (.long ud), .second, .val (.ref b106)] [(.int pn)])) t
        refine XS.iconst X118.here hx rfl (hb hby own_d1_71) ?_
        show Steps p.tables e below (T118.setTop (mkF m 72 #[.val (.int pn), .val (.long ud), .second, .val (.ref b106)] [(.int (5 : Int32)), (.int pn)])) t
        refine XS.icmpYes X118.here hx rfl (pc0 := 72) (pc' := 84) rfl (hb hby own_d1_72) rfl (flt hc277).2.2.2 (by decide) (by decide) ?_
        show Steps p.tables e below (T118.setTop (mkF m 84 #[.val (.int pn), .val (.long ud), .second, .val (.ref b106)] [])) t
        refine XS.iloadN X118.here hx rfl (hb hby own_d1_84) rfl ?_
        show Steps p.tables e below (T118.setTop (mkF m 85 #[.val (.int pn), .val (.long ud), .second, .val (.ref b106)] [(.int pn)])) t
        refine XS.bipush X118.here hx rfl (hb hby own_d1_85) ?_
        show Steps p.tables e below (T118.setTop (mkF m 87 #[.val (.int pn), .val (.long ud), .second, .val (.ref b106)] [(.int (6 : Int32)), (.int pn)])) t
        refine XS.icmpYes X118.here hx rfl (pc0 := 87) (pc' := 100) rfl (hb hby own_d1_87) rfl (flt hc280).2.2.2 (by decide) (by decide) ?_
        show Steps p.tables e below (T118.setTop (mkF m 100 #[.val (.int pn), .val (.long ud), .second, .val (.ref b106)] [])) t
        refine XS.iloadN X118.here hx rfl (hb hby own_d1_100) rfl ?_
        show Steps p.tables e below (T118.setTop (mkF m 101 #[.val (.int pn), .val (.long ud), .second, .val (.ref b106)] [(.int pn)])) t
        refine XS.bipush X118.here hx rfl (hb hby own_d1_101) ?_
        show Steps p.tables e below (T118.setTop (mkF m 103 #[.val (.int pn), .val (.long ud), .second, .val (.ref b106)] [(.int (7 : Int32)), (.int pn)])) t
        refine XS.icmpYes X118.here hx rfl (pc0 := 103) (pc' := 116) rfl (hb hby own_d1_103) rfl (flt hc283).2.2.2 (by decide) (by decide) ?_
        show Steps p.tables e below (T118.setTop (mkF m 116 #[.val (.int pn), .val (.long ud), .second, .val (.ref b106)] [])) t
        refine XS.aloadN X118.here hx rfl (hb hby own_d1_116) rfl rfl ?_
        exact k)
      obtain ⟨fs, hr, hrun, hended, hW, hsame⟩ := X118.leave (v := some (.ref b106)) (fun h => by rw [Bd.returns] at h; cases h)
      refine ⟨_, _, K286 _ ?_, hrun, hended, _, _, rfl, ?_, ⟨_, rfl⟩, hW, hsame.mono (by decide) (by decide)⟩
      · jvm_step X118.here [X118.here.top, hx, (hb hby own_d1_117), X118.method', Bd.returns, Value.isRef, FieldType.isReference]
        first | (intro acts; rw [hr _ acts rfl rfl rfl]) | rw [hr _ _ rfl rfl rfl]
        exact Steps.refl _
      · show Q_rm1 Z pn ud h0 n0 _ T118.heap _
        rw [e118]
        exact ⟨b106, rfl, (by trivial), N123, Kp121, sb108, V120⟩
  · have q287 : ¬ (0 : Int32).toInt < pn.toInt := fun q => hc113 (Int32.lt_iff_toInt_lt.mpr q)
    have q289 := (by decide : (1 : Int32).toInt = 1)
    have hc288 : ¬ ((1 : Int32) < pn) := by rw [Int32.lt_iff_toInt_lt]; omega
    have q290 : ¬ (1 : Int32).toInt < pn.toInt := fun q => hc288 (Int32.lt_iff_toInt_lt.mpr q)
    have q292 := (by decide : (2 : Int32).toInt = 2)
    have hc291 : ¬ ((2 : Int32) < pn) := by rw [Int32.lt_iff_toInt_lt]; omega
    have q293 : ¬ (2 : Int32).toInt < pn.toInt := fun q => hc291 (Int32.lt_iff_toInt_lt.mpr q)
    have q295 := (by decide : (3 : Int32).toInt = 3)
    have hc294 : ¬ ((3 : Int32) < pn) := by rw [Int32.lt_iff_toInt_lt]; omega
    have q296 : ¬ (3 : Int32).toInt < pn.toInt := fun q => hc294 (Int32.lt_iff_toInt_lt.mpr q)
    have q298 := (by decide : (4 : Int32).toInt = 4)
    have hc297 : ¬ ((4 : Int32) < pn) := by rw [Int32.lt_iff_toInt_lt]; omega
    have q299 : ¬ (4 : Int32).toInt < pn.toInt := fun q => hc297 (Int32.lt_iff_toInt_lt.mpr q)
    have q301 := (by decide : (5 : Int32).toInt = 5)
    have hc300 : ¬ ((5 : Int32) < pn) := by rw [Int32.lt_iff_toInt_lt]; omega
    have q302 : ¬ (5 : Int32).toInt < pn.toInt := fun q => hc300 (Int32.lt_iff_toInt_lt.mpr q)
    have q304 := (by decide : (6 : Int32).toInt = 6)
    have hc303 : ¬ ((6 : Int32) < pn) := by rw [Int32.lt_iff_toInt_lt]; omega
    have q305 : ¬ (6 : Int32).toInt < pn.toInt := fun q => hc303 (Int32.lt_iff_toInt_lt.mpr q)
    have q307 := (by decide : (7 : Int32).toInt = 7)
    have hc306 : ¬ ((7 : Int32) < pn) := by rw [Int32.lt_iff_toInt_lt]; omega
    have q308 : ¬ (7 : Int32).toInt < pn.toInt := fun q => hc306 (Int32.lt_iff_toInt_lt.mpr q)
    have K309 : ∀ t, Steps p.tables e below (T106.setTop (mkF m 117 #[.val (.int pn), .val (.long ud), .second, .val (.ref b106)] [(.ref b106)])) t → Steps p.tables e below (s₁.setTop (entryFrame m #[(.int pn), (.long ud)] 4)) t := fun t k => K114 t (by
      show Steps p.tables e below (T106.setTop (mkF m 5 #[.val (.int pn), .val (.long ud), .second, .val (.ref b106)] [(.int pn)])) t
      refine XS.ifYes X106.here hx rfl (pc0 := 5) (pc' := 14) rfl (hb hby own_d1_5) rfl ((if0 _ _).trans (flt hc113).2.2.2) (by decide) (by decide) ?_
      show Steps p.tables e below (T106.setTop (mkF m 14 #[.val (.int pn), .val (.long ud), .second, .val (.ref b106)] [])) t
      refine XS.iloadN X106.here hx rfl (hb hby own_d1_14) rfl ?_
      show Steps p.tables e below (T106.setTop (mkF m 15 #[.val (.int pn), .val (.long ud), .second, .val (.ref b106)] [(.int pn)])) t
      refine XS.iconst X106.here hx rfl (hb hby own_d1_15) ?_
      show Steps p.tables e below (T106.setTop (mkF m 16 #[.val (.int pn), .val (.long ud), .second, .val (.ref b106)] [(.int (1 : Int32)), (.int pn)])) t
      refine XS.icmpYes X106.here hx rfl (pc0 := 16) (pc' := 28) rfl (hb hby own_d1_16) rfl (flt hc288).2.2.2 (by decide) (by decide) ?_
      show Steps p.tables e below (T106.setTop (mkF m 28 #[.val (.int pn), .val (.long ud), .second, .val (.ref b106)] [])) t
      refine XS.iloadN X106.here hx rfl (hb hby own_d1_28) rfl ?_
      show Steps p.tables e below (T106.setTop (mkF m 29 #[.val (.int pn), .val (.long ud), .second, .val (.ref b106)] [(.int pn)])) t
      refine XS.iconst X106.here hx rfl (hb hby own_d1_29) ?_
      show Steps p.tables e below (T106.setTop (mkF m 30 #[.val (.int pn), .val (.long ud), .second, .val (.ref b106)] [(.int (2 : Int32)), (.int pn)])) t
      refine XS.icmpYes X106.here hx rfl (pc0 := 30) (pc' := 42) rfl (hb hby own_d1_30) rfl (flt hc291).2.2.2 (by decide) (by decide) ?_
      show Steps p.tables e below (T106.setTop (mkF m 42 #[.val (.int pn), .val (.long ud), .second, .val (.ref b106)] [])) t
      refine XS.iloadN X106.here hx rfl (hb hby own_d1_42) rfl ?_
      show Steps p.tables e below (T106.setTop (mkF m 43 #[.val (.int pn), .val (.long ud), .second, .val (.ref b106)] [(.int pn)])) t
      refine XS.iconst X106.here hx rfl (hb hby own_d1_43) ?_
      show Steps p.tables e below (T106.setTop (mkF m 44 #[.val (.int pn), .val (.long ud), .second, .val (.ref b106)] [(.int (3 : Int32)), (.int pn)])) t
      refine XS.icmpYes X106.here hx rfl (pc0 := 44) (pc' := 56) rfl (hb hby own_d1_44) rfl (flt hc294).2.2.2 (by decide) (by decide) ?_
      show Steps p.tables e below (T106.setTop (mkF m 56 #[.val (.int pn), .val (.long ud), .second, .val (.ref b106)] [])) t
      refine XS.iloadN X106.here hx rfl (hb hby own_d1_56) rfl ?_
      show Steps p.tables e below (T106.setTop (mkF m 57 #[.val (.int pn), .val (.long ud), .second, .val (.ref b106)] [(.int pn)])) t
      refine XS.iconst X106.here hx rfl (hb hby own_d1_57) ?_
      show Steps p.tables e below (T106.setTop (mkF m 58 #[.val (.int pn), .val (.long ud), .second, .val (.ref b106)] [(.int (4 : Int32)), (.int pn)])) t
      refine XS.icmpYes X106.here hx rfl (pc0 := 58) (pc' := 70) rfl (hb hby own_d1_58) rfl (flt hc297).2.2.2 (by decide) (by decide) ?_
      show Steps p.tables e below (T106.setTop (mkF m 70 #[.val (.int pn), .val (.long ud), .second, .val (.ref b106)] [])) t
      refine XS.iloadN X106.here hx rfl (hb hby own_d1_70) rfl ?_
      show Steps p.tables e below (T106.setTop (mkF m 71 #[.val (.int pn), .val (.long ud), .second, .val (.ref b106)] [(.int pn)])) t
      refine XS.iconst X106.here hx rfl (hb hby own_d1_71) ?_
      show Steps p.tables e below (T106.setTop (mkF m 72 #[.val (.int pn), .val (.long ud), .second, .val (.ref b106)] [(.int (5 : Int32)), (.int pn)])) t
      refine XS.icmpYes X106.here hx rfl (pc0 := 72) (pc' := 84) rfl (hb hby own_d1_72) rfl (flt hc300).2.2.2 (by decide) (by decide) ?_
      show Steps p.tables e below (T106.setTop (mkF m 84 #[.val (.int pn), .val (.long ud), .second, .val (.ref b106)] [])) t
      refine XS.iloadN X106.here hx rfl (hb hby own_d1_84) rfl ?_
      show Steps p.tables e below (T106.setTop (mkF m 85 #[.val (.int pn), .val (.long ud), .second, .val (.ref b106)] [(.int pn)])) t
      refine XS.bipush X106.here hx rfl (hb hby own_d1_85) ?_
      show Steps p.tables e below (T106.setTop (mkF m 87 #[.val (.int pn), .val (.long ud), .second, .val (.ref b106)] [(.int (6 : Int32)), (.int pn)])) t
      refine XS.icmpYes X106.here hx rfl (pc0 := 87) (pc' := 100) rfl (hb hby own_d1_87) rfl (flt hc303).2.2.2 (by decide) (by decide) ?_
      show Steps p.tables e below (T106.setTop (mkF m 100 #[.val (.int pn), .val (.long ud), .second, .val (.ref b106)] [])) t
      refine XS.iloadN X106.here hx rfl (hb hby own_d1_100) rfl ?_
      show Steps p.tables e below (T106.setTop (mkF m 101 #[.val (.int pn), .val (.long ud), .second, .val (.ref b106)] [(.int pn)])) t
      refine XS.bipush X106.here hx rfl (hb hby own_d1_101) ?_
      show Steps p.tables e below (T106.setTop (mkF m 103 #[.val (.int pn), .val (.long ud), .second, .val (.ref b106)] [(.int (7 : Int32)), (.int pn)])) t
      refine XS.icmpYes X106.here hx rfl (pc0 := 103) (pc' := 116) rfl (hb hby own_d1_103) rfl (flt hc306).2.2.2 (by decide) (by decide) ?_
      show Steps p.tables e below (T106.setTop (mkF m 116 #[.val (.int pn), .val (.long ud), .second, .val (.ref b106)] [])) t
      refine XS.aloadN X106.here hx rfl (hb hby own_d1_116) rfl rfl ?_
      exact k)
    obtain ⟨fs, hr, hrun, hended, hW, hsame⟩ := X106.leave (v := some (.ref b106)) (fun h => by rw [Bd.returns] at h; cases h)
    refine ⟨_, _, K309 _ ?_, hrun, hended, _, _, rfl, ?_, ⟨_, rfl⟩, hW, hsame.mono (by decide) (by decide)⟩
    · jvm_step X106.here [X106.here.top, hx, (hb hby own_d1_117), X106.method', Bd.returns, Value.isRef, FieldType.isReference]
      first | (intro acts; rw [hr _ acts rfl rfl rfl]) | rw [hr _ _ rfl rfl rfl]
      exact Steps.refl _
    · show Q_rm1 Z pn ud h0 n0 _ T106.heap _
      rw [e106]
      exact ⟨b106, rfl, (by trivial), N0, Kp110, sb108, V111⟩
theorem own_addL {x y : Int64} (h1 : -9223372036854775808 ≤ x.toInt + y.toInt) (h2 : x.toInt + y.toInt < 9223372036854775808) : (x + y).toInt = x.toInt + y.toInt := by
  have := c_ladd x y; have := rng64 (x + y); omega
theorem own_subL {x y : Int64} (h1 : -9223372036854775808 ≤ x.toInt - y.toInt) (h2 : x.toInt - y.toInt < 9223372036854775808) : (x - y).toInt = x.toInt - y.toInt := by
  have := c_lsub x y; have := rng64 (x - y); omega
theorem own_addI {x y : Int32} (h1 : -2147483648 ≤ x.toInt + y.toInt) (h2 : x.toInt + y.toInt < 2147483648) : (x + y).toInt = x.toInt + y.toInt := by
  have := c_iadd x y; have := rng32 (x + y); omega
theorem own_subI {x y : Int32} (h1 : -2147483648 ≤ x.toInt - y.toInt) (h2 : x.toInt - y.toInt < 2147483648) : (x - y).toInt = x.toInt - y.toInt := by
  have := c_isub x y; have := rng32 (x - y); omega
theorem own_pre2 (x : Int64) : 0 ≤ ((2147483647 : Int64) - (x &&& (15 : Int64))).toInt ∧ ((2147483647 : Int64) - (x &&& (15 : Int64))).toInt ≤ 4611686018427387903 := by
  have h1 : (x &&& (15 : Int64)).toInt = x.toInt % 16 := c_maskL x (15 : Int64) 4 (by decide) (by decide)
  have h2 : (2147483647 : Int64).toInt = 2147483647 := by decide
  rw [own_subL (by omega) (by omega)]
  omega
theorem own_pd2 : parseMethodDescriptor "(IJ)[B" = some ⟨[.int, .long], some (.array .byte)⟩ := by decide +kernel
theorem own_pd3 : parseMethodDescriptor "()V" = some ⟨[], none⟩ := by decide +kernel
theorem own_pd4 : parseMethodDescriptor "(Ljava/lang/String;J)V" = some ⟨[(.object "java/lang/String"), .long], none⟩ := by decide +kernel
theorem own_pd5 : parseMethodDescriptor "()I" = some ⟨[], some .int⟩ := by decide +kernel
theorem own_pd6 : parseMethodDescriptor "(J)I" = some ⟨[.long], some .int⟩ := by decide +kernel
theorem own_pd7 : parseMethodDescriptor "([B)V" = some ⟨[(.array .byte)], none⟩ := by decide +kernel
def Q_rm0 (Z : State) (x0 : Int64) (x1 : Int32) (x2 : Int64) (x3 : Int32) (h0 : Heap) (n0 : Nat) (v : Option Value) (h : Heap) (L : List Loc) : Prop := v = some (.int (1 : Int32)) ∧ (True) ∧ Fr n0 L ∧ Keep h0 h []
theorem own_ef_rm0 (m : MethodId) (x0 : Int64) (x1 : Int32) (x2 : Int64) (x3 : Int32) : entryFrame m #[(.long x0), (.int x1), (.long x2), (.int x3)] maxLocals = mkF m 0 #[.val (.long x0), .second, .val (.int x1), .val (.long x2), .second, .val (.int x3), .unset, .unset, .unset, .unset, .unset, .unset, .unset, .unset, .unset] [] := by first | (simp [entryFrame, mkF, argsToLocals, Value.category, maxLocals]; done) | rfl
set_option maxRecDepth 65536 in
set_option maxHeartbeats 40000000 in
theorem rm0 (l : Launch) (Z : State) (a0 : Array Value) (hw : ∀ d ∈ tables_1, d.before a0 Z = true) (ws : List Jvm.Cond) (x0 : Int64) (x1 : Int32) (x2 : Int64) (x3 : Int32) (h0 : Heap) (n0 : Nat) (Z0 : n0 ≤ h0.size) :
    MetFree l x (head1 (Jvm.Cond.code x code maxLocals ret :: ws) room_1) (fun a U => a = #[(.long x0), (.int x1), (.long x2), (.int x3)] ∧ Z.Warmed39 U.vm ∧ U.heap = h0) (fun _ _ _ _ _ => True) (fun _ U o U' => ∃ v L, o = .returned v ∧ Q_rm0 Z x0 x1 x2 x3 h0 n0 v U'.heap L ∧ ReturnedEndW U o U' L room_1.cells room_1.slots) := by
  refine MetFree.of_bodySF (plainFor_of_name own_pn2) hisR ?_
  intro p e s m args below meth c s₁ Bd hml0 hP hK
  obtain ⟨rfl, hZ, hh⟩ := hP
  have hx := Bd.exec
  have hby := Bd.bytes
  have hml : c.maxLocals = 15 := hml0
  have hown : s.vm.findClass "com/example/relay_queue/relayqueue/broker/ByteCounterWritePinLaw" = some m.cls := findClass_of_methodNamed Bd.named
  have hnm := (name_of_methodNamed Bd.named Bd.method).1
  have X0 : Stand p l e room_1 s m #[(.long x0), (.int x1), (.long x2), (.int x3)] below meth c s₁ [] 0 0 := Stand.of_body Bd
  have e0 : s₁.heap = h0 := by rw [← hh, Bd.state]; rfl
  have N0 := Fr.nil n0
  have pre0 : ∀ t, Steps p.tables e below (s₁.setTop (mkF m 0 #[.val (.long x0), .second, .val (.int x1), .val (.long x2), .second, .val (.int x3), .unset, .unset, .unset, .unset, .unset, .unset, .unset, .unset, .unset] [])) t → Steps p.tables e below (s₁.setTop (entryFrame m #[(.long x0), (.int x1), (.long x2), (.int x3)] maxLocals)) t := fun t k => castTop (own_ef_rm0 m x0 x1 x2 x3) k
  have K310 : ∀ t, Steps p.tables e below (s₁.setTop (mkF m 6 #[.val (.long x0), .second, .val (.int x1), .val (.long x2), .second, .val (.int x3), .val (.int (x3 &&& (3 : Int32))), .unset, .unset, .unset, .unset, .unset, .unset, .unset, .unset] [])) t → Steps p.tables e below (s₁.setTop (entryFrame m #[(.long x0), (.int x1), (.long x2), (.int x3)] maxLocals)) t := fun t k => pre0 t (by
    show Steps p.tables e below (s₁.setTop (mkF m 0 #[.val (.long x0), .second, .val (.int x1), .val (.long x2), .second, .val (.int x3), .unset, .unset, .unset, .unset, .unset, .unset, .unset, .unset, .unset] [])) t
    refine XS.iload X0.here hx rfl (hb hby at_0) rfl ?_
    show Steps p.tables e below (s₁.setTop (mkF m 2 #[.val (.long x0), .second, .val (.int x1), .val (.long x2), .second, .val (.int x3), .unset, .unset, .unset, .unset, .unset, .unset, .unset, .unset, .unset] [(.int x3)])) t
    refine XS.iconst X0.here hx rfl (hb hby at_2) ?_
    show Steps p.tables e below (s₁.setTop (mkF m 3 #[.val (.long x0), .second, .val (.int x1), .val (.long x2), .second, .val (.int x3), .unset, .unset, .unset, .unset, .unset, .unset, .unset, .unset, .unset] [(.int (3 : Int32)), (.int x3)])) t
    refine XS.iand X0.here hx rfl (hb hby at_3) rfl ?_
    show Steps p.tables e below (s₁.setTop (mkF m 4 #[.val (.long x0), .second, .val (.int x1), .val (.long x2), .second, .val (.int x3), .unset, .unset, .unset, .unset, .unset, .unset, .unset, .unset, .unset] [(.int (x3 &&& (3 : Int32)))])) t
    refine XS.istore X0.here hx rfl (hb hby at_4) rfl (l' := #[.val (.long x0), .second, .val (.int x1), .val (.long x2), .second, .val (.int x3), .val (.int (x3 &&& (3 : Int32))), .unset, .unset, .unset, .unset, .unset, .unset, .unset, .unset]) rfl ?_
    exact k)
  obtain ⟨sr_311, Sp311, K312⟩ : ∃ (sr_311 : Int64), (0 ≤ sr_311.toInt ∧ sr_311.toInt ≤ 4611686018427387903) ∧ ∀ t, Steps p.tables e below (s₁.setTop (mkF m 60 #[.val (.long x0), .second, .val (.int x1), .val (.long x2), .second, .val (.int x3), .val (.int (x3 &&& (3 : Int32))), .val (.long sr_311), .second, .unset, .unset, .unset, .unset, .unset, .unset] [])) t → Steps p.tables e below (s₁.setTop (entryFrame m #[(.long x0), (.int x1), (.long x2), (.int x3)] maxLocals)) t := by
    have K314 : ∀ t, Steps p.tables e below (s₁.setTop (mkF m 8 #[.val (.long x0), .second, .val (.int x1), .val (.long x2), .second, .val (.int x3), .val (.int (x3 &&& (3 : Int32))), .unset, .unset, .unset, .unset, .unset, .unset, .unset, .unset] [(.int (x3 &&& (3 : Int32)))])) t → Steps p.tables e below (s₁.setTop (entryFrame m #[(.long x0), (.int x1), (.long x2), (.int x3)] maxLocals)) t := fun t k => K310 t (by
      show Steps p.tables e below (s₁.setTop (mkF m 6 #[.val (.long x0), .second, .val (.int x1), .val (.long x2), .second, .val (.int x3), .val (.int (x3 &&& (3 : Int32))), .unset, .unset, .unset, .unset, .unset, .unset, .unset, .unset] [])) t
      refine XS.iload X0.here hx rfl (hb hby at_6) rfl ?_
      exact k)
    have q315 := rng32 x3
    have q316 := (by decide : (3 : Int32).toInt = 3)
    have q317 := (show (x3 &&& (3 : Int32)).toInt = x3.toInt % 4 from c_mask x3 (3 : Int32) 2 (by decide) (by decide))
    have q318 := rng32 (x3 &&& (3 : Int32))
    have q319 := (by decide : (0 : Int32).toInt = 0)
    by_cases hc313 : (x3 &&& (3 : Int32)) = (0 : Int32)
    · have q320 : (x3 &&& (3 : Int32)).toInt = (0 : Int32).toInt := congrArg Int32.toInt hc313
      have q321 := (by decide : (0 : Int64).toInt = 0)
      refine ⟨(0 : Int64), ?_, fun t k => K314 t ?_⟩
      · omega
      show Steps p.tables e below (s₁.setTop (mkF m 8 #[.val (.long x0), .second, .val (.int x1), .val (.long x2), .second, .val (.int x3), .val (.int (x3 &&& (3 : Int32))), .unset, .unset, .unset, .unset, .unset, .unset, .unset, .unset] [(.int (x3 &&& (3 : Int32)))])) t
      refine XS.ifNo X0.here hx rfl (hb hby at_8) rfl ((if0 _ _).trans (teq hc313).2) ?_
      show Steps p.tables e below (s₁.setTop (mkF m 11 #[.val (.long x0), .second, .val (.int x1), .val (.long x2), .second, .val (.int x3), .val (.int (x3 &&& (3 : Int32))), .unset, .unset, .unset, .unset, .unset, .unset, .unset, .unset] [])) t
      refine XS.lconst X0.here hx rfl (hb hby at_11) ?_
      show Steps p.tables e below (s₁.setTop (mkF m 12 #[.val (.long x0), .second, .val (.int x1), .val (.long x2), .second, .val (.int x3), .val (.int (x3 &&& (3 : Int32))), .unset, .unset, .unset, .unset, .unset, .unset, .unset, .unset] [(.long (0 : Int64))])) t
      refine XS.lstore X0.here hx rfl (hb hby at_12) rfl (l' := #[.val (.long x0), .second, .val (.int x1), .val (.long x2), .second, .val (.int x3), .val (.int (x3 &&& (3 : Int32))), .val (.long (0 : Int64)), .second, .unset, .unset, .unset, .unset, .unset, .unset]) rfl ?_
      show Steps p.tables e below (s₁.setTop (mkF m 14 #[.val (.long x0), .second, .val (.int x1), .val (.long x2), .second, .val (.int x3), .val (.int (x3 &&& (3 : Int32))), .val (.long (0 : Int64)), .second, .unset, .unset, .unset, .unset, .unset, .unset] [])) t
      refine XS.goto X0.here hx rfl (pc0 := 14) (pc' := 60) rfl (hb hby at_14) (by decide) (by decide) ?_
      exact k
    · have q322 : ¬ (x3 &&& (3 : Int32)).toInt = (0 : Int32).toInt := fun q => hc313 (Int32.toInt_inj.mp q)
      have K324 : ∀ t, Steps p.tables e below (s₁.setTop (mkF m 20 #[.val (.long x0), .second, .val (.int x1), .val (.long x2), .second, .val (.int x3), .val (.int (x3 &&& (3 : Int32))), .unset, .unset, .unset, .unset, .unset, .unset, .unset, .unset] [(.int (1 : Int32)), (.int (x3 &&& (3 : Int32)))])) t → Steps p.tables e below (s₁.setTop (entryFrame m #[(.long x0), (.int x1), (.long x2), (.int x3)] maxLocals)) t := fun t k => K314 t (by
        show Steps p.tables e below (s₁.setTop (mkF m 8 #[.val (.long x0), .second, .val (.int x1), .val (.long x2), .second, .val (.int x3), .val (.int (x3 &&& (3 : Int32))), .unset, .unset, .unset, .unset, .unset, .unset, .unset, .unset] [(.int (x3 &&& (3 : Int32)))])) t
        refine XS.ifYes X0.here hx rfl (pc0 := 8) (pc' := 17) rfl (hb hby at_8) rfl ((if0 _ _).trans (feq hc313).2) (by decide) (by decide) ?_
        show Steps p.tables e below (s₁.setTop (mkF m 17 #[.val (.long x0), .second, .val (.int x1), .val (.long x2), .second, .val (.int x3), .val (.int (x3 &&& (3 : Int32))), .unset, .unset, .unset, .unset, .unset, .unset, .unset, .unset] [])) t
        refine XS.iload X0.here hx rfl (hb hby at_17) rfl ?_
        show Steps p.tables e below (s₁.setTop (mkF m 19 #[.val (.long x0), .second, .val (.int x1), .val (.long x2), .second, .val (.int x3), .val (.int (x3 &&& (3 : Int32))), .unset, .unset, .unset, .unset, .unset, .unset, .unset, .unset] [(.int (x3 &&& (3 : Int32)))])) t
        refine XS.iconst X0.here hx rfl (hb hby at_19) ?_
        exact k)
      have q325 := (by decide : (1 : Int32).toInt = 1)
      by_cases hc323 : (x3 &&& (3 : Int32)) = (1 : Int32)
      · have q326 : (x3 &&& (3 : Int32)).toInt = (1 : Int32).toInt := congrArg Int32.toInt hc323
        have q327 := rng64 x0
        have q328 := (by decide : (4294967295 : Int64).toInt = 4294967295)
        have q329 := (show (x0 &&& (4294967295 : Int64)).toInt = x0.toInt % 4294967296 from c_maskL x0 (4294967295 : Int64) 32 (by decide) (by decide))
        have q330 := rng64 (x0 &&& (4294967295 : Int64))
        refine ⟨(x0 &&& (4294967295 : Int64)), ?_, fun t k => K324 t ?_⟩
        · omega
        show Steps p.tables e below (s₁.setTop (mkF m 20 #[.val (.long x0), .second, .val (.int x1), .val (.long x2), .second, .val (.int x3), .val (.int (x3 &&& (3 : Int32))), .unset, .unset, .unset, .unset, .unset, .unset, .unset, .unset] [(.int (1 : Int32)), (.int (x3 &&& (3 : Int32)))])) t
        refine XS.icmpNo X0.here hx rfl (hb hby at_20) rfl (teq hc323).2 ?_
        show Steps p.tables e below (s₁.setTop (mkF m 23 #[.val (.long x0), .second, .val (.int x1), .val (.long x2), .second, .val (.int x3), .val (.int (x3 &&& (3 : Int32))), .unset, .unset, .unset, .unset, .unset, .unset, .unset, .unset] [])) t
        refine XS.lloadN X0.here hx rfl (hb hby at_23) rfl ?_
        show Steps p.tables e below (s₁.setTop (mkF m 24 #[.val (.long x0), .second, .val (.int x1), .val (.long x2), .second, .val (.int x3), .val (.int (x3 &&& (3 : Int32))), .unset, .unset, .unset, .unset, .unset, .unset, .unset, .unset] [(.long x0)])) t
        refine X0.ldc2Long hx hown (mvT hZ (hw _ (List.mem_of_getElem? (i := 58) rfl))) (g := (mkF m 24 #[.val (.long x0), .second, .val (.int x1), .val (.long x2), .second, .val (.int x3), .val (.int (x3 &&& (3 : Int32))), .unset, .unset, .unset, .unset, .unset, .unset, .unset, .unset] [(.long x0)])) rfl (hb hby at_24) _ ?_
        show Steps p.tables e below (s₁.setTop (mkF m 27 #[.val (.long x0), .second, .val (.int x1), .val (.long x2), .second, .val (.int x3), .val (.int (x3 &&& (3 : Int32))), .unset, .unset, .unset, .unset, .unset, .unset, .unset, .unset] [(.long (4294967295 : Int64)), (.long x0)])) t
        refine XS.land X0.here hx rfl (hb hby at_27) rfl ?_
        show Steps p.tables e below (s₁.setTop (mkF m 28 #[.val (.long x0), .second, .val (.int x1), .val (.long x2), .second, .val (.int x3), .val (.int (x3 &&& (3 : Int32))), .unset, .unset, .unset, .unset, .unset, .unset, .unset, .unset] [(.long (x0 &&& (4294967295 : Int64)))])) t
        refine XS.lstore X0.here hx rfl (hb hby at_28) rfl (l' := #[.val (.long x0), .second, .val (.int x1), .val (.long x2), .second, .val (.int x3), .val (.int (x3 &&& (3 : Int32))), .val (.long (x0 &&& (4294967295 : Int64))), .second, .unset, .unset, .unset, .unset, .unset, .unset]) rfl ?_
        show Steps p.tables e below (s₁.setTop (mkF m 30 #[.val (.long x0), .second, .val (.int x1), .val (.long x2), .second, .val (.int x3), .val (.int (x3 &&& (3 : Int32))), .val (.long (x0 &&& (4294967295 : Int64))), .second, .unset, .unset, .unset, .unset, .unset, .unset] [])) t
        refine XS.goto X0.here hx rfl (pc0 := 30) (pc' := 60) rfl (hb hby at_30) (by decide) (by decide) ?_
        exact k
      · have q331 : ¬ (x3 &&& (3 : Int32)).toInt = (1 : Int32).toInt := fun q => hc323 (Int32.toInt_inj.mp q)
        have K333 : ∀ t, Steps p.tables e below (s₁.setTop (mkF m 36 #[.val (.long x0), .second, .val (.int x1), .val (.long x2), .second, .val (.int x3), .val (.int (x3 &&& (3 : Int32))), .unset, .unset, .unset, .unset, .unset, .unset, .unset, .unset] [(.int (2 : Int32)), (.int (x3 &&& (3 : Int32)))])) t → Steps p.tables e below (s₁.setTop (entryFrame m #[(.long x0), (.int x1), (.long x2), (.int x3)] maxLocals)) t := fun t k => K324 t (by
          show Steps p.tables e below (s₁.setTop (mkF m 20 #[.val (.long x0), .second, .val (.int x1), .val (.long x2), .second, .val (.int x3), .val (.int (x3 &&& (3 : Int32))), .unset, .unset, .unset, .unset, .unset, .unset, .unset, .unset] [(.int (1 : Int32)), (.int (x3 &&& (3 : Int32)))])) t
          refine XS.icmpYes X0.here hx rfl (pc0 := 20) (pc' := 33) rfl (hb hby at_20) rfl (feq hc323).2 (by decide) (by decide) ?_
          show Steps p.tables e below (s₁.setTop (mkF m 33 #[.val (.long x0), .second, .val (.int x1), .val (.long x2), .second, .val (.int x3), .val (.int (x3 &&& (3 : Int32))), .unset, .unset, .unset, .unset, .unset, .unset, .unset, .unset] [])) t
          refine XS.iload X0.here hx rfl (hb hby at_33) rfl ?_
          show Steps p.tables e below (s₁.setTop (mkF m 35 #[.val (.long x0), .second, .val (.int x1), .val (.long x2), .second, .val (.int x3), .val (.int (x3 &&& (3 : Int32))), .unset, .unset, .unset, .unset, .unset, .unset, .unset, .unset] [(.int (x3 &&& (3 : Int32)))])) t
          refine XS.iconst X0.here hx rfl (hb hby at_35) ?_
          exact k)
        have q334 := (by decide : (2 : Int32).toInt = 2)
        by_cases hc332 : (x3 &&& (3 : Int32)) = (2 : Int32)
        · have q335 : (x3 &&& (3 : Int32)).toInt = (2 : Int32).toInt := congrArg Int32.toInt hc332
          have q336 := (by decide : (2147483647 : Int64).toInt = 2147483647)
          have q337 := rng64 x0
          have q338 := (by decide : (15 : Int64).toInt = 15)
          have q339 := (show (x0 &&& (15 : Int64)).toInt = x0.toInt % 16 from c_maskL x0 (15 : Int64) 4 (by decide) (by decide))
          have q340 := rng64 (x0 &&& (15 : Int64))
          have q341 := c_lsub (2147483647 : Int64) (x0 &&& (15 : Int64))
          have q342 := rng64 ((2147483647 : Int64) - (x0 &&& (15 : Int64)))
          refine ⟨((2147483647 : Int64) - (x0 &&& (15 : Int64))), ?_, fun t k => K333 t ?_⟩
          · exact own_pre2 x0
          show Steps p.tables e below (s₁.setTop (mkF m 36 #[.val (.long x0), .second, .val (.int x1), .val (.long x2), .second, .val (.int x3), .val (.int (x3 &&& (3 : Int32))), .unset, .unset, .unset, .unset, .unset, .unset, .unset, .unset] [(.int (2 : Int32)), (.int (x3 &&& (3 : Int32)))])) t
          refine XS.icmpNo X0.here hx rfl (hb hby at_36) rfl (teq hc332).2 ?_
          show Steps p.tables e below (s₁.setTop (mkF m 39 #[.val (.long x0), .second, .val (.int x1), .val (.long x2), .second, .val (.int x3), .val (.int (x3 &&& (3 : Int32))), .unset, .unset, .unset, .unset, .unset, .unset, .unset, .unset] [])) t
          refine X0.ldc2Long hx hown (mvT hZ (hw _ (List.mem_of_getElem? (i := 51) rfl))) (g := (mkF m 39 #[.val (.long x0), .second, .val (.int x1), .val (.long x2), .second, .val (.int x3), .val (.int (x3 &&& (3 : Int32))), .unset, .unset, .unset, .unset, .unset, .unset, .unset, .unset] [])) rfl (hb hby at_39) _ ?_
          show Steps p.tables e below (s₁.setTop (mkF m 42 #[.val (.long x0), .second, .val (.int x1), .val (.long x2), .second, .val (.int x3), .val (.int (x3 &&& (3 : Int32))), .unset, .unset, .unset, .unset, .unset, .unset, .unset, .unset] [(.long (2147483647 : Int64))])) t
          refine XS.lloadN X0.here hx rfl (hb hby at_42) rfl ?_
          show Steps p.tables e below (s₁.setTop (mkF m 43 #[.val (.long x0), .second, .val (.int x1), .val (.long x2), .second, .val (.int x3), .val (.int (x3 &&& (3 : Int32))), .unset, .unset, .unset, .unset, .unset, .unset, .unset, .unset] [(.long x0), (.long (2147483647 : Int64))])) t
          refine X0.ldc2Long hx hown (mvT hZ (hw _ (List.mem_of_getElem? (i := 59) rfl))) (g := (mkF m 43 #[.val (.long x0), .second, .val (.int x1), .val (.long x2), .second, .val (.int x3), .val (.int (x3 &&& (3 : Int32))), .unset, .unset, .unset, .unset, .unset, .unset, .unset, .unset] [(.long x0), (.long (2147483647 : Int64))])) rfl (hb hby at_43) _ ?_
          show Steps p.tables e below (s₁.setTop (mkF m 46 #[.val (.long x0), .second, .val (.int x1), .val (.long x2), .second, .val (.int x3), .val (.int (x3 &&& (3 : Int32))), .unset, .unset, .unset, .unset, .unset, .unset, .unset, .unset] [(.long (15 : Int64)), (.long x0), (.long (2147483647 : Int64))])) t
          refine XS.land X0.here hx rfl (hb hby at_46) rfl ?_
          show Steps p.tables e below (s₁.setTop (mkF m 47 #[.val (.long x0), .second, .val (.int x1), .val (.long x2), .second, .val (.int x3), .val (.int (x3 &&& (3 : Int32))), .unset, .unset, .unset, .unset, .unset, .unset, .unset, .unset] [(.long (x0 &&& (15 : Int64))), (.long (2147483647 : Int64))])) t
          refine XS.lsub X0.here hx rfl (hb hby at_47) rfl ?_
          show Steps p.tables e below (s₁.setTop (mkF m 48 #[.val (.long x0), .second, .val (.int x1), .val (.long x2), .second, .val (.int x3), .val (.int (x3 &&& (3 : Int32))), .unset, .unset, .unset, .unset, .unset, .unset, .unset, .unset] [(.long ((2147483647 : Int64) - (x0 &&& (15 : Int64))))])) t
          refine XS.lstore X0.here hx rfl (hb hby at_48) rfl (l' := #[.val (.long x0), .second, .val (.int x1), .val (.long x2), .second, .val (.int x3), .val (.int (x3 &&& (3 : Int32))), .val (.long ((2147483647 : Int64) - (x0 &&& (15 : Int64)))), .second, .unset, .unset, .unset, .unset, .unset, .unset]) rfl ?_
          show Steps p.tables e below (s₁.setTop (mkF m 50 #[.val (.long x0), .second, .val (.int x1), .val (.long x2), .second, .val (.int x3), .val (.int (x3 &&& (3 : Int32))), .val (.long ((2147483647 : Int64) - (x0 &&& (15 : Int64)))), .second, .unset, .unset, .unset, .unset, .unset, .unset] [])) t
          refine XS.goto X0.here hx rfl (pc0 := 50) (pc' := 60) rfl (hb hby at_50) (by decide) (by decide) ?_
          exact k
        · have q343 : ¬ (x3 &&& (3 : Int32)).toInt = (2 : Int32).toInt := fun q => hc332 (Int32.toInt_inj.mp q)
          have q344 := rng64 x0
          have q345 := (by decide : (4611686018427387903 : Int64).toInt = 4611686018427387903)
          have q346 := (show (x0 &&& (4611686018427387903 : Int64)).toInt = x0.toInt % 4611686018427387904 from c_maskL x0 (4611686018427387903 : Int64) 62 (by decide) (by decide))
          have q347 := rng64 (x0 &&& (4611686018427387903 : Int64))
          refine ⟨(x0 &&& (4611686018427387903 : Int64)), ?_, fun t k => K333 t ?_⟩
          · omega
          show Steps p.tables e below (s₁.setTop (mkF m 36 #[.val (.long x0), .second, .val (.int x1), .val (.long x2), .second, .val (.int x3), .val (.int (x3 &&& (3 : Int32))), .unset, .unset, .unset, .unset, .unset, .unset, .unset, .unset] [(.int (2 : Int32)), (.int (x3 &&& (3 : Int32)))])) t
          refine XS.icmpYes X0.here hx rfl (pc0 := 36) (pc' := 53) rfl (hb hby at_36) rfl (feq hc332).2 (by decide) (by decide) ?_
          show Steps p.tables e below (s₁.setTop (mkF m 53 #[.val (.long x0), .second, .val (.int x1), .val (.long x2), .second, .val (.int x3), .val (.int (x3 &&& (3 : Int32))), .unset, .unset, .unset, .unset, .unset, .unset, .unset, .unset] [])) t
          refine XS.lloadN X0.here hx rfl (hb hby at_53) rfl ?_
          show Steps p.tables e below (s₁.setTop (mkF m 54 #[.val (.long x0), .second, .val (.int x1), .val (.long x2), .second, .val (.int x3), .val (.int (x3 &&& (3 : Int32))), .unset, .unset, .unset, .unset, .unset, .unset, .unset, .unset] [(.long x0)])) t
          refine X0.ldc2Long hx hown (mvT hZ (hw _ (List.mem_of_getElem? (i := 57) rfl))) (g := (mkF m 54 #[.val (.long x0), .second, .val (.int x1), .val (.long x2), .second, .val (.int x3), .val (.int (x3 &&& (3 : Int32))), .unset, .unset, .unset, .unset, .unset, .unset, .unset, .unset] [(.long x0)])) rfl (hb hby at_54) _ ?_
          show Steps p.tables e below (s₁.setTop (mkF m 57 #[.val (.long x0), .second, .val (.int x1), .val (.long x2), .second, .val (.int x3), .val (.int (x3 &&& (3 : Int32))), .unset, .unset, .unset, .unset, .unset, .unset, .unset, .unset] [(.long (4611686018427387903 : Int64)), (.long x0)])) t
          refine XS.land X0.here hx rfl (hb hby at_57) rfl ?_
          show Steps p.tables e below (s₁.setTop (mkF m 58 #[.val (.long x0), .second, .val (.int x1), .val (.long x2), .second, .val (.int x3), .val (.int (x3 &&& (3 : Int32))), .unset, .unset, .unset, .unset, .unset, .unset, .unset, .unset] [(.long (x0 &&& (4611686018427387903 : Int64)))])) t
          refine XS.lstore X0.here hx rfl (hb hby at_58) rfl (l' := #[.val (.long x0), .second, .val (.int x1), .val (.long x2), .second, .val (.int x3), .val (.int (x3 &&& (3 : Int32))), .val (.long (x0 &&& (4611686018427387903 : Int64))), .second, .unset, .unset, .unset, .unset, .unset, .unset]) rfl ?_
          exact k
  have q348 : (9 : Int32) ≠ 0 := by decide
  have q349 : (9 : Int32) ≠ 0 := by decide
  have K350 : ∀ t, Steps p.tables e below (s₁.setTop (mkF m 81 #[.val (.long x0), .second, .val (.int x1), .val (.long x2), .second, .val (.int x3), .val (.int (x3 &&& (3 : Int32))), .val (.long sr_311), .second, .val (.int ((x1 &&& (2147483647 : Int32)) % (9 : Int32))), .val (.int ((((x1.toUInt32 >>> ((8 : Int32) &&& 31).toUInt32).toInt32) &&& (8388607 : Int32)) % (9 : Int32))), .unset, .unset, .unset, .unset] [])) t → Steps p.tables e below (s₁.setTop (entryFrame m #[(.long x0), (.int x1), (.long x2), (.int x3)] maxLocals)) t := fun t k => K312 t (by
    show Steps p.tables e below (s₁.setTop (mkF m 60 #[.val (.long x0), .second, .val (.int x1), .val (.long x2), .second, .val (.int x3), .val (.int (x3 &&& (3 : Int32))), .val (.long sr_311), .second, .unset, .unset, .unset, .unset, .unset, .unset] [])) t
    refine XS.iloadN X0.here hx rfl (hb hby at_60) rfl ?_
    show Steps p.tables e below (s₁.setTop (mkF m 61 #[.val (.long x0), .second, .val (.int x1), .val (.long x2), .second, .val (.int x3), .val (.int (x3 &&& (3 : Int32))), .val (.long sr_311), .second, .unset, .unset, .unset, .unset, .unset, .unset] [(.int x1)])) t
    refine X0.ldcInt hx hown (mvT hZ (hw _ (List.mem_of_getElem? (i := 0) rfl))) (g := (mkF m 61 #[.val (.long x0), .second, .val (.int x1), .val (.long x2), .second, .val (.int x3), .val (.int (x3 &&& (3 : Int32))), .val (.long sr_311), .second, .unset, .unset, .unset, .unset, .unset, .unset] [(.int x1)])) rfl (hb hby at_61) _ ?_
    show Steps p.tables e below (s₁.setTop (mkF m 63 #[.val (.long x0), .second, .val (.int x1), .val (.long x2), .second, .val (.int x3), .val (.int (x3 &&& (3 : Int32))), .val (.long sr_311), .second, .unset, .unset, .unset, .unset, .unset, .unset] [(.int (2147483647 : Int32)), (.int x1)])) t
    refine XS.iand X0.here hx rfl (hb hby at_63) rfl ?_
    show Steps p.tables e below (s₁.setTop (mkF m 64 #[.val (.long x0), .second, .val (.int x1), .val (.long x2), .second, .val (.int x3), .val (.int (x3 &&& (3 : Int32))), .val (.long sr_311), .second, .unset, .unset, .unset, .unset, .unset, .unset] [(.int (x1 &&& (2147483647 : Int32)))])) t
    refine XS.bipush X0.here hx rfl (hb hby at_64) ?_
    show Steps p.tables e below (s₁.setTop (mkF m 66 #[.val (.long x0), .second, .val (.int x1), .val (.long x2), .second, .val (.int x3), .val (.int (x3 &&& (3 : Int32))), .val (.long sr_311), .second, .unset, .unset, .unset, .unset, .unset, .unset] [(.int (9 : Int32)), (.int (x1 &&& (2147483647 : Int32)))])) t
    refine iremM X0 hx rfl (hb hby at_66) rfl q348 ?_
    show Steps p.tables e below (s₁.setTop (mkF m 67 #[.val (.long x0), .second, .val (.int x1), .val (.long x2), .second, .val (.int x3), .val (.int (x3 &&& (3 : Int32))), .val (.long sr_311), .second, .unset, .unset, .unset, .unset, .unset, .unset] [(.int ((x1 &&& (2147483647 : Int32)) % (9 : Int32)))])) t
    refine XS.istore X0.here hx rfl (hb hby at_67) rfl (l' := #[.val (.long x0), .second, .val (.int x1), .val (.long x2), .second, .val (.int x3), .val (.int (x3 &&& (3 : Int32))), .val (.long sr_311), .second, .val (.int ((x1 &&& (2147483647 : Int32)) % (9 : Int32))), .unset, .unset, .unset, .unset, .unset]) rfl ?_
    show Steps p.tables e below (s₁.setTop (mkF m 69 #[.val (.long x0), .second, .val (.int x1), .val (.long x2), .second, .val (.int x3), .val (.int (x3 &&& (3 : Int32))), .val (.long sr_311), .second, .val (.int ((x1 &&& (2147483647 : Int32)) % (9 : Int32))), .unset, .unset, .unset, .unset, .unset] [])) t
    refine XS.iloadN X0.here hx rfl (hb hby at_69) rfl ?_
    show Steps p.tables e below (s₁.setTop (mkF m 70 #[.val (.long x0), .second, .val (.int x1), .val (.long x2), .second, .val (.int x3), .val (.int (x3 &&& (3 : Int32))), .val (.long sr_311), .second, .val (.int ((x1 &&& (2147483647 : Int32)) % (9 : Int32))), .unset, .unset, .unset, .unset, .unset] [(.int x1)])) t
    refine XS.bipush X0.here hx rfl (hb hby at_70) ?_
    show Steps p.tables e below (s₁.setTop (mkF m 72 #[.val (.long x0), .second, .val (.int x1), .val (.long x2), .second, .val (.int x3), .val (.int (x3 &&& (3 : Int32))), .val (.long sr_311), .second, .val (.int ((x1 &&& (2147483647 : Int32)) % (9 : Int32))), .unset, .unset, .unset, .unset, .unset] [(.int (8 : Int32)), (.int x1)])) t
    refine XS.iushr X0.here hx rfl (hb hby at_72) rfl ?_
    show Steps p.tables e below (s₁.setTop (mkF m 73 #[.val (.long x0), .second, .val (.int x1), .val (.long x2), .second, .val (.int x3), .val (.int (x3 &&& (3 : Int32))), .val (.long sr_311), .second, .val (.int ((x1 &&& (2147483647 : Int32)) % (9 : Int32))), .unset, .unset, .unset, .unset, .unset] [(.int ((x1.toUInt32 >>> ((8 : Int32) &&& 31).toUInt32).toInt32))])) t
    refine X0.ldcInt hx hown (mvT hZ (hw _ (List.mem_of_getElem? (i := 1) rfl))) (g := (mkF m 73 #[.val (.long x0), .second, .val (.int x1), .val (.long x2), .second, .val (.int x3), .val (.int (x3 &&& (3 : Int32))), .val (.long sr_311), .second, .val (.int ((x1 &&& (2147483647 : Int32)) % (9 : Int32))), .unset, .unset, .unset, .unset, .unset] [(.int ((x1.toUInt32 >>> ((8 : Int32) &&& 31).toUInt32).toInt32))])) rfl (hb hby at_73) _ ?_
    show Steps p.tables e below (s₁.setTop (mkF m 75 #[.val (.long x0), .second, .val (.int x1), .val (.long x2), .second, .val (.int x3), .val (.int (x3 &&& (3 : Int32))), .val (.long sr_311), .second, .val (.int ((x1 &&& (2147483647 : Int32)) % (9 : Int32))), .unset, .unset, .unset, .unset, .unset] [(.int (8388607 : Int32)), (.int ((x1.toUInt32 >>> ((8 : Int32) &&& 31).toUInt32).toInt32))])) t
    refine XS.iand X0.here hx rfl (hb hby at_75) rfl ?_
    show Steps p.tables e below (s₁.setTop (mkF m 76 #[.val (.long x0), .second, .val (.int x1), .val (.long x2), .second, .val (.int x3), .val (.int (x3 &&& (3 : Int32))), .val (.long sr_311), .second, .val (.int ((x1 &&& (2147483647 : Int32)) % (9 : Int32))), .unset, .unset, .unset, .unset, .unset] [(.int (((x1.toUInt32 >>> ((8 : Int32) &&& 31).toUInt32).toInt32) &&& (8388607 : Int32)))])) t
    refine XS.bipush X0.here hx rfl (hb hby at_76) ?_
    show Steps p.tables e below (s₁.setTop (mkF m 78 #[.val (.long x0), .second, .val (.int x1), .val (.long x2), .second, .val (.int x3), .val (.int (x3 &&& (3 : Int32))), .val (.long sr_311), .second, .val (.int ((x1 &&& (2147483647 : Int32)) % (9 : Int32))), .unset, .unset, .unset, .unset, .unset] [(.int (9 : Int32)), (.int (((x1.toUInt32 >>> ((8 : Int32) &&& 31).toUInt32).toInt32) &&& (8388607 : Int32)))])) t
    refine iremM X0 hx rfl (hb hby at_78) rfl q349 ?_
    show Steps p.tables e below (s₁.setTop (mkF m 79 #[.val (.long x0), .second, .val (.int x1), .val (.long x2), .second, .val (.int x3), .val (.int (x3 &&& (3 : Int32))), .val (.long sr_311), .second, .val (.int ((x1 &&& (2147483647 : Int32)) % (9 : Int32))), .unset, .unset, .unset, .unset, .unset] [(.int ((((x1.toUInt32 >>> ((8 : Int32) &&& 31).toUInt32).toInt32) &&& (8388607 : Int32)) % (9 : Int32)))])) t
    refine XS.istore X0.here hx rfl (hb hby at_79) rfl (l' := #[.val (.long x0), .second, .val (.int x1), .val (.long x2), .second, .val (.int x3), .val (.int (x3 &&& (3 : Int32))), .val (.long sr_311), .second, .val (.int ((x1 &&& (2147483647 : Int32)) % (9 : Int32))), .val (.int ((((x1.toUInt32 >>> ((8 : Int32) &&& 31).toUInt32).toInt32) &&& (8388607 : Int32)) % (9 : Int32))), .unset, .unset, .unset, .unset]) rfl ?_
    exact k)
  have q352 := rng32 x1
  have q353 := (by decide : (2147483647 : Int32).toInt = 2147483647)
  have q354 := (show (x1 &&& (2147483647 : Int32)).toInt = x1.toInt % 2147483648 from c_mask x1 (2147483647 : Int32) 31 (by decide) (by decide))
  have q355 := rng32 (x1 &&& (2147483647 : Int32))
  have q356 := (by decide : (9 : Int32).toInt = 9)
  have q357 := c_irem (x1 &&& (2147483647 : Int32)) (9 : Int32) 9 rfl
  have q358 := rng32 ((x1 &&& (2147483647 : Int32)) % (9 : Int32))
  have q359 := (by decide : (8 : Int32).toInt = 8)
  have q360 := (show ((x1.toUInt32 >>> ((8 : Int32) &&& 31).toUInt32).toInt32).toInt = (x1.toInt % 4294967296) / 256 from c_iushr x1 (8 : Int32) 8 rfl (by decide))
  have q361 := rng32 ((x1.toUInt32 >>> ((8 : Int32) &&& 31).toUInt32).toInt32)
  have q362 := (by decide : (8388607 : Int32).toInt = 8388607)
  have q363 := (show (((x1.toUInt32 >>> ((8 : Int32) &&& 31).toUInt32).toInt32) &&& (8388607 : Int32)).toInt = ((x1.toUInt32 >>> ((8 : Int32) &&& 31).toUInt32).toInt32).toInt % 8388608 from c_mask ((x1.toUInt32 >>> ((8 : Int32) &&& 31).toUInt32).toInt32) (8388607 : Int32) 23 (by decide) (by decide))
  have q364 := rng32 (((x1.toUInt32 >>> ((8 : Int32) &&& 31).toUInt32).toInt32) &&& (8388607 : Int32))
  have q365 := c_irem (((x1.toUInt32 >>> ((8 : Int32) &&& 31).toUInt32).toInt32) &&& (8388607 : Int32)) (9 : Int32) 9 rfl
  have q366 := rng32 ((((x1.toUInt32 >>> ((8 : Int32) &&& 31).toUInt32).toInt32) &&& (8388607 : Int32)) % (9 : Int32))
  obtain ⟨na_351, nb_351, Sp351, K367⟩ : ∃ (na_351 : Int32) (nb_351 : Int32), (0 ≤ na_351.toInt ∧ na_351.toInt ≤ 8 ∧ 0 ≤ nb_351.toInt ∧ nb_351.toInt ≤ 8) ∧ ∀ t, Steps p.tables e below (s₁.setTop (mkF m 81 #[.val (.long x0), .second, .val (.int x1), .val (.long x2), .second, .val (.int x3), .val (.int (x3 &&& (3 : Int32))), .val (.long sr_311), .second, .val (.int na_351), .val (.int nb_351), .unset, .unset, .unset, .unset] [])) t → Steps p.tables e below (s₁.setTop (entryFrame m #[(.long x0), (.int x1), (.long x2), (.int x3)] maxLocals)) t := ⟨((x1 &&& (2147483647 : Int32)) % (9 : Int32)), ((((x1.toUInt32 >>> ((8 : Int32) &&& 31).toUInt32).toInt32) &&& (8388607 : Int32)) % (9 : Int32)), (by omega), K350⟩
  clear q352 q353 q354 q355 q356 q357 q358 q359 q360 q361 q362 q363 q364 q365 q366
  have K368 : ∀ t, Steps p.tables e below (s₁.setTop (mkF m 84 #[.val (.long x0), .second, .val (.int x1), .val (.long x2), .second, .val (.int x3), .val (.int (x3 &&& (3 : Int32))), .val (.long sr_311), .second, .val (.int na_351), .val (.int nb_351), .unset, .unset, .unset, .unset] [(.long x2), (.int na_351)])) t → Steps p.tables e below (s₁.setTop (entryFrame m #[(.long x0), (.int x1), (.long x2), (.int x3)] maxLocals)) t := fun t k => K367 t (by
    show Steps p.tables e below (s₁.setTop (mkF m 81 #[.val (.long x0), .second, .val (.int x1), .val (.long x2), .second, .val (.int x3), .val (.int (x3 &&& (3 : Int32))), .val (.long sr_311), .second, .val (.int na_351), .val (.int nb_351), .unset, .unset, .unset, .unset] [])) t
    refine XS.iload X0.here hx rfl (hb hby at_81) rfl ?_
    show Steps p.tables e below (s₁.setTop (mkF m 83 #[.val (.long x0), .second, .val (.int x1), .val (.long x2), .second, .val (.int x3), .val (.int (x3 &&& (3 : Int32))), .val (.long sr_311), .second, .val (.int na_351), .val (.int nb_351), .unset, .unset, .unset, .unset] [(.int na_351)])) t
    refine XS.lloadN X0.here hx rfl (hb hby at_83) rfl ?_
    exact k)
  have q369 := rng32 na_351
  have q370 := rng64 x2
  have q371 : 0 ≤ na_351.toInt ∧ na_351.toInt ≤ 8 := by omega
  obtain ⟨_, _, ⟨T372, L372, kk372, nn372⟩, -, X372, ⟨Lc372, hQ372, l372, y372, z372⟩, st372⟩ := Jvm.LawKit.callS X0 hx (y := (⟨"com/example/relay_queue/relayqueue/broker/ByteCounterWritePinLaw", "bytes", "(IJ)[B"⟩ : MethodName)) hown (mvT hZ (hw _ (List.mem_of_getElem? (i := 2) rfl))) (mvT hZ (hw _ (List.mem_of_getElem? (i := 3) rfl))) (mvT hZ (hw _ (List.mem_of_getElem? (i := 4) rfl))) (mvT hZ (hw _ (List.mem_of_getElem? (i := 5) rfl))) (by decide) (backOf (W := 0) (rm1 l Z a0 hw [] na_351 x2 h0 n0 Z0 q371) hZ (hw _ (List.mem_of_getElem? (i := 5) rfl)) (hw _ (List.mem_of_getElem? (i := 4) rfl)) (by decide) (by decide)) (g := (mkF m 84 #[.val (.long x0), .second, .val (.int x1), .val (.long x2), .second, .val (.int x3), .val (.int (x3 &&& (3 : Int32))), .val (.long sr_311), .second, .val (.int na_351), .val (.int nb_351), .unset, .unset, .unset, .unset] [(.long x2), (.int na_351)])) rfl (by rw [hml]; rfl) (argsL := [(.int na_351), (.long x2)]) (rest := []) (lenOf own_pd2 rfl) rfl (by show 2 * 0 + _ ≤ _; exact Nat.le_of_eq rfl) (hb hby at_84) (fun _ _ => ⟨rfl, e0, (by decide : 0 + 1 ≤ _), (by decide : 0 + 8 ≤ _)⟩)
  dsimp only [Pt.U, Pt.locs, Pt.cells, Pt.slots] at X372 l372 y372 z372 st372 hQ372
  subst l372 y372 z372
  obtain ⟨pa_372, rfl, Sp372, Nq372, Kc372, Pc372_0, Pc372_1⟩ := hQ372
  have N373 := Fr.app N0 Nq372
  obtain ⟨h372, e372⟩ : ∃ z, z = T372.heap := ⟨_, rfl⟩
  rw [← e372] at Kc372 Pc372_1
  have sb374 : h0.size ≤ pa_372 := Nat.le_trans (Keep.refl h0 []).1 Pc372_0
  have gb375 : n0 ≤ pa_372 := Nat.le_trans Z0 Pc372_0
  have Kp376 : Keep h0 h372 [] := Keep.trans (Keep.refl h0 []) Kc372 all0
  have Z377 : n0 ≤ h372.size := Nat.le_trans Z0 Kc372.1
  have K378 : ∀ t, Steps p.tables e below (T372.setTop (mkF m 87 #[.val (.long x0), .second, .val (.int x1), .val (.long x2), .second, .val (.int x3), .val (.int (x3 &&& (3 : Int32))), .val (.long sr_311), .second, .val (.int na_351), .val (.int nb_351), .unset, .unset, .unset, .unset] [(.ref pa_372)])) t → Steps p.tables e below (s₁.setTop (entryFrame m #[(.long x0), (.int x1), (.long x2), (.int x3)] maxLocals)) t := fun t k => K368 t (st372 _ k)
  have K379 : ∀ t, Steps p.tables e below (T372.setTop (mkF m 96 #[.val (.long x0), .second, .val (.int x1), .val (.long x2), .second, .val (.int x3), .val (.int (x3 &&& (3 : Int32))), .val (.long sr_311), .second, .val (.int na_351), .val (.int nb_351), .val (.ref pa_372), .unset, .unset, .unset] [(.long (x2 ^^^ (-1 : Int64))), (.int nb_351)])) t → Steps p.tables e below (s₁.setTop (entryFrame m #[(.long x0), (.int x1), (.long x2), (.int x3)] maxLocals)) t := fun t k => K378 t (by
    show Steps p.tables e below (T372.setTop (mkF m 87 #[.val (.long x0), .second, .val (.int x1), .val (.long x2), .second, .val (.int x3), .val (.int (x3 &&& (3 : Int32))), .val (.long sr_311), .second, .val (.int na_351), .val (.int nb_351), .unset, .unset, .unset, .unset] [(.ref pa_372)])) t
    refine XS.astore X372.here hx rfl (hb hby at_87) rfl rfl (l' := #[.val (.long x0), .second, .val (.int x1), .val (.long x2), .second, .val (.int x3), .val (.int (x3 &&& (3 : Int32))), .val (.long sr_311), .second, .val (.int na_351), .val (.int nb_351), .val (.ref pa_372), .unset, .unset, .unset]) rfl ?_
    show Steps p.tables e below (T372.setTop (mkF m 89 #[.val (.long x0), .second, .val (.int x1), .val (.long x2), .second, .val (.int x3), .val (.int (x3 &&& (3 : Int32))), .val (.long sr_311), .second, .val (.int na_351), .val (.int nb_351), .val (.ref pa_372), .unset, .unset, .unset] [])) t
    refine XS.iload X372.here hx rfl (hb hby at_89) rfl ?_
    show Steps p.tables e below (T372.setTop (mkF m 91 #[.val (.long x0), .second, .val (.int x1), .val (.long x2), .second, .val (.int x3), .val (.int (x3 &&& (3 : Int32))), .val (.long sr_311), .second, .val (.int na_351), .val (.int nb_351), .val (.ref pa_372), .unset, .unset, .unset] [(.int nb_351)])) t
    refine XS.lloadN X372.here hx rfl (hb hby at_91) rfl ?_
    show Steps p.tables e below (T372.setTop (mkF m 92 #[.val (.long x0), .second, .val (.int x1), .val (.long x2), .second, .val (.int x3), .val (.int (x3 &&& (3 : Int32))), .val (.long sr_311), .second, .val (.int na_351), .val (.int nb_351), .val (.ref pa_372), .unset, .unset, .unset] [(.long x2), (.int nb_351)])) t
    refine X372.ldc2Long hx hown (mvT hZ (hw _ (List.mem_of_getElem? (i := 7) rfl))) (g := (mkF m 92 #[.val (.long x0), .second, .val (.int x1), .val (.long x2), .second, .val (.int x3), .val (.int (x3 &&& (3 : Int32))), .val (.long sr_311), .second, .val (.int na_351), .val (.int nb_351), .val (.ref pa_372), .unset, .unset, .unset] [(.long x2), (.int nb_351)])) rfl (hb hby at_92) _ ?_
    show Steps p.tables e below (T372.setTop (mkF m 95 #[.val (.long x0), .second, .val (.int x1), .val (.long x2), .second, .val (.int x3), .val (.int (x3 &&& (3 : Int32))), .val (.long sr_311), .second, .val (.int na_351), .val (.int nb_351), .val (.ref pa_372), .unset, .unset, .unset] [(.long (-1 : Int64)), (.long x2), (.int nb_351)])) t
    refine XS.lxor X372.here hx rfl (hb hby at_95) rfl ?_
    exact k)
  have q380 := rng32 nb_351
  have q381 := (by decide : (-1 : Int64).toInt = -1)
  have q382 := rng64 (x2 ^^^ (-1 : Int64))
  have q383 : 0 ≤ nb_351.toInt ∧ nb_351.toInt ≤ 8 := by omega
  obtain ⟨_, _, ⟨T384, L384, kk384, nn384⟩, -, X384, ⟨Lc384, hQ384, l384, y384, z384⟩, st384⟩ := Jvm.LawKit.callS X372 hx (y := (⟨"com/example/relay_queue/relayqueue/broker/ByteCounterWritePinLaw", "bytes", "(IJ)[B"⟩ : MethodName)) hown (mvT hZ (hw _ (List.mem_of_getElem? (i := 2) rfl))) (mvT hZ (hw _ (List.mem_of_getElem? (i := 3) rfl))) (mvT hZ (hw _ (List.mem_of_getElem? (i := 4) rfl))) (mvT hZ (hw _ (List.mem_of_getElem? (i := 5) rfl))) (by decide) (backOf (W := 0) (rm1 l Z a0 hw [] nb_351 (x2 ^^^ (-1 : Int64)) h372 n0 Z377 q383) hZ (hw _ (List.mem_of_getElem? (i := 5) rfl)) (hw _ (List.mem_of_getElem? (i := 4) rfl)) (by decide) (by decide)) (g := (mkF m 96 #[.val (.long x0), .second, .val (.int x1), .val (.long x2), .second, .val (.int x3), .val (.int (x3 &&& (3 : Int32))), .val (.long sr_311), .second, .val (.int na_351), .val (.int nb_351), .val (.ref pa_372), .unset, .unset, .unset] [(.long (x2 ^^^ (-1 : Int64))), (.int nb_351)])) rfl (by rw [hml]; rfl) (argsL := [(.int nb_351), (.long (x2 ^^^ (-1 : Int64)))]) (rest := []) (lenOf own_pd2 rfl) rfl (by show 2 * 0 + _ ≤ _; exact Nat.le_of_eq rfl) (hb hby at_96) (fun _ _ => ⟨rfl, e372.symm, (by decide : 1 + 1 ≤ _), (by decide : 8 + 8 ≤ _)⟩)
  dsimp only [Pt.U, Pt.locs, Pt.cells, Pt.slots] at X384 l384 y384 z384 st384 hQ384
  subst l384 y384 z384
  obtain ⟨pa_384, rfl, Sp384, Nq384, Kc384, Pc384_0, Pc384_1⟩ := hQ384
  have N385 := Fr.app N373 Nq384
  obtain ⟨h384, e384⟩ : ∃ z, z = T384.heap := ⟨_, rfl⟩
  rw [← e384] at Kc384 Pc384_1
  have ne386 : pa_372 ≠ pa_384 := Nat.ne_of_lt (Nat.lt_of_lt_of_le Pc372_1.lt Pc384_0)
  have sb387 : h0.size ≤ pa_384 := Nat.le_trans Kp376.1 Pc384_0
  have gb388 : n0 ≤ pa_384 := Nat.le_trans Z377 Pc384_0
  have F389 := Pc372_1.keep Kc384 nin0
  have Kp390 : Keep h0 h384 [] := Keep.trans Kp376 Kc384 all0
  have Z391 : n0 ≤ h384.size := Nat.le_trans Z377 Kc384.1
  have K392 : ∀ t, Steps p.tables e below (T384.setTop (mkF m 99 #[.val (.long x0), .second, .val (.int x1), .val (.long x2), .second, .val (.int x3), .val (.int (x3 &&& (3 : Int32))), .val (.long sr_311), .second, .val (.int na_351), .val (.int nb_351), .val (.ref pa_372), .unset, .unset, .unset] [(.ref pa_384)])) t → Steps p.tables e below (s₁.setTop (entryFrame m #[(.long x0), (.int x1), (.long x2), (.int x3)] maxLocals)) t := fun t k => K379 t (st384 _ k)
  have K393 : ∀ t, Steps p.tables e below (T384.setTop (mkF m 101 #[.val (.long x0), .second, .val (.int x1), .val (.long x2), .second, .val (.int x3), .val (.int (x3 &&& (3 : Int32))), .val (.long sr_311), .second, .val (.int na_351), .val (.int nb_351), .val (.ref pa_372), .val (.ref pa_384), .unset, .unset] [])) t → Steps p.tables e below (s₁.setTop (entryFrame m #[(.long x0), (.int x1), (.long x2), (.int x3)] maxLocals)) t := fun t k => K392 t (by
    show Steps p.tables e below (T384.setTop (mkF m 99 #[.val (.long x0), .second, .val (.int x1), .val (.long x2), .second, .val (.int x3), .val (.int (x3 &&& (3 : Int32))), .val (.long sr_311), .second, .val (.int na_351), .val (.int nb_351), .val (.ref pa_372), .unset, .unset, .unset] [(.ref pa_384)])) t
    refine XS.astore X384.here hx rfl (hb hby at_99) rfl rfl (l' := #[.val (.long x0), .second, .val (.int x1), .val (.long x2), .second, .val (.int x3), .val (.int (x3 &&& (3 : Int32))), .val (.long sr_311), .second, .val (.int na_351), .val (.int nb_351), .val (.ref pa_372), .val (.ref pa_384), .unset, .unset]) rfl ?_
    exact k)
  obtain ⟨T394, h394, X394, e394, E394, A394, D394, M394, st394⟩ := newO X384 hx hZ hown (hw _ (List.mem_of_getElem? (i := 8) rfl)) (hw _ (List.mem_of_getElem? (i := 9) rfl)) (hw _ (List.mem_of_getElem? (i := 10) rfl)) e384.symm (g := (mkF m 101 #[.val (.long x0), .second, .val (.int x1), .val (.long x2), .second, .val (.int x3), .val (.int (x3 &&& (3 : Int32))), .val (.long sr_311), .second, .val (.int na_351), .val (.int nb_351), .val (.ref pa_372), .val (.ref pa_384), .unset, .unset] [])) rfl (hb hby at_101) (by decide) (by decide)
  obtain ⟨b394, g394⟩ : ∃ z, z = h384.size := ⟨_, rfl⟩
  rw [← g394] at A394 D394 M394 st394
  have ne395 : pa_372 ≠ b394 := Nat.ne_of_lt (Nat.lt_of_lt_of_le F389.lt (Nat.le_of_eq g394.symm))
  have ne396 : pa_384 ≠ b394 := Nat.ne_of_lt (Nat.lt_of_lt_of_le Pc384_1.lt (Nat.le_of_eq g394.symm))
  have gb397 : n0 ≤ b394 := Nat.le_trans Z391 (Nat.le_of_eq g394.symm)
  have sb398 : h0.size ≤ b394 := Nat.le_trans Kp390.1 (Nat.le_of_eq g394.symm)
  have F399 := F389.ext E394
  have F400 := Pc384_1.ext E394
  have Z401 : n0 ≤ h394.size := Nat.le_trans Z391 E394.1
  have Kp402 : Keep h0 h394 [] := Keep.ext Kp390 E394
  have F403 : Fld Z h394 b394 "com/example/relay_queue/relayqueue/broker/ByteWriter" "bytes" "[B" .null := D394 (Or.inl (hw _ (List.mem_of_getElem? (i := 23) rfl))) (ty := (.array .byte)) (by decide)
  have F404 : Fld Z h394 b394 "com/example/relay_queue/relayqueue/broker/ByteCounter" "count" "J" (.long (0 : Int64)) := D394 (Or.inl (hw _ (List.mem_of_getElem? (i := 37) rfl))) (ty := .long) (by decide)
  have K405 : ∀ t, Steps p.tables e below (T394.setTop (mkF m 104 #[.val (.long x0), .second, .val (.int x1), .val (.long x2), .second, .val (.int x3), .val (.int (x3 &&& (3 : Int32))), .val (.long sr_311), .second, .val (.int na_351), .val (.int nb_351), .val (.ref pa_372), .val (.ref pa_384), .unset, .unset] [(.ref b394)])) t → Steps p.tables e below (s₁.setTop (entryFrame m #[(.long x0), (.int x1), (.long x2), (.int x3)] maxLocals)) t := fun t k => K393 t (st394 _ k)
  have K406 : ∀ t, Steps p.tables e below (T394.setTop (mkF m 105 #[.val (.long x0), .second, .val (.int x1), .val (.long x2), .second, .val (.int x3), .val (.int (x3 &&& (3 : Int32))), .val (.long sr_311), .second, .val (.int na_351), .val (.int nb_351), .val (.ref pa_372), .val (.ref pa_384), .unset, .unset] [(.ref b394), (.ref b394)])) t → Steps p.tables e below (s₁.setTop (entryFrame m #[(.long x0), (.int x1), (.long x2), (.int x3)] maxLocals)) t := fun t k => K405 t (by
    show Steps p.tables e below (T394.setTop (mkF m 104 #[.val (.long x0), .second, .val (.int x1), .val (.long x2), .second, .val (.int x3), .val (.int (x3 &&& (3 : Int32))), .val (.long sr_311), .second, .val (.int na_351), .val (.int nb_351), .val (.ref pa_372), .val (.ref pa_384), .unset, .unset] [(.ref b394)])) t
    refine XS.dup X394.here hx rfl (hb hby at_104) rfl rfl ?_
    exact k)
  obtain ⟨_, _, ⟨T407, L407, kk407, nn407⟩, -, X407, ⟨Lc407, hQ407, l407, y407, z407⟩, st407⟩ := X394.specialBack hx (y := (⟨"com/example/relay_queue/relayqueue/broker/ByteCounter", "<init>", "()V"⟩ : MethodName)) rfl hown (mvT hZ (hw _ (List.mem_of_getElem? (i := 11) rfl))) (mvT hZ (hw _ (List.mem_of_getElem? (i := 12) rfl))) (mvT hZ (hw _ (List.mem_of_getElem? (i := 13) rfl))) (by decide) (backOf (W := 1) (rm2 l Z a0 hw [] b394 h394 n0 Z401 A394 F403 F404 gb397) hZ (hw _ (List.mem_of_getElem? (i := 13) rfl)) (hw _ (List.mem_of_getElem? (i := 10) rfl)) (by decide) (by decide)) (g := (mkF m 105 #[.val (.long x0), .second, .val (.int x1), .val (.long x2), .second, .val (.int x3), .val (.int (x3 &&& (3 : Int32))), .val (.long sr_311), .second, .val (.int na_351), .val (.int nb_351), .val (.ref pa_372), .val (.ref pa_384), .unset, .unset] [(.ref b394), (.ref b394)])) rfl (by rw [hml]; rfl) (Steps.refl _) (a := b394) (argsL := []) (rest := [(.ref b394)]) (lenOf own_pd3 rfl) rfl (by show 2 * 0 + _ ≤ _; exact Nat.le_of_eq rfl) (hb hby at_105) (fun _ _ => ⟨rfl, e394, (by decide : 3 + 1 ≤ _), (by decide : 19 + 0 ≤ _)⟩)
  dsimp only [Pt.U, Pt.locs, Pt.cells, Pt.slots] at X407 l407 y407 z407 st407 hQ407
  subst l407 y407 z407
  obtain ⟨rfl, Sp407, Nq407, Kc407, Pc407_0, Pc407_1⟩ := hQ407
  have N408 := Fr.app N385 Nq407
  obtain ⟨h407, e407⟩ : ∃ z, z = T407.heap := ⟨_, rfl⟩
  rw [← e407] at Kc407 Pc407_0 Pc407_1
  have F409 := F399.keep Kc407 (ninS ne395 nin0)
  have F410 := F400.keep Kc407 (ninS ne396 nin0)
  have F411 := A394.keep Kc407
  have Kp412 : Keep h0 h407 [] := Keep.trans Kp402 Kc407 (allS (Or.inr sb398) all0)
  have Z413 : n0 ≤ h407.size := Nat.le_trans Z401 Kc407.1
  have K414 : ∀ t, Steps p.tables e below (T407.setTop (mkF m 108 #[.val (.long x0), .second, .val (.int x1), .val (.long x2), .second, .val (.int x3), .val (.int (x3 &&& (3 : Int32))), .val (.long sr_311), .second, .val (.int na_351), .val (.int nb_351), .val (.ref pa_372), .val (.ref pa_384), .unset, .unset] [(.ref b394)])) t → Steps p.tables e below (s₁.setTop (entryFrame m #[(.long x0), (.int x1), (.long x2), (.int x3)] maxLocals)) t := fun t k => K406 t (st407.trans k)
  have K415 : ∀ t, Steps p.tables e below (T407.setTop (mkF m 112 #[.val (.long x0), .second, .val (.int x1), .val (.long x2), .second, .val (.int x3), .val (.int (x3 &&& (3 : Int32))), .val (.long sr_311), .second, .val (.int na_351), .val (.int nb_351), .val (.ref pa_372), .val (.ref pa_384), .val (.ref b394), .unset] [(.ref b394)])) t → Steps p.tables e below (s₁.setTop (entryFrame m #[(.long x0), (.int x1), (.long x2), (.int x3)] maxLocals)) t := fun t k => K414 t (by
    show Steps p.tables e below (T407.setTop (mkF m 108 #[.val (.long x0), .second, .val (.int x1), .val (.long x2), .second, .val (.int x3), .val (.int (x3 &&& (3 : Int32))), .val (.long sr_311), .second, .val (.int na_351), .val (.int nb_351), .val (.ref pa_372), .val (.ref pa_384), .unset, .unset] [(.ref b394)])) t
    refine XS.astore X407.here hx rfl (hb hby at_108) rfl rfl (l' := #[.val (.long x0), .second, .val (.int x1), .val (.long x2), .second, .val (.int x3), .val (.int (x3 &&& (3 : Int32))), .val (.long sr_311), .second, .val (.int na_351), .val (.int nb_351), .val (.ref pa_372), .val (.ref pa_384), .val (.ref b394), .unset]) rfl ?_
    show Steps p.tables e below (T407.setTop (mkF m 110 #[.val (.long x0), .second, .val (.int x1), .val (.long x2), .second, .val (.int x3), .val (.int (x3 &&& (3 : Int32))), .val (.long sr_311), .second, .val (.int na_351), .val (.int nb_351), .val (.ref pa_372), .val (.ref pa_384), .val (.ref b394), .unset] [])) t
    refine XS.aload X407.here hx rfl (hb hby at_110) rfl rfl ?_
    exact k)
  have hS0 : s.Since s.vm 0 := (State.WarmedH.refl s).since 0
  have wSt : ∀ a ∈ Bundle.stringAtoms, a.before a0 Z = true := fun a ha => by
    simp only [Bundle.stringAtoms, List.mem_cons, List.not_mem_nil, or_false] at ha
    rcases ha with rfl | rfl | rfl | rfl | rfl | rfl | rfl
    · exact (hw _ (List.mem_of_getElem? (i := 25) rfl))
    · exact (hw _ (List.mem_of_getElem? (i := 26) rfl))
    · exact (hw _ (List.mem_of_getElem? (i := 6) rfl))
    · exact (hw _ (List.mem_of_getElem? (i := 27) rfl))
    · exact (hw _ (List.mem_of_getElem? (i := 28) rfl))
    · exact (hw _ (List.mem_of_getElem? (i := 29) rfl))
    · exact (hw _ (List.mem_of_getElem? (i := 30) rfl))
  obtain ⟨a416, T416, h416, kx416, X416, e416, E416, hS416, hk416, hZ416, hown416, st416⟩ := ldcS (s := s) (vm0 := s.vm) X407 hx hZ hown (hw _ (List.mem_of_getElem? (i := 24) rfl)) wSt e407.symm hS0 (Nat.zero_le _) (g := (mkF m 112 #[.val (.long x0), .second, .val (.int x1), .val (.long x2), .second, .val (.int x3), .val (.int (x3 &&& (3 : Int32))), .val (.long sr_311), .second, .val (.int na_351), .val (.int nb_351), .val (.ref pa_372), .val (.ref pa_384), .val (.ref b394), .unset] [(.ref b394)])) rfl (hb hby at_112) (n := 0) (by decide) (by decide) (by decide) (by decide)
  have hZ := hZ416
  have hown := hown416
  have F417 := F409.ext E416
  have F418 := F410.ext E416
  have F419 := Pc407_0.ext E416
  have F420 := Pc407_1.ext E416
  have Z421 : n0 ≤ h416.size := Nat.le_trans Z413 E416.1
  have Kp422 : Keep h0 h416 [] := Keep.ext Kp412 E416
  have K423 : ∀ t, Steps p.tables e below (T416.setTop (mkF m 114 #[.val (.long x0), .second, .val (.int x1), .val (.long x2), .second, .val (.int x3), .val (.int (x3 &&& (3 : Int32))), .val (.long sr_311), .second, .val (.int na_351), .val (.int nb_351), .val (.ref pa_372), .val (.ref pa_384), .val (.ref b394), .unset] [(.ref a416), (.ref b394)])) t → Steps p.tables e below (s₁.setTop (entryFrame m #[(.long x0), (.int x1), (.long x2), (.int x3)] maxLocals)) t := fun t k => K415 t (st416 _ k)
  have K424 : ∀ t, Steps p.tables e below (T416.setTop (mkF m 116 #[.val (.long x0), .second, .val (.int x1), .val (.long x2), .second, .val (.int x3), .val (.int (x3 &&& (3 : Int32))), .val (.long sr_311), .second, .val (.int na_351), .val (.int nb_351), .val (.ref pa_372), .val (.ref pa_384), .val (.ref b394), .unset] [(.long sr_311), (.ref a416), (.ref b394)])) t → Steps p.tables e below (s₁.setTop (entryFrame m #[(.long x0), (.int x1), (.long x2), (.int x3)] maxLocals)) t := fun t k => K423 t (by
    show Steps p.tables e below (T416.setTop (mkF m 114 #[.val (.long x0), .second, .val (.int x1), .val (.long x2), .second, .val (.int x3), .val (.int (x3 &&& (3 : Int32))), .val (.long sr_311), .second, .val (.int na_351), .val (.int nb_351), .val (.ref pa_372), .val (.ref pa_384), .val (.ref b394), .unset] [(.ref a416), (.ref b394)])) t
    refine XS.lload X416.here hx rfl (hb hby at_114) rfl ?_
    exact k)
  have q425 := rng64 sr_311
  have q426 := (by decide : (0 : Int64).toInt = 0)
  have q427 : 0 ≤ (0 : Int64).toInt ∧ 0 ≤ sr_311.toInt ∧ (0 : Int64).toInt + sr_311.toInt < 9223372036854775807 := by omega
  obtain ⟨cq428, kq428, q428a, q428b, q428c⟩ := isOf hZ e416 F419
  obtain ⟨_, _, ⟨T428, L428, kk428, nn428⟩, -, X428, ⟨Lc428, hQ428, l428, y428, z428⟩, st428⟩ := X416.virtualBack hx (y := (⟨"com/example/relay_queue/relayqueue/broker/ByteCounter", "writeUtf8", "(Ljava/lang/String;J)V"⟩ : MethodName)) (z := (⟨"com/example/relay_queue/relayqueue/broker/ByteCounter", "writeUtf8", "(Ljava/lang/String;J)V"⟩ : MethodName)) hown (mvT hZ (hw _ (List.mem_of_getElem? (i := 31) rfl))) (mvT hZ (hw _ (List.mem_of_getElem? (i := 32) rfl))) (notFace_of_selects (args := #[]) (mvT hZ (hw _ (List.mem_of_getElem? (i := 34) rfl)))) (mvT hZ (hw _ (List.mem_of_getElem? (i := 34) rfl))) (mvT hZ (hw _ (List.mem_of_getElem? (i := 33) rfl))) (by decide) (backOf (W := 0) (rm5 l Z a0 hw [] b394 a416 sr_311 (0 : Int64) h416 n0 Z421 F419 F420 gb397 q427) hZ (hw _ (List.mem_of_getElem? (i := 35) rfl)) (hw _ (List.mem_of_getElem? (i := 10) rfl)) (by decide) (by decide)) q428a q428c (g := (mkF m 116 #[.val (.long x0), .second, .val (.int x1), .val (.long x2), .second, .val (.int x3), .val (.int (x3 &&& (3 : Int32))), .val (.long sr_311), .second, .val (.int na_351), .val (.int nb_351), .val (.ref pa_372), .val (.ref pa_384), .val (.ref b394), .unset] [(.long sr_311), (.ref a416), (.ref b394)])) rfl (by rw [hml]; rfl) (Steps.refl _) (argsL := [(.ref a416), (.long sr_311)]) (rest := []) (lenOf own_pd4 rfl) rfl (by show 2 * 0 + _ ≤ _; exact Nat.le_of_eq rfl) (hb hby at_116) (fun _ _ => ⟨rfl, e416, (by decide : 6 + 0 ≤ _), (by decide : 23 + 0 ≤ _)⟩)
  dsimp only [Pt.U, Pt.locs, Pt.cells, Pt.slots] at X428 l428 y428 z428 st428 hQ428
  subst l428 y428 z428
  obtain ⟨w'_428, rfl, Sp428, Nq428, Kc428, Pc428_0, Pc428_1⟩ := hQ428
  have N429 := Fr.app N408 Nq428
  obtain ⟨h428, e428⟩ : ∃ z, z = T428.heap := ⟨_, rfl⟩
  rw [← e428] at Kc428 Pc428_0 Pc428_1
  have F430 := F417.keep Kc428 (ninS ne395 nin0)
  have F431 := F418.keep Kc428 (ninS ne396 nin0)
  have F432 := F419.keep Kc428
  have Kp433 : Keep h0 h428 [] := Keep.trans Kp422 Kc428 (allS (Or.inr sb398) all0)
  have Z434 : n0 ≤ h428.size := Nat.le_trans Z421 Kc428.1
  have Zk435 := Nat.le_trans hk416 Kc428.1
  have K436 : ∀ t, Steps p.tables e below (T428.setTop (mkF m 119 #[.val (.long x0), .second, .val (.int x1), .val (.long x2), .second, .val (.int x3), .val (.int (x3 &&& (3 : Int32))), .val (.long sr_311), .second, .val (.int na_351), .val (.int nb_351), .val (.ref pa_372), .val (.ref pa_384), .val (.ref b394), .unset] [])) t → Steps p.tables e below (s₁.setTop (entryFrame m #[(.long x0), (.int x1), (.long x2), (.int x3)] maxLocals)) t := fun t k => K424 t (st428.trans k)
  have K437 : ∀ t, Steps p.tables e below (T428.setTop (mkF m 121 #[.val (.long x0), .second, .val (.int x1), .val (.long x2), .second, .val (.int x3), .val (.int (x3 &&& (3 : Int32))), .val (.long sr_311), .second, .val (.int na_351), .val (.int nb_351), .val (.ref pa_372), .val (.ref pa_384), .val (.ref b394), .unset] [(.ref b394)])) t → Steps p.tables e below (s₁.setTop (entryFrame m #[(.long x0), (.int x1), (.long x2), (.int x3)] maxLocals)) t := fun t k => K436 t (by
    show Steps p.tables e below (T428.setTop (mkF m 119 #[.val (.long x0), .second, .val (.int x1), .val (.long x2), .second, .val (.int x3), .val (.int (x3 &&& (3 : Int32))), .val (.long sr_311), .second, .val (.int na_351), .val (.int nb_351), .val (.ref pa_372), .val (.ref pa_384), .val (.ref b394), .unset] [])) t
    refine XS.aload X428.here hx rfl (hb hby at_119) rfl rfl ?_
    exact k)
  have q438 := rng64 w'_428
  have q439 : 0 ≤ w'_428.toInt := by omega
  obtain ⟨cq440, kq440, q440a, q440b, q440c⟩ := isOf hZ e428.symm Pc428_0
  obtain ⟨_, _, ⟨T440, L440, kk440, nn440⟩, -, X440, ⟨Lc440, hQ440, l440, y440, z440⟩, st440⟩ := X428.virtualBack hx (y := (⟨"com/example/relay_queue/relayqueue/broker/ByteCounter", "size", "()I"⟩ : MethodName)) (z := (⟨"com/example/relay_queue/relayqueue/broker/ByteCounter", "size", "()I"⟩ : MethodName)) hown (mvT hZ (hw _ (List.mem_of_getElem? (i := 38) rfl))) (mvT hZ (hw _ (List.mem_of_getElem? (i := 39) rfl))) (notFace_of_selects (args := #[]) (mvT hZ (hw _ (List.mem_of_getElem? (i := 41) rfl)))) (mvT hZ (hw _ (List.mem_of_getElem? (i := 41) rfl))) (mvT hZ (hw _ (List.mem_of_getElem? (i := 40) rfl))) (by decide) (backOf (W := 0) (rm6 l Z a0 hw [] b394 w'_428 h428 n0 Z434 Pc428_1 q439) hZ (hw _ (List.mem_of_getElem? (i := 42) rfl)) (hw _ (List.mem_of_getElem? (i := 10) rfl)) (by decide) (by decide)) q440a q440c (g := (mkF m 121 #[.val (.long x0), .second, .val (.int x1), .val (.long x2), .second, .val (.int x3), .val (.int (x3 &&& (3 : Int32))), .val (.long sr_311), .second, .val (.int na_351), .val (.int nb_351), .val (.ref pa_372), .val (.ref pa_384), .val (.ref b394), .unset] [(.ref b394)])) rfl (by rw [hml]; rfl) (Steps.refl _) (argsL := []) (rest := []) (lenOf own_pd5 rfl) rfl (by show 2 * 0 + _ ≤ _; exact Nat.le_of_eq rfl) (hb hby at_121) (fun _ _ => ⟨rfl, e428.symm, (by decide : 6 + 0 ≤ _), (by decide : 23 + 0 ≤ _)⟩)
  dsimp only [Pt.U, Pt.locs, Pt.cells, Pt.slots] at X440 l440 y440 z440 st440 hQ440
  subst l440 y440 z440
  obtain ⟨r_440, rfl, Sp440, Nq440, eh440⟩ := hQ440
  have N441 := Fr.app N429 Nq440
  have K442 : ∀ t, Steps p.tables e below (T440.setTop (mkF m 124 #[.val (.long x0), .second, .val (.int x1), .val (.long x2), .second, .val (.int x3), .val (.int (x3 &&& (3 : Int32))), .val (.long sr_311), .second, .val (.int na_351), .val (.int nb_351), .val (.ref pa_372), .val (.ref pa_384), .val (.ref b394), .unset] [(.int r_440)])) t → Steps p.tables e below (s₁.setTop (entryFrame m #[(.long x0), (.int x1), (.long x2), (.int x3)] maxLocals)) t := fun t k => K437 t (st440.trans k)
  have K443 : ∀ t, Steps p.tables e below (T440.setTop (mkF m 126 #[.val (.long x0), .second, .val (.int x1), .val (.long x2), .second, .val (.int x3), .val (.int (x3 &&& (3 : Int32))), .val (.long sr_311), .second, .val (.int na_351), .val (.int nb_351), .val (.ref pa_372), .val (.ref pa_384), .val (.ref b394), .unset] [(.long sr_311), (.int r_440)])) t → Steps p.tables e below (s₁.setTop (entryFrame m #[(.long x0), (.int x1), (.long x2), (.int x3)] maxLocals)) t := fun t k => K442 t (by
    show Steps p.tables e below (T440.setTop (mkF m 124 #[.val (.long x0), .second, .val (.int x1), .val (.long x2), .second, .val (.int x3), .val (.int (x3 &&& (3 : Int32))), .val (.long sr_311), .second, .val (.int na_351), .val (.int nb_351), .val (.ref pa_372), .val (.ref pa_384), .val (.ref b394), .unset] [(.int r_440)])) t
    refine XS.lload X440.here hx rfl (hb hby at_124) rfl ?_
    exact k)
  have q444 : 0 ≤ sr_311.toInt := by omega
  obtain ⟨_, _, ⟨T445, L445, kk445, nn445⟩, -, X445, ⟨Lc445, hQ445, l445, y445, z445⟩, st445⟩ := Jvm.LawKit.callS X440 hx (y := (⟨"com/example/relay_queue/relayqueue/broker/ByteCounterWritePinLaw", "ref", "(J)I"⟩ : MethodName)) hown (mvT hZ (hw _ (List.mem_of_getElem? (i := 48) rfl))) (mvT hZ (hw _ (List.mem_of_getElem? (i := 49) rfl))) (mvT hZ (hw _ (List.mem_of_getElem? (i := 4) rfl))) (mvT hZ (hw _ (List.mem_of_getElem? (i := 50) rfl))) (by decide) (backOf (W := 1) (rm8 l Z a0 hw [] sr_311 h428 n0 Z434 q444) hZ (hw _ (List.mem_of_getElem? (i := 50) rfl)) (hw _ (List.mem_of_getElem? (i := 4) rfl)) (by decide) (by decide)) (g := (mkF m 126 #[.val (.long x0), .second, .val (.int x1), .val (.long x2), .second, .val (.int x3), .val (.int (x3 &&& (3 : Int32))), .val (.long sr_311), .second, .val (.int na_351), .val (.int nb_351), .val (.ref pa_372), .val (.ref pa_384), .val (.ref b394), .unset] [(.long sr_311), (.int r_440)])) rfl (by rw [hml]; rfl) (argsL := [(.long sr_311)]) (rest := [(.int r_440)]) (lenOf own_pd6 rfl) rfl (by show 2 * 0 + _ ≤ _; exact Nat.le_of_eq rfl) (hb hby at_126) (fun _ _ => ⟨rfl, eh440, (by decide : 6 + 0 ≤ _), (by decide : 23 + 0 ≤ _)⟩)
  dsimp only [Pt.U, Pt.locs, Pt.cells, Pt.slots] at X445 l445 y445 z445 st445 hQ445
  subst l445 y445 z445
  obtain ⟨r_445, rfl, Sp445, Nq445, eh445⟩ := hQ445
  have N446 := Fr.app N441 Nq445
  have K447 : ∀ t, Steps p.tables e below (T445.setTop (mkF m 129 #[.val (.long x0), .second, .val (.int x1), .val (.long x2), .second, .val (.int x3), .val (.int (x3 &&& (3 : Int32))), .val (.long sr_311), .second, .val (.int na_351), .val (.int nb_351), .val (.ref pa_372), .val (.ref pa_384), .val (.ref b394), .unset] [(.int r_445), (.int r_440)])) t → Steps p.tables e below (s₁.setTop (entryFrame m #[(.long x0), (.int x1), (.long x2), (.int x3)] maxLocals)) t := fun t k => K443 t (st445 _ k)
  have q449 := rng32 r_440
  have q450 := rng32 r_445
  have hc448 : r_440 = r_445 := Int32.toInt_inj.mp (by omega)
  have q451 : r_440.toInt = r_445.toInt := congrArg Int32.toInt hc448
  have K452 : ∀ t, Steps p.tables e below (T445.setTop (mkF m 143 #[.val (.long x0), .second, .val (.int x1), .val (.long x2), .second, .val (.int x3), .val (.int (x3 &&& (3 : Int32))), .val (.long sr_311), .second, .val (.int na_351), .val (.int nb_351), .val (.ref pa_372), .val (.ref pa_384), .val (.ref b394), .val (.int (1 : Int32))] [(.ref pa_372), (.ref b394)])) t → Steps p.tables e below (s₁.setTop (entryFrame m #[(.long x0), (.int x1), (.long x2), (.int x3)] maxLocals)) t := fun t k => K447 t (by
    show Steps p.tables e below (T445.setTop (mkF m 129 #[.val (.long x0), .second, .val (.int x1), .val (.long x2), .second, .val (.int x3), .val (.int (x3 &&& (3 : Int32))), .val (.long sr_311), .second, .val (.int na_351), .val (.int nb_351), .val (.ref pa_372), .val (.ref pa_384), .val (.ref b394), .unset] [(.int r_445), (.int r_440)])) t
    refine XS.icmpNo X445.here hx rfl (hb hby at_129) rfl (teq hc448).2 ?_
    show Steps p.tables e below (T445.setTop (mkF m 132 #[.val (.long x0), .second, .val (.int x1), .val (.long x2), .second, .val (.int x3), .val (.int (x3 &&& (3 : Int32))), .val (.long sr_311), .second, .val (.int na_351), .val (.int nb_351), .val (.ref pa_372), .val (.ref pa_384), .val (.ref b394), .unset] [])) t
    refine XS.iconst X445.here hx rfl (hb hby at_132) ?_
    show Steps p.tables e below (T445.setTop (mkF m 133 #[.val (.long x0), .second, .val (.int x1), .val (.long x2), .second, .val (.int x3), .val (.int (x3 &&& (3 : Int32))), .val (.long sr_311), .second, .val (.int na_351), .val (.int nb_351), .val (.ref pa_372), .val (.ref pa_384), .val (.ref b394), .unset] [(.int (1 : Int32))])) t
    refine XS.goto X445.here hx rfl (pc0 := 133) (pc' := 137) rfl (hb hby at_133) (by decide) (by decide) ?_
    show Steps p.tables e below (T445.setTop (mkF m 137 #[.val (.long x0), .second, .val (.int x1), .val (.long x2), .second, .val (.int x3), .val (.int (x3 &&& (3 : Int32))), .val (.long sr_311), .second, .val (.int na_351), .val (.int nb_351), .val (.ref pa_372), .val (.ref pa_384), .val (.ref b394), .unset] [(.int (1 : Int32))])) t
    refine XS.istore X445.here hx rfl (hb hby at_137) rfl (l' := #[.val (.long x0), .second, .val (.int x1), .val (.long x2), .second, .val (.int x3), .val (.int (x3 &&& (3 : Int32))), .val (.long sr_311), .second, .val (.int na_351), .val (.int nb_351), .val (.ref pa_372), .val (.ref pa_384), .val (.ref b394), .val (.int (1 : Int32))]) rfl ?_
    show Steps p.tables e below (T445.setTop (mkF m 139 #[.val (.long x0), .second, .val (.int x1), .val (.long x2), .second, .val (.int x3), .val (.int (x3 &&& (3 : Int32))), .val (.long sr_311), .second, .val (.int na_351), .val (.int nb_351), .val (.ref pa_372), .val (.ref pa_384), .val (.ref b394), .val (.int (1 : Int32))] [])) t
    refine XS.aload X445.here hx rfl (hb hby at_139) rfl rfl ?_
    show Steps p.tables e below (T445.setTop (mkF m 141 #[.val (.long x0), .second, .val (.int x1), .val (.long x2), .second, .val (.int x3), .val (.int (x3 &&& (3 : Int32))), .val (.long sr_311), .second, .val (.int na_351), .val (.int nb_351), .val (.ref pa_372), .val (.ref pa_384), .val (.ref b394), .val (.int (1 : Int32))] [(.ref b394)])) t
    refine XS.aload X445.here hx rfl (hb hby at_141) rfl rfl ?_
    exact k)
  have q453 : 0 ≤ w'_428.toInt ∧ 0 ≤ na_351.toInt ∧ w'_428.toInt + na_351.toInt < 9223372036854775807 := by omega
  obtain ⟨cq454, kq454, q454a, q454b, q454c⟩ := isOf hZ eh445 Pc428_0
  obtain ⟨_, _, ⟨T454, L454, kk454, nn454⟩, -, X454, ⟨Lc454, hQ454, l454, y454, z454⟩, st454⟩ := X445.virtualBack hx (y := (⟨"com/example/relay_queue/relayqueue/broker/ByteCounter", "write", "([B)V"⟩ : MethodName)) (z := (⟨"com/example/relay_queue/relayqueue/broker/ByteCounter", "write", "([B)V"⟩ : MethodName)) hown (mvT hZ (hw _ (List.mem_of_getElem? (i := 52) rfl))) (mvT hZ (hw _ (List.mem_of_getElem? (i := 53) rfl))) (notFace_of_selects (args := #[]) (mvT hZ (hw _ (List.mem_of_getElem? (i := 55) rfl)))) (mvT hZ (hw _ (List.mem_of_getElem? (i := 55) rfl))) (mvT hZ (hw _ (List.mem_of_getElem? (i := 54) rfl))) (by decide) (backOf (W := 0) (rm9 l Z a0 hw [] b394 pa_372 w'_428 na_351 h428 n0 Z434 Pc428_0 Pc428_1 gb397 F430 q453) hZ (hw _ (List.mem_of_getElem? (i := 56) rfl)) (hw _ (List.mem_of_getElem? (i := 10) rfl)) (by decide) (by decide)) q454a q454c (g := (mkF m 143 #[.val (.long x0), .second, .val (.int x1), .val (.long x2), .second, .val (.int x3), .val (.int (x3 &&& (3 : Int32))), .val (.long sr_311), .second, .val (.int na_351), .val (.int nb_351), .val (.ref pa_372), .val (.ref pa_384), .val (.ref b394), .val (.int (1 : Int32))] [(.ref pa_372), (.ref b394)])) rfl (by rw [hml]; rfl) (Steps.refl _) (argsL := [(.ref pa_372)]) (rest := []) (lenOf own_pd7 rfl) rfl (by show 2 * 0 + _ ≤ _; exact Nat.le_of_eq rfl) (hb hby at_143) (fun _ _ => ⟨rfl, eh445, (by decide : 6 + 0 ≤ _), (by decide : 23 + 0 ≤ _)⟩)
  dsimp only [Pt.U, Pt.locs, Pt.cells, Pt.slots] at X454 l454 y454 z454 st454 hQ454
  subst l454 y454 z454
  obtain ⟨w'_454, rfl, Sp454, Nq454, Kc454, Pc454_0, Pc454_1⟩ := hQ454
  have N455 := Fr.app N446 Nq454
  obtain ⟨h454, e454⟩ : ∃ z, z = T454.heap := ⟨_, rfl⟩
  rw [← e454] at Kc454 Pc454_0 Pc454_1
  have F456 := F430.keep Kc454 (ninS ne395 nin0)
  have F457 := F431.keep Kc454 (ninS ne396 nin0)
  have F458 := Pc428_0.keep Kc454
  have Kp459 : Keep h0 h454 [] := Keep.trans Kp433 Kc454 (allS (Or.inr sb398) all0)
  have Z460 : n0 ≤ h454.size := Nat.le_trans Z434 Kc454.1
  have Zk461 := Nat.le_trans Zk435 Kc454.1
  have K462 : ∀ t, Steps p.tables e below (T454.setTop (mkF m 146 #[.val (.long x0), .second, .val (.int x1), .val (.long x2), .second, .val (.int x3), .val (.int (x3 &&& (3 : Int32))), .val (.long sr_311), .second, .val (.int na_351), .val (.int nb_351), .val (.ref pa_372), .val (.ref pa_384), .val (.ref b394), .val (.int (1 : Int32))] [])) t → Steps p.tables e below (s₁.setTop (entryFrame m #[(.long x0), (.int x1), (.long x2), (.int x3)] maxLocals)) t := fun t k => K452 t (st454.trans k)
  have q464 := (by decide : (1 : Int32).toInt = 1)
  have q465 := (by decide : (0 : Int32).toInt = 0)
  have hc463 : ¬ ((1 : Int32) = (0 : Int32)) := fun q => by have q2 := congrArg Int32.toInt q; omega
  have q466 : ¬ (1 : Int32).toInt = (0 : Int32).toInt := fun q => hc463 (Int32.toInt_inj.mp q)
  have K467 : ∀ t, Steps p.tables e below (T454.setTop (mkF m 153 #[.val (.long x0), .second, .val (.int x1), .val (.long x2), .second, .val (.int x3), .val (.int (x3 &&& (3 : Int32))), .val (.long sr_311), .second, .val (.int na_351), .val (.int nb_351), .val (.ref pa_372), .val (.ref pa_384), .val (.ref b394), .val (.int (1 : Int32))] [(.ref b394)])) t → Steps p.tables e below (s₁.setTop (entryFrame m #[(.long x0), (.int x1), (.long x2), (.int x3)] maxLocals)) t := fun t k => K462 t (by
    show Steps p.tables e below (T454.setTop (mkF m 146 #[.val (.long x0), .second, .val (.int x1), .val (.long x2), .second, .val (.int x3), .val (.int (x3 &&& (3 : Int32))), .val (.long sr_311), .second, .val (.int na_351), .val (.int nb_351), .val (.ref pa_372), .val (.ref pa_384), .val (.ref b394), .val (.int (1 : Int32))] [])) t
    refine XS.iload X454.here hx rfl (hb hby at_146) rfl ?_
    show Steps p.tables e below (T454.setTop (mkF m 148 #[.val (.long x0), .second, .val (.int x1), .val (.long x2), .second, .val (.int x3), .val (.int (x3 &&& (3 : Int32))), .val (.long sr_311), .second, .val (.int na_351), .val (.int nb_351), .val (.ref pa_372), .val (.ref pa_384), .val (.ref b394), .val (.int (1 : Int32))] [(.int (1 : Int32))])) t
    refine XS.ifNo X454.here hx rfl (hb hby at_148) rfl ((if0 _ _).trans (feq hc463).1) ?_
    show Steps p.tables e below (T454.setTop (mkF m 151 #[.val (.long x0), .second, .val (.int x1), .val (.long x2), .second, .val (.int x3), .val (.int (x3 &&& (3 : Int32))), .val (.long sr_311), .second, .val (.int na_351), .val (.int nb_351), .val (.ref pa_372), .val (.ref pa_384), .val (.ref b394), .val (.int (1 : Int32))] [])) t
    refine XS.aload X454.here hx rfl (hb hby at_151) rfl rfl ?_
    exact k)
  have q468 := rng64 w'_454
  have q469 : 0 ≤ w'_454.toInt := by omega
  obtain ⟨cq470, kq470, q470a, q470b, q470c⟩ := isOf hZ e454.symm Pc454_0
  obtain ⟨_, _, ⟨T470, L470, kk470, nn470⟩, -, X470, ⟨Lc470, hQ470, l470, y470, z470⟩, st470⟩ := X454.virtualBack hx (y := (⟨"com/example/relay_queue/relayqueue/broker/ByteCounter", "size", "()I"⟩ : MethodName)) (z := (⟨"com/example/relay_queue/relayqueue/broker/ByteCounter", "size", "()I"⟩ : MethodName)) hown (mvT hZ (hw _ (List.mem_of_getElem? (i := 38) rfl))) (mvT hZ (hw _ (List.mem_of_getElem? (i := 39) rfl))) (notFace_of_selects (args := #[]) (mvT hZ (hw _ (List.mem_of_getElem? (i := 41) rfl)))) (mvT hZ (hw _ (List.mem_of_getElem? (i := 41) rfl))) (mvT hZ (hw _ (List.mem_of_getElem? (i := 40) rfl))) (by decide) (backOf (W := 0) (rm6 l Z a0 hw [] b394 w'_454 h454 n0 Z460 Pc454_1 q469) hZ (hw _ (List.mem_of_getElem? (i := 42) rfl)) (hw _ (List.mem_of_getElem? (i := 10) rfl)) (by decide) (by decide)) q470a q470c (g := (mkF m 153 #[.val (.long x0), .second, .val (.int x1), .val (.long x2), .second, .val (.int x3), .val (.int (x3 &&& (3 : Int32))), .val (.long sr_311), .second, .val (.int na_351), .val (.int nb_351), .val (.ref pa_372), .val (.ref pa_384), .val (.ref b394), .val (.int (1 : Int32))] [(.ref b394)])) rfl (by rw [hml]; rfl) (Steps.refl _) (argsL := []) (rest := []) (lenOf own_pd5 rfl) rfl (by show 2 * 0 + _ ≤ _; exact Nat.le_of_eq rfl) (hb hby at_153) (fun _ _ => ⟨rfl, e454.symm, (by decide : 6 + 0 ≤ _), (by decide : 23 + 0 ≤ _)⟩)
  dsimp only [Pt.U, Pt.locs, Pt.cells, Pt.slots] at X470 l470 y470 z470 st470 hQ470
  subst l470 y470 z470
  obtain ⟨r_470, rfl, Sp470, Nq470, eh470⟩ := hQ470
  have N471 := Fr.app N455 Nq470
  have K472 : ∀ t, Steps p.tables e below (T470.setTop (mkF m 156 #[.val (.long x0), .second, .val (.int x1), .val (.long x2), .second, .val (.int x3), .val (.int (x3 &&& (3 : Int32))), .val (.long sr_311), .second, .val (.int na_351), .val (.int nb_351), .val (.ref pa_372), .val (.ref pa_384), .val (.ref b394), .val (.int (1 : Int32))] [(.int r_470)])) t → Steps p.tables e below (s₁.setTop (entryFrame m #[(.long x0), (.int x1), (.long x2), (.int x3)] maxLocals)) t := fun t k => K467 t (st470.trans k)
  have K473 : ∀ t, Steps p.tables e below (T470.setTop (mkF m 162 #[.val (.long x0), .second, .val (.int x1), .val (.long x2), .second, .val (.int x3), .val (.int (x3 &&& (3 : Int32))), .val (.long sr_311), .second, .val (.int na_351), .val (.int nb_351), .val (.ref pa_372), .val (.ref pa_384), .val (.ref b394), .val (.int (1 : Int32))] [(.long (sr_311 + (na_351.toInt64))), (.int r_470)])) t → Steps p.tables e below (s₁.setTop (entryFrame m #[(.long x0), (.int x1), (.long x2), (.int x3)] maxLocals)) t := fun t k => K472 t (by
    show Steps p.tables e below (T470.setTop (mkF m 156 #[.val (.long x0), .second, .val (.int x1), .val (.long x2), .second, .val (.int x3), .val (.int (x3 &&& (3 : Int32))), .val (.long sr_311), .second, .val (.int na_351), .val (.int nb_351), .val (.ref pa_372), .val (.ref pa_384), .val (.ref b394), .val (.int (1 : Int32))] [(.int r_470)])) t
    refine XS.lload X470.here hx rfl (hb hby at_156) rfl ?_
    show Steps p.tables e below (T470.setTop (mkF m 158 #[.val (.long x0), .second, .val (.int x1), .val (.long x2), .second, .val (.int x3), .val (.int (x3 &&& (3 : Int32))), .val (.long sr_311), .second, .val (.int na_351), .val (.int nb_351), .val (.ref pa_372), .val (.ref pa_384), .val (.ref b394), .val (.int (1 : Int32))] [(.long sr_311), (.int r_470)])) t
    refine XS.iload X470.here hx rfl (hb hby at_158) rfl ?_
    show Steps p.tables e below (T470.setTop (mkF m 160 #[.val (.long x0), .second, .val (.int x1), .val (.long x2), .second, .val (.int x3), .val (.int (x3 &&& (3 : Int32))), .val (.long sr_311), .second, .val (.int na_351), .val (.int nb_351), .val (.ref pa_372), .val (.ref pa_384), .val (.ref b394), .val (.int (1 : Int32))] [(.int na_351), (.long sr_311), (.int r_470)])) t
    refine XS.i2l X470.here hx rfl (hb hby at_160) rfl ?_
    show Steps p.tables e below (T470.setTop (mkF m 161 #[.val (.long x0), .second, .val (.int x1), .val (.long x2), .second, .val (.int x3), .val (.int (x3 &&& (3 : Int32))), .val (.long sr_311), .second, .val (.int na_351), .val (.int nb_351), .val (.ref pa_372), .val (.ref pa_384), .val (.ref b394), .val (.int (1 : Int32))] [(.long (na_351.toInt64)), (.long sr_311), (.int r_470)])) t
    refine XS.ladd X470.here hx rfl (hb hby at_161) rfl ?_
    exact k)
  have q474 := c_i2l na_351
  have q475 := rng64 (na_351.toInt64)
  have q476 := c_ladd sr_311 (na_351.toInt64)
  have q477 := rng64 (sr_311 + (na_351.toInt64))
  have q478 : 0 ≤ (sr_311 + (na_351.toInt64)).toInt := by omega
  obtain ⟨_, _, ⟨T479, L479, kk479, nn479⟩, -, X479, ⟨Lc479, hQ479, l479, y479, z479⟩, st479⟩ := Jvm.LawKit.callS X470 hx (y := (⟨"com/example/relay_queue/relayqueue/broker/ByteCounterWritePinLaw", "ref", "(J)I"⟩ : MethodName)) hown (mvT hZ (hw _ (List.mem_of_getElem? (i := 48) rfl))) (mvT hZ (hw _ (List.mem_of_getElem? (i := 49) rfl))) (mvT hZ (hw _ (List.mem_of_getElem? (i := 4) rfl))) (mvT hZ (hw _ (List.mem_of_getElem? (i := 50) rfl))) (by decide) (backOf (W := 1) (rm8 l Z a0 hw [] (sr_311 + (na_351.toInt64)) h454 n0 Z460 q478) hZ (hw _ (List.mem_of_getElem? (i := 50) rfl)) (hw _ (List.mem_of_getElem? (i := 4) rfl)) (by decide) (by decide)) (g := (mkF m 162 #[.val (.long x0), .second, .val (.int x1), .val (.long x2), .second, .val (.int x3), .val (.int (x3 &&& (3 : Int32))), .val (.long sr_311), .second, .val (.int na_351), .val (.int nb_351), .val (.ref pa_372), .val (.ref pa_384), .val (.ref b394), .val (.int (1 : Int32))] [(.long (sr_311 + (na_351.toInt64))), (.int r_470)])) rfl (by rw [hml]; rfl) (argsL := [(.long (sr_311 + (na_351.toInt64)))]) (rest := [(.int r_470)]) (lenOf own_pd6 rfl) rfl (by show 2 * 0 + _ ≤ _; exact Nat.le_of_eq rfl) (hb hby at_162) (fun _ _ => ⟨rfl, eh470, (by decide : 6 + 0 ≤ _), (by decide : 23 + 0 ≤ _)⟩)
  dsimp only [Pt.U, Pt.locs, Pt.cells, Pt.slots] at X479 l479 y479 z479 st479 hQ479
  subst l479 y479 z479
  obtain ⟨r_479, rfl, Sp479, Nq479, eh479⟩ := hQ479
  have N480 := Fr.app N471 Nq479
  have K481 : ∀ t, Steps p.tables e below (T479.setTop (mkF m 165 #[.val (.long x0), .second, .val (.int x1), .val (.long x2), .second, .val (.int x3), .val (.int (x3 &&& (3 : Int32))), .val (.long sr_311), .second, .val (.int na_351), .val (.int nb_351), .val (.ref pa_372), .val (.ref pa_384), .val (.ref b394), .val (.int (1 : Int32))] [(.int r_479), (.int r_470)])) t → Steps p.tables e below (s₁.setTop (entryFrame m #[(.long x0), (.int x1), (.long x2), (.int x3)] maxLocals)) t := fun t k => K473 t (st479 _ k)
  have q483 := rng32 r_470
  have q484 := rng32 r_479
  have hc482 : r_470 = r_479 := Int32.toInt_inj.mp (by omega)
  have q485 : r_470.toInt = r_479.toInt := congrArg Int32.toInt hc482
  have K486 : ∀ t, Steps p.tables e below (T479.setTop (mkF m 179 #[.val (.long x0), .second, .val (.int x1), .val (.long x2), .second, .val (.int x3), .val (.int (x3 &&& (3 : Int32))), .val (.long sr_311), .second, .val (.int na_351), .val (.int nb_351), .val (.ref pa_372), .val (.ref pa_384), .val (.ref b394), .val (.int (1 : Int32))] [(.ref pa_384), (.ref b394)])) t → Steps p.tables e below (s₁.setTop (entryFrame m #[(.long x0), (.int x1), (.long x2), (.int x3)] maxLocals)) t := fun t k => K481 t (by
    show Steps p.tables e below (T479.setTop (mkF m 165 #[.val (.long x0), .second, .val (.int x1), .val (.long x2), .second, .val (.int x3), .val (.int (x3 &&& (3 : Int32))), .val (.long sr_311), .second, .val (.int na_351), .val (.int nb_351), .val (.ref pa_372), .val (.ref pa_384), .val (.ref b394), .val (.int (1 : Int32))] [(.int r_479), (.int r_470)])) t
    refine XS.icmpNo X479.here hx rfl (hb hby at_165) rfl (teq hc482).2 ?_
    show Steps p.tables e below (T479.setTop (mkF m 168 #[.val (.long x0), .second, .val (.int x1), .val (.long x2), .second, .val (.int x3), .val (.int (x3 &&& (3 : Int32))), .val (.long sr_311), .second, .val (.int na_351), .val (.int nb_351), .val (.ref pa_372), .val (.ref pa_384), .val (.ref b394), .val (.int (1 : Int32))] [])) t
    refine XS.iconst X479.here hx rfl (hb hby at_168) ?_
    show Steps p.tables e below (T479.setTop (mkF m 169 #[.val (.long x0), .second, .val (.int x1), .val (.long x2), .second, .val (.int x3), .val (.int (x3 &&& (3 : Int32))), .val (.long sr_311), .second, .val (.int na_351), .val (.int nb_351), .val (.ref pa_372), .val (.ref pa_384), .val (.ref b394), .val (.int (1 : Int32))] [(.int (1 : Int32))])) t
    refine XS.goto X479.here hx rfl (pc0 := 169) (pc' := 173) rfl (hb hby at_169) (by decide) (by decide) ?_
    show Steps p.tables e below (T479.setTop (mkF m 173 #[.val (.long x0), .second, .val (.int x1), .val (.long x2), .second, .val (.int x3), .val (.int (x3 &&& (3 : Int32))), .val (.long sr_311), .second, .val (.int na_351), .val (.int nb_351), .val (.ref pa_372), .val (.ref pa_384), .val (.ref b394), .val (.int (1 : Int32))] [(.int (1 : Int32))])) t
    refine XS.istore X479.here hx rfl (hb hby at_173) rfl (l' := #[.val (.long x0), .second, .val (.int x1), .val (.long x2), .second, .val (.int x3), .val (.int (x3 &&& (3 : Int32))), .val (.long sr_311), .second, .val (.int na_351), .val (.int nb_351), .val (.ref pa_372), .val (.ref pa_384), .val (.ref b394), .val (.int (1 : Int32))]) rfl ?_
    show Steps p.tables e below (T479.setTop (mkF m 175 #[.val (.long x0), .second, .val (.int x1), .val (.long x2), .second, .val (.int x3), .val (.int (x3 &&& (3 : Int32))), .val (.long sr_311), .second, .val (.int na_351), .val (.int nb_351), .val (.ref pa_372), .val (.ref pa_384), .val (.ref b394), .val (.int (1 : Int32))] [])) t
    refine XS.aload X479.here hx rfl (hb hby at_175) rfl rfl ?_
    show Steps p.tables e below (T479.setTop (mkF m 177 #[.val (.long x0), .second, .val (.int x1), .val (.long x2), .second, .val (.int x3), .val (.int (x3 &&& (3 : Int32))), .val (.long sr_311), .second, .val (.int na_351), .val (.int nb_351), .val (.ref pa_372), .val (.ref pa_384), .val (.ref b394), .val (.int (1 : Int32))] [(.ref b394)])) t
    refine XS.aload X479.here hx rfl (hb hby at_177) rfl rfl ?_
    exact k)
  have q487 : 0 ≤ w'_454.toInt ∧ 0 ≤ nb_351.toInt ∧ w'_454.toInt + nb_351.toInt < 9223372036854775807 := by omega
  obtain ⟨cq488, kq488, q488a, q488b, q488c⟩ := isOf hZ eh479 Pc454_0
  obtain ⟨_, _, ⟨T488, L488, kk488, nn488⟩, -, X488, ⟨Lc488, hQ488, l488, y488, z488⟩, st488⟩ := X479.virtualBack hx (y := (⟨"com/example/relay_queue/relayqueue/broker/ByteCounter", "write", "([B)V"⟩ : MethodName)) (z := (⟨"com/example/relay_queue/relayqueue/broker/ByteCounter", "write", "([B)V"⟩ : MethodName)) hown (mvT hZ (hw _ (List.mem_of_getElem? (i := 52) rfl))) (mvT hZ (hw _ (List.mem_of_getElem? (i := 53) rfl))) (notFace_of_selects (args := #[]) (mvT hZ (hw _ (List.mem_of_getElem? (i := 55) rfl)))) (mvT hZ (hw _ (List.mem_of_getElem? (i := 55) rfl))) (mvT hZ (hw _ (List.mem_of_getElem? (i := 54) rfl))) (by decide) (backOf (W := 0) (rm9 l Z a0 hw [] b394 pa_384 w'_454 nb_351 h454 n0 Z460 Pc454_0 Pc454_1 gb397 F457 q487) hZ (hw _ (List.mem_of_getElem? (i := 56) rfl)) (hw _ (List.mem_of_getElem? (i := 10) rfl)) (by decide) (by decide)) q488a q488c (g := (mkF m 179 #[.val (.long x0), .second, .val (.int x1), .val (.long x2), .second, .val (.int x3), .val (.int (x3 &&& (3 : Int32))), .val (.long sr_311), .second, .val (.int na_351), .val (.int nb_351), .val (.ref pa_372), .val (.ref pa_384), .val (.ref b394), .val (.int (1 : Int32))] [(.ref pa_384), (.ref b394)])) rfl (by rw [hml]; rfl) (Steps.refl _) (argsL := [(.ref pa_384)]) (rest := []) (lenOf own_pd7 rfl) rfl (by show 2 * 0 + _ ≤ _; exact Nat.le_of_eq rfl) (hb hby at_179) (fun _ _ => ⟨rfl, eh479, (by decide : 6 + 0 ≤ _), (by decide : 23 + 0 ≤ _)⟩)
  dsimp only [Pt.U, Pt.locs, Pt.cells, Pt.slots] at X488 l488 y488 z488 st488 hQ488
  subst l488 y488 z488
  obtain ⟨w'_488, rfl, Sp488, Nq488, Kc488, Pc488_0, Pc488_1⟩ := hQ488
  have N489 := Fr.app N480 Nq488
  obtain ⟨h488, e488⟩ : ∃ z, z = T488.heap := ⟨_, rfl⟩
  rw [← e488] at Kc488 Pc488_0 Pc488_1
  have F490 := F456.keep Kc488 (ninS ne395 nin0)
  have F491 := F457.keep Kc488 (ninS ne396 nin0)
  have F492 := Pc454_0.keep Kc488
  have Kp493 : Keep h0 h488 [] := Keep.trans Kp459 Kc488 (allS (Or.inr sb398) all0)
  have Z494 : n0 ≤ h488.size := Nat.le_trans Z460 Kc488.1
  have Zk495 := Nat.le_trans Zk461 Kc488.1
  have K496 : ∀ t, Steps p.tables e below (T488.setTop (mkF m 182 #[.val (.long x0), .second, .val (.int x1), .val (.long x2), .second, .val (.int x3), .val (.int (x3 &&& (3 : Int32))), .val (.long sr_311), .second, .val (.int na_351), .val (.int nb_351), .val (.ref pa_372), .val (.ref pa_384), .val (.ref b394), .val (.int (1 : Int32))] [])) t → Steps p.tables e below (s₁.setTop (entryFrame m #[(.long x0), (.int x1), (.long x2), (.int x3)] maxLocals)) t := fun t k => K486 t (st488.trans k)
  have hc497 : ¬ ((1 : Int32) = (0 : Int32)) := fun q => by have q2 := congrArg Int32.toInt q; omega
  have q498 : ¬ (1 : Int32).toInt = (0 : Int32).toInt := fun q => hc497 (Int32.toInt_inj.mp q)
  have K499 : ∀ t, Steps p.tables e below (T488.setTop (mkF m 189 #[.val (.long x0), .second, .val (.int x1), .val (.long x2), .second, .val (.int x3), .val (.int (x3 &&& (3 : Int32))), .val (.long sr_311), .second, .val (.int na_351), .val (.int nb_351), .val (.ref pa_372), .val (.ref pa_384), .val (.ref b394), .val (.int (1 : Int32))] [(.ref b394)])) t → Steps p.tables e below (s₁.setTop (entryFrame m #[(.long x0), (.int x1), (.long x2), (.int x3)] maxLocals)) t := fun t k => K496 t (by
    show Steps p.tables e below (T488.setTop (mkF m 182 #[.val (.long x0), .second, .val (.int x1), .val (.long x2), .second, .val (.int x3), .val (.int (x3 &&& (3 : Int32))), .val (.long sr_311), .second, .val (.int na_351), .val (.int nb_351), .val (.ref pa_372), .val (.ref pa_384), .val (.ref b394), .val (.int (1 : Int32))] [])) t
    refine XS.iload X488.here hx rfl (hb hby at_182) rfl ?_
    show Steps p.tables e below (T488.setTop (mkF m 184 #[.val (.long x0), .second, .val (.int x1), .val (.long x2), .second, .val (.int x3), .val (.int (x3 &&& (3 : Int32))), .val (.long sr_311), .second, .val (.int na_351), .val (.int nb_351), .val (.ref pa_372), .val (.ref pa_384), .val (.ref b394), .val (.int (1 : Int32))] [(.int (1 : Int32))])) t
    refine XS.ifNo X488.here hx rfl (hb hby at_184) rfl ((if0 _ _).trans (feq hc497).1) ?_
    show Steps p.tables e below (T488.setTop (mkF m 187 #[.val (.long x0), .second, .val (.int x1), .val (.long x2), .second, .val (.int x3), .val (.int (x3 &&& (3 : Int32))), .val (.long sr_311), .second, .val (.int na_351), .val (.int nb_351), .val (.ref pa_372), .val (.ref pa_384), .val (.ref b394), .val (.int (1 : Int32))] [])) t
    refine XS.aload X488.here hx rfl (hb hby at_187) rfl rfl ?_
    exact k)
  have q500 := rng64 w'_488
  have q501 : 0 ≤ w'_488.toInt := by omega
  obtain ⟨cq502, kq502, q502a, q502b, q502c⟩ := isOf hZ e488.symm Pc488_0
  obtain ⟨_, _, ⟨T502, L502, kk502, nn502⟩, -, X502, ⟨Lc502, hQ502, l502, y502, z502⟩, st502⟩ := X488.virtualBack hx (y := (⟨"com/example/relay_queue/relayqueue/broker/ByteCounter", "size", "()I"⟩ : MethodName)) (z := (⟨"com/example/relay_queue/relayqueue/broker/ByteCounter", "size", "()I"⟩ : MethodName)) hown (mvT hZ (hw _ (List.mem_of_getElem? (i := 38) rfl))) (mvT hZ (hw _ (List.mem_of_getElem? (i := 39) rfl))) (notFace_of_selects (args := #[]) (mvT hZ (hw _ (List.mem_of_getElem? (i := 41) rfl)))) (mvT hZ (hw _ (List.mem_of_getElem? (i := 41) rfl))) (mvT hZ (hw _ (List.mem_of_getElem? (i := 40) rfl))) (by decide) (backOf (W := 0) (rm6 l Z a0 hw [] b394 w'_488 h488 n0 Z494 Pc488_1 q501) hZ (hw _ (List.mem_of_getElem? (i := 42) rfl)) (hw _ (List.mem_of_getElem? (i := 10) rfl)) (by decide) (by decide)) q502a q502c (g := (mkF m 189 #[.val (.long x0), .second, .val (.int x1), .val (.long x2), .second, .val (.int x3), .val (.int (x3 &&& (3 : Int32))), .val (.long sr_311), .second, .val (.int na_351), .val (.int nb_351), .val (.ref pa_372), .val (.ref pa_384), .val (.ref b394), .val (.int (1 : Int32))] [(.ref b394)])) rfl (by rw [hml]; rfl) (Steps.refl _) (argsL := []) (rest := []) (lenOf own_pd5 rfl) rfl (by show 2 * 0 + _ ≤ _; exact Nat.le_of_eq rfl) (hb hby at_189) (fun _ _ => ⟨rfl, e488.symm, (by decide : 6 + 0 ≤ _), (by decide : 23 + 0 ≤ _)⟩)
  dsimp only [Pt.U, Pt.locs, Pt.cells, Pt.slots] at X502 l502 y502 z502 st502 hQ502
  subst l502 y502 z502
  obtain ⟨r_502, rfl, Sp502, Nq502, eh502⟩ := hQ502
  have N503 := Fr.app N489 Nq502
  have K504 : ∀ t, Steps p.tables e below (T502.setTop (mkF m 192 #[.val (.long x0), .second, .val (.int x1), .val (.long x2), .second, .val (.int x3), .val (.int (x3 &&& (3 : Int32))), .val (.long sr_311), .second, .val (.int na_351), .val (.int nb_351), .val (.ref pa_372), .val (.ref pa_384), .val (.ref b394), .val (.int (1 : Int32))] [(.int r_502)])) t → Steps p.tables e below (s₁.setTop (entryFrame m #[(.long x0), (.int x1), (.long x2), (.int x3)] maxLocals)) t := fun t k => K499 t (st502.trans k)
  have K505 : ∀ t, Steps p.tables e below (T502.setTop (mkF m 202 #[.val (.long x0), .second, .val (.int x1), .val (.long x2), .second, .val (.int x3), .val (.int (x3 &&& (3 : Int32))), .val (.long sr_311), .second, .val (.int na_351), .val (.int nb_351), .val (.ref pa_372), .val (.ref pa_384), .val (.ref b394), .val (.int (1 : Int32))] [(.long ((sr_311 + (na_351.toInt64)) + (nb_351.toInt64))), (.int r_502)])) t → Steps p.tables e below (s₁.setTop (entryFrame m #[(.long x0), (.int x1), (.long x2), (.int x3)] maxLocals)) t := fun t k => K504 t (by
    show Steps p.tables e below (T502.setTop (mkF m 192 #[.val (.long x0), .second, .val (.int x1), .val (.long x2), .second, .val (.int x3), .val (.int (x3 &&& (3 : Int32))), .val (.long sr_311), .second, .val (.int na_351), .val (.int nb_351), .val (.ref pa_372), .val (.ref pa_384), .val (.ref b394), .val (.int (1 : Int32))] [(.int r_502)])) t
    refine XS.lload X502.here hx rfl (hb hby at_192) rfl ?_
    show Steps p.tables e below (T502.setTop (mkF m 194 #[.val (.long x0), .second, .val (.int x1), .val (.long x2), .second, .val (.int x3), .val (.int (x3 &&& (3 : Int32))), .val (.long sr_311), .second, .val (.int na_351), .val (.int nb_351), .val (.ref pa_372), .val (.ref pa_384), .val (.ref b394), .val (.int (1 : Int32))] [(.long sr_311), (.int r_502)])) t
    refine XS.iload X502.here hx rfl (hb hby at_194) rfl ?_
    show Steps p.tables e below (T502.setTop (mkF m 196 #[.val (.long x0), .second, .val (.int x1), .val (.long x2), .second, .val (.int x3), .val (.int (x3 &&& (3 : Int32))), .val (.long sr_311), .second, .val (.int na_351), .val (.int nb_351), .val (.ref pa_372), .val (.ref pa_384), .val (.ref b394), .val (.int (1 : Int32))] [(.int na_351), (.long sr_311), (.int r_502)])) t
    refine XS.i2l X502.here hx rfl (hb hby at_196) rfl ?_
    show Steps p.tables e below (T502.setTop (mkF m 197 #[.val (.long x0), .second, .val (.int x1), .val (.long x2), .second, .val (.int x3), .val (.int (x3 &&& (3 : Int32))), .val (.long sr_311), .second, .val (.int na_351), .val (.int nb_351), .val (.ref pa_372), .val (.ref pa_384), .val (.ref b394), .val (.int (1 : Int32))] [(.long (na_351.toInt64)), (.long sr_311), (.int r_502)])) t
    refine XS.ladd X502.here hx rfl (hb hby at_197) rfl ?_
    show Steps p.tables e below (T502.setTop (mkF m 198 #[.val (.long x0), .second, .val (.int x1), .val (.long x2), .second, .val (.int x3), .val (.int (x3 &&& (3 : Int32))), .val (.long sr_311), .second, .val (.int na_351), .val (.int nb_351), .val (.ref pa_372), .val (.ref pa_384), .val (.ref b394), .val (.int (1 : Int32))] [(.long (sr_311 + (na_351.toInt64))), (.int r_502)])) t
    refine XS.iload X502.here hx rfl (hb hby at_198) rfl ?_
    show Steps p.tables e below (T502.setTop (mkF m 200 #[.val (.long x0), .second, .val (.int x1), .val (.long x2), .second, .val (.int x3), .val (.int (x3 &&& (3 : Int32))), .val (.long sr_311), .second, .val (.int na_351), .val (.int nb_351), .val (.ref pa_372), .val (.ref pa_384), .val (.ref b394), .val (.int (1 : Int32))] [(.int nb_351), (.long (sr_311 + (na_351.toInt64))), (.int r_502)])) t
    refine XS.i2l X502.here hx rfl (hb hby at_200) rfl ?_
    show Steps p.tables e below (T502.setTop (mkF m 201 #[.val (.long x0), .second, .val (.int x1), .val (.long x2), .second, .val (.int x3), .val (.int (x3 &&& (3 : Int32))), .val (.long sr_311), .second, .val (.int na_351), .val (.int nb_351), .val (.ref pa_372), .val (.ref pa_384), .val (.ref b394), .val (.int (1 : Int32))] [(.long (nb_351.toInt64)), (.long (sr_311 + (na_351.toInt64))), (.int r_502)])) t
    refine XS.ladd X502.here hx rfl (hb hby at_201) rfl ?_
    exact k)
  have q506 := c_i2l nb_351
  have q507 := rng64 (nb_351.toInt64)
  have q508 := c_ladd (sr_311 + (na_351.toInt64)) (nb_351.toInt64)
  have q509 := rng64 ((sr_311 + (na_351.toInt64)) + (nb_351.toInt64))
  have q510 : 0 ≤ ((sr_311 + (na_351.toInt64)) + (nb_351.toInt64)).toInt := by omega
  obtain ⟨_, _, ⟨T511, L511, kk511, nn511⟩, -, X511, ⟨Lc511, hQ511, l511, y511, z511⟩, st511⟩ := Jvm.LawKit.callS X502 hx (y := (⟨"com/example/relay_queue/relayqueue/broker/ByteCounterWritePinLaw", "ref", "(J)I"⟩ : MethodName)) hown (mvT hZ (hw _ (List.mem_of_getElem? (i := 48) rfl))) (mvT hZ (hw _ (List.mem_of_getElem? (i := 49) rfl))) (mvT hZ (hw _ (List.mem_of_getElem? (i := 4) rfl))) (mvT hZ (hw _ (List.mem_of_getElem? (i := 50) rfl))) (by decide) (backOf (W := 1) (rm8 l Z a0 hw [] ((sr_311 + (na_351.toInt64)) + (nb_351.toInt64)) h488 n0 Z494 q510) hZ (hw _ (List.mem_of_getElem? (i := 50) rfl)) (hw _ (List.mem_of_getElem? (i := 4) rfl)) (by decide) (by decide)) (g := (mkF m 202 #[.val (.long x0), .second, .val (.int x1), .val (.long x2), .second, .val (.int x3), .val (.int (x3 &&& (3 : Int32))), .val (.long sr_311), .second, .val (.int na_351), .val (.int nb_351), .val (.ref pa_372), .val (.ref pa_384), .val (.ref b394), .val (.int (1 : Int32))] [(.long ((sr_311 + (na_351.toInt64)) + (nb_351.toInt64))), (.int r_502)])) rfl (by rw [hml]; rfl) (argsL := [(.long ((sr_311 + (na_351.toInt64)) + (nb_351.toInt64)))]) (rest := [(.int r_502)]) (lenOf own_pd6 rfl) rfl (by show 2 * 0 + _ ≤ _; exact Nat.le_of_eq rfl) (hb hby at_202) (fun _ _ => ⟨rfl, eh502, (by decide : 6 + 0 ≤ _), (by decide : 23 + 0 ≤ _)⟩)
  dsimp only [Pt.U, Pt.locs, Pt.cells, Pt.slots] at X511 l511 y511 z511 st511 hQ511
  subst l511 y511 z511
  obtain ⟨r_511, rfl, Sp511, Nq511, eh511⟩ := hQ511
  have N512 := Fr.app N503 Nq511
  have K513 : ∀ t, Steps p.tables e below (T511.setTop (mkF m 205 #[.val (.long x0), .second, .val (.int x1), .val (.long x2), .second, .val (.int x3), .val (.int (x3 &&& (3 : Int32))), .val (.long sr_311), .second, .val (.int na_351), .val (.int nb_351), .val (.ref pa_372), .val (.ref pa_384), .val (.ref b394), .val (.int (1 : Int32))] [(.int r_511), (.int r_502)])) t → Steps p.tables e below (s₁.setTop (entryFrame m #[(.long x0), (.int x1), (.long x2), (.int x3)] maxLocals)) t := fun t k => K505 t (st511 _ k)
  have q515 := rng32 r_502
  have q516 := rng32 r_511
  have hc514 : r_502 = r_511 := Int32.toInt_inj.mp (by omega)
  have q517 : r_502.toInt = r_511.toInt := congrArg Int32.toInt hc514
  have K518 : ∀ t, Steps p.tables e below (T511.setTop (mkF m 217 #[.val (.long x0), .second, .val (.int x1), .val (.long x2), .second, .val (.int x3), .val (.int (x3 &&& (3 : Int32))), .val (.long sr_311), .second, .val (.int na_351), .val (.int nb_351), .val (.ref pa_372), .val (.ref pa_384), .val (.ref b394), .val (.int (1 : Int32))] [(.int (1 : Int32))])) t → Steps p.tables e below (s₁.setTop (entryFrame m #[(.long x0), (.int x1), (.long x2), (.int x3)] maxLocals)) t := fun t k => K513 t (by
    show Steps p.tables e below (T511.setTop (mkF m 205 #[.val (.long x0), .second, .val (.int x1), .val (.long x2), .second, .val (.int x3), .val (.int (x3 &&& (3 : Int32))), .val (.long sr_311), .second, .val (.int na_351), .val (.int nb_351), .val (.ref pa_372), .val (.ref pa_384), .val (.ref b394), .val (.int (1 : Int32))] [(.int r_511), (.int r_502)])) t
    refine XS.icmpNo X511.here hx rfl (hb hby at_205) rfl (teq hc514).2 ?_
    show Steps p.tables e below (T511.setTop (mkF m 208 #[.val (.long x0), .second, .val (.int x1), .val (.long x2), .second, .val (.int x3), .val (.int (x3 &&& (3 : Int32))), .val (.long sr_311), .second, .val (.int na_351), .val (.int nb_351), .val (.ref pa_372), .val (.ref pa_384), .val (.ref b394), .val (.int (1 : Int32))] [])) t
    refine XS.iconst X511.here hx rfl (hb hby at_208) ?_
    show Steps p.tables e below (T511.setTop (mkF m 209 #[.val (.long x0), .second, .val (.int x1), .val (.long x2), .second, .val (.int x3), .val (.int (x3 &&& (3 : Int32))), .val (.long sr_311), .second, .val (.int na_351), .val (.int nb_351), .val (.ref pa_372), .val (.ref pa_384), .val (.ref b394), .val (.int (1 : Int32))] [(.int (1 : Int32))])) t
    refine XS.goto X511.here hx rfl (pc0 := 209) (pc' := 213) rfl (hb hby at_209) (by decide) (by decide) ?_
    show Steps p.tables e below (T511.setTop (mkF m 213 #[.val (.long x0), .second, .val (.int x1), .val (.long x2), .second, .val (.int x3), .val (.int (x3 &&& (3 : Int32))), .val (.long sr_311), .second, .val (.int na_351), .val (.int nb_351), .val (.ref pa_372), .val (.ref pa_384), .val (.ref b394), .val (.int (1 : Int32))] [(.int (1 : Int32))])) t
    refine XS.istore X511.here hx rfl (hb hby at_213) rfl (l' := #[.val (.long x0), .second, .val (.int x1), .val (.long x2), .second, .val (.int x3), .val (.int (x3 &&& (3 : Int32))), .val (.long sr_311), .second, .val (.int na_351), .val (.int nb_351), .val (.ref pa_372), .val (.ref pa_384), .val (.ref b394), .val (.int (1 : Int32))]) rfl ?_
    show Steps p.tables e below (T511.setTop (mkF m 215 #[.val (.long x0), .second, .val (.int x1), .val (.long x2), .second, .val (.int x3), .val (.int (x3 &&& (3 : Int32))), .val (.long sr_311), .second, .val (.int na_351), .val (.int nb_351), .val (.ref pa_372), .val (.ref pa_384), .val (.ref b394), .val (.int (1 : Int32))] [])) t
    refine XS.iload X511.here hx rfl (hb hby at_215) rfl ?_
    exact k)
  obtain ⟨fs, hr, hrun, hended, hRE⟩ := Stand.leaveW (s := s) X511 hS416 (by rw [eh511]; exact Zk495) (v := some (.int (1 : Int32))) (fun h => by rw [Bd.returns] at h; cases h)
  refine ⟨_, _, K518 _ ?_, hrun, hended, _, _, rfl, ?_, hRE.1, hRE.2.1, hRE.2.2.1, hRE.2.2.2.mono (by decide) (by decide)⟩
  · exact retN X511 hx (t := .boolean) Bd.returns (by simp) (hb hby at_217) hr
  · show Q_rm0 Z x0 x1 x2 x3 h0 n0 _ T511.heap _
    rw [eh511]
    exact ⟨rfl, (by trivial), N512, Kp493⟩
set_option maxRecDepth 65536 in
set_option maxHeartbeats 40000000 in
theorem comes_1 {Post : Tables → Env → Array Value → State → Outcome → State → Prop} (hpost : ∀ tb e args s v u, (limb_1_1.after args s (.returned v) u = true ∧ limb_1_2.after args s (.returned v) u = true ∧ True) → ReturnedEndW s (.returned v) u (Jvm.fieldLocs frame_1_writes args s ++ Jvm.arrayLocs frame_1_arrays args s ++ Jvm.staticLocs frame_1_statics s) 24 1152 → Post tb e args s (.returned v) u) :
    ArmFor flags0 classFile x code maxLocals ret World_1 tables_1 room_1 Calls_1 rest_1 Pre_1 Post := by
  intro l hfl _ _ p e ha hc hk s m args below hf hA hF happ hP
  obtain ⟨hcalls, hrest, hpre⟩ := hP
  obtain ⟨-, -, -, hnamed, -, -, -, hat⟩ := (Spec.applies_iff hf).mp happ
  obtain ⟨hg, hn⟩ := and_e (Cond.before_iff.mp (show (Jvm.Cond.and given_1 narrow_1).before args s = true from hpre))
  obtain ⟨gg1, gg2⟩ := and_e hg
  obtain ⟨gg3, gg4⟩ := and_e gg2
  obtain ⟨gg5, gg6⟩ := and_e gg4
  obtain ⟨gg7, gg8⟩ := and_e gg6
  obtain ⟨w0, w1, w2, w3, rfl⟩ : ∃ w0 w1 w2 w3 : Value, args = #[w0, w1, w2, w3] := by
    have hs : args.size = 4 := by simpa [Cond.value, given_1] using gg1
    obtain ⟨L⟩ := args
    match L, hs with
    | [w0, w1, w2, w3], _ => exact ⟨w0, w1, w2, w3, rfl⟩
  have hw := fun d (hd : d ∈ tables_1) => atoms_spec (ws := Jvm.Cond.code x code maxLocals ret :: tables_1) hat d (List.mem_cons_of_mem _ hd)
  obtain ⟨i0, ei0⟩ := isL_v gg3
  obtain rfl : w0 = (.long i0) := Option.some.inj ei0
  obtain ⟨i1, ei1⟩ := is_v gg5
  obtain rfl : w1 = (.int i1) := Option.some.inj ei1
  obtain ⟨i2, ei2⟩ := isL_v gg7
  obtain rfl : w2 = (.long i2) := Option.some.inj ei2
  obtain ⟨i3, ei3⟩ := is_v gg8
  obtain rfl : w3 = (.int i3) := Option.some.inj ei3
  obtain ⟨n, o, h1, h2, h3, _, L, rfl, ⟨rfl, -, N, -⟩, hq⟩ := rm0 l s _ hw tables_1 i0 i1 i2 i3 s.heap s.heap.size (Nat.le_refl _) p e ha hc hk s m _ below hf ((Spec.applies_iff_loose hf).mp happ).1 ⟨rfl, State.Warmed39.refl s, rfl⟩ trivial
  refine ⟨n, _, h1, h2, h3, hpost _ _ _ _ _ _ ⟨Cond.after_iff.mpr rfl, Cond.after_iff.mpr (eq_i res_at (Term.int_eval (1)) rfl), trivial⟩ ⟨hq.1, hq.2.1, hq.2.2.1, (hq.2.2.2.sift fun y hy => Or.inr (N y hy)).mono (by decide) (by decide)⟩⟩
theorem main_1_1 : Claimed_1_1 := comes_1 fun _ _ _ _ _ _ h hF => ⟨h.1, hF⟩
theorem main_1_2 : Claimed_1_2 := comes_1 fun _ _ _ _ _ _ h hF => ⟨h.2.1, hF⟩
end Jvm.Pilot.@@N@@
namespace Jvm.Pilot.@@N@@
open Jvm Jvm.ClassFile Sem Op Lib Jvm.Free Jvm.Stand Jvm.Pilot.@@N@@.Jvm.D
/-! MADE BY PROGRAM (witnessworld.py) out of the Statement's table words and the real class files: 16 classes; the members and pool entries that the words name. The judged class is class 1, her method 3. -/
namespace start1
open Jvm.ClassFile
def u (s : String) : CpInfo := .utf8 (stringToUtf16 s)
/-- a pool by its gaps: so many unusable entries, then the entry; so many at the end -/
def gap : Nat → List CpInfo → List CpInfo
  | 0, r => r
  | n + 1, r => .unusable :: gap n r
def poolList (es : List (Nat × CpInfo)) (last : Nat) : List CpInfo := es.foldr (fun e r => gap e.1 (e.2 :: r)) (gap last [])
def pool (es : List (Nat × CpInfo)) (last : Nat) : Array CpInfo := ⟨poolList es last⟩
def fileOf (pool : Array CpInfo) (this : Nat) (attrs : Array Attribute := #[]) (ms : Array MethodInfo := #[]) (fl : Nat := 33) (sup : Nat := 0) (ifs : Array Nat := #[]) (fds : Array FieldInfo := #[]) : ClassFile where
  minorVersion := 0
  majorVersion := 65
  constantPool := pool
  accessFlags := fl
  thisClass := this
  superClass := sup
  interfaces := ifs
  fields := fds
  methods := ms
  attributes := attrs
def plain (name : String) (sup : Option ClassId) : Class where
  name := name
  kind := .ordinary
  loader := none
  accessFlags := 33
  super := sup
  interfaces := #[]
  cf := none
  fields := #[]
  methods := #[]
  instanceTypes := #[]
  staticTypes := #[]
  resolved := #[]
  callSites := []
  init := .initialized
  statics := none
  mirror := none

def pool0 : Array CpInfo := pool [(5, u "<init>"), (0, u "()V"), (1, .class_ 10), (1, u "java/lang/Object")] 113

def k0c0 : Code := { maxStack := 0, maxLocals := 1, code := object_method_1_code, exceptionTable := #[], attributes := #[] }
def k0m0 : Method := { name := "<init>", desc := "()V", sig := { parameters := [], returnType := none }, accessFlags := 1, code := some k0c0 }
/-- java/lang/Object -/
def k0 : Class := { plain "java/lang/Object" none with
  accessFlags := 33
  interfaces := #[]
  cf := some (fileOf pool0 8 #[] #[{ accessFlags := 1, nameIndex := 5, descriptorIndex := 6, attributes := #[] }] 33 0 #[] #[])
  fields := #[]
  methods := #[k0m0]
  instanceTypes := #[]
  staticTypes := #[]
  resolved := Array.replicate 124 none
  statics := none }

def pool1 : Array CpInfo := pool [(2, .class_ 4), (0, .nameAndType 5 6), (0, u "java/lang/Object"), (0, u "<init>"), (0, u "()V"), (2, .long 2147483647), (1, .integer 2147483647), (0, .long 4294967295), (1, .long 15), (1, .long 4611686018427387903), (1, .integer 8388607), (0, .methodref 20 21), (0, .class_ 22), (0, .nameAndType 23 24), (0, u "com/example/relay_queue/relayqueue/broker/ByteCounterWritePinLaw"), (0, u "bytes"), (0, u "(IJ)[B"), (0, .long 18446744073709551615), (1, .class_ 28), (0, u "com/example/relay_queue/relayqueue/broker/ByteCounter"), (0, .methodref 27 3), (0, .string 31), (0, u ""), (0, .methodref 27 33), (0, .nameAndType 34 35), (0, u "writeUtf8"), (0, u "(Ljava/lang/String;J)V"), (0, .methodref 27 37), (0, .nameAndType 38 39), (0, u "size"), (0, u "()I"), (0, .methodref 20 41), (0, .nameAndType 42 43), (0, u "ref"), (0, u "(J)I"), (0, .methodref 27 45), (0, .nameAndType 46 47), (0, u "write"), (0, u "([B)V"), (5, u "law"), (0, u "(JIJI)Z")] 2

def k1m0 : Method := { name := "<init>", desc := "()V", sig := { parameters := [], returnType := none }, accessFlags := 1, code := none }
def k1c1 : Code := { maxStack := 4, maxLocals := 2, code := method_2_code, exceptionTable := #[], attributes := #[] }
def k1m1 : Method := { name := "ref", desc := "(J)I", sig := { parameters := [.long], returnType := some .int }, accessFlags := 10, code := some k1c1 }
def k1c2 : Code := { maxStack := 5, maxLocals := 4, code := method_3_code, exceptionTable := #[], attributes := #[] }
def k1m2 : Method := { name := "bytes", desc := "(IJ)[B", sig := { parameters := [.int, .long], returnType := some (.array .byte) }, accessFlags := 10, code := some k1c2 }
def k1c3 : Code := { maxStack := 6, maxLocals := 15, code := code, exceptionTable := #[], attributes := #[] }
def k1m3 : Method := { name := "law", desc := "(JIJI)Z", sig := { parameters := [.long, .int, .long, .int], returnType := some .boolean }, accessFlags := 9, code := some k1c3 }
/-- com/example/relay_queue/relayqueue/broker/ByteCounterWritePinLaw -/
def k1 : Class := { plain "com/example/relay_queue/relayqueue/broker/ByteCounterWritePinLaw" (some 0) with
  accessFlags := 49
  interfaces := #[]
  cf := some (fileOf pool1 20 #[] #[{ accessFlags := 1, nameIndex := 5, descriptorIndex := 6, attributes := #[] }, { accessFlags := 10, nameIndex := 42, descriptorIndex := 43, attributes := #[] }, { accessFlags := 10, nameIndex := 23, descriptorIndex := 24, attributes := #[] }, { accessFlags := 9, nameIndex := 53, descriptorIndex := 54, attributes := #[] }] 49 2 #[] #[])
  fields := #[]
  methods := #[k1m0, k1m1, k1m2, k1m3]
  instanceTypes := #[]
  staticTypes := #[]
  resolved := Array.replicate 57 none
  statics := none }

def pool2 : Array CpInfo := pool [(3, .class_ 4), (0, u "com/example/relay_queue/relayqueue/broker/ByteWriter"), (2, u "<init>"), (0, u "(I)V"), (0, .methodref 10 11), (0, .class_ 12), (0, .nameAndType 7 13), (0, u "java/lang/Object"), (0, u "()V"), (0, .fieldref 3 15), (0, .nameAndType 16 17), (0, u "bytes"), (0, u "[B"), (5, u "size"), (0, u "I"), (104, u "DEFAULT_CAPACITY"), (2, u "LARGEST_DOUBLING"), (1, u "UTF8_PIECE_CHARS")] 32

def k2m0 : Method := { name := "<init>", desc := "()V", sig := { parameters := [], returnType := none }, accessFlags := 1, code := none }
def k2c1 : Code := { maxStack := 2, maxLocals := 2, code := prog_9_method_2_code, exceptionTable := #[], attributes := #[] }
def k2m1 : Method := { name := "<init>", desc := "(I)V", sig := { parameters := [.int], returnType := none }, accessFlags := 1, code := some k2c1 }
/-- com/example/relay_queue/relayqueue/broker/ByteWriter -/
def k2 : Class := { plain "com/example/relay_queue/relayqueue/broker/ByteWriter" (some 0) with
  accessFlags := 33
  interfaces := #[]
  cf := some (fileOf pool2 3 #[] #[{ accessFlags := 1, nameIndex := 7, descriptorIndex := 13, attributes := #[] }, { accessFlags := 1, nameIndex := 7, descriptorIndex := 8, attributes := #[] }] 33 10 #[] #[{ accessFlags := 26, nameIndex := 129, descriptorIndex := 24, attributes := #[] }, { accessFlags := 26, nameIndex := 132, descriptorIndex := 24, attributes := #[] }, { accessFlags := 26, nameIndex := 134, descriptorIndex := 24, attributes := #[] }, { accessFlags := 2, nameIndex := 16, descriptorIndex := 17, attributes := #[] }, { accessFlags := 2, nameIndex := 23, descriptorIndex := 24, attributes := #[] }])
  fields := #[{ name := "DEFAULT_CAPACITY", type := .int, accessFlags := 26, slot := 0, constantValue := 0 }, { name := "LARGEST_DOUBLING", type := .int, accessFlags := 26, slot := 1, constantValue := 0 }, { name := "UTF8_PIECE_CHARS", type := .int, accessFlags := 26, slot := 2, constantValue := 0 }, { name := "bytes", type := (.array .byte), accessFlags := 2, slot := 0, constantValue := 0 }, { name := "size", type := .int, accessFlags := 2, slot := 1, constantValue := 0 }]
  methods := #[k2m0, k2m1]
  instanceTypes := #[(.array .byte), .int]
  staticTypes := #[.int, .int, .int]
  resolved := Array.replicate 167 none
  statics := none }

def pool3 : Array CpInfo := pool [(1, .methodref 2 3), (0, .class_ 4), (0, .nameAndType 5 6), (0, u "com/example/relay_queue/relayqueue/broker/ByteWriter"), (0, u "<init>"), (0, u "(I)V"), (0, .fieldref 8 9), (0, .class_ 10), (0, .nameAndType 11 12), (0, u "com/example/relay_queue/relayqueue/broker/ByteCounter"), (0, u "count"), (0, u "J"), (10, .long 2147483647), (1, .methodref 26 27), (0, .class_ 28), (0, .nameAndType 29 30), (0, u "java/lang/Math"), (0, u "min"), (0, u "(JJ)J"), (11, u "()V"), (5, u "write"), (0, u "([B)V"), (0, u "writeUtf8"), (0, u "(Ljava/lang/String;J)V"), (0, u "size"), (0, u "()I")] 3

def k3c0 : Code := { maxStack := 2, maxLocals := 1, code := prog_6_method_1_code, exceptionTable := #[], attributes := #[] }
def k3m0 : Method := { name := "<init>", desc := "()V", sig := { parameters := [], returnType := none }, accessFlags := 1, code := some k3c0 }
def k3c1 : Code := { maxStack := 5, maxLocals := 2, code := prog_6_method_5_code, exceptionTable := #[], attributes := #[] }
def k3m1 : Method := { name := "write", desc := "([B)V", sig := { parameters := [(.array .byte)], returnType := none }, accessFlags := 1, code := some k3c1 }
def k3c2 : Code := { maxStack := 5, maxLocals := 4, code := prog_6_method_6_code, exceptionTable := #[], attributes := #[] }
def k3m2 : Method := { name := "writeUtf8", desc := "(Ljava/lang/String;J)V", sig := { parameters := [(.object "java/lang/String"), .long], returnType := none }, accessFlags := 1, code := some k3c2 }
def k3c3 : Code := { maxStack := 4, maxLocals := 1, code := prog_6_method_7_code, exceptionTable := #[], attributes := #[] }
def k3m3 : Method := { name := "size", desc := "()I", sig := { parameters := [], returnType := some .int }, accessFlags := 1, code := some k3c3 }
/-- com/example/relay_queue/relayqueue/broker/ByteCounter -/
def k3 : Class := { plain "com/example/relay_queue/relayqueue/broker/ByteCounter" (some 2) with
  accessFlags := 33
  interfaces := #[]
  cf := some (fileOf pool3 8 #[] #[{ accessFlags := 1, nameIndex := 5, descriptorIndex := 42, attributes := #[] }, { accessFlags := 1, nameIndex := 48, descriptorIndex := 49, attributes := #[] }, { accessFlags := 1, nameIndex := 50, descriptorIndex := 51, attributes := #[] }, { accessFlags := 1, nameIndex := 52, descriptorIndex := 53, attributes := #[] }] 33 2 #[] #[{ accessFlags := 2, nameIndex := 11, descriptorIndex := 12, attributes := #[] }])
  fields := #[{ name := "count", type := .long, accessFlags := 2, slot := 2, constantValue := 0 }]
  methods := #[k3m0, k3m1, k3m2, k3m3]
  instanceTypes := #[(.array .byte), .int, .long]
  staticTypes := #[]
  resolved := Array.replicate 57 none
  statics := none }

def pool4 : Array CpInfo := pool [(1, .class_ 2), (0, u "java/io/Serializable"), (0, .class_ 4), (0, u "java/lang/Object")] 2

/-- java/io/Serializable -/
def k4 : Class := { plain "java/io/Serializable" (some 0) with
  accessFlags := 1537
  interfaces := #[]
  cf := some (fileOf pool4 1 #[] #[] 1537 3 #[] #[])
  fields := #[]
  methods := #[]
  instanceTypes := #[]
  staticTypes := #[]
  resolved := Array.replicate 7 none
  statics := none }

def pool5 : Array CpInfo := pool [(1, .class_ 2), (0, u "java/lang/Comparable"), (0, .class_ 4), (0, u "java/lang/Object")] 7

/-- java/lang/Comparable -/
def k5 : Class := { plain "java/lang/Comparable" (some 0) with
  accessFlags := 1537
  interfaces := #[]
  cf := some (fileOf pool5 1 #[] #[] 1537 3 #[] #[])
  fields := #[]
  methods := #[]
  instanceTypes := #[]
  staticTypes := #[]
  resolved := Array.replicate 12 none
  statics := none }

def pool6 : Array CpInfo := pool [(2, .class_ 4), (1, u "java/lang/CharSequence"), (42, .class_ 48), (0, u "java/lang/CharSequence$1CodePointIterator"), (10, .class_ 60), (0, u "java/lang/CharSequence$1CharIterator"), (5, .class_ 67), (0, u "java/lang/Object")] 63

/-- java/lang/CharSequence -/
def k6 : Class := { plain "java/lang/CharSequence" (some 0) with
  accessFlags := 1537
  interfaces := #[]
  cf := some (fileOf pool6 2 #[.nestMembers #[47, 59]] #[] 1537 66 #[] #[])
  fields := #[]
  methods := #[]
  instanceTypes := #[]
  staticTypes := #[]
  resolved := Array.replicate 131 none
  statics := none }

def pool7 : Array CpInfo := pool [(1, .class_ 2), (0, u "java/lang/constant/Constable"), (0, .class_ 4), (0, u "java/lang/Object")] 6

/-- java/lang/constant/Constable -/
def k7 : Class := { plain "java/lang/constant/Constable" (some 0) with
  accessFlags := 1537
  interfaces := #[]
  cf := some (fileOf pool7 1 #[] #[] 1537 3 #[] #[])
  fields := #[]
  methods := #[]
  instanceTypes := #[]
  staticTypes := #[]
  resolved := Array.replicate 11 none
  statics := none }

def pool8 : Array CpInfo := pool [(1, .class_ 2), (0, u "java/lang/constant/ConstantDesc"), (0, .class_ 4), (0, u "java/lang/Object")] 32

/-- java/lang/constant/ConstantDesc -/
def k8 : Class := { plain "java/lang/constant/ConstantDesc" (some 0) with
  accessFlags := 1537
  interfaces := #[]
  cf := some (fileOf pool8 1 #[] #[] 1537 3 #[] #[])
  fields := #[]
  methods := #[]
  instanceTypes := #[]
  staticTypes := #[]
  resolved := Array.replicate 37 none
  statics := none }

def pool9 : Array CpInfo := pool [(2, .class_ 4), (1, u "java/lang/Object"), (0, u "<init>"), (0, u "()V"), (3, .class_ 12), (1, u "java/lang/String"), (0, u "value"), (0, u "[B"), (2, u "coder"), (0, u "B"), (2, u "hash"), (0, u "I"), (2, u "hashIsZero"), (0, u "Z"), (13, u "COMPACT_STRINGS"), (534, .class_ 576), (0, u "java/lang/CharSequence"), (22, u "CASE_INSENSITIVE_ORDER"), (0, u "Ljava/util/Comparator;"), (500, u "serialPersistentFields"), (0, u "[Ljava/io/ObjectStreamField;"), (0, .class_ 1104), (0, u "java/lang/String$CaseInsensitiveComparator"), (1, .class_ 1107), (0, u "java/io/Serializable"), (0, .class_ 1109), (0, u "java/lang/Comparable"), (0, .class_ 1111), (0, u "java/lang/constant/Constable"), (0, .class_ 1113), (0, u "java/lang/constant/ConstantDesc"), (2, u "serialVersionUID"), (0, u "J"), (3, u "REPL"), (0, u "C"), (2, u "LATIN1"), (1, u "UTF16")] 323

def k9m0 : Method := { name := "<init>", desc := "()V", sig := { parameters := [], returnType := none }, accessFlags := 1, code := none }
/-- java/lang/String -/
def k9 : Class := { plain "java/lang/String" (some 0) with
  accessFlags := 49
  interfaces := #[4, 5, 6, 7, 8]
  cf := some (fileOf pool9 10 #[.nestMembers #[1103]] #[{ accessFlags := 1, nameIndex := 5, descriptorIndex := 6, attributes := #[] }] 49 2 #[1106, 1108, 575, 1110, 1112] #[{ accessFlags := 18, nameIndex := 13, descriptorIndex := 14, attributes := #[] }, { accessFlags := 18, nameIndex := 17, descriptorIndex := 18, attributes := #[] }, { accessFlags := 2, nameIndex := 21, descriptorIndex := 22, attributes := #[] }, { accessFlags := 2, nameIndex := 25, descriptorIndex := 26, attributes := #[] }, { accessFlags := 26, nameIndex := 1116, descriptorIndex := 1117, attributes := #[] }, { accessFlags := 24, nameIndex := 40, descriptorIndex := 26, attributes := #[] }, { accessFlags := 26, nameIndex := 1101, descriptorIndex := 1102, attributes := #[] }, { accessFlags := 26, nameIndex := 1121, descriptorIndex := 1122, attributes := #[] }, { accessFlags := 25, nameIndex := 599, descriptorIndex := 600, attributes := #[] }, { accessFlags := 24, nameIndex := 1125, descriptorIndex := 18, attributes := #[] }, { accessFlags := 24, nameIndex := 1127, descriptorIndex := 18, attributes := #[] }])
  fields := #[{ name := "value", type := (.array .byte), accessFlags := 18, slot := 0, constantValue := 0 }, { name := "coder", type := .byte, accessFlags := 18, slot := 1, constantValue := 0 }, { name := "hash", type := .int, accessFlags := 2, slot := 2, constantValue := 0 }, { name := "hashIsZero", type := .boolean, accessFlags := 2, slot := 3, constantValue := 0 }, { name := "serialVersionUID", type := .long, accessFlags := 26, slot := 0, constantValue := 0 }, { name := "COMPACT_STRINGS", type := .boolean, accessFlags := 24, slot := 1, constantValue := 0 }, { name := "serialPersistentFields", type := (.array (.object "java/io/ObjectStreamField")), accessFlags := 26, slot := 2, constantValue := 0 }, { name := "REPL", type := .char, accessFlags := 26, slot := 3, constantValue := 0 }, { name := "CASE_INSENSITIVE_ORDER", type := (.object "java/util/Comparator"), accessFlags := 25, slot := 4, constantValue := 0 }, { name := "LATIN1", type := .byte, accessFlags := 24, slot := 5, constantValue := 0 }, { name := "UTF16", type := .byte, accessFlags := 24, slot := 6, constantValue := 0 }]
  methods := #[k9m0]
  instanceTypes := #[(.array .byte), .byte, .int, .boolean]
  staticTypes := #[.long, .boolean, (.array (.object "java/io/ObjectStreamField")), .char, (.object "java/util/Comparator"), .byte, .byte]
  resolved := Array.replicate 1451 none
  statics := none }

def pool10 : Array CpInfo := pool [(1, .class_ 2), (0, u "java/lang/Math"), (1, .class_ 6), (1, u "java/lang/Object"), (0, u "<init>"), (0, u "()V"), (89, .class_ 100), (1, u "java/lang/Math$RandomNumberGeneratorHolder"), (20, u "(JJ)J"), (50, u "negativeZeroFloatBits"), (0, u "J"), (2, u "negativeZeroDoubleBits"), (24, u "min"), (43, u "$assertionsDisabled"), (0, u "Z"), (91, u "twoToTheDoubleScaleDown"), (0, u "D"), (4, u "twoToTheDoubleScaleUp"), (9, u "E"), (3, u "PI"), (2, u "TAU"), (2, u "DEGREES_TO_RADIANS"), (0, u "RADIANS_TO_DEGREES")] 94

def k10m0 : Method := { name := "<init>", desc := "()V", sig := { parameters := [], returnType := none }, accessFlags := 2, code := none }
def k10c1 : Code := { maxStack := 4, maxLocals := 4, code := jdk_29_method_70_code, exceptionTable := #[], attributes := #[] }
def k10m1 : Method := { name := "min", desc := "(JJ)J", sig := { parameters := [.long, .long], returnType := some .long }, accessFlags := 9, code := some k10c1 }
/-- java/lang/Math -/
def k10 : Class := { plain "java/lang/Math" (some 0) with
  accessFlags := 49
  interfaces := #[]
  cf := some (fileOf pool10 1 #[.nestMembers #[98]] #[{ accessFlags := 2, nameIndex := 7, descriptorIndex := 8, attributes := #[] }, { accessFlags := 9, nameIndex := 201, descriptorIndex := 121, attributes := #[] }] 49 4 #[] #[{ accessFlags := 25, nameIndex := 354, descriptorIndex := 339, attributes := #[] }, { accessFlags := 25, nameIndex := 358, descriptorIndex := 339, attributes := #[] }, { accessFlags := 25, nameIndex := 361, descriptorIndex := 339, attributes := #[] }, { accessFlags := 26, nameIndex := 364, descriptorIndex := 339, attributes := #[] }, { accessFlags := 26, nameIndex := 365, descriptorIndex := 339, attributes := #[] }, { accessFlags := 26, nameIndex := 172, descriptorIndex := 173, attributes := #[] }, { accessFlags := 26, nameIndex := 176, descriptorIndex := 173, attributes := #[] }, { accessFlags := 8, nameIndex := 344, descriptorIndex := 339, attributes := #[] }, { accessFlags := 8, nameIndex := 338, descriptorIndex := 339, attributes := #[] }, { accessFlags := 4120, nameIndex := 245, descriptorIndex := 246, attributes := #[] }])
  fields := #[{ name := "E", type := .double, accessFlags := 25, slot := 0, constantValue := 0 }, { name := "PI", type := .double, accessFlags := 25, slot := 1, constantValue := 0 }, { name := "TAU", type := .double, accessFlags := 25, slot := 2, constantValue := 0 }, { name := "DEGREES_TO_RADIANS", type := .double, accessFlags := 26, slot := 3, constantValue := 0 }, { name := "RADIANS_TO_DEGREES", type := .double, accessFlags := 26, slot := 4, constantValue := 0 }, { name := "negativeZeroFloatBits", type := .long, accessFlags := 26, slot := 5, constantValue := 0 }, { name := "negativeZeroDoubleBits", type := .long, accessFlags := 26, slot := 6, constantValue := 0 }, { name := "twoToTheDoubleScaleUp", type := .double, accessFlags := 8, slot := 7, constantValue := 0 }, { name := "twoToTheDoubleScaleDown", type := .double, accessFlags := 8, slot := 8, constantValue := 0 }, { name := "$assertionsDisabled", type := .boolean, accessFlags := 4120, slot := 9, constantValue := 0 }]
  methods := #[k10m0, k10m1]
  instanceTypes := #[]
  staticTypes := #[.double, .double, .double, .double, .double, .long, .long, .double, .double, .boolean]
  resolved := Array.replicate 460 none
  statics := none }

def pool11 : Array CpInfo := pool [(1, u "java/lang/Cloneable"), (0, .class_ 1), (0, u "java/lang/Object"), (0, .class_ 3)] 3

/-- java/lang/Cloneable -/
def k11 : Class := { plain "java/lang/Cloneable" (some 0) with
  accessFlags := 1537
  interfaces := #[]
  cf := some (fileOf pool11 2 #[] #[] 1537 4 #[] #[])
  fields := #[]
  methods := #[]
  instanceTypes := #[]
  staticTypes := #[]
  resolved := Array.replicate 8 none
  statics := none }

/-- the primitive byte -/
def k12 : Class := { plain "byte" none with kind := .primitive 'B', accessFlags := 0x411 }
/-- [B -/
def k13 : Class := { plain "[B" (some 0) with kind := .array 12 .byte, interfaces := #[11, 4], accessFlags := 1041 }

/-- the primitive int -/
def k14 : Class := { plain "int" none with kind := .primitive 'I', accessFlags := 0x411 }
/-- [I -/
def k15 : Class := { plain "[I" (some 0) with kind := .array 14 .int, interfaces := #[11, 4], accessFlags := 1041 }

def heap : Heap := #[]
def classes : Array Class := #[k0, k1, k2, k3, k4, k5, k6, k7, k8, k9, k10, k11, k12, k13, k14, k15]
def interned : List (Array UInt16 × Addr) := []
def slotsUsed : Nat := 0
def theMethod : MethodId := ⟨1, 3⟩
def args0 : Array Value := #[.long 5, .int 7, .long 9, .int 3]
def aboutOver (below : List Frame) : State where
  vm := { classes := classes, interned := interned.toArray }
  heap := heap
  slotsUsed := slotsUsed
  threads := #[{ frames := .invoking theMethod args0 :: below }]
def below0 : List Frame := [.native { method := ⟨0, 0⟩, args := #[] }]
def about1 : State := aboutOver below0
def p0 : Program := .bare "" "" ""
def e0 : Env := launch0.env 0 0 0
theorem w_frames : about1.frames = Frame.invoking theMethod args0 :: below0 := rfl
set_option maxRecDepth 65536 in
theorem w_args : argsFit about1.vm theMethod args0 = true := by decide +kernel
set_option maxRecDepth 65536 in
theorem w_heap : heapFits about1 = true := by decide +kernel
set_option maxRecDepth 65536 in
theorem w_runnable : about1.curStatus? = some .runnable := by decide +kernel
set_option maxRecDepth 65536 in
theorem w_alone : about1.alone = true := by decide +kernel
set_option maxRecDepth 65536 in
theorem w_named : about1.methodNamed? x = some theMethod := by decide +kernel
set_option maxRecDepth 65536 in
theorem w_hears : about1.hears theMethod below0 = true := by decide +kernel
set_option maxRecDepth 65536 in
theorem w_ripe : about1.ripe theMethod args0 below0 = true := by decide +kernel
theorem w_running : about1.status = .running := rfl
set_option maxRecDepth 65536 in
theorem w_room : about1.hasRoom e0.platform room_1 = true :=
  launch0.hasRoom_least _ room_1 (by decide +kernel) (by decide +kernel) (by decide +kernel) (by decide +kernel) (by decide +kernel) (by decide +kernel)
theorem allAtoms_all (ts : List Jvm.Cond) (a : Array Jvm.Value) (st : Jvm.State) : (allAtoms ts).before a st = ts.all (fun c => c.before a st) := by
  induction ts with
  | nil => rfl
  | cons c t ih =>
    show (Jvm.Cond.and c (allAtoms t)).before a st = _
    rw [Jvm.Cond.before_and, ih, List.all_cons]
def words1 : List Jvm.Cond := Jvm.Cond.code x code maxLocals ret :: tables_1
/-- a 'code' word, met by the world's own term for the bytes: nothing is compared byte by byte -/
theorem code_word {y : MethodName} {bytes : ByteArray} {mx : Nat} {rt : Option FieldType} {a : Array Value} {s : State} {m : MethodId} {meth : Method} {c : Code} (h1 : s.methodNamed? y = some m) (h2 : s.vm.method? m = some meth) (h3 : meth.code = some c) (h4 : c.code = bytes)
    (h5 : (c.maxLocals == mx && c.exceptionTable.isEmpty && decide (c.maxStack ≤ mostOperands) && decide (meth.sig.returnType = rt) && !meth.locks && decide (parseMethodDescriptor y.desc = some meth.sig)) = true) : (Jvm.Cond.code y bytes mx rt).before a s = true := by
  simp only [Bool.and_eq_true, beq_iff_eq, Bool.not_eq_true', decide_eq_true_eq] at h5
  obtain ⟨⟨⟨⟨⟨g1, g2⟩, g3⟩, g4⟩, g5⟩, g6⟩ := h5
  simp [Cond.before, Cond.holds, Cond.value, h1, h2, h3, h4, g1, g2, g3, g4, g5, g6]
def isCode : Jvm.Cond → Bool
  | .code _ _ _ _ => true
  | _ => false
theorem all_split {L : List Jvm.Cond} {P : Jvm.Cond → Bool} (h1 : L.all (fun c => isCode c || P c) = true) (h2 : ∀ c ∈ L.filter isCode, P c = true) : L.all P = true := by
  refine List.all_eq_true.mpr fun c hc => ?_
  have h := List.all_eq_true.mp h1 c hc
  rcases Bool.eq_false_or_eq_true (isCode c) with hi | hi
  · exact h2 c (List.mem_filter.mpr ⟨hc, hi⟩)
  · simpa [hi] using h
set_option maxRecDepth 65536 in
theorem w_c0 : (Jvm.Cond.code x code maxLocals ret).before args0 about1 = true := code_word (m := ⟨1, 3⟩) (meth := k1m3) (c := k1c3) (by decide +kernel) rfl rfl rfl (by decide +kernel)
set_option maxRecDepth 65536 in
theorem w_c1 : (Jvm.Cond.code ({ cls := "com/example/relay_queue/relayqueue/broker/ByteCounterWritePinLaw", name := "bytes", desc := "(IJ)[B" } : Jvm.MethodName) method_3_code (4 : Nat) (Option.some (Jvm.ClassFile.FieldType.array Jvm.ClassFile.FieldType.byte))).before args0 about1 = true := code_word (m := ⟨1, 2⟩) (meth := k1m2) (c := k1c2) (by decide +kernel) rfl rfl rfl (by decide +kernel)
set_option maxRecDepth 65536 in
theorem w_c2 : (Jvm.Cond.code ({ cls := "com/example/relay_queue/relayqueue/broker/ByteCounter", name := "<init>", desc := "()V" } : Jvm.MethodName) prog_6_method_1_code (1 : Nat) (Option.none : Option Jvm.ClassFile.FieldType)).before args0 about1 = true := code_word (m := ⟨3, 0⟩) (meth := k3m0) (c := k3c0) (by decide +kernel) rfl rfl rfl (by decide +kernel)
set_option maxRecDepth 65536 in
theorem w_c3 : (Jvm.Cond.code ({ cls := "com/example/relay_queue/relayqueue/broker/ByteWriter", name := "<init>", desc := "(I)V" } : Jvm.MethodName) prog_9_method_2_code (2 : Nat) (Option.none : Option Jvm.ClassFile.FieldType)).before args0 about1 = true := code_word (m := ⟨2, 1⟩) (meth := k2m1) (c := k2c1) (by decide +kernel) rfl rfl rfl (by decide +kernel)
set_option maxRecDepth 65536 in
theorem w_c4 : (Jvm.Cond.code ({ cls := "java/lang/Object", name := "<init>", desc := "()V" } : Jvm.MethodName) object_method_1_code (1 : Nat) (Option.none : Option Jvm.ClassFile.FieldType)).before args0 about1 = true := code_word (m := ⟨0, 0⟩) (meth := k0m0) (c := k0c0) (by decide +kernel) rfl rfl rfl (by decide +kernel)
set_option maxRecDepth 65536 in
theorem w_c5 : (Jvm.Cond.code ({ cls := "com/example/relay_queue/relayqueue/broker/ByteCounter", name := "writeUtf8", desc := "(Ljava/lang/String;J)V" } : Jvm.MethodName) prog_6_method_6_code (4 : Nat) (Option.none : Option Jvm.ClassFile.FieldType)).before args0 about1 = true := code_word (m := ⟨3, 2⟩) (meth := k3m2) (c := k3c2) (by decide +kernel) rfl rfl rfl (by decide +kernel)
set_option maxRecDepth 65536 in
theorem w_c6 : (Jvm.Cond.code ({ cls := "com/example/relay_queue/relayqueue/broker/ByteCounter", name := "size", desc := "()I" } : Jvm.MethodName) prog_6_method_7_code (1 : Nat) (Option.some Jvm.ClassFile.FieldType.int)).before args0 about1 = true := code_word (m := ⟨3, 3⟩) (meth := k3m3) (c := k3c3) (by decide +kernel) rfl rfl rfl (by decide +kernel)
set_option maxRecDepth 65536 in
theorem w_c7 : (Jvm.Cond.code ({ cls := "java/lang/Math", name := "min", desc := "(JJ)J" } : Jvm.MethodName) jdk_29_method_70_code (4 : Nat) (Option.some Jvm.ClassFile.FieldType.long)).before args0 about1 = true := code_word (m := ⟨10, 1⟩) (meth := k10m1) (c := k10c1) (by decide +kernel) rfl rfl rfl (by decide +kernel)
set_option maxRecDepth 65536 in
theorem w_c8 : (Jvm.Cond.code ({ cls := "com/example/relay_queue/relayqueue/broker/ByteCounterWritePinLaw", name := "ref", desc := "(J)I" } : Jvm.MethodName) method_2_code (2 : Nat) (Option.some Jvm.ClassFile.FieldType.int)).before args0 about1 = true := code_word (m := ⟨1, 1⟩) (meth := k1m1) (c := k1c1) (by decide +kernel) rfl rfl rfl (by decide +kernel)
set_option maxRecDepth 65536 in
theorem w_c9 : (Jvm.Cond.code ({ cls := "com/example/relay_queue/relayqueue/broker/ByteCounter", name := "write", desc := "([B)V" } : Jvm.MethodName) prog_6_method_5_code (2 : Nat) (Option.none : Option Jvm.ClassFile.FieldType)).before args0 about1 = true := code_word (m := ⟨3, 1⟩) (meth := k3m1) (c := k3c1) (by decide +kernel) rfl rfl rfl (by decide +kernel)
def codes1 : List Jvm.Cond := [Jvm.Cond.code x code maxLocals ret, Jvm.Cond.code ({ cls := "com/example/relay_queue/relayqueue/broker/ByteCounterWritePinLaw", name := "bytes", desc := "(IJ)[B" } : Jvm.MethodName) method_3_code (4 : Nat) (Option.some (Jvm.ClassFile.FieldType.array Jvm.ClassFile.FieldType.byte)), Jvm.Cond.code ({ cls := "com/example/relay_queue/relayqueue/broker/ByteCounter", name := "<init>", desc := "()V" } : Jvm.MethodName) prog_6_method_1_code (1 : Nat) (Option.none : Option Jvm.ClassFile.FieldType), Jvm.Cond.code ({ cls := "com/example/relay_queue/relayqueue/broker/ByteWriter", name := "<init>", desc := "(I)V" } : Jvm.MethodName) prog_9_method_2_code (2 : Nat) (Option.none : Option Jvm.ClassFile.FieldType), Jvm.Cond.code ({ cls := "java/lang/Object", name := "<init>", desc := "()V" } : Jvm.MethodName) object_method_1_code (1 : Nat) (Option.none : Option Jvm.ClassFile.FieldType), Jvm.Cond.code ({ cls := "com/example/relay_queue/relayqueue/broker/ByteCounter", name := "writeUtf8", desc := "(Ljava/lang/String;J)V" } : Jvm.MethodName) prog_6_method_6_code (4 : Nat) (Option.none : Option Jvm.ClassFile.FieldType), Jvm.Cond.code ({ cls := "com/example/relay_queue/relayqueue/broker/ByteCounter", name := "size", desc := "()I" } : Jvm.MethodName) prog_6_method_7_code (1 : Nat) (Option.some Jvm.ClassFile.FieldType.int), Jvm.Cond.code ({ cls := "java/lang/Math", name := "min", desc := "(JJ)J" } : Jvm.MethodName) jdk_29_method_70_code (4 : Nat) (Option.some Jvm.ClassFile.FieldType.long), Jvm.Cond.code ({ cls := "com/example/relay_queue/relayqueue/broker/ByteCounterWritePinLaw", name := "ref", desc := "(J)I" } : Jvm.MethodName) method_2_code (2 : Nat) (Option.some Jvm.ClassFile.FieldType.int), Jvm.Cond.code ({ cls := "com/example/relay_queue/relayqueue/broker/ByteCounter", name := "write", desc := "([B)V" } : Jvm.MethodName) prog_6_method_5_code (2 : Nat) (Option.none : Option Jvm.ClassFile.FieldType)]
set_option maxRecDepth 65536 in
theorem codes_eq : words1.filter isCode = codes1 := rfl
theorem w_codes : ∀ c ∈ words1.filter isCode, c.before args0 about1 = true := by
  rw [codes_eq]
  intro c hc
  simp only [codes1, List.mem_cons, List.not_mem_nil, or_false] at hc
  rcases hc with rfl | rfl | rfl | rfl | rfl | rfl | rfl | rfl | rfl | rfl
  · exact w_c0
  · exact w_c1
  · exact w_c2
  · exact w_c3
  · exact w_c4
  · exact w_c5
  · exact w_c6
  · exact w_c7
  · exact w_c8
  · exact w_c9
set_option maxRecDepth 65536 in
theorem w_t1 : (words1.take 24).all (fun c => isCode c || c.before args0 about1) = true := by decide +kernel
set_option maxRecDepth 65536 in
theorem w_t2 : ((words1.drop 24).take 24).all (fun c => isCode c || c.before args0 about1) = true := by decide +kernel
set_option maxRecDepth 65536 in
theorem w_t3 : ((words1.drop 24).drop 24).all (fun c => isCode c || c.before args0 about1) = true := by decide +kernel
theorem w_tables : (allAtoms (Jvm.Cond.code x code maxLocals ret :: tables_1)).before args0 about1 = true := by
  rw [allAtoms_all]
  show words1.all (fun c => c.before args0 about1) = true
  refine all_split ?_ w_codes
  rw [← List.take_append_drop 24 words1, List.all_append, w_t1, ← List.take_append_drop 24 (words1.drop 24), List.all_append, w_t2, w_t3]
  rfl
set_option maxRecDepth 65536 in
theorem w_case : (Jvm.Cond.and given_1 narrow_1).before args0 about1 = true := by decide +kernel
theorem w_applies : (headSpec (Jvm.Cond.code x code maxLocals ret :: tables_1) room_1).applies x e0.platform about1 = true :=
  (Spec.applies_iff w_frames).mpr ⟨w_running, w_runnable, w_alone, w_named, w_hears, w_ripe, w_room, w_tables⟩
theorem atStart : AtStart classFile x code maxLocals ret World_1 tables_1 room_1 Calls_1 rest_1 Pre_1 launch0 p0 e0 about1 theMethod args0 below0 :=
  ⟨lists_1, trivial, launch0.admits_env _ _ _, launch0.least_env, fairChoices_fair.cas, fairChoices_fair.clock, w_frames, w_args, w_heap, w_applies, trivial, trivial, w_case⟩
end start1
theorem witness_1 : WitnessClaimed_1 := ⟨start1.p0, start1.e0, start1.about1, start1.theMethod, start1.args0, start1.below0, start1.atStart⟩
end Jvm.Pilot.@@N@@
