import JvmDerived
import JvmDerived.Pilot.@@N@@Statement
import JvmDerived.Pilot.@@N@@Code
set_option linter.unusedVariables false
set_option linter.unusedSimpArgs false
namespace Jvm.RoadKit
open Sem ClassFile Op Lib Jvm.Stand Jvm.Free Jvm.LawKit
section New
variable {p : Program} {l : Launch} {e : Env} {R : Room} {s : State} {m : MethodId} {args : Array Value} {below : List Frame} {meth : Method} {c : Code} {T : State} {locs : List Loc} {cells slots : Nat}
theorem retI (X : Stand p l e R s m args below meth c T locs cells slots) (hx : p.tables.exec = Jvm.exec) {pc : Nat} {Ls : Array Slot} {z : Int32} {rest : List Value} (hret : meth.sig.returnType = some .int) (hd : decode c.code pc = .ok (.ireturn, 1)) {fs : List Frame}
    (hl : ∀ (f : JFrame) (acts : List Action), f.method = m → f.locked = none → f.entered = [] → (doReturn e (T.setTop f) acts (some (.int z))).1 = T.setFrames fs) : Steps p.tables e below (T.setTop (mkF m pc Ls (.int z :: rest))) (T.setFrames fs) := by
  have hm' : T.vm.method? m = some meth := X.method'
  have hn : narrow .int (.int z) = .int z := rfl
  show Steps p.tables e below (T.setTop { method := m, pc := pc, locals := Ls, stack := _ :: rest, locked := none }) _
  jvm_step X.here [X.here.top, hx, hd, hm', hret, hn]
  first | (intro acts; rw [hl _ acts rfl rfl rfl]) | rw [hl _ _ rfl rfl rfl]
  exact Steps.refl _
end New
end Jvm.RoadKit
namespace Jvm.Pilot.@@N@@
open Jvm Jvm.ClassFile Sem Op Lib Jvm.Free Jvm.Stand Jvm.LawKit Jvm.RoadKit Bundle Jvm.Pilot.@@N@@.Jvm.D
def own_dig : Nat → Int32 := fun i => ([48, 49, 50, 51, 52, 53, 54, 55, 56, 57] : List Int32).getD i 0
theorem own_dig_at : ∀ i, i < 10 → (own_dig i).toInt = 48 + (i : Int) := by decide
theorem own_nn {j : Int32} (h : 0 ≤ j.toInt) : ¬ j < 0 := by rw [Int32.lt_iff_toInt_lt]; have q0 : (0 : Int32).toInt = 0 := rfl; omega
theorem own_clamp {j : Int32} (h : 0 ≤ j.toInt) : (j.toNatClampNeg : Int) = j.toInt := (nat_of (own_nn h)).symm
/-- an array of ints (bytes) of which the length is known -/
def own_Arl (Z : State) (h : Heap) (a : Addr) (ty : FieldType) (z : Int32) : Prop := ∃ c : Cell, Arr Z h a c ty ∧ c.slots.size = z.toNatClampNeg ∧ ¬ z < 0
/-- an array of ints (bytes) that holds f -/
def own_Arf (Z : State) (h : Heap) (a : Addr) (ty : FieldType) (z : Int32) (f : Nat → Int32) : Prop := ∃ c : Cell, Arr Z h a c ty ∧ c.slots.size = z.toNatClampNeg ∧ ¬ z < 0 ∧ ∀ i, i < z.toNatClampNeg → c.slots[i]? = some (.int (f i))
section Arrs
variable {Z : State} {h h' : Heap} {a b : Addr} {ty : FieldType} {z j x : Int32} {f g : Nat → Int32} {sl : Nat} {v : Value} {ws : List Addr} {k : ClassId} {vs : List Value} {dv : Value} {c : Cell}
theorem own_Arl.lt (F : own_Arl Z h a ty z) : a < h.size := by obtain ⟨c, A, -⟩ := F; exact A.lt
theorem own_Arl.ext (F : own_Arl Z h a ty z) (E : Ext h h') : own_Arl Z h' a ty z := by obtain ⟨c, A, r⟩ := F; exact ⟨c, A.ext E, r⟩
theorem own_Arl.other (F : own_Arl Z h b ty z) (W : Wr h h' a sl v) (q : b ≠ a) : own_Arl Z h' b ty z := by obtain ⟨c, A, r⟩ := F; exact ⟨c, A.other W q, r⟩
theorem own_Arl.keep (F : own_Arl Z h a ty z) (K : Keep h h' ws) (q : a ∉ ws) : own_Arl Z h' a ty z := by obtain ⟨c, A, r⟩ := F; exact ⟨c, ⟨K.2.1 a c A.1 q, A.2⟩, r⟩
theorem own_Arl.new (A : Arr Z h a (newA k ty z) ty) (q : ¬ z < 0) : own_Arl Z h a ty z := ⟨_, A, sz_new _ _ _, q⟩
theorem own_Arl.same (A : Arr Z h a c ty) (S : c.slots.size = z.toNatClampNeg) (q : ¬ z < 0) (W : Wr h h' a sl v) : own_Arl Z h' a ty z := ⟨_, A.same W, (sz_set _ _ _).trans S, q⟩
theorem own_Arl.ofV (F : Arv Z h a k ty z vs dv) : own_Arl Z h a ty z := by obtain ⟨c, A, -, S, N, -⟩ := F; exact ⟨c, A, S, N⟩
theorem own_Arl.ofA (F : own_Arf Z h a ty z f) : own_Arl Z h a ty z := by obtain ⟨c, A, S, N, -⟩ := F; exact ⟨c, A, S, N⟩
theorem own_Arf.lt (F : own_Arf Z h a ty z f) : a < h.size := by obtain ⟨c, A, -⟩ := F; exact A.lt
theorem own_Arf.ext (F : own_Arf Z h a ty z f) (E : Ext h h') : own_Arf Z h' a ty z f := by obtain ⟨c, A, r⟩ := F; exact ⟨c, A.ext E, r⟩
theorem own_Arf.other (F : own_Arf Z h b ty z f) (W : Wr h h' a sl v) (q : b ≠ a) : own_Arf Z h' b ty z f := by obtain ⟨c, A, r⟩ := F; exact ⟨c, A.other W q, r⟩
theorem own_Arf.keep (F : own_Arf Z h a ty z f) (K : Keep h h' ws) (q : a ∉ ws) : own_Arf Z h' a ty z f := by obtain ⟨c, A, r⟩ := F; exact ⟨c, ⟨K.2.1 a c A.1 q, A.2⟩, r⟩
theorem own_Arf.new (A : Arr Z h a (newA k ty z) ty) (q : ¬ z < 0) (hd : defaultValue ty = .int 0) : own_Arf Z h a ty z (fun _ => 0) := ⟨_, A, sz_new _ _ _, q, fun i hi => by simp [newA, hi, hd]⟩
theorem own_Arf.set (A : Arr Z h a c ty) (S : c.slots.size = z.toNatClampNeg) (q : ¬ z < 0) (H : ∀ i, i < z.toNatClampNeg → c.slots[i]? = some (.int (f i))) (W : Wr h h' a sl (.int x)) (e : sl = j.toNatClampNeg) (hg : g = fun i => if i = j.toNatClampNeg then x else f i) : own_Arf Z h' a ty z g := by
  subst e hg
  refine ⟨_, A.same W, (sz_set _ _ _).trans S, q, fun i hi => ?_⟩
  by_cases hij : i = j.toNatClampNeg
  · subst hij
    have hs : j.toNatClampNeg < c.slots.size := by rw [S]; exact hi
    simp [Cell.setSlot, hs]
  · rw [show (c.setSlot j.toNatClampNeg (.int x)).slots[i]? = c.slots[i]? from Array.getElem?_setIfInBounds_ne (Ne.symm hij), H i hi]
    simp [hij]
theorem own_Arf.ofV (F : Arv Z h a k ty z vs dv) (e : ∀ i, i < z.toNatClampNeg → vs.getD i dv = .int (f i)) : own_Arf Z h a ty z f := by
  obtain ⟨c, A, -, S, N, H, -⟩ := F
  exact ⟨c, A, S, N, fun i hi => by rw [H i (by rw [S]; exact hi), e i hi]⟩
theorem own_Arf.congr (F : own_Arf Z h a ty z f) (e : ∀ i, i < z.toNatClampNeg → f i = g i) : own_Arf Z h a ty z g := by obtain ⟨c, A, S, N, H⟩ := F; exact ⟨c, A, S, N, fun i hi => by rw [← e i hi]; exact H i hi⟩
theorem own_sta_keep {C n d : String} (F : Sta Z h C n d v) (K : Keep h h' []) : Sta Z h' C n d v := by
  obtain ⟨cf, i, k, f, st, cell, h1, h2, h3, h4, h5, r⟩ := F
  exact ⟨cf, i, k, f, st, cell, h1, h2, h3, h4, K.2.1 _ _ h5 nin0, r⟩
theorem own_at (H : ∀ i, i < z.toNatClampNeg → c.slots[i]? = some (.int (f i))) (S : c.slots.size = z.toNatClampNeg) (q : ¬ (j < 0 ∨ c.slots.size ≤ j.toNatClampNeg)) (e : f j.toNatClampNeg = x) : c.slots[j.toNatClampNeg]? = some (.int x) := by
  rw [← e]; exact H _ (by rw [← S]; exact Nat.lt_of_not_le fun y => q (Or.inr y))
end Arrs
theorem own_d9_0 : decode jdk_41_method_11_code 0 = .ok (.iload_n 0, 1) := by decide +kernel
theorem own_d9_1 : decode jdk_41_method_11_code 1 = .ok (.ifCond .lt 8, 3) := by decide +kernel
theorem own_d9_4 : decode jdk_41_method_11_code 4 = .ok (.iload_n 0, 1) := by decide +kernel
theorem own_d9_5 : decode jdk_41_method_11_code 5 = .ok (.iload_n 1, 1) := by decide +kernel
theorem own_d9_6 : decode jdk_41_method_11_code 6 = .ok (.if_icmp .lt 10, 3) := by decide +kernel
theorem own_d9_9 : decode jdk_41_method_11_code 9 = .ok (.aload_n 2, 1) := by decide +kernel
theorem own_d9_10 : decode jdk_41_method_11_code 10 = .ok (.iload_n 0, 1) := by decide +kernel
theorem own_d9_11 : decode jdk_41_method_11_code 11 = .ok (.iload_n 1, 1) := by decide +kernel
theorem own_d9_12 : decode jdk_41_method_11_code 12 = .ok (.invokestatic 95, 3) := by decide +kernel
theorem own_d9_16 : decode jdk_41_method_11_code 16 = .ok (.iload_n 0, 1) := by decide +kernel
theorem own_d9_17 : decode jdk_41_method_11_code 17 = .ok (.ireturn, 1) := by decide +kernel
theorem own_pn0 : plainName "jdk/internal/util/Preconditions" = true := by first | (simp [plainName, overriddenIn]; done) | decide +kernel
def Q_rmPn (Z : State) (pi : Int32) (pl : Int32) (h0 : Heap) (n0 : Nat) (v : Option Value) (h : Heap) (L : List Loc) : Prop := ∃ (r : Int32), v = some (.int r) ∧ (True) ∧ Fr n0 L ∧ h = h0
theorem own_ef_rmPn (m : MethodId) (pi : Int32) (pl : Int32) : entryFrame m #[(.int pi), (.int pl), .null] 3 = mkF m 0 #[.val (.int pi), .val (.int pl), .val .null] [] := by first | (simp [entryFrame, mkF, argsToLocals, Value.category]; done) | rfl
set_option maxRecDepth 65536 in
set_option maxHeartbeats 40000000 in
theorem rmPn (l : Launch) (Z : State) (a0 : Array Value) (hw : ∀ d ∈ tables_1, d.before a0 Z = true) (ws : List Jvm.Cond) (pi : Int32) (pl : Int32) (h0 : Heap) (n0 : Nat) (Z0 : n0 ≤ h0.size) (P_0 : 0 ≤ pi.toInt ∧ pi.toInt < pl.toInt) :
    MetFree l (⟨"jdk/internal/util/Preconditions", "checkIndex", "(IILjava/util/function/BiFunction;)I"⟩ : MethodName) (head1 (Jvm.Cond.code (⟨"jdk/internal/util/Preconditions", "checkIndex", "(IILjava/util/function/BiFunction;)I"⟩ : MethodName) jdk_41_method_11_code 3 (some .int) :: ws) ({ frames := 0, cells := 0, slots := 0, locals := 0 } : Room)) (fun a U => a = #[(.int pi), (.int pl), .null] ∧ Z.Warmed39 U.vm ∧ U.heap = h0) (fun _ _ _ _ _ => True) (fun _ U o U' => ∃ v L, o = .returned v ∧ Q_rmPn Z pi pl h0 n0 v U'.heap L ∧ FrameEnd U o U' L ({ frames := 0, cells := 0, slots := 0, locals := 0 } : Room).cells ({ frames := 0, cells := 0, slots := 0, locals := 0 } : Room).slots) := by
  refine MetFree.of_bodySF (plainFor_of_name own_pn0) hisR ?_
  intro p e s m args below meth c s₁ Bd hml0 hP hK
  obtain ⟨rfl, hZ, hh⟩ := hP
  have hx := Bd.exec
  have hby := Bd.bytes
  have hml : c.maxLocals = 3 := hml0
  have hown : s.vm.findClass "jdk/internal/util/Preconditions" = some m.cls := findClass_of_methodNamed Bd.named
  have hnm := (name_of_methodNamed Bd.named Bd.method).1
  have X0 : Stand p l e ({ frames := 0, cells := 0, slots := 0, locals := 0 } : Room) s m #[(.int pi), (.int pl), .null] below meth c s₁ [] 0 0 := Stand.of_body Bd
  have e0 : s₁.heap = h0 := by rw [← hh, Bd.state]; rfl
  have N0 := Fr.nil n0
  have pre0 : ∀ t, Steps p.tables e below (s₁.setTop (mkF m 0 #[.val (.int pi), .val (.int pl), .val .null] [])) t → Steps p.tables e below (s₁.setTop (entryFrame m #[(.int pi), (.int pl), .null] 3)) t := fun t k => castTop (own_ef_rmPn m pi pl) k
  have q2 := rng32 pi
  have q3 := (by decide : (0 : Int32).toInt = 0)
  have hc1 : ¬ (pi < (0 : Int32)) := by rw [Int32.lt_iff_toInt_lt]; omega
  have q4 : ¬ pi.toInt < (0 : Int32).toInt := fun q => hc1 (Int32.lt_iff_toInt_lt.mpr q)
  have q6 := rng32 pl
  have hc5 : pi < pl := by rw [Int32.lt_iff_toInt_lt]; omega
  have q7 : pi.toInt < pl.toInt := Int32.lt_iff_toInt_lt.mp hc5
  have K8 : ∀ t, Steps p.tables e below (s₁.setTop (mkF m 17 #[.val (.int pi), .val (.int pl), .val .null] [(.int pi)])) t → Steps p.tables e below (s₁.setTop (entryFrame m #[(.int pi), (.int pl), .null] 3)) t := fun t k => pre0 t (by
    show Steps p.tables e below (s₁.setTop (mkF m 0 #[.val (.int pi), .val (.int pl), .val .null] [])) t
    refine XS.iloadN X0.here hx rfl (hb hby own_d9_0) rfl ?_
    show Steps p.tables e below (s₁.setTop (mkF m 1 #[.val (.int pi), .val (.int pl), .val .null] [(.int pi)])) t
    refine XS.ifNo X0.here hx rfl (hb hby own_d9_1) rfl ((if0 _ _).trans (flt hc1).1) ?_
    show Steps p.tables e below (s₁.setTop (mkF m 4 #[.val (.int pi), .val (.int pl), .val .null] [])) t
    refine XS.iloadN X0.here hx rfl (hb hby own_d9_4) rfl ?_
    show Steps p.tables e below (s₁.setTop (mkF m 5 #[.val (.int pi), .val (.int pl), .val .null] [(.int pi)])) t
    refine XS.iloadN X0.here hx rfl (hb hby own_d9_5) rfl ?_
    show Steps p.tables e below (s₁.setTop (mkF m 6 #[.val (.int pi), .val (.int pl), .val .null] [(.int pl), (.int pi)])) t
    refine XS.icmpYes X0.here hx rfl (pc0 := 6) (pc' := 16) rfl (hb hby own_d9_6) rfl (tlt hc5).1 (by decide) (by decide) ?_
    show Steps p.tables e below (s₁.setTop (mkF m 16 #[.val (.int pi), .val (.int pl), .val .null] [])) t
    refine XS.iloadN X0.here hx rfl (hb hby own_d9_16) rfl ?_
    exact k)
  obtain ⟨fs, hr, hrun, hended, hW, hsame⟩ := X0.leave (v := some (.int pi)) (fun h => by rw [Bd.returns] at h; cases h)
  refine ⟨_, _, K8 _ ?_, hrun, hended, _, _, rfl, ?_, ⟨_, rfl⟩, hW, hsame.mono (by decide) (by decide)⟩
  · exact retI X0 hx Bd.returns (hb hby own_d9_17) hr
  · show Q_rmPn Z pi pl h0 n0 _ s₁.heap _
    rw [e0]
    exact ⟨pi, rfl, (by trivial), N0, rfl⟩
def Q_rmPr (Z : State) (pi : Int32) (pl : Int32) (fa : Addr) (h0 : Heap) (n0 : Nat) (v : Option Value) (h : Heap) (L : List Loc) : Prop := ∃ (r : Int32), v = some (.int r) ∧ (True) ∧ Fr n0 L ∧ h = h0
theorem own_ef_rmPr (m : MethodId) (pi : Int32) (pl : Int32) (fa : Addr) : entryFrame m #[(.int pi), (.int pl), (.ref fa)] 3 = mkF m 0 #[.val (.int pi), .val (.int pl), .val (.ref fa)] [] := by first | (simp [entryFrame, mkF, argsToLocals, Value.category]; done) | rfl
set_option maxRecDepth 65536 in
set_option maxHeartbeats 40000000 in
theorem rmPr (l : Launch) (Z : State) (a0 : Array Value) (hw : ∀ d ∈ tables_1, d.before a0 Z = true) (ws : List Jvm.Cond) (pi : Int32) (pl : Int32) (fa : Addr) (h0 : Heap) (n0 : Nat) (Z0 : n0 ≤ h0.size) (P_0 : 0 ≤ pi.toInt ∧ pi.toInt < pl.toInt) :
    MetFree l (⟨"jdk/internal/util/Preconditions", "checkIndex", "(IILjava/util/function/BiFunction;)I"⟩ : MethodName) (head1 (Jvm.Cond.code (⟨"jdk/internal/util/Preconditions", "checkIndex", "(IILjava/util/function/BiFunction;)I"⟩ : MethodName) jdk_41_method_11_code 3 (some .int) :: ws) ({ frames := 0, cells := 0, slots := 0, locals := 0 } : Room)) (fun a U => a = #[(.int pi), (.int pl), (.ref fa)] ∧ Z.Warmed39 U.vm ∧ U.heap = h0) (fun _ _ _ _ _ => True) (fun _ U o U' => ∃ v L, o = .returned v ∧ Q_rmPr Z pi pl fa h0 n0 v U'.heap L ∧ FrameEnd U o U' L ({ frames := 0, cells := 0, slots := 0, locals := 0 } : Room).cells ({ frames := 0, cells := 0, slots := 0, locals := 0 } : Room).slots) := by
  refine MetFree.of_bodySF (plainFor_of_name own_pn0) hisR ?_
  intro p e s m args below meth c s₁ Bd hml0 hP hK
  obtain ⟨rfl, hZ, hh⟩ := hP
  have hx := Bd.exec
  have hby := Bd.bytes
  have hml : c.maxLocals = 3 := hml0
  have hown : s.vm.findClass "jdk/internal/util/Preconditions" = some m.cls := findClass_of_methodNamed Bd.named
  have hnm := (name_of_methodNamed Bd.named Bd.method).1
  have X0 : Stand p l e ({ frames := 0, cells := 0, slots := 0, locals := 0 } : Room) s m #[(.int pi), (.int pl), (.ref fa)] below meth c s₁ [] 0 0 := Stand.of_body Bd
  have e0 : s₁.heap = h0 := by rw [← hh, Bd.state]; rfl
  have N0 := Fr.nil n0
  have pre0 : ∀ t, Steps p.tables e below (s₁.setTop (mkF m 0 #[.val (.int pi), .val (.int pl), .val (.ref fa)] [])) t → Steps p.tables e below (s₁.setTop (entryFrame m #[(.int pi), (.int pl), (.ref fa)] 3)) t := fun t k => castTop (own_ef_rmPr m pi pl fa) k
  have q10 := rng32 pi
  have q11 := (by decide : (0 : Int32).toInt = 0)
  have hc9 : ¬ (pi < (0 : Int32)) := by rw [Int32.lt_iff_toInt_lt]; omega
  have q12 : ¬ pi.toInt < (0 : Int32).toInt := fun q => hc9 (Int32.lt_iff_toInt_lt.mpr q)
  have q14 := rng32 pl
  have hc13 : pi < pl := by rw [Int32.lt_iff_toInt_lt]; omega
  have q15 : pi.toInt < pl.toInt := Int32.lt_iff_toInt_lt.mp hc13
  have K16 : ∀ t, Steps p.tables e below (s₁.setTop (mkF m 17 #[.val (.int pi), .val (.int pl), .val (.ref fa)] [(.int pi)])) t → Steps p.tables e below (s₁.setTop (entryFrame m #[(.int pi), (.int pl), (.ref fa)] 3)) t := fun t k => pre0 t (by
    show Steps p.tables e below (s₁.setTop (mkF m 0 #[.val (.int pi), .val (.int pl), .val (.ref fa)] [])) t
    refine XS.iloadN X0.here hx rfl (hb hby own_d9_0) rfl ?_
    show Steps p.tables e below (s₁.setTop (mkF m 1 #[.val (.int pi), .val (.int pl), .val (.ref fa)] [(.int pi)])) t
    refine XS.ifNo X0.here hx rfl (hb hby own_d9_1) rfl ((if0 _ _).trans (flt hc9).1) ?_
    show Steps p.tables e below (s₁.setTop (mkF m 4 #[.val (.int pi), .val (.int pl), .val (.ref fa)] [])) t
    refine XS.iloadN X0.here hx rfl (hb hby own_d9_4) rfl ?_
    show Steps p.tables e below (s₁.setTop (mkF m 5 #[.val (.int pi), .val (.int pl), .val (.ref fa)] [(.int pi)])) t
    refine XS.iloadN X0.here hx rfl (hb hby own_d9_5) rfl ?_
    show Steps p.tables e below (s₁.setTop (mkF m 6 #[.val (.int pi), .val (.int pl), .val (.ref fa)] [(.int pl), (.int pi)])) t
    refine XS.icmpYes X0.here hx rfl (pc0 := 6) (pc' := 16) rfl (hb hby own_d9_6) rfl (tlt hc13).1 (by decide) (by decide) ?_
    show Steps p.tables e below (s₁.setTop (mkF m 16 #[.val (.int pi), .val (.int pl), .val (.ref fa)] [])) t
    refine XS.iloadN X0.here hx rfl (hb hby own_d9_16) rfl ?_
    exact k)
  obtain ⟨fs, hr, hrun, hended, hW, hsame⟩ := X0.leave (v := some (.int pi)) (fun h => by rw [Bd.returns] at h; cases h)
  refine ⟨_, _, K16 _ ?_, hrun, hended, _, _, rfl, ?_, ⟨_, rfl⟩, hW, hsame.mono (by decide) (by decide)⟩
  · exact retI X0 hx Bd.returns (hb hby own_d9_17) hr
  · show Q_rmPr Z pi pl fa h0 n0 _ s₁.heap _
    rw [e0]
    exact ⟨pi, rfl, (by trivial), N0, rfl⟩
theorem own_d8_0 : decode jdk_42_method_155_code 0 = .ok (.iload_n 0, 1) := by decide +kernel
theorem own_d8_1 : decode jdk_42_method_155_code 1 = .ok (.iload_n 1, 1) := by decide +kernel
theorem own_d8_2 : decode jdk_42_method_155_code 2 = .ok (.getstatic 1053, 3) := by decide +kernel
theorem own_d8_5 : decode jdk_42_method_155_code 5 = .ok (.invokestatic 1059, 3) := by decide +kernel
theorem own_d8_8 : decode jdk_42_method_155_code 8 = .ok (.pop, 1) := by decide +kernel
theorem own_d8_9 : decode jdk_42_method_155_code 9 = .ok (.return_, 1) := by decide +kernel
theorem own_pn1 : plainName "java/lang/String" = true := by first | (simp [plainName, overriddenIn]; done) | decide +kernel
theorem own_pd0 : parseMethodDescriptor "(IILjava/util/function/BiFunction;)I" = some ⟨[.int, .int, (.object "java/util/function/BiFunction")], some .int⟩ := by decide +kernel
def Q_rm8 (Z : State) (pi : Int32) (pl : Int32) (fm : Value) (h0 : Heap) (n0 : Nat) (v : Option Value) (h : Heap) (L : List Loc) : Prop := v = none ∧ (True) ∧ Fr n0 L ∧ h = h0
theorem own_ef_rm8 (m : MethodId) (pi : Int32) (pl : Int32) : entryFrame m #[(.int pi), (.int pl)] 2 = mkF m 0 #[.val (.int pi), .val (.int pl)] [] := by first | (simp [entryFrame, mkF, argsToLocals, Value.category]; done) | rfl
set_option maxRecDepth 65536 in
set_option maxHeartbeats 40000000 in
theorem rm8 (l : Launch) (Z : State) (a0 : Array Value) (hw : ∀ d ∈ tables_1, d.before a0 Z = true) (ws : List Jvm.Cond) (pi : Int32) (pl : Int32) (fm : Value) (h0 : Heap) (n0 : Nat) (Z0 : n0 ≤ h0.size) (P_0 : Sta Z h0 "jdk/internal/util/Preconditions" "SIOOBE_FORMATTER" "Ljava/util/function/BiFunction;" fm) (P_1 : fm.isRef = true) (P_2 : 0 ≤ pi.toInt ∧ pi.toInt < pl.toInt) :
    MetFree l (⟨"java/lang/String", "checkIndex", "(II)V"⟩ : MethodName) (head1 (Jvm.Cond.code (⟨"java/lang/String", "checkIndex", "(II)V"⟩ : MethodName) jdk_42_method_155_code 2 none :: ws) ({ frames := 1, cells := 0, slots := 0, locals := 14 } : Room)) (fun a U => a = #[(.int pi), (.int pl)] ∧ Z.Warmed39 U.vm ∧ U.heap = h0) (fun _ _ _ _ _ => True) (fun _ U o U' => ∃ v L, o = .returned v ∧ Q_rm8 Z pi pl fm h0 n0 v U'.heap L ∧ FrameEnd U o U' L ({ frames := 1, cells := 0, slots := 0, locals := 14 } : Room).cells ({ frames := 1, cells := 0, slots := 0, locals := 14 } : Room).slots) := by
  refine MetFree.of_bodySF (plainFor_of_name own_pn1) hisR ?_
  intro p e s m args below meth c s₁ Bd hml0 hP hK
  obtain ⟨rfl, hZ, hh⟩ := hP
  have hx := Bd.exec
  have hby := Bd.bytes
  have hml : c.maxLocals = 2 := hml0
  have hown : s.vm.findClass "java/lang/String" = some m.cls := findClass_of_methodNamed Bd.named
  have hnm := (name_of_methodNamed Bd.named Bd.method).1
  have X0 : Stand p l e ({ frames := 1, cells := 0, slots := 0, locals := 14 } : Room) s m #[(.int pi), (.int pl)] below meth c s₁ [] 0 0 := Stand.of_body Bd
  have e0 : s₁.heap = h0 := by rw [← hh, Bd.state]; rfl
  have N0 := Fr.nil n0
  have pre0 : ∀ t, Steps p.tables e below (s₁.setTop (mkF m 0 #[.val (.int pi), .val (.int pl)] [])) t → Steps p.tables e below (s₁.setTop (entryFrame m #[(.int pi), (.int pl)] 2)) t := fun t k => castTop (own_ef_rm8 m pi pl) k
  rcases ref_cases P_1 with rfl | ⟨fa, rfl⟩
  · have K17 : ∀ t, Steps p.tables e below (s₁.setTop (mkF m 2 #[.val (.int pi), .val (.int pl)] [(.int pl), (.int pi)])) t → Steps p.tables e below (s₁.setTop (entryFrame m #[(.int pi), (.int pl)] 2)) t := fun t k => pre0 t (by
      show Steps p.tables e below (s₁.setTop (mkF m 0 #[.val (.int pi), .val (.int pl)] [])) t
      refine XS.iloadN X0.here hx rfl (hb hby own_d8_0) rfl ?_
      show Steps p.tables e below (s₁.setTop (mkF m 1 #[.val (.int pi), .val (.int pl)] [(.int pi)])) t
      refine XS.iloadN X0.here hx rfl (hb hby own_d8_1) rfl ?_
      exact k)
    obtain ⟨T18, X18, e18, st18⟩ := getS2 X0 hx hZ hown (host := "") (Or.inl (hw _ (List.mem_of_getElem? (i := 46) rfl))) Via.refl e0 P_0 (g := (mkF m 2 #[.val (.int pi), .val (.int pl)] [(.int pl), (.int pi)])) rfl (hb hby own_d8_2)
    have K19 : ∀ t, Steps p.tables e below (T18.setTop (mkF m 5 #[.val (.int pi), .val (.int pl)] [.null, (.int pl), (.int pi)])) t → Steps p.tables e below (s₁.setTop (entryFrame m #[(.int pi), (.int pl)] 2)) t := fun t k => K17 t (st18 _ k)
    have q20 := rng32 pi
    have q21 := rng32 pl
    obtain ⟨_, _, ⟨T22, L22, kk22, nn22⟩, -, X22, ⟨Lc22, hQ22, l22, y22, z22⟩, st22⟩ := Jvm.LawKit.callS X18 hx (y := (⟨"jdk/internal/util/Preconditions", "checkIndex", "(IILjava/util/function/BiFunction;)I"⟩ : MethodName)) hown (mvT hZ (hw _ (List.mem_of_getElem? (i := 48) rfl))) (mvT hZ (hw _ (List.mem_of_getElem? (i := 49) rfl))) (mvT hZ (hw _ (List.mem_of_getElem? (i := 47) rfl))) (mvT hZ (hw _ (List.mem_of_getElem? (i := 50) rfl))) (by decide) (backOf (W := 0) (rmPn l Z a0 hw [] pi pl h0 n0 Z0 P_2) hZ (hw _ (List.mem_of_getElem? (i := 50) rfl)) (hw _ (List.mem_of_getElem? (i := 47) rfl)) (by decide) (by decide)) (g := (mkF m 5 #[.val (.int pi), .val (.int pl)] [.null, (.int pl), (.int pi)])) rfl (by rw [hml]; rfl) (argsL := [(.int pi), (.int pl), .null]) (rest := []) (lenOf own_pd0 rfl) rfl (by show 2 * 0 + _ ≤ _; exact Nat.le_of_eq rfl) (hb hby own_d8_5) (fun _ _ => ⟨rfl, e18, (by decide : 0 + 0 ≤ _), (by decide : 0 + 0 ≤ _)⟩)
    dsimp only [Pt.U, Pt.locs, Pt.cells, Pt.slots] at X22 l22 y22 z22 st22 hQ22
    subst l22 y22 z22
    obtain ⟨r_22, rfl, Sp22, Nq22, eh22⟩ := hQ22
    have N23 := Fr.app N0 Nq22
    have K24 : ∀ t, Steps p.tables e below (T22.setTop (mkF m 8 #[.val (.int pi), .val (.int pl)] [(.int r_22)])) t → Steps p.tables e below (s₁.setTop (entryFrame m #[(.int pi), (.int pl)] 2)) t := fun t k => K19 t (st22 _ k)
    have K25 : ∀ t, Steps p.tables e below (T22.setTop (mkF m 9 #[.val (.int pi), .val (.int pl)] [])) t → Steps p.tables e below (s₁.setTop (entryFrame m #[(.int pi), (.int pl)] 2)) t := fun t k => K24 t (by
      show Steps p.tables e below (T22.setTop (mkF m 8 #[.val (.int pi), .val (.int pl)] [(.int r_22)])) t
      refine XS.pop X22.here hx rfl (hb hby own_d8_8) rfl rfl ?_
      exact k)
    obtain ⟨fs, hr, hrun, hended, hW, hsame⟩ := X22.leave (v := none) (fun _ => rfl)
    refine ⟨_, _, K25 _ ?_, hrun, hended, _, _, rfl, ?_, ⟨_, rfl⟩, hW, hsame.mono (by decide) (by decide)⟩
    · exact X22.returnOut hx Bd.returns (hb hby own_d8_9) hr
    · show Q_rm8 Z pi pl .null h0 n0 _ T22.heap _
      rw [eh22]
      exact ⟨rfl, (by trivial), N23, rfl⟩
  · have K26 : ∀ t, Steps p.tables e below (s₁.setTop (mkF m 2 #[.val (.int pi), .val (.int pl)] [(.int pl), (.int pi)])) t → Steps p.tables e below (s₁.setTop (entryFrame m #[(.int pi), (.int pl)] 2)) t := fun t k => pre0 t (by
      show Steps p.tables e below (s₁.setTop (mkF m 0 #[.val (.int pi), .val (.int pl)] [])) t
      refine XS.iloadN X0.here hx rfl (hb hby own_d8_0) rfl ?_
      show Steps p.tables e below (s₁.setTop (mkF m 1 #[.val (.int pi), .val (.int pl)] [(.int pi)])) t
      refine XS.iloadN X0.here hx rfl (hb hby own_d8_1) rfl ?_
      exact k)
    obtain ⟨T27, X27, e27, st27⟩ := getS2 X0 hx hZ hown (host := "") (Or.inl (hw _ (List.mem_of_getElem? (i := 46) rfl))) Via.refl e0 P_0 (g := (mkF m 2 #[.val (.int pi), .val (.int pl)] [(.int pl), (.int pi)])) rfl (hb hby own_d8_2)
    have K28 : ∀ t, Steps p.tables e below (T27.setTop (mkF m 5 #[.val (.int pi), .val (.int pl)] [(.ref fa), (.int pl), (.int pi)])) t → Steps p.tables e below (s₁.setTop (entryFrame m #[(.int pi), (.int pl)] 2)) t := fun t k => K26 t (st27 _ k)
    have q29 := rng32 pi
    have q30 := rng32 pl
    obtain ⟨_, _, ⟨T31, L31, kk31, nn31⟩, -, X31, ⟨Lc31, hQ31, l31, y31, z31⟩, st31⟩ := Jvm.LawKit.callS X27 hx (y := (⟨"jdk/internal/util/Preconditions", "checkIndex", "(IILjava/util/function/BiFunction;)I"⟩ : MethodName)) hown (mvT hZ (hw _ (List.mem_of_getElem? (i := 48) rfl))) (mvT hZ (hw _ (List.mem_of_getElem? (i := 49) rfl))) (mvT hZ (hw _ (List.mem_of_getElem? (i := 47) rfl))) (mvT hZ (hw _ (List.mem_of_getElem? (i := 50) rfl))) (by decide) (backOf (W := 0) (rmPr l Z a0 hw [] pi pl fa h0 n0 Z0 P_2) hZ (hw _ (List.mem_of_getElem? (i := 50) rfl)) (hw _ (List.mem_of_getElem? (i := 47) rfl)) (by decide) (by decide)) (g := (mkF m 5 #[.val (.int pi), .val (.int pl)] [(.ref fa), (.int pl), (.int pi)])) rfl (by rw [hml]; rfl) (argsL := [(.int pi), (.int pl), (.ref fa)]) (rest := []) (lenOf own_pd0 rfl) rfl (by show 2 * 0 + _ ≤ _; exact Nat.le_of_eq rfl) (hb hby own_d8_5) (fun _ _ => ⟨rfl, e27, (by decide : 0 + 0 ≤ _), (by decide : 0 + 0 ≤ _)⟩)
    dsimp only [Pt.U, Pt.locs, Pt.cells, Pt.slots] at X31 l31 y31 z31 st31 hQ31
    subst l31 y31 z31
    obtain ⟨r_31, rfl, Sp31, Nq31, eh31⟩ := hQ31
    have N32 := Fr.app N0 Nq31
    have K33 : ∀ t, Steps p.tables e below (T31.setTop (mkF m 8 #[.val (.int pi), .val (.int pl)] [(.int r_31)])) t → Steps p.tables e below (s₁.setTop (entryFrame m #[(.int pi), (.int pl)] 2)) t := fun t k => K28 t (st31 _ k)
    have K34 : ∀ t, Steps p.tables e below (T31.setTop (mkF m 9 #[.val (.int pi), .val (.int pl)] [])) t → Steps p.tables e below (s₁.setTop (entryFrame m #[(.int pi), (.int pl)] 2)) t := fun t k => K33 t (by
      show Steps p.tables e below (T31.setTop (mkF m 8 #[.val (.int pi), .val (.int pl)] [(.int r_31)])) t
      refine XS.pop X31.here hx rfl (hb hby own_d8_8) rfl rfl ?_
      exact k)
    obtain ⟨fs, hr, hrun, hended, hW, hsame⟩ := X31.leave (v := none) (fun _ => rfl)
    refine ⟨_, _, K34 _ ?_, hrun, hended, _, _, rfl, ?_, ⟨_, rfl⟩, hW, hsame.mono (by decide) (by decide)⟩
    · exact X31.returnOut hx Bd.returns (hb hby own_d8_9) hr
    · show Q_rm8 Z pi pl (.ref fa) h0 n0 _ T31.heap _
      rw [eh31]
      exact ⟨rfl, (by trivial), N32, rfl⟩
theorem own_d7_0 : decode jdk_43_method_2_code 0 = .ok (.iload_n 1, 1) := by decide +kernel
theorem own_d7_1 : decode jdk_43_method_2_code 1 = .ok (.aload_n 0, 1) := by decide +kernel
theorem own_d7_2 : decode jdk_43_method_2_code 2 = .ok (.arraylength, 1) := by decide +kernel
theorem own_d7_3 : decode jdk_43_method_2_code 3 = .ok (.invokestatic 9, 3) := by decide +kernel
theorem own_d7_6 : decode jdk_43_method_2_code 6 = .ok (.aload_n 0, 1) := by decide +kernel
theorem own_d7_7 : decode jdk_43_method_2_code 7 = .ok (.iload_n 1, 1) := by decide +kernel
theorem own_d7_8 : decode jdk_43_method_2_code 8 = .ok (.baload, 1) := by decide +kernel
theorem own_d7_9 : decode jdk_43_method_2_code 9 = .ok (.sipush 255, 3) := by decide +kernel
theorem own_d7_12 : decode jdk_43_method_2_code 12 = .ok (.iand, 1) := by decide +kernel
theorem own_d7_13 : decode jdk_43_method_2_code 13 = .ok (.i2c, 1) := by decide +kernel
theorem own_d7_14 : decode jdk_43_method_2_code 14 = .ok (.ireturn, 1) := by decide +kernel
theorem own_pn2 : plainName "java/lang/StringLatin1" = true := by first | (simp [plainName, overriddenIn]; done) | decide +kernel
theorem own_pd1 : parseMethodDescriptor "(II)V" = some ⟨[.int, .int], none⟩ := by decide +kernel
def Q_rm7 (Z : State) (vb : Addr) (pi : Int32) (z : Int32) (f : Nat → Int32) (fm : Value) (h0 : Heap) (n0 : Nat) (v : Option Value) (h : Heap) (L : List Loc) : Prop := ∃ (r : Int32), v = some (.int r) ∧ (r.toInt = (f pi.toNatClampNeg).toInt % 256) ∧ Fr n0 L ∧ h = h0
theorem own_ef_rm7 (m : MethodId) (vb : Addr) (pi : Int32) : entryFrame m #[(.ref vb), (.int pi)] 2 = mkF m 0 #[.val (.ref vb), .val (.int pi)] [] := by first | (simp [entryFrame, mkF, argsToLocals, Value.category]; done) | rfl
set_option maxRecDepth 65536 in
set_option maxHeartbeats 40000000 in
theorem rm7 (l : Launch) (Z : State) (a0 : Array Value) (hw : ∀ d ∈ tables_1, d.before a0 Z = true) (ws : List Jvm.Cond) (vb : Addr) (pi : Int32) (z : Int32) (f : Nat → Int32) (fm : Value) (h0 : Heap) (n0 : Nat) (Z0 : n0 ≤ h0.size) (P_0 : own_Arf Z h0 vb .byte z f) (P_1 : Sta Z h0 "jdk/internal/util/Preconditions" "SIOOBE_FORMATTER" "Ljava/util/function/BiFunction;" fm) (P_2 : fm.isRef = true) (P_3 : 0 ≤ pi.toInt ∧ pi.toInt < z.toInt) :
    MetFree l (⟨"java/lang/StringLatin1", "charAt", "([BI)C"⟩ : MethodName) (head1 (Jvm.Cond.code (⟨"java/lang/StringLatin1", "charAt", "([BI)C"⟩ : MethodName) jdk_43_method_2_code 2 (some .char) :: ws) ({ frames := 2, cells := 0, slots := 0, locals := 27 } : Room)) (fun a U => a = #[(.ref vb), (.int pi)] ∧ Z.Warmed39 U.vm ∧ U.heap = h0) (fun _ _ _ _ _ => True) (fun _ U o U' => ∃ v L, o = .returned v ∧ Q_rm7 Z vb pi z f fm h0 n0 v U'.heap L ∧ FrameEnd U o U' L ({ frames := 2, cells := 0, slots := 0, locals := 27 } : Room).cells ({ frames := 2, cells := 0, slots := 0, locals := 27 } : Room).slots) := by
  refine MetFree.of_bodySF (plainFor_of_name own_pn2) hisR ?_
  intro p e s m args below meth c s₁ Bd hml0 hP hK
  obtain ⟨rfl, hZ, hh⟩ := hP
  have hx := Bd.exec
  have hby := Bd.bytes
  have hml : c.maxLocals = 2 := hml0
  have hown : s.vm.findClass "java/lang/StringLatin1" = some m.cls := findClass_of_methodNamed Bd.named
  have hnm := (name_of_methodNamed Bd.named Bd.method).1
  have X0 : Stand p l e ({ frames := 2, cells := 0, slots := 0, locals := 27 } : Room) s m #[(.ref vb), (.int pi)] below meth c s₁ [] 0 0 := Stand.of_body Bd
  have e0 : s₁.heap = h0 := by rw [← hh, Bd.state]; rfl
  have N0 := Fr.nil n0
  have pre0 : ∀ t, Steps p.tables e below (s₁.setTop (mkF m 0 #[.val (.ref vb), .val (.int pi)] [])) t → Steps p.tables e below (s₁.setTop (entryFrame m #[(.ref vb), (.int pi)] 2)) t := fun t k => castTop (own_ef_rm7 m vb pi) k
  obtain ⟨cl35, Ar35, S35, N35, Hs35⟩ := id P_0
  have K36 : ∀ t, Steps p.tables e below (s₁.setTop (mkF m 3 #[.val (.ref vb), .val (.int pi)] [(.int z), (.int pi)])) t → Steps p.tables e below (s₁.setTop (entryFrame m #[(.ref vb), (.int pi)] 2)) t := fun t k => pre0 t (by
    show Steps p.tables e below (s₁.setTop (mkF m 0 #[.val (.ref vb), .val (.int pi)] [])) t
    refine XS.iloadN X0.here hx rfl (hb hby own_d7_0) rfl ?_
    show Steps p.tables e below (s₁.setTop (mkF m 1 #[.val (.ref vb), .val (.int pi)] [(.int pi)])) t
    refine XS.aloadN X0.here hx rfl (hb hby own_d7_1) rfl rfl ?_
    show Steps p.tables e below (s₁.setTop (mkF m 2 #[.val (.ref vb), .val (.int pi)] [(.ref vb), (.int pi)])) t
    refine X0.arraylength hx (by rw [e0]; exact Ar35.1) (State.isArrayOf_alike hZ.alike Ar35.2.1) (g := (mkF m 2 #[.val (.ref vb), .val (.int pi)] [(.ref vb), (.int pi)])) rfl rfl (hb hby own_d7_2) _ ?_
    rw [len_of S35 N35]
    exact k)
  have q37 := rng32 pi
  have q38 := rng32 z
  obtain ⟨_, _, ⟨T39, L39, kk39, nn39⟩, -, X39, ⟨Lc39, hQ39, l39, y39, z39⟩, st39⟩ := Jvm.LawKit.callS X0 hx (y := (⟨"java/lang/String", "checkIndex", "(II)V"⟩ : MethodName)) hown (mvT hZ (hw _ (List.mem_of_getElem? (i := 43) rfl))) (mvT hZ (hw _ (List.mem_of_getElem? (i := 44) rfl))) (mvT hZ (hw _ (List.mem_of_getElem? (i := 9) rfl))) (mvT hZ (hw _ (List.mem_of_getElem? (i := 45) rfl))) (by decide) (backOf (W := 0) (rm8 l Z a0 hw [] pi z fm h0 n0 Z0 P_1 P_2 P_3) hZ (hw _ (List.mem_of_getElem? (i := 45) rfl)) (hw _ (List.mem_of_getElem? (i := 9) rfl)) (by decide) (by decide)) (g := (mkF m 3 #[.val (.ref vb), .val (.int pi)] [(.int z), (.int pi)])) rfl (by rw [hml]; rfl) (argsL := [(.int pi), (.int z)]) (rest := []) (lenOf own_pd1 rfl) rfl (by show 2 * 0 + _ ≤ _; exact Nat.le_of_eq rfl) (hb hby own_d7_3) (fun _ _ => ⟨rfl, e0, (by decide : 0 + 0 ≤ _), (by decide : 0 + 0 ≤ _)⟩)
  dsimp only [Pt.U, Pt.locs, Pt.cells, Pt.slots] at X39 l39 y39 z39 st39 hQ39
  subst l39 y39 z39
  obtain ⟨rfl, Sp39, Nq39, eh39⟩ := hQ39
  have N40 := Fr.app N0 Nq39
  have K41 : ∀ t, Steps p.tables e below (T39.setTop (mkF m 6 #[.val (.ref vb), .val (.int pi)] [])) t → Steps p.tables e below (s₁.setTop (entryFrame m #[(.ref vb), (.int pi)] 2)) t := fun t k => K36 t (st39 _ k)
  have q43 : ¬ pi < 0 ∧ pi < z := by rw [Int32.lt_iff_toInt_lt, Int32.lt_iff_toInt_lt]; have q0 : (0 : Int32).toInt = 0 := rfl; omega
  obtain ⟨cl42, Ar42, S42, N42, Hs42⟩ := id P_0
  have hin42 : ¬ (pi < 0 ∨ cl42.slots.size ≤ (pi).toNatClampNeg) := inb_of S42 q43
  have hat42 : cl42.slots[(pi).toNatClampNeg]? = some (.int (f pi.toNatClampNeg)) := own_at Hs42 S42 hin42 (rfl)
  have K44 : ∀ t, Steps p.tables e below (T39.setTop (mkF m 14 #[.val (.ref vb), .val (.int pi)] [(.int (((f pi.toNatClampNeg) &&& (255 : Int32)).toUInt32.toUInt16.toUInt32.toInt32))])) t → Steps p.tables e below (s₁.setTop (entryFrame m #[(.ref vb), (.int pi)] 2)) t := fun t k => K41 t (by
    show Steps p.tables e below (T39.setTop (mkF m 6 #[.val (.ref vb), .val (.int pi)] [])) t
    refine XS.aloadN X39.here hx rfl (hb hby own_d7_6) rfl rfl ?_
    show Steps p.tables e below (T39.setTop (mkF m 7 #[.val (.ref vb), .val (.int pi)] [(.ref vb)])) t
    refine XS.iloadN X39.here hx rfl (hb hby own_d7_7) rfl ?_
    show Steps p.tables e below (T39.setTop (mkF m 8 #[.val (.ref vb), .val (.int pi)] [(.int pi), (.ref vb)])) t
    refine X39.baloadBytes hx (j := pi) (v := (.int (f pi.toNatClampNeg))) (by rw [eh39]; exact Ar42.1) (State.isArrayOf_alike hZ.alike Ar42.2.1) Ar42.2.2 hin42 hat42 (g := (mkF m 8 #[.val (.ref vb), .val (.int pi)] [(.int pi), (.ref vb)])) rfl rfl (hb hby own_d7_8) _ ?_
    show Steps p.tables e below (T39.setTop (mkF m 9 #[.val (.ref vb), .val (.int pi)] [(.int (f pi.toNatClampNeg))])) t
    refine XS.sipush X39.here hx rfl (hb hby own_d7_9) ?_
    show Steps p.tables e below (T39.setTop (mkF m 12 #[.val (.ref vb), .val (.int pi)] [(.int (255 : Int32)), (.int (f pi.toNatClampNeg))])) t
    refine XS.iand X39.here hx rfl (hb hby own_d7_12) rfl ?_
    show Steps p.tables e below (T39.setTop (mkF m 13 #[.val (.ref vb), .val (.int pi)] [(.int ((f pi.toNatClampNeg) &&& (255 : Int32)))])) t
    refine XS.i2c X39.here hx rfl (hb hby own_d7_13) rfl ?_
    exact k)
  obtain ⟨fs, hr, hrun, hended, hW, hsame⟩ := X39.leave (v := some (.int ((((f pi.toNatClampNeg) &&& (255 : Int32)).toUInt32.toUInt16.toUInt32.toInt32).toUInt32.toUInt16.toUInt32.toInt32))) (fun h => by rw [Bd.returns] at h; cases h)
  refine ⟨_, _, K44 _ ?_, hrun, hended, _, _, rfl, ?_, ⟨_, rfl⟩, hW, hsame.mono (by decide) (by decide)⟩
  · exact retN X39 hx (t := .char) Bd.returns (by simp) (hb hby own_d7_14) hr
  · show Q_rm7 Z vb pi z f fm h0 n0 _ T39.heap _
    have q45 := rng32 (f pi.toNatClampNeg)
    have q46 := (by decide : (255 : Int32).toInt = 255)
    have q47 := (show ((f pi.toNatClampNeg) &&& (255 : Int32)).toInt = (f pi.toNatClampNeg).toInt % 256 from c_mask (f pi.toNatClampNeg) (255 : Int32) 8 (by decide) (by decide))
    have q48 := rng32 ((f pi.toNatClampNeg) &&& (255 : Int32))
    have q49 := c_i2c ((f pi.toNatClampNeg) &&& (255 : Int32))
    have q50 := rng32 (((f pi.toNatClampNeg) &&& (255 : Int32)).toUInt32.toUInt16.toUInt32.toInt32)
    have q51 := c_i2c (((f pi.toNatClampNeg) &&& (255 : Int32)).toUInt32.toUInt16.toUInt32.toInt32)
    have q52 := rng32 ((((f pi.toNatClampNeg) &&& (255 : Int32)).toUInt32.toUInt16.toUInt32.toInt32).toUInt32.toUInt16.toUInt32.toInt32)
    rw [eh39]
    exact ⟨((((f pi.toNatClampNeg) &&& (255 : Int32)).toUInt32.toUInt16.toUInt32.toInt32).toUInt32.toUInt16.toUInt32.toInt32), rfl, (by omega), N40, rfl⟩
theorem own_d6_0 : decode jdk_42_method_154_code 0 = .ok (.getstatic 38, 3) := by decide +kernel
theorem own_d6_3 : decode jdk_42_method_154_code 3 = .ok (.ifCond .eq 14, 3) := by decide +kernel
theorem own_d6_6 : decode jdk_42_method_154_code 6 = .ok (.aload_n 0, 1) := by decide +kernel
theorem own_d6_7 : decode jdk_42_method_154_code 7 = .ok (.getfield 15, 3) := by decide +kernel
theorem own_d6_10 : decode jdk_42_method_154_code 10 = .ok (.ifCond .ne 7, 3) := by decide +kernel
theorem own_d6_13 : decode jdk_42_method_154_code 13 = .ok (.iconst 1, 1) := by decide +kernel
theorem own_d6_14 : decode jdk_42_method_154_code 14 = .ok (.goto 4, 3) := by decide +kernel
theorem own_d6_17 : decode jdk_42_method_154_code 17 = .ok (.iconst 0, 1) := by decide +kernel
theorem own_d6_18 : decode jdk_42_method_154_code 18 = .ok (.ireturn, 1) := by decide +kernel
def Q_rm6 (Z : State) (sx : Addr) (cz : Int32) (h0 : Heap) (n0 : Nat) (v : Option Value) (h : Heap) (L : List Loc) : Prop := v = some (.int (1 : Int32)) ∧ (True) ∧ Fr n0 L ∧ h = h0
theorem own_ef_rm6 (m : MethodId) (sx : Addr) : entryFrame m #[(.ref sx)] 1 = mkF m 0 #[.val (.ref sx)] [] := by first | (simp [entryFrame, mkF, argsToLocals, Value.category]; done) | rfl
set_option maxRecDepth 65536 in
set_option maxHeartbeats 40000000 in
theorem rm6 (l : Launch) (Z : State) (a0 : Array Value) (hw : ∀ d ∈ tables_1, d.before a0 Z = true) (ws : List Jvm.Cond) (sx : Addr) (cz : Int32) (h0 : Heap) (n0 : Nat) (Z0 : n0 ≤ h0.size) (P_0 : Sta Z h0 "java/lang/String" "COMPACT_STRINGS" "Z" (.int cz)) (P_1 : ¬ cz = (0 : Int32)) (P_2 : Fld Z h0 sx "java/lang/String" "coder" "B" (.int (0 : Int32))) :
    MetFree l (⟨"java/lang/String", "isLatin1", "()Z"⟩ : MethodName) (head1 (Jvm.Cond.code (⟨"java/lang/String", "isLatin1", "()Z"⟩ : MethodName) jdk_42_method_154_code 1 (some .boolean) :: ws) ({ frames := 0, cells := 0, slots := 0, locals := 0 } : Room)) (fun a U => a = #[(.ref sx)] ∧ Z.Warmed39 U.vm ∧ U.heap = h0) (fun _ _ _ _ _ => True) (fun _ U o U' => ∃ v L, o = .returned v ∧ Q_rm6 Z sx cz h0 n0 v U'.heap L ∧ FrameEnd U o U' L ({ frames := 0, cells := 0, slots := 0, locals := 0 } : Room).cells ({ frames := 0, cells := 0, slots := 0, locals := 0 } : Room).slots) := by
  refine MetFree.of_bodySF (plainFor_of_name own_pn1) hisR ?_
  intro p e s m args below meth c s₁ Bd hml0 hP hK
  obtain ⟨rfl, hZ, hh⟩ := hP
  have hx := Bd.exec
  have hby := Bd.bytes
  have hml : c.maxLocals = 1 := hml0
  have hown : s.vm.findClass "java/lang/String" = some m.cls := findClass_of_methodNamed Bd.named
  have hnm := (name_of_methodNamed Bd.named Bd.method).1
  have X0 : Stand p l e ({ frames := 0, cells := 0, slots := 0, locals := 0 } : Room) s m #[(.ref sx)] below meth c s₁ [] 0 0 := Stand.of_body Bd
  have e0 : s₁.heap = h0 := by rw [← hh, Bd.state]; rfl
  have N0 := Fr.nil n0
  have pre0 : ∀ t, Steps p.tables e below (s₁.setTop (mkF m 0 #[.val (.ref sx)] [])) t → Steps p.tables e below (s₁.setTop (entryFrame m #[(.ref sx)] 1)) t := fun t k => castTop (own_ef_rm6 m sx) k
  obtain ⟨T53, X53, e53, st53⟩ := getS2 X0 hx hZ hown (host := "") (Or.inl (hw _ (List.mem_of_getElem? (i := 27) rfl))) Via.refl e0 P_0 (g := (mkF m 0 #[.val (.ref sx)] [])) rfl (hb hby own_d6_0)
  have K54 : ∀ t, Steps p.tables e below (T53.setTop (mkF m 3 #[.val (.ref sx)] [(.int cz)])) t → Steps p.tables e below (s₁.setTop (entryFrame m #[(.ref sx)] 1)) t := fun t k => pre0 t (st53 _ k)
  have q56 := rng32 cz
  have q57 := (by decide : (0 : Int32).toInt = 0)
  have hc55 : ¬ (cz = (0 : Int32)) := P_1
  have q58 : ¬ cz.toInt = (0 : Int32).toInt := fun q => hc55 (Int32.toInt_inj.mp q)
  have K59 : ∀ t, Steps p.tables e below (T53.setTop (mkF m 7 #[.val (.ref sx)] [(.ref sx)])) t → Steps p.tables e below (s₁.setTop (entryFrame m #[(.ref sx)] 1)) t := fun t k => K54 t (by
    show Steps p.tables e below (T53.setTop (mkF m 3 #[.val (.ref sx)] [(.int cz)])) t
    refine XS.ifNo X53.here hx rfl (hb hby own_d6_3) rfl ((if0 _ _).trans (feq hc55).1) ?_
    show Steps p.tables e below (T53.setTop (mkF m 6 #[.val (.ref sx)] [])) t
    refine XS.aloadN X53.here hx rfl (hb hby own_d6_6) rfl rfl ?_
    exact k)
  obtain ⟨T60, X60, e60, st60⟩ := getF X53 hx hZ hown (host := "") (Or.inl (hw _ (List.mem_of_getElem? (i := 28) rfl))) Via.refl e53 P_2 (g := (mkF m 7 #[.val (.ref sx)] [(.ref sx)])) rfl rfl (hb hby own_d6_7)
  have K61 : ∀ t, Steps p.tables e below (T60.setTop (mkF m 10 #[.val (.ref sx)] [(.int (0 : Int32))])) t → Steps p.tables e below (s₁.setTop (entryFrame m #[(.ref sx)] 1)) t := fun t k => K59 t (st60 _ k)
  have hc62 : (0 : Int32) = (0 : Int32) := Int32.toInt_inj.mp (by omega)
  have q63 : (0 : Int32).toInt = (0 : Int32).toInt := congrArg Int32.toInt hc62
  have K64 : ∀ t, Steps p.tables e below (T60.setTop (mkF m 18 #[.val (.ref sx)] [(.int (1 : Int32))])) t → Steps p.tables e below (s₁.setTop (entryFrame m #[(.ref sx)] 1)) t := fun t k => K61 t (by
    show Steps p.tables e below (T60.setTop (mkF m 10 #[.val (.ref sx)] [(.int (0 : Int32))])) t
    refine XS.ifNo X60.here hx rfl (hb hby own_d6_10) rfl ((if0 _ _).trans (teq hc62).2) ?_
    show Steps p.tables e below (T60.setTop (mkF m 13 #[.val (.ref sx)] [])) t
    refine XS.iconst X60.here hx rfl (hb hby own_d6_13) ?_
    show Steps p.tables e below (T60.setTop (mkF m 14 #[.val (.ref sx)] [(.int (1 : Int32))])) t
    refine XS.goto X60.here hx rfl (pc0 := 14) (pc' := 18) rfl (hb hby own_d6_14) (by decide) (by decide) ?_
    exact k)
  obtain ⟨fs, hr, hrun, hended, hW, hsame⟩ := X60.leave (v := some (.int (1 : Int32))) (fun h => by rw [Bd.returns] at h; cases h)
  refine ⟨_, _, K64 _ ?_, hrun, hended, _, _, rfl, ?_, ⟨_, rfl⟩, hW, hsame.mono (by decide) (by decide)⟩
  · exact retN X60 hx (t := .boolean) Bd.returns (by simp) (hb hby own_d6_18) hr
  · show Q_rm6 Z sx cz h0 n0 _ T60.heap _
    have q65 := (by decide : (1 : Int32).toInt = 1)
    rw [e60]
    exact ⟨rfl, (by trivial), N0, rfl⟩
theorem own_d5_0 : decode jdk_42_method_56_code 0 = .ok (.aload_n 0, 1) := by decide +kernel
theorem own_d5_1 : decode jdk_42_method_56_code 1 = .ok (.invokevirtual 492, 3) := by decide +kernel
theorem own_d5_4 : decode jdk_42_method_56_code 4 = .ok (.ifCond .eq 12, 3) := by decide +kernel
theorem own_d5_7 : decode jdk_42_method_56_code 7 = .ok (.aload_n 0, 1) := by decide +kernel
theorem own_d5_8 : decode jdk_42_method_56_code 8 = .ok (.getfield 9, 3) := by decide +kernel
theorem own_d5_11 : decode jdk_42_method_56_code 11 = .ok (.iload_n 1, 1) := by decide +kernel
theorem own_d5_12 : decode jdk_42_method_56_code 12 = .ok (.invokestatic 495, 3) := by decide +kernel
theorem own_d5_15 : decode jdk_42_method_56_code 15 = .ok (.ireturn, 1) := by decide +kernel
theorem own_d5_16 : decode jdk_42_method_56_code 16 = .ok (.aload_n 0, 1) := by decide +kernel
theorem own_d5_17 : decode jdk_42_method_56_code 17 = .ok (.getfield 9, 3) := by decide +kernel
theorem own_d5_20 : decode jdk_42_method_56_code 20 = .ok (.iload_n 1, 1) := by decide +kernel
theorem own_d5_21 : decode jdk_42_method_56_code 21 = .ok (.invokestatic 498, 3) := by decide +kernel
theorem own_d5_24 : decode jdk_42_method_56_code 24 = .ok (.ireturn, 1) := by decide +kernel
theorem own_pd2 : parseMethodDescriptor "()Z" = some ⟨[], some .boolean⟩ := by decide +kernel
theorem own_pd3 : parseMethodDescriptor "([BI)C" = some ⟨[(.array .byte), .int], some .char⟩ := by decide +kernel
def Q_rm5 (Z : State) (sx : Addr) (pi : Int32) (vb : Addr) (z : Int32) (f : Nat → Int32) (cz : Int32) (fm : Value) (h0 : Heap) (n0 : Nat) (v : Option Value) (h : Heap) (L : List Loc) : Prop := ∃ (r : Int32), v = some (.int r) ∧ (r.toInt = (f pi.toNatClampNeg).toInt % 256) ∧ Fr n0 L ∧ h = h0
theorem own_ef_rm5 (m : MethodId) (sx : Addr) (pi : Int32) : entryFrame m #[(.ref sx), (.int pi)] 2 = mkF m 0 #[.val (.ref sx), .val (.int pi)] [] := by first | (simp [entryFrame, mkF, argsToLocals, Value.category]; done) | rfl
set_option maxRecDepth 65536 in
set_option maxHeartbeats 40000000 in
theorem rm5 (l : Launch) (Z : State) (a0 : Array Value) (hw : ∀ d ∈ tables_1, d.before a0 Z = true) (ws : List Jvm.Cond) (sx : Addr) (pi : Int32) (vb : Addr) (z : Int32) (f : Nat → Int32) (cz : Int32) (fm : Value) (h0 : Heap) (n0 : Nat) (Z0 : n0 ≤ h0.size) (P_0 : Exa Z h0 sx "java/lang/String") (P_1 : Fld Z h0 sx "java/lang/String" "value" "[B" (.ref vb)) (P_2 : Fld Z h0 sx "java/lang/String" "coder" "B" (.int (0 : Int32))) (P_3 : own_Arf Z h0 vb .byte z f) (P_4 : Sta Z h0 "java/lang/String" "COMPACT_STRINGS" "Z" (.int cz)) (P_5 : ¬ cz = (0 : Int32)) (P_6 : Sta Z h0 "jdk/internal/util/Preconditions" "SIOOBE_FORMATTER" "Ljava/util/function/BiFunction;" fm) (P_7 : fm.isRef = true) (P_8 : 0 ≤ pi.toInt ∧ pi.toInt < z.toInt) :
    MetFree l (⟨"java/lang/String", "charAt", "(I)C"⟩ : MethodName) (head1 (Jvm.Cond.code (⟨"java/lang/String", "charAt", "(I)C"⟩ : MethodName) jdk_42_method_56_code 2 (some .char) :: ws) ({ frames := 3, cells := 0, slots := 0, locals := 40 } : Room)) (fun a U => a = #[(.ref sx), (.int pi)] ∧ Z.Warmed39 U.vm ∧ U.heap = h0) (fun _ _ _ _ _ => True) (fun _ U o U' => ∃ v L, o = .returned v ∧ Q_rm5 Z sx pi vb z f cz fm h0 n0 v U'.heap L ∧ FrameEnd U o U' L ({ frames := 3, cells := 0, slots := 0, locals := 40 } : Room).cells ({ frames := 3, cells := 0, slots := 0, locals := 40 } : Room).slots) := by
  refine MetFree.of_bodySF (plainFor_of_name own_pn1) hisR ?_
  intro p e s m args below meth c s₁ Bd hml0 hP hK
  obtain ⟨rfl, hZ, hh⟩ := hP
  have hx := Bd.exec
  have hby := Bd.bytes
  have hml : c.maxLocals = 2 := hml0
  have hown : s.vm.findClass "java/lang/String" = some m.cls := findClass_of_methodNamed Bd.named
  have hnm := (name_of_methodNamed Bd.named Bd.method).1
  have X0 : Stand p l e ({ frames := 3, cells := 0, slots := 0, locals := 40 } : Room) s m #[(.ref sx), (.int pi)] below meth c s₁ [] 0 0 := Stand.of_body Bd
  have e0 : s₁.heap = h0 := by rw [← hh, Bd.state]; rfl
  have N0 := Fr.nil n0
  have pre0 : ∀ t, Steps p.tables e below (s₁.setTop (mkF m 0 #[.val (.ref sx), .val (.int pi)] [])) t → Steps p.tables e below (s₁.setTop (entryFrame m #[(.ref sx), (.int pi)] 2)) t := fun t k => castTop (own_ef_rm5 m sx pi) k
  have K66 : ∀ t, Steps p.tables e below (s₁.setTop (mkF m 1 #[.val (.ref sx), .val (.int pi)] [(.ref sx)])) t → Steps p.tables e below (s₁.setTop (entryFrame m #[(.ref sx), (.int pi)] 2)) t := fun t k => pre0 t (by
    show Steps p.tables e below (s₁.setTop (mkF m 0 #[.val (.ref sx), .val (.int pi)] [])) t
    refine XS.aloadN X0.here hx rfl (hb hby own_d5_0) rfl rfl ?_
    exact k)
  have q67 := rng32 cz
  obtain ⟨cq68, kq68, q68a, q68b, q68c⟩ := isOf hZ e0 P_0
  obtain ⟨_, _, ⟨T68, L68, kk68, nn68⟩, -, X68, ⟨Lc68, hQ68, l68, y68, z68⟩, st68⟩ := X0.virtualBack hx (y := (⟨"java/lang/String", "isLatin1", "()Z"⟩ : MethodName)) (z := (⟨"java/lang/String", "isLatin1", "()Z"⟩ : MethodName)) hown (mvT hZ (hw _ (List.mem_of_getElem? (i := 34) rfl))) (mvT hZ (hw _ (List.mem_of_getElem? (i := 35) rfl))) (notFace_of_selects (args := #[]) (mvT hZ (hw _ (List.mem_of_getElem? (i := 37) rfl)))) (mvT hZ (hw _ (List.mem_of_getElem? (i := 37) rfl))) (mvT hZ (hw _ (List.mem_of_getElem? (i := 36) rfl))) (by decide) (backOf (W := 0) (rm6 l Z a0 hw [] sx cz h0 n0 Z0 P_4 P_5 P_2) hZ (hw _ (List.mem_of_getElem? (i := 38) rfl)) (hw _ (List.mem_of_getElem? (i := 9) rfl)) (by decide) (by decide)) q68a q68c (g := (mkF m 1 #[.val (.ref sx), .val (.int pi)] [(.ref sx)])) rfl (by rw [hml]; rfl) (Steps.refl _) (argsL := []) (rest := []) (lenOf own_pd2 rfl) rfl (by show 2 * 0 + _ ≤ _; exact Nat.le_of_eq rfl) (hb hby own_d5_1) (fun _ _ => ⟨rfl, e0, (by decide : 0 + 0 ≤ _), (by decide : 0 + 0 ≤ _)⟩)
  dsimp only [Pt.U, Pt.locs, Pt.cells, Pt.slots] at X68 l68 y68 z68 st68 hQ68
  subst l68 y68 z68
  obtain ⟨rfl, Sp68, Nq68, eh68⟩ := hQ68
  have N69 := Fr.app N0 Nq68
  have K70 : ∀ t, Steps p.tables e below (T68.setTop (mkF m 4 #[.val (.ref sx), .val (.int pi)] [(.int (1 : Int32))])) t → Steps p.tables e below (s₁.setTop (entryFrame m #[(.ref sx), (.int pi)] 2)) t := fun t k => K66 t (st68.trans k)
  have q72 := (by decide : (1 : Int32).toInt = 1)
  have q73 := (by decide : (0 : Int32).toInt = 0)
  have hc71 : ¬ ((1 : Int32) = (0 : Int32)) := fun q => by have q2 := congrArg Int32.toInt q; omega
  have q74 : ¬ (1 : Int32).toInt = (0 : Int32).toInt := fun q => hc71 (Int32.toInt_inj.mp q)
  have K75 : ∀ t, Steps p.tables e below (T68.setTop (mkF m 8 #[.val (.ref sx), .val (.int pi)] [(.ref sx)])) t → Steps p.tables e below (s₁.setTop (entryFrame m #[(.ref sx), (.int pi)] 2)) t := fun t k => K70 t (by
    show Steps p.tables e below (T68.setTop (mkF m 4 #[.val (.ref sx), .val (.int pi)] [(.int (1 : Int32))])) t
    refine XS.ifNo X68.here hx rfl (hb hby own_d5_4) rfl ((if0 _ _).trans (feq hc71).1) ?_
    show Steps p.tables e below (T68.setTop (mkF m 7 #[.val (.ref sx), .val (.int pi)] [])) t
    refine XS.aloadN X68.here hx rfl (hb hby own_d5_7) rfl rfl ?_
    exact k)
  obtain ⟨T76, X76, e76, st76⟩ := getF X68 hx hZ hown (host := "") (Or.inl (hw _ (List.mem_of_getElem? (i := 21) rfl))) Via.refl eh68 P_1 (g := (mkF m 8 #[.val (.ref sx), .val (.int pi)] [(.ref sx)])) rfl rfl (hb hby own_d5_8)
  have K77 : ∀ t, Steps p.tables e below (T76.setTop (mkF m 11 #[.val (.ref sx), .val (.int pi)] [(.ref vb)])) t → Steps p.tables e below (s₁.setTop (entryFrame m #[(.ref sx), (.int pi)] 2)) t := fun t k => K75 t (st76 _ k)
  have K78 : ∀ t, Steps p.tables e below (T76.setTop (mkF m 12 #[.val (.ref sx), .val (.int pi)] [(.int pi), (.ref vb)])) t → Steps p.tables e below (s₁.setTop (entryFrame m #[(.ref sx), (.int pi)] 2)) t := fun t k => K77 t (by
    show Steps p.tables e below (T76.setTop (mkF m 11 #[.val (.ref sx), .val (.int pi)] [(.ref vb)])) t
    refine XS.iloadN X76.here hx rfl (hb hby own_d5_11) rfl ?_
    exact k)
  have q79 := rng32 pi
  have q80 := rng32 z
  obtain ⟨_, _, ⟨T81, L81, kk81, nn81⟩, -, X81, ⟨Lc81, hQ81, l81, y81, z81⟩, st81⟩ := Jvm.LawKit.callS X76 hx (y := (⟨"java/lang/StringLatin1", "charAt", "([BI)C"⟩ : MethodName)) hown (mvT hZ (hw _ (List.mem_of_getElem? (i := 39) rfl))) (mvT hZ (hw _ (List.mem_of_getElem? (i := 40) rfl))) (mvT hZ (hw _ (List.mem_of_getElem? (i := 41) rfl))) (mvT hZ (hw _ (List.mem_of_getElem? (i := 42) rfl))) (by decide) (backOf (W := 0) (rm7 l Z a0 hw [] vb pi z f fm h0 n0 Z0 P_3 P_6 P_7 P_8) hZ (hw _ (List.mem_of_getElem? (i := 42) rfl)) (hw _ (List.mem_of_getElem? (i := 41) rfl)) (by decide) (by decide)) (g := (mkF m 12 #[.val (.ref sx), .val (.int pi)] [(.int pi), (.ref vb)])) rfl (by rw [hml]; rfl) (argsL := [(.ref vb), (.int pi)]) (rest := []) (lenOf own_pd3 rfl) rfl (by show 2 * 0 + _ ≤ _; exact Nat.le_of_eq rfl) (hb hby own_d5_12) (fun _ _ => ⟨rfl, e76, (by decide : 0 + 0 ≤ _), (by decide : 0 + 0 ≤ _)⟩)
  dsimp only [Pt.U, Pt.locs, Pt.cells, Pt.slots] at X81 l81 y81 z81 st81 hQ81
  subst l81 y81 z81
  obtain ⟨r_81, rfl, Sp81, Nq81, eh81⟩ := hQ81
  have N82 := Fr.app N69 Nq81
  have K83 : ∀ t, Steps p.tables e below (T81.setTop (mkF m 15 #[.val (.ref sx), .val (.int pi)] [(.int r_81)])) t → Steps p.tables e below (s₁.setTop (entryFrame m #[(.ref sx), (.int pi)] 2)) t := fun t k => K78 t (st81 _ k)
  obtain ⟨fs, hr, hrun, hended, hW, hsame⟩ := X81.leave (v := some (.int (r_81.toUInt32.toUInt16.toUInt32.toInt32))) (fun h => by rw [Bd.returns] at h; cases h)
  refine ⟨_, _, K83 _ ?_, hrun, hended, _, _, rfl, ?_, ⟨_, rfl⟩, hW, hsame.mono (by decide) (by decide)⟩
  · exact retN X81 hx (t := .char) Bd.returns (by simp) (hb hby own_d5_15) hr
  · show Q_rm5 Z sx pi vb z f cz fm h0 n0 _ T81.heap _
    have q84 := rng32 r_81
    have q85 := c_i2c r_81
    have q86 := rng32 (r_81.toUInt32.toUInt16.toUInt32.toInt32)
    rw [eh81]
    exact ⟨(r_81.toUInt32.toUInt16.toUInt32.toInt32), rfl, (by omega), N82, rfl⟩
theorem own_d4_0 : decode jdk_42_method_152_code 0 = .ok (.getstatic 38, 3) := by decide +kernel
theorem own_d4_3 : decode jdk_42_method_152_code 3 = .ok (.ifCond .eq 10, 3) := by decide +kernel
theorem own_d4_6 : decode jdk_42_method_152_code 6 = .ok (.aload_n 0, 1) := by decide +kernel
theorem own_d4_7 : decode jdk_42_method_152_code 7 = .ok (.getfield 15, 3) := by decide +kernel
theorem own_d4_10 : decode jdk_42_method_152_code 10 = .ok (.goto 4, 3) := by decide +kernel
theorem own_d4_13 : decode jdk_42_method_152_code 13 = .ok (.iconst 1, 1) := by decide +kernel
theorem own_d4_14 : decode jdk_42_method_152_code 14 = .ok (.ireturn, 1) := by decide +kernel
def Q_rm4 (Z : State) (sx : Addr) (cz : Int32) (h0 : Heap) (n0 : Nat) (v : Option Value) (h : Heap) (L : List Loc) : Prop := v = some (.int (0 : Int32)) ∧ (True) ∧ Fr n0 L ∧ h = h0
theorem own_ef_rm4 (m : MethodId) (sx : Addr) : entryFrame m #[(.ref sx)] 1 = mkF m 0 #[.val (.ref sx)] [] := by first | (simp [entryFrame, mkF, argsToLocals, Value.category]; done) | rfl
set_option maxRecDepth 65536 in
set_option maxHeartbeats 40000000 in
theorem rm4 (l : Launch) (Z : State) (a0 : Array Value) (hw : ∀ d ∈ tables_1, d.before a0 Z = true) (ws : List Jvm.Cond) (sx : Addr) (cz : Int32) (h0 : Heap) (n0 : Nat) (Z0 : n0 ≤ h0.size) (P_0 : Sta Z h0 "java/lang/String" "COMPACT_STRINGS" "Z" (.int cz)) (P_1 : ¬ cz = (0 : Int32)) (P_2 : Fld Z h0 sx "java/lang/String" "coder" "B" (.int (0 : Int32))) :
    MetFree l (⟨"java/lang/String", "coder", "()B"⟩ : MethodName) (head1 (Jvm.Cond.code (⟨"java/lang/String", "coder", "()B"⟩ : MethodName) jdk_42_method_152_code 1 (some .byte) :: ws) ({ frames := 0, cells := 0, slots := 0, locals := 0 } : Room)) (fun a U => a = #[(.ref sx)] ∧ Z.Warmed39 U.vm ∧ U.heap = h0) (fun _ _ _ _ _ => True) (fun _ U o U' => ∃ v L, o = .returned v ∧ Q_rm4 Z sx cz h0 n0 v U'.heap L ∧ FrameEnd U o U' L ({ frames := 0, cells := 0, slots := 0, locals := 0 } : Room).cells ({ frames := 0, cells := 0, slots := 0, locals := 0 } : Room).slots) := by
  refine MetFree.of_bodySF (plainFor_of_name own_pn1) hisR ?_
  intro p e s m args below meth c s₁ Bd hml0 hP hK
  obtain ⟨rfl, hZ, hh⟩ := hP
  have hx := Bd.exec
  have hby := Bd.bytes
  have hml : c.maxLocals = 1 := hml0
  have hown : s.vm.findClass "java/lang/String" = some m.cls := findClass_of_methodNamed Bd.named
  have hnm := (name_of_methodNamed Bd.named Bd.method).1
  have X0 : Stand p l e ({ frames := 0, cells := 0, slots := 0, locals := 0 } : Room) s m #[(.ref sx)] below meth c s₁ [] 0 0 := Stand.of_body Bd
  have e0 : s₁.heap = h0 := by rw [← hh, Bd.state]; rfl
  have N0 := Fr.nil n0
  have pre0 : ∀ t, Steps p.tables e below (s₁.setTop (mkF m 0 #[.val (.ref sx)] [])) t → Steps p.tables e below (s₁.setTop (entryFrame m #[(.ref sx)] 1)) t := fun t k => castTop (own_ef_rm4 m sx) k
  obtain ⟨T87, X87, e87, st87⟩ := getS2 X0 hx hZ hown (host := "") (Or.inl (hw _ (List.mem_of_getElem? (i := 27) rfl))) Via.refl e0 P_0 (g := (mkF m 0 #[.val (.ref sx)] [])) rfl (hb hby own_d4_0)
  have K88 : ∀ t, Steps p.tables e below (T87.setTop (mkF m 3 #[.val (.ref sx)] [(.int cz)])) t → Steps p.tables e below (s₁.setTop (entryFrame m #[(.ref sx)] 1)) t := fun t k => pre0 t (st87 _ k)
  have q90 := rng32 cz
  have q91 := (by decide : (0 : Int32).toInt = 0)
  have hc89 : ¬ (cz = (0 : Int32)) := P_1
  have q92 : ¬ cz.toInt = (0 : Int32).toInt := fun q => hc89 (Int32.toInt_inj.mp q)
  have K93 : ∀ t, Steps p.tables e below (T87.setTop (mkF m 7 #[.val (.ref sx)] [(.ref sx)])) t → Steps p.tables e below (s₁.setTop (entryFrame m #[(.ref sx)] 1)) t := fun t k => K88 t (by
    show Steps p.tables e below (T87.setTop (mkF m 3 #[.val (.ref sx)] [(.int cz)])) t
    refine XS.ifNo X87.here hx rfl (hb hby own_d4_3) rfl ((if0 _ _).trans (feq hc89).1) ?_
    show Steps p.tables e below (T87.setTop (mkF m 6 #[.val (.ref sx)] [])) t
    refine XS.aloadN X87.here hx rfl (hb hby own_d4_6) rfl rfl ?_
    exact k)
  obtain ⟨T94, X94, e94, st94⟩ := getF X87 hx hZ hown (host := "") (Or.inl (hw _ (List.mem_of_getElem? (i := 28) rfl))) Via.refl e87 P_2 (g := (mkF m 7 #[.val (.ref sx)] [(.ref sx)])) rfl rfl (hb hby own_d4_7)
  have K95 : ∀ t, Steps p.tables e below (T94.setTop (mkF m 10 #[.val (.ref sx)] [(.int (0 : Int32))])) t → Steps p.tables e below (s₁.setTop (entryFrame m #[(.ref sx)] 1)) t := fun t k => K93 t (st94 _ k)
  have K96 : ∀ t, Steps p.tables e below (T94.setTop (mkF m 14 #[.val (.ref sx)] [(.int (0 : Int32))])) t → Steps p.tables e below (s₁.setTop (entryFrame m #[(.ref sx)] 1)) t := fun t k => K95 t (by
    show Steps p.tables e below (T94.setTop (mkF m 10 #[.val (.ref sx)] [(.int (0 : Int32))])) t
    refine XS.goto X94.here hx rfl (pc0 := 10) (pc' := 14) rfl (hb hby own_d4_10) (by decide) (by decide) ?_
    exact k)
  obtain ⟨fs, hr, hrun, hended, hW, hsame⟩ := X94.leave (v := some (.int (0 : Int32))) (fun h => by rw [Bd.returns] at h; cases h)
  refine ⟨_, _, K96 _ ?_, hrun, hended, _, _, rfl, ?_, ⟨_, rfl⟩, hW, hsame.mono (by decide) (by decide)⟩
  · exact retN X94 hx (t := .byte) Bd.returns (by simp) (hb hby own_d4_14) hr
  · show Q_rm4 Z sx cz h0 n0 _ T94.heap _
    rw [e94]
    exact ⟨rfl, (by trivial), N0, rfl⟩
theorem own_d3_0 : decode jdk_42_method_54_code 0 = .ok (.aload_n 0, 1) := by decide +kernel
theorem own_d3_1 : decode jdk_42_method_54_code 1 = .ok (.getfield 9, 3) := by decide +kernel
theorem own_d3_4 : decode jdk_42_method_54_code 4 = .ok (.arraylength, 1) := by decide +kernel
theorem own_d3_5 : decode jdk_42_method_54_code 5 = .ok (.aload_n 0, 1) := by decide +kernel
theorem own_d3_6 : decode jdk_42_method_54_code 6 = .ok (.invokevirtual 335, 3) := by decide +kernel
theorem own_d3_9 : decode jdk_42_method_54_code 9 = .ok (.ishr, 1) := by decide +kernel
theorem own_d3_10 : decode jdk_42_method_54_code 10 = .ok (.ireturn, 1) := by decide +kernel
theorem own_pd4 : parseMethodDescriptor "()B" = some ⟨[], some .byte⟩ := by decide +kernel
def Q_rm3 (Z : State) (sx : Addr) (vb : Addr) (z : Int32) (f : Nat → Int32) (cz : Int32) (h0 : Heap) (n0 : Nat) (v : Option Value) (h : Heap) (L : List Loc) : Prop := ∃ (r : Int32), v = some (.int r) ∧ (r.toInt = z.toInt) ∧ Fr n0 L ∧ h = h0
theorem own_ef_rm3 (m : MethodId) (sx : Addr) : entryFrame m #[(.ref sx)] 1 = mkF m 0 #[.val (.ref sx)] [] := by first | (simp [entryFrame, mkF, argsToLocals, Value.category]; done) | rfl
set_option maxRecDepth 65536 in
set_option maxHeartbeats 40000000 in
theorem rm3 (l : Launch) (Z : State) (a0 : Array Value) (hw : ∀ d ∈ tables_1, d.before a0 Z = true) (ws : List Jvm.Cond) (sx : Addr) (vb : Addr) (z : Int32) (f : Nat → Int32) (cz : Int32) (h0 : Heap) (n0 : Nat) (Z0 : n0 ≤ h0.size) (P_0 : Exa Z h0 sx "java/lang/String") (P_1 : Fld Z h0 sx "java/lang/String" "value" "[B" (.ref vb)) (P_2 : Fld Z h0 sx "java/lang/String" "coder" "B" (.int (0 : Int32))) (P_3 : own_Arf Z h0 vb .byte z f) (P_4 : Sta Z h0 "java/lang/String" "COMPACT_STRINGS" "Z" (.int cz)) (P_5 : ¬ cz = (0 : Int32)) :
    MetFree l (⟨"java/lang/String", "length", "()I"⟩ : MethodName) (head1 (Jvm.Cond.code (⟨"java/lang/String", "length", "()I"⟩ : MethodName) jdk_42_method_54_code 1 (some .int) :: ws) ({ frames := 1, cells := 0, slots := 0, locals := 13 } : Room)) (fun a U => a = #[(.ref sx)] ∧ Z.Warmed39 U.vm ∧ U.heap = h0) (fun _ _ _ _ _ => True) (fun _ U o U' => ∃ v L, o = .returned v ∧ Q_rm3 Z sx vb z f cz h0 n0 v U'.heap L ∧ FrameEnd U o U' L ({ frames := 1, cells := 0, slots := 0, locals := 13 } : Room).cells ({ frames := 1, cells := 0, slots := 0, locals := 13 } : Room).slots) := by
  refine MetFree.of_bodySF (plainFor_of_name own_pn1) hisR ?_
  intro p e s m args below meth c s₁ Bd hml0 hP hK
  obtain ⟨rfl, hZ, hh⟩ := hP
  have hx := Bd.exec
  have hby := Bd.bytes
  have hml : c.maxLocals = 1 := hml0
  have hown : s.vm.findClass "java/lang/String" = some m.cls := findClass_of_methodNamed Bd.named
  have hnm := (name_of_methodNamed Bd.named Bd.method).1
  have X0 : Stand p l e ({ frames := 1, cells := 0, slots := 0, locals := 13 } : Room) s m #[(.ref sx)] below meth c s₁ [] 0 0 := Stand.of_body Bd
  have e0 : s₁.heap = h0 := by rw [← hh, Bd.state]; rfl
  have N0 := Fr.nil n0
  have pre0 : ∀ t, Steps p.tables e below (s₁.setTop (mkF m 0 #[.val (.ref sx)] [])) t → Steps p.tables e below (s₁.setTop (entryFrame m #[(.ref sx)] 1)) t := fun t k => castTop (own_ef_rm3 m sx) k
  have K97 : ∀ t, Steps p.tables e below (s₁.setTop (mkF m 1 #[.val (.ref sx)] [(.ref sx)])) t → Steps p.tables e below (s₁.setTop (entryFrame m #[(.ref sx)] 1)) t := fun t k => pre0 t (by
    show Steps p.tables e below (s₁.setTop (mkF m 0 #[.val (.ref sx)] [])) t
    refine XS.aloadN X0.here hx rfl (hb hby own_d3_0) rfl rfl ?_
    exact k)
  obtain ⟨T98, X98, e98, st98⟩ := getF X0 hx hZ hown (host := "") (Or.inl (hw _ (List.mem_of_getElem? (i := 21) rfl))) Via.refl e0 P_1 (g := (mkF m 1 #[.val (.ref sx)] [(.ref sx)])) rfl rfl (hb hby own_d3_1)
  have K99 : ∀ t, Steps p.tables e below (T98.setTop (mkF m 4 #[.val (.ref sx)] [(.ref vb)])) t → Steps p.tables e below (s₁.setTop (entryFrame m #[(.ref sx)] 1)) t := fun t k => K97 t (st98 _ k)
  obtain ⟨cl100, Ar100, S100, N100, Hs100⟩ := id P_3
  have K101 : ∀ t, Steps p.tables e below (T98.setTop (mkF m 6 #[.val (.ref sx)] [(.ref sx), (.int z)])) t → Steps p.tables e below (s₁.setTop (entryFrame m #[(.ref sx)] 1)) t := fun t k => K99 t (by
    show Steps p.tables e below (T98.setTop (mkF m 4 #[.val (.ref sx)] [(.ref vb)])) t
    refine X98.arraylength hx (by rw [e98]; exact Ar100.1) (State.isArrayOf_alike hZ.alike Ar100.2.1) (g := (mkF m 4 #[.val (.ref sx)] [(.ref vb)])) rfl rfl (hb hby own_d3_4) _ ?_
    rw [len_of S100 N100]
    show Steps p.tables e below (T98.setTop (mkF m 5 #[.val (.ref sx)] [(.int z)])) t
    refine XS.aloadN X98.here hx rfl (hb hby own_d3_5) rfl rfl ?_
    exact k)
  have q102 := rng32 cz
  obtain ⟨cq103, kq103, q103a, q103b, q103c⟩ := isOf hZ e98 P_0
  obtain ⟨_, _, ⟨T103, L103, kk103, nn103⟩, -, X103, ⟨Lc103, hQ103, l103, y103, z103⟩, st103⟩ := X98.virtualBack hx (y := (⟨"java/lang/String", "coder", "()B"⟩ : MethodName)) (z := (⟨"java/lang/String", "coder", "()B"⟩ : MethodName)) hown (mvT hZ (hw _ (List.mem_of_getElem? (i := 22) rfl))) (mvT hZ (hw _ (List.mem_of_getElem? (i := 23) rfl))) (notFace_of_selects (args := #[]) (mvT hZ (hw _ (List.mem_of_getElem? (i := 25) rfl)))) (mvT hZ (hw _ (List.mem_of_getElem? (i := 25) rfl))) (mvT hZ (hw _ (List.mem_of_getElem? (i := 24) rfl))) (by decide) (backOf (W := 1) (rm4 l Z a0 hw [] sx cz h0 n0 Z0 P_4 P_5 P_2) hZ (hw _ (List.mem_of_getElem? (i := 26) rfl)) (hw _ (List.mem_of_getElem? (i := 9) rfl)) (by decide) (by decide)) q103a q103c (g := (mkF m 6 #[.val (.ref sx)] [(.ref sx), (.int z)])) rfl (by rw [hml]; rfl) (Steps.refl _) (argsL := []) (rest := [(.int z)]) (lenOf own_pd4 rfl) rfl (by show 2 * 0 + _ ≤ _; exact Nat.le_of_eq rfl) (hb hby own_d3_6) (fun _ _ => ⟨rfl, e98, (by decide : 0 + 0 ≤ _), (by decide : 0 + 0 ≤ _)⟩)
  dsimp only [Pt.U, Pt.locs, Pt.cells, Pt.slots] at X103 l103 y103 z103 st103 hQ103
  subst l103 y103 z103
  obtain ⟨rfl, Sp103, Nq103, eh103⟩ := hQ103
  have N104 := Fr.app N0 Nq103
  have K105 : ∀ t, Steps p.tables e below (T103.setTop (mkF m 9 #[.val (.ref sx)] [(.int (0 : Int32)), (.int z)])) t → Steps p.tables e below (s₁.setTop (entryFrame m #[(.ref sx)] 1)) t := fun t k => K101 t (st103.trans k)
  have K106 : ∀ t, Steps p.tables e below (T103.setTop (mkF m 10 #[.val (.ref sx)] [(.int (z >>> ((0 : Int32) &&& 31)))])) t → Steps p.tables e below (s₁.setTop (entryFrame m #[(.ref sx)] 1)) t := fun t k => K105 t (by
    show Steps p.tables e below (T103.setTop (mkF m 9 #[.val (.ref sx)] [(.int (0 : Int32)), (.int z)])) t
    refine XS.ishr X103.here hx rfl (hb hby own_d3_9) rfl ?_
    exact k)
  obtain ⟨fs, hr, hrun, hended, hW, hsame⟩ := X103.leave (v := some (.int (z >>> ((0 : Int32) &&& 31)))) (fun h => by rw [Bd.returns] at h; cases h)
  refine ⟨_, _, K106 _ ?_, hrun, hended, _, _, rfl, ?_, ⟨_, rfl⟩, hW, hsame.mono (by decide) (by decide)⟩
  · exact retI X103 hx Bd.returns (hb hby own_d3_10) hr
  · show Q_rm3 Z sx vb z f cz h0 n0 _ T103.heap _
    have q107 := rng32 z
    have q108 := (by decide : (0 : Int32).toInt = 0)
    have q109 := (show (z >>> ((0 : Int32) &&& 31)).toInt = z.toInt / 1 from c_ishr z (0 : Int32) 0 rfl)
    have q110 := rng32 (z >>> ((0 : Int32) &&& 31))
    rw [eh103]
    exact ⟨(z >>> ((0 : Int32) &&& 31)), rfl, (by omega), N104, rfl⟩
theorem own_d1_0 : decode prog_8_method_3_code 0 = .ok (.iload_n 0, 1) := by decide +kernel
theorem own_d1_1 : decode prog_8_method_3_code 1 = .ok (.bipush 48, 2) := by decide +kernel
theorem own_d1_3 : decode prog_8_method_3_code 3 = .ok (.if_icmp .lt 13, 3) := by decide +kernel
theorem own_d1_6 : decode prog_8_method_3_code 6 = .ok (.iload_n 0, 1) := by decide +kernel
theorem own_d1_7 : decode prog_8_method_3_code 7 = .ok (.bipush 57, 2) := by decide +kernel
theorem own_d1_9 : decode prog_8_method_3_code 9 = .ok (.if_icmp .gt 7, 3) := by decide +kernel
theorem own_d1_12 : decode prog_8_method_3_code 12 = .ok (.iconst 1, 1) := by decide +kernel
theorem own_d1_13 : decode prog_8_method_3_code 13 = .ok (.goto 4, 3) := by decide +kernel
theorem own_d1_16 : decode prog_8_method_3_code 16 = .ok (.iconst 0, 1) := by decide +kernel
theorem own_d1_17 : decode prog_8_method_3_code 17 = .ok (.ireturn, 1) := by decide +kernel
theorem own_pn3 : plainName "com/example/restate/restate/Chars" = true := by first | (simp [plainName, overriddenIn]; done) | decide +kernel
def Q_rm1 (Z : State) (pa : Int32) (h0 : Heap) (n0 : Nat) (v : Option Value) (h : Heap) (L : List Loc) : Prop := ∃ (r : Int32), v = some (.int r) ∧ ((r.toInt = 1 ∧ (48 ≤ pa.toInt ∧ pa.toInt ≤ 57)) ∨ (r.toInt = 0 ∧ ¬ (48 ≤ pa.toInt ∧ pa.toInt ≤ 57))) ∧ Fr n0 L ∧ h = h0
theorem own_ef_rm1 (m : MethodId) (pa : Int32) : entryFrame m #[(.int pa)] 1 = mkF m 0 #[.val (.int pa)] [] := by first | (simp [entryFrame, mkF, argsToLocals, Value.category]; done) | rfl
set_option maxRecDepth 65536 in
set_option maxHeartbeats 40000000 in
theorem rm1 (l : Launch) (Z : State) (a0 : Array Value) (hw : ∀ d ∈ tables_1, d.before a0 Z = true) (ws : List Jvm.Cond) (pa : Int32) (h0 : Heap) (n0 : Nat) (Z0 : n0 ≤ h0.size) :
    MetFree l (⟨"com/example/restate/restate/Chars", "isDigit", "(C)Z"⟩ : MethodName) (head1 (Jvm.Cond.code (⟨"com/example/restate/restate/Chars", "isDigit", "(C)Z"⟩ : MethodName) prog_8_method_3_code 1 (some .boolean) :: ws) ({ frames := 0, cells := 0, slots := 0, locals := 0 } : Room)) (fun a U => a = #[(.int pa)] ∧ Z.Warmed39 U.vm ∧ U.heap = h0) (fun _ _ _ _ _ => True) (fun _ U o U' => ∃ v L, o = .returned v ∧ Q_rm1 Z pa h0 n0 v U'.heap L ∧ FrameEnd U o U' L ({ frames := 0, cells := 0, slots := 0, locals := 0 } : Room).cells ({ frames := 0, cells := 0, slots := 0, locals := 0 } : Room).slots) := by
  refine MetFree.of_bodySF (plainFor_of_name own_pn3) hisR ?_
  intro p e s m args below meth c s₁ Bd hml0 hP hK
  obtain ⟨rfl, hZ, hh⟩ := hP
  have hx := Bd.exec
  have hby := Bd.bytes
  have hml : c.maxLocals = 1 := hml0
  have hown : s.vm.findClass "com/example/restate/restate/Chars" = some m.cls := findClass_of_methodNamed Bd.named
  have hnm := (name_of_methodNamed Bd.named Bd.method).1
  have X0 : Stand p l e ({ frames := 0, cells := 0, slots := 0, locals := 0 } : Room) s m #[(.int pa)] below meth c s₁ [] 0 0 := Stand.of_body Bd
  have e0 : s₁.heap = h0 := by rw [← hh, Bd.state]; rfl
  have N0 := Fr.nil n0
  have pre0 : ∀ t, Steps p.tables e below (s₁.setTop (mkF m 0 #[.val (.int pa)] [])) t → Steps p.tables e below (s₁.setTop (entryFrame m #[(.int pa)] 1)) t := fun t k => castTop (own_ef_rm1 m pa) k
  have K112 : ∀ t, Steps p.tables e below (s₁.setTop (mkF m 3 #[.val (.int pa)] [(.int (48 : Int32)), (.int pa)])) t → Steps p.tables e below (s₁.setTop (entryFrame m #[(.int pa)] 1)) t := fun t k => pre0 t (by
    show Steps p.tables e below (s₁.setTop (mkF m 0 #[.val (.int pa)] [])) t
    refine XS.iloadN X0.here hx rfl (hb hby own_d1_0) rfl ?_
    show Steps p.tables e below (s₁.setTop (mkF m 1 #[.val (.int pa)] [(.int pa)])) t
    refine XS.bipush X0.here hx rfl (hb hby own_d1_1) ?_
    exact k)
  have q113 := rng32 pa
  have q114 := (by decide : (48 : Int32).toInt = 48)
  by_cases hc111 : pa < (48 : Int32)
  · have q115 : pa.toInt < (48 : Int32).toInt := Int32.lt_iff_toInt_lt.mp hc111
    have K116 : ∀ t, Steps p.tables e below (s₁.setTop (mkF m 17 #[.val (.int pa)] [(.int (0 : Int32))])) t → Steps p.tables e below (s₁.setTop (entryFrame m #[(.int pa)] 1)) t := fun t k => K112 t (by
      show Steps p.tables e below (s₁.setTop (mkF m 3 #[.val (.int pa)] [(.int (48 : Int32)), (.int pa)])) t
      refine XS.icmpYes X0.here hx rfl (pc0 := 3) (pc' := 16) rfl (hb hby own_d1_3) rfl (tlt hc111).1 (by decide) (by decide) ?_
      show Steps p.tables e below (s₁.setTop (mkF m 16 #[.val (.int pa)] [])) t
      refine XS.iconst X0.here hx rfl (hb hby own_d1_16) ?_
      exact k)
    obtain ⟨fs, hr, hrun, hended, hW, hsame⟩ := X0.leave (v := some (.int (0 : Int32))) (fun h => by rw [Bd.returns] at h; cases h)
    refine ⟨_, _, K116 _ ?_, hrun, hended, _, _, rfl, ?_, ⟨_, rfl⟩, hW, hsame.mono (by decide) (by decide)⟩
    · exact retN X0 hx (t := .boolean) Bd.returns (by simp) (hb hby own_d1_17) hr
    · show Q_rm1 Z pa h0 n0 _ s₁.heap _
      have q117 := (by decide : (0 : Int32).toInt = 0)
      rw [e0]
      exact ⟨(0 : Int32), rfl, (by omega), N0, rfl⟩
  · have q118 : ¬ pa.toInt < (48 : Int32).toInt := fun q => hc111 (Int32.lt_iff_toInt_lt.mpr q)
    have K120 : ∀ t, Steps p.tables e below (s₁.setTop (mkF m 9 #[.val (.int pa)] [(.int (57 : Int32)), (.int pa)])) t → Steps p.tables e below (s₁.setTop (entryFrame m #[(.int pa)] 1)) t := fun t k => K112 t (by
      show Steps p.tables e below (s₁.setTop (mkF m 3 #[.val (.int pa)] [(.int (48 : Int32)), (.int pa)])) t
      refine XS.icmpNo X0.here hx rfl (hb hby own_d1_3) rfl (flt hc111).1 ?_
      show Steps p.tables e below (s₁.setTop (mkF m 6 #[.val (.int pa)] [])) t
      refine XS.iloadN X0.here hx rfl (hb hby own_d1_6) rfl ?_
      show Steps p.tables e below (s₁.setTop (mkF m 7 #[.val (.int pa)] [(.int pa)])) t
      refine XS.bipush X0.here hx rfl (hb hby own_d1_7) ?_
      exact k)
    have q121 := (by decide : (57 : Int32).toInt = 57)
    by_cases hc119 : (57 : Int32) < pa
    · have q122 : (57 : Int32).toInt < pa.toInt := Int32.lt_iff_toInt_lt.mp hc119
      have K123 : ∀ t, Steps p.tables e below (s₁.setTop (mkF m 17 #[.val (.int pa)] [(.int (0 : Int32))])) t → Steps p.tables e below (s₁.setTop (entryFrame m #[(.int pa)] 1)) t := fun t k => K120 t (by
        show Steps p.tables e below (s₁.setTop (mkF m 9 #[.val (.int pa)] [(.int (57 : Int32)), (.int pa)])) t
        refine XS.icmpYes X0.here hx rfl (pc0 := 9) (pc' := 16) rfl (hb hby own_d1_9) rfl (tlt hc119).2.2.1 (by decide) (by decide) ?_
        show Steps p.tables e below (s₁.setTop (mkF m 16 #[.val (.int pa)] [])) t
        refine XS.iconst X0.here hx rfl (hb hby own_d1_16) ?_
        exact k)
      obtain ⟨fs, hr, hrun, hended, hW, hsame⟩ := X0.leave (v := some (.int (0 : Int32))) (fun h => by rw [Bd.returns] at h; cases h)
      refine ⟨_, _, K123 _ ?_, hrun, hended, _, _, rfl, ?_, ⟨_, rfl⟩, hW, hsame.mono (by decide) (by decide)⟩
      · exact retN X0 hx (t := .boolean) Bd.returns (by simp) (hb hby own_d1_17) hr
      · show Q_rm1 Z pa h0 n0 _ s₁.heap _
        have q124 := (by decide : (0 : Int32).toInt = 0)
        rw [e0]
        exact ⟨(0 : Int32), rfl, (by omega), N0, rfl⟩
    · have q125 : ¬ (57 : Int32).toInt < pa.toInt := fun q => hc119 (Int32.lt_iff_toInt_lt.mpr q)
      have K126 : ∀ t, Steps p.tables e below (s₁.setTop (mkF m 17 #[.val (.int pa)] [(.int (1 : Int32))])) t → Steps p.tables e below (s₁.setTop (entryFrame m #[(.int pa)] 1)) t := fun t k => K120 t (by
        show Steps p.tables e below (s₁.setTop (mkF m 9 #[.val (.int pa)] [(.int (57 : Int32)), (.int pa)])) t
        refine XS.icmpNo X0.here hx rfl (hb hby own_d1_9) rfl (flt hc119).2.2.1 ?_
        show Steps p.tables e below (s₁.setTop (mkF m 12 #[.val (.int pa)] [])) t
        refine XS.iconst X0.here hx rfl (hb hby own_d1_12) ?_
        show Steps p.tables e below (s₁.setTop (mkF m 13 #[.val (.int pa)] [(.int (1 : Int32))])) t
        refine XS.goto X0.here hx rfl (pc0 := 13) (pc' := 17) rfl (hb hby own_d1_13) (by decide) (by decide) ?_
        exact k)
      obtain ⟨fs, hr, hrun, hended, hW, hsame⟩ := X0.leave (v := some (.int (1 : Int32))) (fun h => by rw [Bd.returns] at h; cases h)
      refine ⟨_, _, K126 _ ?_, hrun, hended, _, _, rfl, ?_, ⟨_, rfl⟩, hW, hsame.mono (by decide) (by decide)⟩
      · exact retN X0 hx (t := .boolean) Bd.returns (by simp) (hb hby own_d1_17) hr
      · show Q_rm1 Z pa h0 n0 _ s₁.heap _
        have q127 := (by decide : (1 : Int32).toInt = 1)
        rw [e0]
        exact ⟨(1 : Int32), rfl, (by omega), N0, rfl⟩
theorem own_d2_0 : decode method_2_code 0 = .ok (.ldc 7, 2) := by decide +kernel
theorem own_d2_2 : decode method_2_code 2 = .ok (.astore_n 1, 1) := by decide +kernel
theorem own_d2_3 : decode method_2_code 3 = .ok (.iload_n 0, 1) := by decide +kernel
theorem own_d2_4 : decode method_2_code 4 = .ok (.bipush 48, 2) := by decide +kernel
theorem own_d2_6 : decode method_2_code 6 = .ok (.isub, 1) := by decide +kernel
theorem own_d2_7 : decode method_2_code 7 = .ok (.istore_n 2, 1) := by decide +kernel
theorem own_d2_8 : decode method_2_code 8 = .ok (.iload_n 2, 1) := by decide +kernel
theorem own_d2_9 : decode method_2_code 9 = .ok (.ifCond .lt 24, 3) := by decide +kernel
theorem own_d2_12 : decode method_2_code 12 = .ok (.iload_n 2, 1) := by decide +kernel
theorem own_d2_13 : decode method_2_code 13 = .ok (.aload_n 1, 1) := by decide +kernel
theorem own_d2_14 : decode method_2_code 14 = .ok (.invokevirtual 9, 3) := by decide +kernel
theorem own_d2_17 : decode method_2_code 17 = .ok (.if_icmp .ge 16, 3) := by decide +kernel
theorem own_d2_20 : decode method_2_code 20 = .ok (.aload_n 1, 1) := by decide +kernel
theorem own_d2_21 : decode method_2_code 21 = .ok (.iload_n 2, 1) := by decide +kernel
theorem own_d2_22 : decode method_2_code 22 = .ok (.invokevirtual 15, 3) := by decide +kernel
theorem own_d2_25 : decode method_2_code 25 = .ok (.iload_n 0, 1) := by decide +kernel
theorem own_d2_26 : decode method_2_code 26 = .ok (.if_icmp .ne 7, 3) := by decide +kernel
theorem own_d2_29 : decode method_2_code 29 = .ok (.iconst 1, 1) := by decide +kernel
theorem own_d2_30 : decode method_2_code 30 = .ok (.goto 4, 3) := by decide +kernel
theorem own_d2_33 : decode method_2_code 33 = .ok (.iconst 0, 1) := by decide +kernel
theorem own_d2_34 : decode method_2_code 34 = .ok (.ireturn, 1) := by decide +kernel
theorem own_pn4 : plainName "com/example/restate/restate/CharsIsDigitPinLaw" = true := by first | (simp [plainName, overriddenIn]; done) | decide +kernel
theorem own_pd5 : parseMethodDescriptor "()I" = some ⟨[], some .int⟩ := by decide +kernel
theorem own_pd6 : parseMethodDescriptor "(I)C" = some ⟨[.int], some .char⟩ := by decide +kernel
def Q_rm2 (Z : State) (pa : Int32) (cz : Int32) (fm : Value) (h0 : Heap) (n0 : Nat) (v : Option Value) (h : Heap) (L : List Loc) : Prop := ∃ (r : Int32), v = some (.int r) ∧ ((r.toInt = 1 ∧ (48 ≤ pa.toInt ∧ pa.toInt ≤ 57)) ∨ (r.toInt = 0 ∧ ¬ (48 ≤ pa.toInt ∧ pa.toInt ≤ 57))) ∧ Fr n0 L ∧ Keep h0 h []
theorem own_ef_rm2 (m : MethodId) (pa : Int32) : entryFrame m #[(.int pa)] 3 = mkF m 0 #[.val (.int pa), .unset, .unset] [] := by first | (simp [entryFrame, mkF, argsToLocals, Value.category]; done) | rfl
set_option maxRecDepth 65536 in
set_option maxHeartbeats 40000000 in
theorem rm2 (l : Launch) (Z : State) (a0 : Array Value) (hw : ∀ d ∈ tables_1, d.before a0 Z = true) (ws : List Jvm.Cond) (pa : Int32) (cz : Int32) (fm : Value) (h0 : Heap) (n0 : Nat) (Z0 : n0 ≤ h0.size) (P_0 : Sta Z h0 "java/lang/String" "COMPACT_STRINGS" "Z" (.int cz)) (P_1 : ¬ cz = (0 : Int32)) (P_2 : Sta Z h0 "jdk/internal/util/Preconditions" "SIOOBE_FORMATTER" "Ljava/util/function/BiFunction;" fm) (P_3 : fm.isRef = true) (P_4 : EW Z a0 [("com/example/restate/restate/CharsIsDigitPinLaw", 7)]) (P_5 : 0 ≤ pa.toInt ∧ pa.toInt < 65536) :
    MetFree l (⟨"com/example/restate/restate/CharsIsDigitPinLaw", "inDigitTable", "(C)Z"⟩ : MethodName) (head1 (Jvm.Cond.code (⟨"com/example/restate/restate/CharsIsDigitPinLaw", "inDigitTable", "(C)Z"⟩ : MethodName) method_2_code 3 (some .boolean) :: ws) ({ frames := 4, cells := 2, slots := 44, locals := 53 } : Room)) (fun a U => a = #[(.int pa)] ∧ Z.Warmed39 U.vm ∧ U.heap = h0 ∧ CHv Z [("com/example/restate/restate/CharsIsDigitPinLaw", 7)] U.vm h0) (fun _ _ _ _ _ => True) (fun _ U o U' => ∃ v L, o = .returned v ∧ Q_rm2 Z pa cz fm h0 n0 v U'.heap L ∧ CHr Z [("com/example/restate/restate/CharsIsDigitPinLaw", 7)] U.vm U.heap U'.vm U'.heap ∧ ReturnedEndW U o U' L ({ frames := 4, cells := 2, slots := 44, locals := 53 } : Room).cells ({ frames := 4, cells := 2, slots := 44, locals := 53 } : Room).slots) := by
  refine MetFree.of_bodySF (plainFor_of_name own_pn4) hisR ?_
  intro p e s m args below meth c s₁ Bd hml0 hP hK
  obtain ⟨rfl, hZ, hh, hCH⟩ := hP
  have hx := Bd.exec
  have hby := Bd.bytes
  have hml : c.maxLocals = 3 := hml0
  have hown : s.vm.findClass "com/example/restate/restate/CharsIsDigitPinLaw" = some m.cls := findClass_of_methodNamed Bd.named
  have hnm := (name_of_methodNamed Bd.named Bd.method).1
  have X0 : Stand p l e ({ frames := 4, cells := 2, slots := 44, locals := 53 } : Room) s m #[(.int pa)] below meth c s₁ [] 0 0 := Stand.of_body Bd
  have e0 : s₁.heap = h0 := by rw [← hh, Bd.state]; rfl
  have N0 := Fr.nil n0
  have pre0 : ∀ t, Steps p.tables e below (s₁.setTop (mkF m 0 #[.val (.int pa), .unset, .unset] [])) t → Steps p.tables e below (s₁.setTop (entryFrame m #[(.int pa)] 3)) t := fun t k => castTop (own_ef_rm2 m pa) k
  have hEL := P_4
  have hS0 : s.Since s.vm 0 := (State.WarmedH.refl s).since 0
  have wSt : ∀ a ∈ Bundle.stringAtoms, a.before a0 Z = true := fun a ha => by
    simp only [Bundle.stringAtoms, List.mem_cons, List.not_mem_nil, or_false] at ha
    rcases ha with rfl | rfl | rfl | rfl | rfl | rfl | rfl
    · exact (hw _ (List.mem_of_getElem? (i := 9) rfl))
    · exact (hw _ (List.mem_of_getElem? (i := 10) rfl))
    · exact (hw _ (List.mem_of_getElem? (i := 11) rfl))
    · exact (hw _ (List.mem_of_getElem? (i := 12) rfl))
    · exact (hw _ (List.mem_of_getElem? (i := 13) rfl))
    · exact (hw _ (List.mem_of_getElem? (i := 14) rfl))
    · exact (hw _ (List.mem_of_getElem? (i := 15) rfl))
  obtain ⟨a128, T128, h128, kx128, b128, k128, X128, e128, E128, hS128, hk128, hZ128, hown128, A128, Co128, Va128, Av128, -, -, CHr128, -, -, st128⟩ := ldcCH (s := s) (vm0 := s.vm) X0 hx hZ hown (hw _ (List.mem_of_getElem? (i := 8) rfl)) wSt e0 hS0 (Nat.zero_le _) hEL (by decide) hCH (vs := [(.int (48 : Int32)), (.int (49 : Int32)), (.int (50 : Int32)), (.int (51 : Int32)), (.int (52 : Int32)), (.int (53 : Int32)), (.int (54 : Int32)), (.int (55 : Int32)), (.int (56 : Int32)), (.int (57 : Int32))]) (z := (10 : Int32)) ⟨by decide, rfl⟩ (by decide) rfl (g := (mkF m 0 #[.val (.int pa), .unset, .unset] [])) rfl (hb hby own_d2_0) (n := 40) (by decide) (by decide) (by decide) (by decide)
  have hZ := hZ128
  have hown := hown128
  have F129 := P_0.ext E128
  have F130 := P_2.ext E128
  have Z131 : n0 ≤ h128.size := Nat.le_trans Z0 E128.1
  have Kp132 : Keep h0 h128 [] := Keep.ext (Keep.refl h0 []) E128
  have V133 : own_Arf Z h128 b128 .byte (10 : Int32) own_dig := own_Arf.ofV Av128 (by decide)
  have K134 : ∀ t, Steps p.tables e below (T128.setTop (mkF m 2 #[.val (.int pa), .unset, .unset] [(.ref a128)])) t → Steps p.tables e below (s₁.setTop (entryFrame m #[(.int pa)] 3)) t := fun t k => pre0 t (st128 _ k)
  have K136 : ∀ t, Steps p.tables e below (T128.setTop (mkF m 9 #[.val (.int pa), .val (.ref a128), .val (.int (pa - (48 : Int32)))] [(.int (pa - (48 : Int32)))])) t → Steps p.tables e below (s₁.setTop (entryFrame m #[(.int pa)] 3)) t := fun t k => K134 t (by
    show Steps p.tables e below (T128.setTop (mkF m 2 #[.val (.int pa), .unset, .unset] [(.ref a128)])) t
    refine XS.astoreN X128.here hx rfl (hb hby own_d2_2) rfl rfl (l' := #[.val (.int pa), .val (.ref a128), .unset]) rfl ?_
    show Steps p.tables e below (T128.setTop (mkF m 3 #[.val (.int pa), .val (.ref a128), .unset] [])) t
    refine XS.iloadN X128.here hx rfl (hb hby own_d2_3) rfl ?_
    show Steps p.tables e below (T128.setTop (mkF m 4 #[.val (.int pa), .val (.ref a128), .unset] [(.int pa)])) t
    refine XS.bipush X128.here hx rfl (hb hby own_d2_4) ?_
    show Steps p.tables e below (T128.setTop (mkF m 6 #[.val (.int pa), .val (.ref a128), .unset] [(.int (48 : Int32)), (.int pa)])) t
    refine XS.isub X128.here hx rfl (hb hby own_d2_6) rfl ?_
    show Steps p.tables e below (T128.setTop (mkF m 7 #[.val (.int pa), .val (.ref a128), .unset] [(.int (pa - (48 : Int32)))])) t
    refine XS.istoreN X128.here hx rfl (hb hby own_d2_7) rfl (l' := #[.val (.int pa), .val (.ref a128), .val (.int (pa - (48 : Int32)))]) rfl ?_
    show Steps p.tables e below (T128.setTop (mkF m 8 #[.val (.int pa), .val (.ref a128), .val (.int (pa - (48 : Int32)))] [])) t
    refine XS.iloadN X128.here hx rfl (hb hby own_d2_8) rfl ?_
    exact k)
  have q137 := rng32 pa
  have q138 := (by decide : (48 : Int32).toInt = 48)
  have q139 := c_isub pa (48 : Int32)
  have q140 := rng32 (pa - (48 : Int32))
  have q141 := (by decide : (0 : Int32).toInt = 0)
  by_cases hc135 : (pa - (48 : Int32)) < (0 : Int32)
  · have q142 : (pa - (48 : Int32)).toInt < (0 : Int32).toInt := Int32.lt_iff_toInt_lt.mp hc135
    have K143 : ∀ t, Steps p.tables e below (T128.setTop (mkF m 34 #[.val (.int pa), .val (.ref a128), .val (.int (pa - (48 : Int32)))] [(.int (0 : Int32))])) t → Steps p.tables e below (s₁.setTop (entryFrame m #[(.int pa)] 3)) t := fun t k => K136 t (by
      show Steps p.tables e below (T128.setTop (mkF m 9 #[.val (.int pa), .val (.ref a128), .val (.int (pa - (48 : Int32)))] [(.int (pa - (48 : Int32)))])) t
      refine XS.ifYes X128.here hx rfl (pc0 := 9) (pc' := 33) rfl (hb hby own_d2_9) rfl ((if0 _ _).trans (tlt hc135).1) (by decide) (by decide) ?_
      show Steps p.tables e below (T128.setTop (mkF m 33 #[.val (.int pa), .val (.ref a128), .val (.int (pa - (48 : Int32)))] [])) t
      refine XS.iconst X128.here hx rfl (hb hby own_d2_33) ?_
      exact k)
    obtain ⟨fs, hr, hrun, hended, hRE⟩ := Stand.leaveW (s := s) X128 hS128 (by rw [e128]; exact hk128) (v := some (.int (0 : Int32))) (fun h => by rw [Bd.returns] at h; cases h)
    refine ⟨_, _, K143 _ ?_, hrun, hended, _, _, rfl, ?_, ?_, hRE.1, hRE.2.1, hRE.2.2.1, hRE.2.2.2.mono (by decide) (by decide)⟩
    · exact retN X128 hx (t := .boolean) Bd.returns (by simp) (hb hby own_d2_34) hr
    · show Q_rm2 Z pa cz fm h0 n0 _ T128.heap _
      rw [e128]
      exact ⟨(0 : Int32), rfl, (by omega), N0, Kp132⟩
    · show CHr Z [("com/example/restate/restate/CharsIsDigitPinLaw", 7)] s.vm s.heap T128.vm T128.heap
      rw [hh, e128]
      exact CHr128.trans (CHv.at (s := s) (vm0 := T128.vm) X128 hZ hEL CHr128.1)
  · have q144 : ¬ (pa - (48 : Int32)).toInt < (0 : Int32).toInt := fun q => hc135 (Int32.lt_iff_toInt_lt.mpr q)
    have K145 : ∀ t, Steps p.tables e below (T128.setTop (mkF m 14 #[.val (.int pa), .val (.ref a128), .val (.int (pa - (48 : Int32)))] [(.ref a128), (.int (pa - (48 : Int32)))])) t → Steps p.tables e below (s₁.setTop (entryFrame m #[(.int pa)] 3)) t := fun t k => K136 t (by
      show Steps p.tables e below (T128.setTop (mkF m 9 #[.val (.int pa), .val (.ref a128), .val (.int (pa - (48 : Int32)))] [(.int (pa - (48 : Int32)))])) t
      refine XS.ifNo X128.here hx rfl (hb hby own_d2_9) rfl ((if0 _ _).trans (flt hc135).1) ?_
      show Steps p.tables e below (T128.setTop (mkF m 12 #[.val (.int pa), .val (.ref a128), .val (.int (pa - (48 : Int32)))] [])) t
      refine XS.iloadN X128.here hx rfl (hb hby own_d2_12) rfl ?_
      show Steps p.tables e below (T128.setTop (mkF m 13 #[.val (.int pa), .val (.ref a128), .val (.int (pa - (48 : Int32)))] [(.int (pa - (48 : Int32)))])) t
      refine XS.aloadN X128.here hx rfl (hb hby own_d2_13) rfl rfl ?_
      exact k)
    have q146 := (by decide : (10 : Int32).toInt = 10)
    have q147 := rng32 cz
    obtain ⟨cq148, kq148, q148a, q148b, q148c⟩ := isOf hZ e128 A128
    obtain ⟨_, _, ⟨T148, L148, kk148, nn148⟩, -, X148, ⟨Lc148, hQ148, l148, y148, z148⟩, st148⟩ := X128.virtualBack hx (y := (⟨"java/lang/String", "length", "()I"⟩ : MethodName)) (z := (⟨"java/lang/String", "length", "()I"⟩ : MethodName)) hown (mvT hZ (hw _ (List.mem_of_getElem? (i := 16) rfl))) (mvT hZ (hw _ (List.mem_of_getElem? (i := 17) rfl))) (notFace_of_selects (args := #[]) (mvT hZ (hw _ (List.mem_of_getElem? (i := 19) rfl)))) (mvT hZ (hw _ (List.mem_of_getElem? (i := 19) rfl))) (mvT hZ (hw _ (List.mem_of_getElem? (i := 18) rfl))) (by decide) (backOf (W := 1) (rm3 l Z a0 hw [] a128 b128 (10 : Int32) own_dig cz h128 n0 Z131 A128 Va128 Co128 V133 F129 P_1) hZ (hw _ (List.mem_of_getElem? (i := 20) rfl)) (hw _ (List.mem_of_getElem? (i := 9) rfl)) (by decide) (by decide)) q148a q148c (g := (mkF m 14 #[.val (.int pa), .val (.ref a128), .val (.int (pa - (48 : Int32)))] [(.ref a128), (.int (pa - (48 : Int32)))])) rfl (by rw [hml]; rfl) (Steps.refl _) (argsL := []) (rest := [(.int (pa - (48 : Int32)))]) (lenOf own_pd5 rfl) rfl (by show 2 * 0 + _ ≤ _; exact Nat.le_of_eq rfl) (hb hby own_d2_14) (fun _ _ => ⟨rfl, e128, (by decide : 2 + 0 ≤ _), (by decide : 44 + 0 ≤ _)⟩)
    dsimp only [Pt.U, Pt.locs, Pt.cells, Pt.slots] at X148 l148 y148 z148 st148 hQ148
    subst l148 y148 z148
    obtain ⟨r_148, rfl, Sp148, Nq148, eh148⟩ := hQ148
    have N149 := Fr.app N0 Nq148
    have K150 : ∀ t, Steps p.tables e below (T148.setTop (mkF m 17 #[.val (.int pa), .val (.ref a128), .val (.int (pa - (48 : Int32)))] [(.int r_148), (.int (pa - (48 : Int32)))])) t → Steps p.tables e below (s₁.setTop (entryFrame m #[(.int pa)] 3)) t := fun t k => K145 t (st148.trans k)
    have q152 := rng32 r_148
    by_cases hc151 : (pa - (48 : Int32)) < r_148
    · have q153 : (pa - (48 : Int32)).toInt < r_148.toInt := Int32.lt_iff_toInt_lt.mp hc151
      have K154 : ∀ t, Steps p.tables e below (T148.setTop (mkF m 22 #[.val (.int pa), .val (.ref a128), .val (.int (pa - (48 : Int32)))] [(.int (pa - (48 : Int32))), (.ref a128)])) t → Steps p.tables e below (s₁.setTop (entryFrame m #[(.int pa)] 3)) t := fun t k => K150 t (by
        show Steps p.tables e below (T148.setTop (mkF m 17 #[.val (.int pa), .val (.ref a128), .val (.int (pa - (48 : Int32)))] [(.int r_148), (.int (pa - (48 : Int32)))])) t
        refine XS.icmpNo X148.here hx rfl (hb hby own_d2_17) rfl (tlt hc151).2.1 ?_
        show Steps p.tables e below (T148.setTop (mkF m 20 #[.val (.int pa), .val (.ref a128), .val (.int (pa - (48 : Int32)))] [])) t
        refine XS.aloadN X148.here hx rfl (hb hby own_d2_20) rfl rfl ?_
        show Steps p.tables e below (T148.setTop (mkF m 21 #[.val (.int pa), .val (.ref a128), .val (.int (pa - (48 : Int32)))] [(.ref a128)])) t
        refine XS.iloadN X148.here hx rfl (hb hby own_d2_21) rfl ?_
        exact k)
      have q155 : 0 ≤ (pa - (48 : Int32)).toInt ∧ (pa - (48 : Int32)).toInt < (10 : Int32).toInt := by omega
      obtain ⟨cq156, kq156, q156a, q156b, q156c⟩ := isOf hZ eh148 A128
      obtain ⟨_, _, ⟨T156, L156, kk156, nn156⟩, -, X156, ⟨Lc156, hQ156, l156, y156, z156⟩, st156⟩ := X148.virtualBack hx (y := (⟨"java/lang/String", "charAt", "(I)C"⟩ : MethodName)) (z := (⟨"java/lang/String", "charAt", "(I)C"⟩ : MethodName)) hown (mvT hZ (hw _ (List.mem_of_getElem? (i := 29) rfl))) (mvT hZ (hw _ (List.mem_of_getElem? (i := 30) rfl))) (notFace_of_selects (args := #[]) (mvT hZ (hw _ (List.mem_of_getElem? (i := 32) rfl)))) (mvT hZ (hw _ (List.mem_of_getElem? (i := 32) rfl))) (mvT hZ (hw _ (List.mem_of_getElem? (i := 31) rfl))) (by decide) (backOf (W := 0) (rm5 l Z a0 hw [] a128 (pa - (48 : Int32)) b128 (10 : Int32) own_dig cz fm h128 n0 Z131 A128 Va128 Co128 V133 F129 P_1 F130 P_3 q155) hZ (hw _ (List.mem_of_getElem? (i := 33) rfl)) (hw _ (List.mem_of_getElem? (i := 9) rfl)) (by decide) (by decide)) q156a q156c (g := (mkF m 22 #[.val (.int pa), .val (.ref a128), .val (.int (pa - (48 : Int32)))] [(.int (pa - (48 : Int32))), (.ref a128)])) rfl (by rw [hml]; rfl) (Steps.refl _) (argsL := [(.int (pa - (48 : Int32)))]) (rest := []) (lenOf own_pd6 rfl) rfl (by show 2 * 0 + _ ≤ _; exact Nat.le_of_eq rfl) (hb hby own_d2_22) (fun _ _ => ⟨rfl, eh148, (by decide : 2 + 0 ≤ _), (by decide : 44 + 0 ≤ _)⟩)
      dsimp only [Pt.U, Pt.locs, Pt.cells, Pt.slots] at X156 l156 y156 z156 st156 hQ156
      subst l156 y156 z156
      obtain ⟨r_156, rfl, Sp156, Nq156, eh156⟩ := hQ156
      have N157 := Fr.app N149 Nq156
      have K158 : ∀ t, Steps p.tables e below (T156.setTop (mkF m 25 #[.val (.int pa), .val (.ref a128), .val (.int (pa - (48 : Int32)))] [(.int r_156)])) t → Steps p.tables e below (s₁.setTop (entryFrame m #[(.int pa)] 3)) t := fun t k => K154 t (st156.trans k)
      have hd0 := own_clamp (j := (pa - (48 : Int32))) (by omega)
      have hd1 := own_dig_at (pa - (48 : Int32)).toNatClampNeg (by omega)
      have q160 := rng32 r_156
      have hc159 : r_156 = pa := Int32.toInt_inj.mp (by omega)
      have q161 : r_156.toInt = pa.toInt := congrArg Int32.toInt hc159
      have K162 : ∀ t, Steps p.tables e below (T156.setTop (mkF m 34 #[.val (.int pa), .val (.ref a128), .val (.int (pa - (48 : Int32)))] [(.int (1 : Int32))])) t → Steps p.tables e below (s₁.setTop (entryFrame m #[(.int pa)] 3)) t := fun t k => K158 t (by
        show Steps p.tables e below (T156.setTop (mkF m 25 #[.val (.int pa), .val (.ref a128), .val (.int (pa - (48 : Int32)))] [(.int r_156)])) t
        refine XS.iloadN X156.here hx rfl (hb hby own_d2_25) rfl ?_
        show Steps p.tables e below (T156.setTop (mkF m 26 #[.val (.int pa), .val (.ref a128), .val (.int (pa - (48 : Int32)))] [(.int pa), (.int r_156)])) t
        refine XS.icmpNo X156.here hx rfl (hb hby own_d2_26) rfl (teq hc159).2 ?_
        show Steps p.tables e below (T156.setTop (mkF m 29 #[.val (.int pa), .val (.ref a128), .val (.int (pa - (48 : Int32)))] [])) t
        refine XS.iconst X156.here hx rfl (hb hby own_d2_29) ?_
        show Steps p.tables e below (T156.setTop (mkF m 30 #[.val (.int pa), .val (.ref a128), .val (.int (pa - (48 : Int32)))] [(.int (1 : Int32))])) t
        refine XS.goto X156.here hx rfl (pc0 := 30) (pc' := 34) rfl (hb hby own_d2_30) (by decide) (by decide) ?_
        exact k)
      obtain ⟨fs, hr, hrun, hended, hRE⟩ := Stand.leaveW (s := s) X156 hS128 (by rw [eh156]; exact hk128) (v := some (.int (1 : Int32))) (fun h => by rw [Bd.returns] at h; cases h)
      refine ⟨_, _, K162 _ ?_, hrun, hended, _, _, rfl, ?_, ?_, hRE.1, hRE.2.1, hRE.2.2.1, hRE.2.2.2.mono (by decide) (by decide)⟩
      · exact retN X156 hx (t := .boolean) Bd.returns (by simp) (hb hby own_d2_34) hr
      · show Q_rm2 Z pa cz fm h0 n0 _ T156.heap _
        have q163 := (by decide : (1 : Int32).toInt = 1)
        rw [eh156]
        exact ⟨(1 : Int32), rfl, (by omega), N157, Kp132⟩
      · show CHr Z [("com/example/restate/restate/CharsIsDigitPinLaw", 7)] s.vm s.heap T156.vm T156.heap
        rw [hh, eh156]
        exact CHr128.trans (CHv.at (s := s) (vm0 := T128.vm) X156 hZ hEL CHr128.1)
    · have q164 : ¬ (pa - (48 : Int32)).toInt < r_148.toInt := fun q => hc151 (Int32.lt_iff_toInt_lt.mpr q)
      have K165 : ∀ t, Steps p.tables e below (T148.setTop (mkF m 34 #[.val (.int pa), .val (.ref a128), .val (.int (pa - (48 : Int32)))] [(.int (0 : Int32))])) t → Steps p.tables e below (s₁.setTop (entryFrame m #[(.int pa)] 3)) t := fun t k => K150 t (by
        show Steps p.tables e below (T148.setTop (mkF m 17 #[.val (.int pa), .val (.ref a128), .val (.int (pa - (48 : Int32)))] [(.int r_148), (.int (pa - (48 : Int32)))])) t
        refine XS.icmpYes X148.here hx rfl (pc0 := 17) (pc' := 33) rfl (hb hby own_d2_17) rfl (flt hc151).2.1 (by decide) (by decide) ?_
        show Steps p.tables e below (T148.setTop (mkF m 33 #[.val (.int pa), .val (.ref a128), .val (.int (pa - (48 : Int32)))] [])) t
        refine XS.iconst X148.here hx rfl (hb hby own_d2_33) ?_
        exact k)
      obtain ⟨fs, hr, hrun, hended, hRE⟩ := Stand.leaveW (s := s) X148 hS128 (by rw [eh148]; exact hk128) (v := some (.int (0 : Int32))) (fun h => by rw [Bd.returns] at h; cases h)
      refine ⟨_, _, K165 _ ?_, hrun, hended, _, _, rfl, ?_, ?_, hRE.1, hRE.2.1, hRE.2.2.1, hRE.2.2.2.mono (by decide) (by decide)⟩
      · exact retN X148 hx (t := .boolean) Bd.returns (by simp) (hb hby own_d2_34) hr
      · show Q_rm2 Z pa cz fm h0 n0 _ T148.heap _
        rw [eh148]
        exact ⟨(0 : Int32), rfl, (by omega), N149, Kp132⟩
      · show CHr Z [("com/example/restate/restate/CharsIsDigitPinLaw", 7)] s.vm s.heap T148.vm T148.heap
        rw [hh, eh148]
        exact CHr128.trans (CHv.at (s := s) (vm0 := T128.vm) X148 hZ hEL CHr128.1)
theorem own_pd7 : parseMethodDescriptor "(C)Z" = some ⟨[.char], some .boolean⟩ := by decide +kernel
def Q_rm0 (Z : State) (x0 : Int32) (cz : Int32) (fm : Value) (h0 : Heap) (n0 : Nat) (v : Option Value) (h : Heap) (L : List Loc) : Prop := v = some (.int (1 : Int32)) ∧ (True) ∧ Fr n0 L ∧ Keep h0 h []
theorem own_ef_rm0 (m : MethodId) (x0 : Int32) : entryFrame m #[(.int x0)] maxLocals = mkF m 0 #[.val (.int x0), .unset] [] := by first | (simp [entryFrame, mkF, argsToLocals, Value.category, maxLocals]; done) | rfl
set_option maxRecDepth 65536 in
set_option maxHeartbeats 40000000 in
theorem rm0 (l : Launch) (Z : State) (a0 : Array Value) (hw : ∀ d ∈ tables_1, d.before a0 Z = true) (ws : List Jvm.Cond) (x0 : Int32) (cz : Int32) (fm : Value) (h0 : Heap) (n0 : Nat) (Z0 : n0 ≤ h0.size) (P_0 : Sta Z h0 "java/lang/String" "COMPACT_STRINGS" "Z" (.int cz)) (P_1 : ¬ cz = (0 : Int32)) (P_2 : Sta Z h0 "jdk/internal/util/Preconditions" "SIOOBE_FORMATTER" "Ljava/util/function/BiFunction;" fm) (P_3 : fm.isRef = true) (P_4 : Jvm.Lit.compactW.before a0 Z = true) (P_5 : Jvm.Lit.constHeld Z "com/example/restate/restate/CharsIsDigitPinLaw" 7) :
    MetFree l x (head1 (Jvm.Cond.code x code maxLocals ret :: ws) room_1) (fun a U => a = #[(.int x0)] ∧ Z.Warmed39 U.vm ∧ U.heap = h0 ∧ U = Z) (fun _ _ _ _ _ => True) (fun _ U o U' => ∃ v L, o = .returned v ∧ Q_rm0 Z x0 cz fm h0 n0 v U'.heap L ∧ ReturnedEndW U o U' L room_1.cells room_1.slots) := by
  refine MetFree.of_bodySF (plainFor_of_name own_pn4) hisR ?_
  intro p e s m args below meth c s₁ Bd hml0 hP hK
  obtain ⟨rfl, hZ, hh, hUZ⟩ := hP
  have hx := Bd.exec
  have hby := Bd.bytes
  have hml : c.maxLocals = 2 := hml0
  have hown : s.vm.findClass "com/example/restate/restate/CharsIsDigitPinLaw" = some m.cls := findClass_of_methodNamed Bd.named
  have hnm := (name_of_methodNamed Bd.named Bd.method).1
  have X0 : Stand p l e room_1 s m #[(.int x0)] below meth c s₁ [] 0 0 := Stand.of_body Bd
  have e0 : s₁.heap = h0 := by rw [← hh, Bd.state]; rfl
  have N0 := Fr.nil n0
  have pre0 : ∀ t, Steps p.tables e below (s₁.setTop (mkF m 0 #[.val (.int x0), .unset] [])) t → Steps p.tables e below (s₁.setTop (entryFrame m #[(.int x0)] maxLocals)) t := fun t k => castTop (own_ef_rm0 m x0) k
  have hEL : EW Z a0 [("com/example/restate/restate/CharsIsDigitPinLaw", 7)] := EW.cons (text := "0123456789") (hw _ (List.mem_of_getElem? (i := 8) rfl)) (by decide) EW.nil
  have hCH0 : CHv Z [("com/example/restate/restate/CharsIsDigitPinLaw", 7)] s.vm h0 := by
    have q := CHv.start (a0 := a0) hEL (fun q hq => by obtain rfl := List.mem_singleton.mp hq; exact P_5) P_4 (hw _ (List.mem_of_getElem? (i := 11) rfl)) (hw _ (List.mem_of_getElem? (i := 10) rfl))
    rw [← hh, hUZ]; exact q
  have K166 : ∀ t, Steps p.tables e below (s₁.setTop (mkF m 4 #[.val (.int x0), .val (.int (x0.toUInt32.toUInt16.toUInt32.toInt32))] [(.int (x0.toUInt32.toUInt16.toUInt32.toInt32))])) t → Steps p.tables e below (s₁.setTop (entryFrame m #[(.int x0)] maxLocals)) t := fun t k => pre0 t (by
    show Steps p.tables e below (s₁.setTop (mkF m 0 #[.val (.int x0), .unset] [])) t
    refine XS.iloadN X0.here hx rfl (hb hby at_0) rfl ?_
    show Steps p.tables e below (s₁.setTop (mkF m 1 #[.val (.int x0), .unset] [(.int x0)])) t
    refine XS.i2c X0.here hx rfl (hb hby at_1) rfl ?_
    show Steps p.tables e below (s₁.setTop (mkF m 2 #[.val (.int x0), .unset] [(.int (x0.toUInt32.toUInt16.toUInt32.toInt32))])) t
    refine XS.istoreN X0.here hx rfl (hb hby at_2) rfl (l' := #[.val (.int x0), .val (.int (x0.toUInt32.toUInt16.toUInt32.toInt32))]) rfl ?_
    show Steps p.tables e below (s₁.setTop (mkF m 3 #[.val (.int x0), .val (.int (x0.toUInt32.toUInt16.toUInt32.toInt32))] [])) t
    refine XS.iloadN X0.here hx rfl (hb hby at_3) rfl ?_
    exact k)
  have q167 := rng32 x0
  have q168 := c_i2c x0
  have q169 := rng32 (x0.toUInt32.toUInt16.toUInt32.toInt32)
  obtain ⟨_, _, ⟨T170, L170, kk170, nn170⟩, -, X170, ⟨Lc170, hQ170, l170, y170, z170⟩, st170⟩ := Jvm.LawKit.callS X0 hx (y := (⟨"com/example/restate/restate/Chars", "isDigit", "(C)Z"⟩ : MethodName)) hown (mvT hZ (hw _ (List.mem_of_getElem? (i := 0) rfl))) (mvT hZ (hw _ (List.mem_of_getElem? (i := 1) rfl))) (mvT hZ (hw _ (List.mem_of_getElem? (i := 2) rfl))) (mvT hZ (hw _ (List.mem_of_getElem? (i := 3) rfl))) (by decide) (backOf (W := 0) (rm1 l Z a0 hw [] (x0.toUInt32.toUInt16.toUInt32.toInt32) h0 n0 Z0) hZ (hw _ (List.mem_of_getElem? (i := 3) rfl)) (hw _ (List.mem_of_getElem? (i := 2) rfl)) (by decide) (by decide)) (g := (mkF m 4 #[.val (.int x0), .val (.int (x0.toUInt32.toUInt16.toUInt32.toInt32))] [(.int (x0.toUInt32.toUInt16.toUInt32.toInt32))])) rfl (by rw [hml]; rfl) (argsL := [(.int (x0.toUInt32.toUInt16.toUInt32.toInt32))]) (rest := []) (lenOf own_pd7 rfl) rfl (by show 2 * 0 + _ ≤ _; exact Nat.le_of_eq rfl) (hb hby at_4) (fun _ _ => ⟨rfl, e0, (by decide : 0 + 0 ≤ _), (by decide : 0 + 0 ≤ _)⟩)
  dsimp only [Pt.U, Pt.locs, Pt.cells, Pt.slots] at X170 l170 y170 z170 st170 hQ170
  subst l170 y170 z170
  obtain ⟨r_170, rfl, Sp170, Nq170, eh170⟩ := hQ170
  have N171 := Fr.app N0 Nq170
  have K172 : ∀ t, Steps p.tables e below (T170.setTop (mkF m 7 #[.val (.int x0), .val (.int (x0.toUInt32.toUInt16.toUInt32.toInt32))] [(.int r_170)])) t → Steps p.tables e below (s₁.setTop (entryFrame m #[(.int x0)] maxLocals)) t := fun t k => K166 t (st170 _ k)
  have K173 : ∀ t, Steps p.tables e below (T170.setTop (mkF m 8 #[.val (.int x0), .val (.int (x0.toUInt32.toUInt16.toUInt32.toInt32))] [(.int (x0.toUInt32.toUInt16.toUInt32.toInt32)), (.int r_170)])) t → Steps p.tables e below (s₁.setTop (entryFrame m #[(.int x0)] maxLocals)) t := fun t k => K172 t (by
    show Steps p.tables e below (T170.setTop (mkF m 7 #[.val (.int x0), .val (.int (x0.toUInt32.toUInt16.toUInt32.toInt32))] [(.int r_170)])) t
    refine XS.iloadN X170.here hx rfl (hb hby at_7) rfl ?_
    exact k)
  have q174 := rng32 cz
  have q175 : 0 ≤ (x0.toUInt32.toUInt16.toUInt32.toInt32).toInt ∧ (x0.toUInt32.toUInt16.toUInt32.toInt32).toInt < 65536 := by omega
  obtain ⟨_, _, ⟨T176, L176, kk176, nn176⟩, -, X176, hSn176, hkn176, ⟨Lc176, hQ176, l176, y176, z176, CHn176⟩, st176⟩ := callSS (s := s) X170 hx (y := (⟨"com/example/restate/restate/CharsIsDigitPinLaw", "inDigitTable", "(C)Z"⟩ : MethodName)) hown (mvT hZ (hw _ (List.mem_of_getElem? (i := 4) rfl))) (mvT hZ (hw _ (List.mem_of_getElem? (i := 5) rfl))) (mvT hZ (hw _ (List.mem_of_getElem? (i := 6) rfl))) (mvT hZ (hw _ (List.mem_of_getElem? (i := 7) rfl))) (by decide) (backOfSH (s := s) (vm0 := s.vm) (W := 1) (rm2 l Z a0 hw [] (x0.toUInt32.toUInt16.toUInt32.toInt32) cz fm h0 n0 Z0 P_0 P_1 P_2 P_3 hEL q175) hZ (hw _ (List.mem_of_getElem? (i := 7) rfl)) (hw _ (List.mem_of_getElem? (i := 6) rfl)) (by decide) (by decide) hEL hCH0) (g := (mkF m 8 #[.val (.int x0), .val (.int (x0.toUInt32.toUInt16.toUInt32.toInt32))] [(.int (x0.toUInt32.toUInt16.toUInt32.toInt32)), (.int r_170)])) rfl (by rw [hml]; rfl) (argsL := [(.int (x0.toUInt32.toUInt16.toUInt32.toInt32))]) (rest := [(.int r_170)]) (lenOf own_pd7 rfl) rfl (by show 2 * 0 + _ ≤ _; exact Nat.le_of_eq rfl) (hb hby at_8) (fun _ _ => ⟨rfl, eh170, (by decide : 0 + 2 ≤ _), (by decide : 0 + 44 ≤ _)⟩)
  dsimp only [Pt.U, Pt.locs, Pt.cells, Pt.slots] at X176 l176 y176 z176 st176 hQ176 hSn176 hkn176 CHn176
  subst l176 y176 z176
  obtain ⟨r_176, rfl, Sp176, Nq176, Kc176⟩ := hQ176
  have N177 := Fr.app N171 Nq176
  have hZ : Z.Warmed39 (s.setVm T176.vm).vm := State.Warmed39.trans (t := s) hZ hSn176.1
  have hown : (s.setVm T176.vm).vm.findClass "com/example/restate/restate/CharsIsDigitPinLaw" = some m.cls := by rw [show (s.setVm T176.vm).vm = T176.vm from rfl, hSn176.1.alike.findClass]; exact hown
  obtain ⟨h176, e176⟩ : ∃ z, z = T176.heap := ⟨_, rfl⟩
  rw [← e176] at Kc176
  have F178 := own_sta_keep P_0 Kc176
  have F179 := own_sta_keep P_2 Kc176
  have Kp180 : Keep h0 h176 [] := Keep.trans (Keep.refl h0 []) Kc176 all0
  have Z181 : n0 ≤ h176.size := Nat.le_trans Z0 Kc176.1
  have K182 : ∀ t, Steps p.tables e below (T176.setTop (mkF m 11 #[.val (.int x0), .val (.int (x0.toUInt32.toUInt16.toUInt32.toInt32))] [(.int r_176), (.int r_170)])) t → Steps p.tables e below (s₁.setTop (entryFrame m #[(.int x0)] maxLocals)) t := fun t k => K173 t (st176.trans k)
  have q184 := rng32 r_170
  have q185 := rng32 r_176
  have hc183 : r_170 = r_176 := Int32.toInt_inj.mp (by omega)
  have q186 : r_170.toInt = r_176.toInt := congrArg Int32.toInt hc183
  have K187 : ∀ t, Steps p.tables e below (T176.setTop (mkF m 19 #[.val (.int x0), .val (.int (x0.toUInt32.toUInt16.toUInt32.toInt32))] [(.int (1 : Int32))])) t → Steps p.tables e below (s₁.setTop (entryFrame m #[(.int x0)] maxLocals)) t := fun t k => K182 t (by
    show Steps p.tables e below (T176.setTop (mkF m 11 #[.val (.int x0), .val (.int (x0.toUInt32.toUInt16.toUInt32.toInt32))] [(.int r_176), (.int r_170)])) t
    refine XS.icmpNo X176.here hx rfl (hb hby at_11) rfl (teq hc183).2 ?_
    show Steps p.tables e below (T176.setTop (mkF m 14 #[.val (.int x0), .val (.int (x0.toUInt32.toUInt16.toUInt32.toInt32))] [])) t
    refine XS.iconst X176.here hx rfl (hb hby at_14) ?_
    show Steps p.tables e below (T176.setTop (mkF m 15 #[.val (.int x0), .val (.int (x0.toUInt32.toUInt16.toUInt32.toInt32))] [(.int (1 : Int32))])) t
    refine XS.goto X176.here hx rfl (pc0 := 15) (pc' := 19) rfl (hb hby at_15) (by decide) (by decide) ?_
    exact k)
  obtain ⟨fs, hr, hrun, hended, hRE⟩ := Stand.leaveW (s := s) X176 hSn176 (by rw [e176.symm]; exact (Nat.le_refl _)) (v := some (.int (1 : Int32))) (fun h => by rw [Bd.returns] at h; cases h)
  refine ⟨_, _, K187 _ ?_, hrun, hended, _, _, rfl, ?_, hRE.1, hRE.2.1, hRE.2.2.1, hRE.2.2.2.mono (by decide) (by decide)⟩
  · exact retN X176 hx (t := .boolean) Bd.returns (by simp) (hb hby at_19) hr
  · show Q_rm0 Z x0 cz fm h0 n0 _ T176.heap _
    have q188 := (by decide : (1 : Int32).toInt = 1)
    rw [e176.symm]
    exact ⟨rfl, (by trivial), N177, Kp180⟩
set_option maxRecDepth 65536 in
set_option maxHeartbeats 40000000 in
theorem comes_1 {Post : Tables → Env → Array Value → State → Outcome → State → Prop} (hpost : ∀ tb e args s v u, (limb_1_1.after args s (.returned v) u = true ∧ limb_1_2.after args s (.returned v) u = true ∧ True) → ReturnedEndW s (.returned v) u (Jvm.fieldLocs frame_1_writes args s ++ Jvm.arrayLocs frame_1_arrays args s ++ Jvm.staticLocs frame_1_statics s) 8 1088 → Post tb e args s (.returned v) u) :
    ArmFor flags0 classFile x code maxLocals ret World_1 tables_1 room_1 Calls_1 rest_1 Pre_1 Post := by
  intro l hfl _ _ p e ha hc hk s m args below hf hA hF happ hP
  obtain ⟨hcalls, hrest, hpre⟩ := hP
  obtain ⟨-, -, -, hnamed, -, -, -, hat⟩ := (Spec.applies_iff hf).mp happ
  obtain ⟨hg, hn⟩ := and_e (Cond.before_iff.mp (show (Jvm.Cond.and given_1 narrow_1).before args s = true from hpre))
  obtain ⟨gg1, gg2⟩ := and_e hg
  obtain ⟨w0, rfl⟩ : ∃ w0 : Value, args = #[w0] := by
    have hs : args.size = 1 := by simpa [Cond.value, given_1] using gg1
    obtain ⟨L⟩ := args
    match L, hs with
    | [w0], _ => exact ⟨w0, rfl⟩
  have hw := fun d (hd : d ∈ tables_1) => atoms_spec (ws := Jvm.Cond.code x code maxLocals ret :: tables_1) hat d (List.mem_cons_of_mem _ hd)
  obtain ⟨i0, ei0⟩ := is_v gg2
  obtain rfl : w0 = (.int i0) := Option.some.inj ei0
  obtain ⟨hsets, hown0⟩ := atoms_of _ (rest_1_c_eq ▸ (show rest_1_c.before _ s = true from hrest))
  have n5 := not_v (Cond.before_iff.mp (hsets _ (List.mem_of_getElem? (i := 2) rfl)))
  obtain ⟨cz, ecz⟩ := is_v (Cond.before_iff.mp (hsets _ (List.mem_of_getElem? (i := 1) rfl)))
  have S12 : Sta s s.heap "java/lang/String" "COMPACT_STRINGS" "Z" (.int cz) := Sta.start ecz (Or.inl (hsets _ (List.mem_of_getElem? (i := 0) rfl)))
  obtain ⟨fm, efm, r15⟩ := isR_v (Cond.before_iff.mp (hsets _ (List.mem_of_getElem? (i := 8) rfl)))
  have S16 : Sta s s.heap "jdk/internal/util/Preconditions" "SIOOBE_FORMATTER" "Ljava/util/function/BiFunction;" fm := Sta.start efm (Or.inl (hsets _ (List.mem_of_getElem? (i := 7) rfl)))
  have c17 : ¬ (cz = (0 : Int32)) := gotF (Cond.eq_ints ecz (Term.int_eval (0))) n5
  have hcw : Jvm.Lit.compactW.before _ s = true := hsets _ (List.mem_of_getElem? (i := 2) rfl)
  have hheld : ∀ q ∈ consts_1, Jvm.Lit.constHeld s q.1 q.2 := hcalls.1
  obtain ⟨n, o, h1, h2, h3, _, L, rfl, ⟨rfl, -, N, -⟩, hq⟩ := rm0 l s _ hw tables_1 i0 cz fm s.heap s.heap.size (Nat.le_refl _) S12 c17 S16 r15 hcw (hheld _ (List.mem_of_getElem? (i := 0) rfl)) p e ha hc hk s m _ below hf ((Spec.applies_iff_loose hf).mp happ).1 ⟨rfl, State.Warmed39.refl s, rfl, rfl⟩ trivial
  refine ⟨n, _, h1, h2, h3, hpost _ _ _ _ _ _ ⟨Cond.after_iff.mpr rfl, Cond.after_iff.mpr (eq_i res_at (Term.int_eval (1)) rfl), trivial⟩ ⟨hq.1, hq.2.1, hq.2.2.1, (hq.2.2.2.sift fun y hy => Or.inr (N y hy)).mono (by decide) (by decide)⟩⟩
theorem main_1_1 : Claimed_1_1 := comes_1 fun _ _ _ _ _ _ h hF => ⟨h.1, hF⟩
theorem main_1_2 : Claimed_1_2 := comes_1 fun _ _ _ _ _ _ h hF => ⟨h.2.1, hF⟩
end Jvm.Pilot.@@N@@
namespace Jvm.Pilot.@@N@@
open Jvm Jvm.ClassFile Sem Op Lib Jvm.Free Jvm.Stand Jvm.Pilot.@@N@@.Jvm.D
/-! MADE BY PROGRAM (witnessworld.py) out of the Statement's table words and the real class files: 17 classes; the members and pool entries that the words name. The judged class is class 1, her method 2. -/
namespace start1
open Jvm.ClassFile
def u (s : String) : CpInfo := .utf8 (stringToUtf16 s)
/-- a pool by its gaps: so many unusable entries, then the entry; so many at the end -/
def gap : Nat → List CpInfo → List CpInfo
  | 0, r => r
  | n + 1, r => .unusable :: gap n r
def poolList (es : List (Nat × CpInfo)) (last : Nat) : List CpInfo := es.foldr (fun e r => gap e.1 (e.2 :: r)) (gap last [])
def pool (es : List (Nat × CpInfo)) (last : Nat) : Array CpInfo := ⟨poolList es last⟩
def fileOf (pool : Array CpInfo) (this : Nat) (attrs : Array Attribute := #[]) (ms : Array MethodInfo := #[]) (fl : Nat := 33) (sup : Nat := 0) (ifs : Array Nat := #[]) (fds : Array FieldInfo := #[]) : ClassFile where
  minorVersion := 0
  majorVersion := 65
  constantPool := pool
  accessFlags := fl
  thisClass := this
  superClass := sup
  interfaces := ifs
  fields := fds
  methods := ms
  attributes := attrs
def plain (name : String) (sup : Option ClassId) : Class where
  name := name
  kind := .ordinary
  loader := none
  accessFlags := 33
  super := sup
  interfaces := #[]
  cf := none
  fields := #[]
  methods := #[]
  instanceTypes := #[]
  staticTypes := #[]
  resolved := #[]
  callSites := []
  init := .initialized
  statics := none
  mirror := none

def pool0 : Array CpInfo := pool [(5, u "<init>"), (0, u "()V"), (1, .class_ 10), (1, u "java/lang/Object")] 113

def k0m0 : Method := { name := "<init>", desc := "()V", sig := { parameters := [], returnType := none }, accessFlags := 1, code := none }
/-- java/lang/Object -/
def k0 : Class := { plain "java/lang/Object" none with
  accessFlags := 33
  interfaces := #[]
  cf := some (fileOf pool0 8 #[] #[{ accessFlags := 1, nameIndex := 5, descriptorIndex := 6, attributes := #[] }] 33 0 #[] #[])
  fields := #[]
  methods := #[k0m0]
  instanceTypes := #[]
  staticTypes := #[]
  resolved := Array.replicate 124 none
  statics := none }

def pool1 : Array CpInfo := pool [(2, .class_ 4), (1, u "java/lang/Object"), (0, u "<init>"), (0, u "()V"), (0, .string 8), (0, u "0123456789"), (0, .methodref 10 11), (0, .class_ 12), (0, .nameAndType 13 14), (0, u "java/lang/String"), (0, u "length"), (0, u "()I"), (0, .methodref 10 16), (0, .nameAndType 17 18), (0, u "charAt"), (0, u "(I)C"), (0, .methodref 20 21), (0, .class_ 22), (0, .nameAndType 23 24), (0, u "com/example/restate/restate/Chars"), (0, u "isDigit"), (0, u "(C)Z"), (0, .methodref 26 27), (0, .class_ 28), (0, .nameAndType 29 24), (0, u "com/example/restate/restate/CharsIsDigitPinLaw"), (0, u "inDigitTable"), (3, u "law"), (0, u "(I)Z")] 2

def k1m0 : Method := { name := "<init>", desc := "()V", sig := { parameters := [], returnType := none }, accessFlags := 2, code := none }
def k1c1 : Code := { maxStack := 2, maxLocals := 3, code := method_2_code, exceptionTable := #[], attributes := #[] }
def k1m1 : Method := { name := "inDigitTable", desc := "(C)Z", sig := { parameters := [.char], returnType := some .boolean }, accessFlags := 10, code := some k1c1 }
def k1c2 : Code := { maxStack := 2, maxLocals := 2, code := code, exceptionTable := #[], attributes := #[] }
def k1m2 : Method := { name := "law", desc := "(I)Z", sig := { parameters := [.int], returnType := some .boolean }, accessFlags := 9, code := some k1c2 }
/-- com/example/restate/restate/CharsIsDigitPinLaw -/
def k1 : Class := { plain "com/example/restate/restate/CharsIsDigitPinLaw" (some 0) with
  accessFlags := 49
  interfaces := #[]
  cf := some (fileOf pool1 26 #[] #[{ accessFlags := 2, nameIndex := 5, descriptorIndex := 6, attributes := #[] }, { accessFlags := 10, nameIndex := 29, descriptorIndex := 24, attributes := #[] }, { accessFlags := 9, nameIndex := 33, descriptorIndex := 34, attributes := #[] }] 49 2 #[] #[])
  fields := #[]
  methods := #[k1m0, k1m1, k1m2]
  instanceTypes := #[]
  staticTypes := #[]
  resolved := Array.replicate 37 none
  statics := none }

def pool2 : Array CpInfo := pool [(2, .class_ 4), (1, u "java/lang/Object"), (0, u "<init>"), (0, u "()V"), (11, .class_ 20), (1, u "com/example/restate/restate/Chars"), (9, u "(C)Z"), (55, u "isDigit")] 16

def k2m0 : Method := { name := "<init>", desc := "()V", sig := { parameters := [], returnType := none }, accessFlags := 2, code := none }
def k2c1 : Code := { maxStack := 2, maxLocals := 1, code := prog_8_method_3_code, exceptionTable := #[], attributes := #[] }
def k2m1 : Method := { name := "isDigit", desc := "(C)Z", sig := { parameters := [.char], returnType := some .boolean }, accessFlags := 8, code := some k2c1 }
/-- com/example/restate/restate/Chars -/
def k2 : Class := { plain "com/example/restate/restate/Chars" (some 0) with
  accessFlags := 48
  interfaces := #[]
  cf := some (fileOf pool2 18 #[] #[{ accessFlags := 2, nameIndex := 5, descriptorIndex := 6, attributes := #[] }, { accessFlags := 8, nameIndex := 86, descriptorIndex := 30, attributes := #[] }] 48 2 #[] #[])
  fields := #[]
  methods := #[k2m0, k2m1]
  instanceTypes := #[]
  staticTypes := #[]
  resolved := Array.replicate 103 none
  statics := none }

def pool3 : Array CpInfo := pool [(1, .class_ 2), (0, u "java/io/Serializable"), (0, .class_ 4), (0, u "java/lang/Object")] 2

/-- java/io/Serializable -/
def k3 : Class := { plain "java/io/Serializable" (some 0) with
  accessFlags := 1537
  interfaces := #[]
  cf := some (fileOf pool3 1 #[] #[] 1537 3 #[] #[])
  fields := #[]
  methods := #[]
  instanceTypes := #[]
  staticTypes := #[]
  resolved := Array.replicate 7 none
  statics := none }

def pool4 : Array CpInfo := pool [(1, .class_ 2), (0, u "java/lang/Comparable"), (0, .class_ 4), (0, u "java/lang/Object")] 7

/-- java/lang/Comparable -/
def k4 : Class := { plain "java/lang/Comparable" (some 0) with
  accessFlags := 1537
  interfaces := #[]
  cf := some (fileOf pool4 1 #[] #[] 1537 3 #[] #[])
  fields := #[]
  methods := #[]
  instanceTypes := #[]
  staticTypes := #[]
  resolved := Array.replicate 12 none
  statics := none }

def pool5 : Array CpInfo := pool [(2, .class_ 4), (1, u "java/lang/CharSequence"), (42, .class_ 48), (0, u "java/lang/CharSequence$1CodePointIterator"), (10, .class_ 60), (0, u "java/lang/CharSequence$1CharIterator"), (5, .class_ 67), (0, u "java/lang/Object")] 63

/-- java/lang/CharSequence -/
def k5 : Class := { plain "java/lang/CharSequence" (some 0) with
  accessFlags := 1537
  interfaces := #[]
  cf := some (fileOf pool5 2 #[.nestMembers #[47, 59]] #[] 1537 66 #[] #[])
  fields := #[]
  methods := #[]
  instanceTypes := #[]
  staticTypes := #[]
  resolved := Array.replicate 131 none
  statics := none }

def pool6 : Array CpInfo := pool [(1, .class_ 2), (0, u "java/lang/constant/Constable"), (0, .class_ 4), (0, u "java/lang/Object")] 6

/-- java/lang/constant/Constable -/
def k6 : Class := { plain "java/lang/constant/Constable" (some 0) with
  accessFlags := 1537
  interfaces := #[]
  cf := some (fileOf pool6 1 #[] #[] 1537 3 #[] #[])
  fields := #[]
  methods := #[]
  instanceTypes := #[]
  staticTypes := #[]
  resolved := Array.replicate 11 none
  statics := none }

def pool7 : Array CpInfo := pool [(1, .class_ 2), (0, u "java/lang/constant/ConstantDesc"), (0, .class_ 4), (0, u "java/lang/Object")] 32

/-- java/lang/constant/ConstantDesc -/
def k7 : Class := { plain "java/lang/constant/ConstantDesc" (some 0) with
  accessFlags := 1537
  interfaces := #[]
  cf := some (fileOf pool7 1 #[] #[] 1537 3 #[] #[])
  fields := #[]
  methods := #[]
  instanceTypes := #[]
  staticTypes := #[]
  resolved := Array.replicate 37 none
  statics := none }

def pool8 : Array CpInfo := pool [(2, .class_ 4), (1, u "java/lang/Object"), (0, u "<init>"), (0, u "()V"), (2, .fieldref 10 11), (0, .class_ 12), (0, .nameAndType 13 14), (0, u "java/lang/String"), (0, u "value"), (0, u "[B"), (0, .fieldref 10 16), (0, .nameAndType 17 18), (0, u "coder"), (0, u "B"), (2, u "hash"), (0, u "I"), (2, u "hashIsZero"), (0, u "Z"), (11, .fieldref 10 39), (0, .nameAndType 40 26), (0, u "COMPACT_STRINGS"), (66, .class_ 109), (1, u "java/lang/StringLatin1"), (32, u "()Z"), (191, u "()I"), (0, .methodref 10 336), (0, .nameAndType 17 337), (0, u "()B"), (25, u "([BI)C"), (27, u "(II)V"), (35, u "(I)C"), (64, .methodref 10 493), (0, .nameAndType 494 142), (0, u "isLatin1"), (0, .methodref 107 496), (0, .nameAndType 497 363), (0, u "charAt"), (3, u "checkIndex"), (5, u "length"), (67, .class_ 576), (0, u "java/lang/CharSequence"), (22, u "CASE_INSENSITIVE_ORDER"), (0, u "Ljava/util/Comparator;"), (452, .fieldref 1054 1055), (0, .class_ 1056), (0, .nameAndType 1057 1058), (0, u "jdk/internal/util/Preconditions"), (0, u "SIOOBE_FORMATTER"), (0, u "Ljava/util/function/BiFunction;"), (0, .methodref 1054 1060), (0, .nameAndType 501 1061), (0, u "(IILjava/util/function/BiFunction;)I"), (39, u "serialPersistentFields"), (0, u "[Ljava/io/ObjectStreamField;"), (0, .class_ 1104), (0, u "java/lang/String$CaseInsensitiveComparator"), (1, .class_ 1107), (0, u "java/io/Serializable"), (0, .class_ 1109), (0, u "java/lang/Comparable"), (0, .class_ 1111), (0, u "java/lang/constant/Constable"), (0, .class_ 1113), (0, u "java/lang/constant/ConstantDesc"), (2, u "serialVersionUID"), (0, u "J"), (3, u "REPL"), (0, u "C"), (2, u "LATIN1"), (1, u "UTF16")] 323

def k8m0 : Method := { name := "<init>", desc := "()V", sig := { parameters := [], returnType := none }, accessFlags := 1, code := none }
def k8c1 : Code := { maxStack := 2, maxLocals := 1, code := jdk_42_method_54_code, exceptionTable := #[], attributes := #[] }
def k8m1 : Method := { name := "length", desc := "()I", sig := { parameters := [], returnType := some .int }, accessFlags := 1, code := some k8c1 }
def k8c2 : Code := { maxStack := 2, maxLocals := 2, code := jdk_42_method_56_code, exceptionTable := #[], attributes := #[] }
def k8m2 : Method := { name := "charAt", desc := "(I)C", sig := { parameters := [.int], returnType := some .char }, accessFlags := 1, code := some k8c2 }
def k8c3 : Code := { maxStack := 1, maxLocals := 1, code := jdk_42_method_152_code, exceptionTable := #[], attributes := #[] }
def k8m3 : Method := { name := "coder", desc := "()B", sig := { parameters := [], returnType := some .byte }, accessFlags := 0, code := some k8c3 }
def k8c4 : Code := { maxStack := 1, maxLocals := 1, code := jdk_42_method_154_code, exceptionTable := #[], attributes := #[] }
def k8m4 : Method := { name := "isLatin1", desc := "()Z", sig := { parameters := [], returnType := some .boolean }, accessFlags := 0, code := some k8c4 }
def k8c5 : Code := { maxStack := 3, maxLocals := 2, code := jdk_42_method_155_code, exceptionTable := #[], attributes := #[] }
def k8m5 : Method := { name := "checkIndex", desc := "(II)V", sig := { parameters := [.int, .int], returnType := none }, accessFlags := 8, code := some k8c5 }
/-- java/lang/String -/
def k8 : Class := { plain "java/lang/String" (some 0) with
  accessFlags := 49
  interfaces := #[3, 4, 5, 6, 7]
  cf := some (fileOf pool8 10 #[.nestMembers #[1103]] #[{ accessFlags := 1, nameIndex := 5, descriptorIndex := 6, attributes := #[] }, { accessFlags := 1, nameIndex := 507, descriptorIndex := 334, attributes := #[] }, { accessFlags := 1, nameIndex := 497, descriptorIndex := 427, attributes := #[] }, { accessFlags := 0, nameIndex := 17, descriptorIndex := 337, attributes := #[] }, { accessFlags := 0, nameIndex := 494, descriptorIndex := 142, attributes := #[] }, { accessFlags := 8, nameIndex := 501, descriptorIndex := 391, attributes := #[] }] 49 2 #[1106, 1108, 575, 1110, 1112] #[{ accessFlags := 18, nameIndex := 13, descriptorIndex := 14, attributes := #[] }, { accessFlags := 18, nameIndex := 17, descriptorIndex := 18, attributes := #[] }, { accessFlags := 2, nameIndex := 21, descriptorIndex := 22, attributes := #[] }, { accessFlags := 2, nameIndex := 25, descriptorIndex := 26, attributes := #[] }, { accessFlags := 26, nameIndex := 1116, descriptorIndex := 1117, attributes := #[] }, { accessFlags := 24, nameIndex := 40, descriptorIndex := 26, attributes := #[] }, { accessFlags := 26, nameIndex := 1101, descriptorIndex := 1102, attributes := #[] }, { accessFlags := 26, nameIndex := 1121, descriptorIndex := 1122, attributes := #[] }, { accessFlags := 25, nameIndex := 599, descriptorIndex := 600, attributes := #[] }, { accessFlags := 24, nameIndex := 1125, descriptorIndex := 18, attributes := #[] }, { accessFlags := 24, nameIndex := 1127, descriptorIndex := 18, attributes := #[] }])
  fields := #[{ name := "value", type := (.array .byte), accessFlags := 18, slot := 0, constantValue := 0 }, { name := "coder", type := .byte, accessFlags := 18, slot := 1, constantValue := 0 }, { name := "hash", type := .int, accessFlags := 2, slot := 2, constantValue := 0 }, { name := "hashIsZero", type := .boolean, accessFlags := 2, slot := 3, constantValue := 0 }, { name := "serialVersionUID", type := .long, accessFlags := 26, slot := 0, constantValue := 0 }, { name := "COMPACT_STRINGS", type := .boolean, accessFlags := 24, slot := 1, constantValue := 0 }, { name := "serialPersistentFields", type := (.array (.object "java/io/ObjectStreamField")), accessFlags := 26, slot := 2, constantValue := 0 }, { name := "REPL", type := .char, accessFlags := 26, slot := 3, constantValue := 0 }, { name := "CASE_INSENSITIVE_ORDER", type := (.object "java/util/Comparator"), accessFlags := 25, slot := 4, constantValue := 0 }, { name := "LATIN1", type := .byte, accessFlags := 24, slot := 5, constantValue := 0 }, { name := "UTF16", type := .byte, accessFlags := 24, slot := 6, constantValue := 0 }]
  methods := #[k8m0, k8m1, k8m2, k8m3, k8m4, k8m5]
  instanceTypes := #[(.array .byte), .byte, .int, .boolean]
  staticTypes := #[.long, .boolean, (.array (.object "java/io/ObjectStreamField")), .char, (.object "java/util/Comparator"), .byte, .byte]
  resolved := Array.replicate 1451 none
  statics := some 0 }

def pool9 : Array CpInfo := pool [(1, .class_ 2), (0, u "java/lang/String"), (1, .class_ 6), (1, u "java/lang/Object"), (0, u "<init>"), (0, u "()V"), (0, .methodref 1 10), (0, .nameAndType 11 12), (0, u "checkIndex"), (0, u "(II)V"), (1, .class_ 16), (1, u "java/lang/StringLatin1"), (36, u "([BI)C"), (67, u "$assertionsDisabled"), (0, u "Z"), (98, .class_ 223), (1, u "java/lang/StringLatin1$LinesSpliterator"), (28, u "charAt"), (137, .class_ 391), (0, u "java/lang/StringLatin1$CharsSpliterator")] 3

def k9m0 : Method := { name := "<init>", desc := "()V", sig := { parameters := [], returnType := none }, accessFlags := 0, code := none }
def k9c1 : Code := { maxStack := 2, maxLocals := 2, code := jdk_43_method_2_code, exceptionTable := #[], attributes := #[] }
def k9m1 : Method := { name := "charAt", desc := "([BI)C", sig := { parameters := [(.array .byte), .int], returnType := some .char }, accessFlags := 9, code := some k9c1 }
/-- java/lang/StringLatin1 -/
def k9 : Class := { plain "java/lang/StringLatin1" (some 0) with
  accessFlags := 48
  interfaces := #[]
  cf := some (fileOf pool9 14 #[.nestMembers #[390, 221]] #[{ accessFlags := 0, nameIndex := 7, descriptorIndex := 8, attributes := #[] }, { accessFlags := 9, nameIndex := 252, descriptorIndex := 53, attributes := #[] }] 48 4 #[] #[{ accessFlags := 4120, nameIndex := 121, descriptorIndex := 122, attributes := #[] }])
  fields := #[{ name := "$assertionsDisabled", type := .boolean, accessFlags := 4120, slot := 0, constantValue := 0 }]
  methods := #[k9m0, k9m1]
  instanceTypes := #[]
  staticTypes := #[.boolean]
  resolved := Array.replicate 395 none
  statics := none }

def pool10 : Array CpInfo := pool [(2, .class_ 4), (1, u "java/lang/Object"), (0, u "<init>"), (0, u "()V"), (17, .class_ 26), (1, u "jdk/internal/util/Preconditions"), (6, u "checkIndex"), (21, .class_ 56), (0, u "jdk/internal/util/Preconditions$4"), (57, .class_ 115), (0, u "jdk/internal/util/Preconditions$1"), (7, u "SIOOBE_FORMATTER"), (0, u "Ljava/util/function/BiFunction;"), (0, .class_ 126), (0, u "jdk/internal/util/Preconditions$2"), (3, u "AIOOBE_FORMATTER"), (0, .class_ 132), (0, u "jdk/internal/util/Preconditions$3"), (3, u "IOOBE_FORMATTER"), (41, u "(IILjava/util/function/BiFunction;)I")] 15

def k10m0 : Method := { name := "<init>", desc := "()V", sig := { parameters := [], returnType := none }, accessFlags := 1, code := none }
def k10c1 : Code := { maxStack := 3, maxLocals := 3, code := jdk_41_method_11_code, exceptionTable := #[], attributes := #[] }
def k10m1 : Method := { name := "checkIndex", desc := "(IILjava/util/function/BiFunction;)I", sig := { parameters := [.int, .int, (.object "java/util/function/BiFunction")], returnType := some .int }, accessFlags := 9, code := some k10c1 }
/-- jdk/internal/util/Preconditions -/
def k10 : Class := { plain "jdk/internal/util/Preconditions" (some 0) with
  accessFlags := 33
  interfaces := #[]
  cf := some (fileOf pool10 24 #[.nestMembers #[55, 131, 125, 114]] #[{ accessFlags := 1, nameIndex := 5, descriptorIndex := 6, attributes := #[] }, { accessFlags := 9, nameIndex := 33, descriptorIndex := 178, attributes := #[] }] 33 2 #[] #[{ accessFlags := 25, nameIndex := 123, descriptorIndex := 124, attributes := #[] }, { accessFlags := 25, nameIndex := 130, descriptorIndex := 124, attributes := #[] }, { accessFlags := 25, nameIndex := 136, descriptorIndex := 124, attributes := #[] }])
  fields := #[{ name := "SIOOBE_FORMATTER", type := (.object "java/util/function/BiFunction"), accessFlags := 25, slot := 0, constantValue := 0 }, { name := "AIOOBE_FORMATTER", type := (.object "java/util/function/BiFunction"), accessFlags := 25, slot := 1, constantValue := 0 }, { name := "IOOBE_FORMATTER", type := (.object "java/util/function/BiFunction"), accessFlags := 25, slot := 2, constantValue := 0 }]
  methods := #[k10m0, k10m1]
  instanceTypes := #[]
  staticTypes := #[(.object "java/util/function/BiFunction"), (.object "java/util/function/BiFunction"), (.object "java/util/function/BiFunction")]
  resolved := Array.replicate 194 none
  statics := some 1 }

def pool11 : Array CpInfo := pool [(9, u "<init>"), (6, .class_ 18), (1, u "java/lang/Object"), (0, u "()V"), (1, .class_ 23), (1, u "jdk/internal/util/ArraysSupport"), (0, u "LOG2_ARRAY_LONG_INDEX_SCALE"), (0, u "I"), (2, u "U"), (0, u "Ljdk/internal/misc/Unsafe;"), (8, u "BIG_ENDIAN"), (0, u "Z"), (8, u "LOG2_BYTE_BIT_SIZE"), (4, u "LOG2_ARRAY_INT_INDEX_SCALE"), (54, u "JLA"), (0, u "Ljdk/internal/access/JavaLangAccess;"), (11, u "LOG2_ARRAY_BOOLEAN_INDEX_SCALE"), (9, u "LOG2_ARRAY_BYTE_INDEX_SCALE"), (5, u "LOG2_ARRAY_CHAR_INDEX_SCALE"), (5, u "LOG2_ARRAY_SHORT_INDEX_SCALE"), (18, u "LOG2_ARRAY_FLOAT_INDEX_SCALE"), (24, u "LOG2_ARRAY_DOUBLE_INDEX_SCALE"), (89, u "T_BOOLEAN"), (2, u "T_CHAR"), (1, u "T_FLOAT"), (1, u "T_DOUBLE"), (1, u "T_BYTE"), (1, u "T_SHORT"), (1, u "T_INT"), (1, u "T_LONG"), (1, u "SOFT_MAX_ARRAY_LENGTH")] 83

def k11m0 : Method := { name := "<init>", desc := "()V", sig := { parameters := [], returnType := none }, accessFlags := 2, code := none }
/-- jdk/internal/util/ArraysSupport -/
def k11 : Class := { plain "jdk/internal/util/ArraysSupport" (some 0) with
  accessFlags := 33
  interfaces := #[]
  cf := some (fileOf pool11 21 #[] #[{ accessFlags := 2, nameIndex := 9, descriptorIndex := 19, attributes := #[] }] 33 16 #[] #[{ accessFlags := 24, nameIndex := 28, descriptorIndex := 29, attributes := #[] }, { accessFlags := 26, nameIndex := 38, descriptorIndex := 39, attributes := #[] }, { accessFlags := 25, nameIndex := 121, descriptorIndex := 25, attributes := #[] }, { accessFlags := 25, nameIndex := 131, descriptorIndex := 25, attributes := #[] }, { accessFlags := 25, nameIndex := 137, descriptorIndex := 25, attributes := #[] }, { accessFlags := 25, nameIndex := 143, descriptorIndex := 25, attributes := #[] }, { accessFlags := 25, nameIndex := 53, descriptorIndex := 25, attributes := #[] }, { accessFlags := 25, nameIndex := 24, descriptorIndex := 25, attributes := #[] }, { accessFlags := 25, nameIndex := 162, descriptorIndex := 25, attributes := #[] }, { accessFlags := 25, nameIndex := 187, descriptorIndex := 25, attributes := #[] }, { accessFlags := 26, nameIndex := 48, descriptorIndex := 25, attributes := #[] }, { accessFlags := 25, nameIndex := 277, descriptorIndex := 25, attributes := #[] }, { accessFlags := 25, nameIndex := 280, descriptorIndex := 25, attributes := #[] }, { accessFlags := 25, nameIndex := 282, descriptorIndex := 25, attributes := #[] }, { accessFlags := 25, nameIndex := 284, descriptorIndex := 25, attributes := #[] }, { accessFlags := 25, nameIndex := 286, descriptorIndex := 25, attributes := #[] }, { accessFlags := 25, nameIndex := 288, descriptorIndex := 25, attributes := #[] }, { accessFlags := 25, nameIndex := 290, descriptorIndex := 25, attributes := #[] }, { accessFlags := 25, nameIndex := 292, descriptorIndex := 25, attributes := #[] }, { accessFlags := 26, nameIndex := 108, descriptorIndex := 109, attributes := #[] }, { accessFlags := 25, nameIndex := 294, descriptorIndex := 25, attributes := #[] }])
  fields := #[{ name := "U", type := (.object "jdk/internal/misc/Unsafe"), accessFlags := 24, slot := 0, constantValue := 0 }, { name := "BIG_ENDIAN", type := .boolean, accessFlags := 26, slot := 1, constantValue := 0 }, { name := "LOG2_ARRAY_BOOLEAN_INDEX_SCALE", type := .int, accessFlags := 25, slot := 2, constantValue := 0 }, { name := "LOG2_ARRAY_BYTE_INDEX_SCALE", type := .int, accessFlags := 25, slot := 3, constantValue := 0 }, { name := "LOG2_ARRAY_CHAR_INDEX_SCALE", type := .int, accessFlags := 25, slot := 4, constantValue := 0 }, { name := "LOG2_ARRAY_SHORT_INDEX_SCALE", type := .int, accessFlags := 25, slot := 5, constantValue := 0 }, { name := "LOG2_ARRAY_INT_INDEX_SCALE", type := .int, accessFlags := 25, slot := 6, constantValue := 0 }, { name := "LOG2_ARRAY_LONG_INDEX_SCALE", type := .int, accessFlags := 25, slot := 7, constantValue := 0 }, { name := "LOG2_ARRAY_FLOAT_INDEX_SCALE", type := .int, accessFlags := 25, slot := 8, constantValue := 0 }, { name := "LOG2_ARRAY_DOUBLE_INDEX_SCALE", type := .int, accessFlags := 25, slot := 9, constantValue := 0 }, { name := "LOG2_BYTE_BIT_SIZE", type := .int, accessFlags := 26, slot := 10, constantValue := 0 }, { name := "T_BOOLEAN", type := .int, accessFlags := 25, slot := 11, constantValue := 0 }, { name := "T_CHAR", type := .int, accessFlags := 25, slot := 12, constantValue := 0 }, { name := "T_FLOAT", type := .int, accessFlags := 25, slot := 13, constantValue := 0 }, { name := "T_DOUBLE", type := .int, accessFlags := 25, slot := 14, constantValue := 0 }, { name := "T_BYTE", type := .int, accessFlags := 25, slot := 15, constantValue := 0 }, { name := "T_SHORT", type := .int, accessFlags := 25, slot := 16, constantValue := 0 }, { name := "T_INT", type := .int, accessFlags := 25, slot := 17, constantValue := 0 }, { name := "T_LONG", type := .int, accessFlags := 25, slot := 18, constantValue := 0 }, { name := "JLA", type := (.object "jdk/internal/access/JavaLangAccess"), accessFlags := 26, slot := 19, constantValue := 0 }, { name := "SOFT_MAX_ARRAY_LENGTH", type := .int, accessFlags := 25, slot := 20, constantValue := 0 }]
  methods := #[k11m0]
  instanceTypes := #[]
  staticTypes := #[(.object "jdk/internal/misc/Unsafe"), .boolean, .int, .int, .int, .int, .int, .int, .int, .int, .int, .int, .int, .int, .int, .int, .int, .int, .int, (.object "jdk/internal/access/JavaLangAccess"), .int]
  resolved := Array.replicate 378 none
  statics := none }

def pool12 : Array CpInfo := pool [(1, u "java/lang/Cloneable"), (0, .class_ 1), (0, u "java/lang/Object"), (0, .class_ 3)] 3

/-- java/lang/Cloneable -/
def k12 : Class := { plain "java/lang/Cloneable" (some 0) with
  accessFlags := 1537
  interfaces := #[]
  cf := some (fileOf pool12 2 #[] #[] 1537 4 #[] #[])
  fields := #[]
  methods := #[]
  instanceTypes := #[]
  staticTypes := #[]
  resolved := Array.replicate 8 none
  statics := none }

/-- the primitive byte -/
def k13 : Class := { plain "byte" none with kind := .primitive 'B', accessFlags := 0x411 }
/-- [B -/
def k14 : Class := { plain "[B" (some 0) with kind := .array 13 .byte, interfaces := #[12, 3], accessFlags := 1041 }

/-- the primitive int -/
def k15 : Class := { plain "int" none with kind := .primitive 'I', accessFlags := 0x411 }
/-- [I -/
def k16 : Class := { plain "[I" (some 0) with kind := .array 15 .int, interfaces := #[12, 3], accessFlags := 1041 }

def heap : Heap := #[{ cls := 8, slots := #[.long 0, .int 1, .null, .int 0, .null, .int 0, .int 0], vm := .statics 8 },
  { cls := 10, slots := #[.null, .null, .null], vm := .statics 10 }]
def classes : Array Class := #[k0, k1, k2, k3, k4, k5, k6, k7, k8, k9, k10, k11, k12, k13, k14, k15, k16]
def interned : List (Array UInt16 × Addr) := []
def slotsUsed : Nat := 10
def theMethod : MethodId := ⟨1, 2⟩
def args0 : Array Value := #[.int 50]
def aboutOver (below : List Frame) : State where
  vm := { classes := classes, interned := interned.toArray }
  heap := heap
  slotsUsed := slotsUsed
  threads := #[{ frames := .invoking theMethod args0 :: below }]
def below0 : List Frame := [.native { method := ⟨0, 0⟩, args := #[] }]
def about1 : State := aboutOver below0
def p0 : Program := .bare "" "" ""
def e0 : Env := launch0.env 0 0 0
theorem w_frames : about1.frames = Frame.invoking theMethod args0 :: below0 := rfl
set_option maxRecDepth 65536 in
theorem w_args : argsFit about1.vm theMethod args0 = true := by decide +kernel
set_option maxRecDepth 65536 in
theorem w_heap : heapFits about1 = true := by decide +kernel
set_option maxRecDepth 65536 in
theorem w_runnable : about1.curStatus? = some .runnable := by decide +kernel
set_option maxRecDepth 65536 in
theorem w_alone : about1.alone = true := by decide +kernel
set_option maxRecDepth 65536 in
theorem w_named : about1.methodNamed? x = some theMethod := by decide +kernel
set_option maxRecDepth 65536 in
theorem w_hears : about1.hears theMethod below0 = true := by decide +kernel
set_option maxRecDepth 65536 in
theorem w_ripe : about1.ripe theMethod args0 below0 = true := by decide +kernel
theorem w_running : about1.status = .running := rfl
set_option maxRecDepth 65536 in
theorem w_room : about1.hasRoom e0.platform room_1 = true :=
  launch0.hasRoom_least _ room_1 (by decide +kernel) (by decide +kernel) (by decide +kernel) (by decide +kernel) (by decide +kernel) (by decide +kernel)
theorem allAtoms_all (ts : List Jvm.Cond) (a : Array Jvm.Value) (st : Jvm.State) : (allAtoms ts).before a st = ts.all (fun c => c.before a st) := by
  induction ts with
  | nil => rfl
  | cons c t ih =>
    show (Jvm.Cond.and c (allAtoms t)).before a st = _
    rw [Jvm.Cond.before_and, ih, List.all_cons]
def words1 : List Jvm.Cond := Jvm.Cond.code x code maxLocals ret :: tables_1
/-- a 'code' word, met by the world's own term for the bytes: nothing is compared byte by byte -/
theorem code_word {y : MethodName} {bytes : ByteArray} {mx : Nat} {rt : Option FieldType} {a : Array Value} {s : State} {m : MethodId} {meth : Method} {c : Code} (h1 : s.methodNamed? y = some m) (h2 : s.vm.method? m = some meth) (h3 : meth.code = some c) (h4 : c.code = bytes)
    (h5 : (c.maxLocals == mx && c.exceptionTable.isEmpty && decide (c.maxStack ≤ mostOperands) && decide (meth.sig.returnType = rt) && !meth.locks && decide (parseMethodDescriptor y.desc = some meth.sig)) = true) : (Jvm.Cond.code y bytes mx rt).before a s = true := by
  simp only [Bool.and_eq_true, beq_iff_eq, Bool.not_eq_true', decide_eq_true_eq] at h5
  obtain ⟨⟨⟨⟨⟨g1, g2⟩, g3⟩, g4⟩, g5⟩, g6⟩ := h5
  simp [Cond.before, Cond.holds, Cond.value, h1, h2, h3, h4, g1, g2, g3, g4, g5, g6]
def isCode : Jvm.Cond → Bool
  | .code _ _ _ _ => true
  | _ => false
theorem all_split {L : List Jvm.Cond} {P : Jvm.Cond → Bool} (h1 : L.all (fun c => isCode c || P c) = true) (h2 : ∀ c ∈ L.filter isCode, P c = true) : L.all P = true := by
  refine List.all_eq_true.mpr fun c hc => ?_
  have h := List.all_eq_true.mp h1 c hc
  rcases Bool.eq_false_or_eq_true (isCode c) with hi | hi
  · exact h2 c (List.mem_filter.mpr ⟨hc, hi⟩)
  · simpa [hi] using h
set_option maxRecDepth 65536 in
theorem w_c0 : (Jvm.Cond.code x code maxLocals ret).before args0 about1 = true := code_word (m := ⟨1, 2⟩) (meth := k1m2) (c := k1c2) (by decide +kernel) rfl rfl rfl (by decide +kernel)
set_option maxRecDepth 65536 in
theorem w_c1 : (Jvm.Cond.code ({ cls := "com/example/restate/restate/Chars", name := "isDigit", desc := "(C)Z" } : Jvm.MethodName) prog_8_method_3_code (1 : Nat) (Option.some Jvm.ClassFile.FieldType.boolean)).before args0 about1 = true := code_word (m := ⟨2, 1⟩) (meth := k2m1) (c := k2c1) (by decide +kernel) rfl rfl rfl (by decide +kernel)
set_option maxRecDepth 65536 in
theorem w_c2 : (Jvm.Cond.code ({ cls := "com/example/restate/restate/CharsIsDigitPinLaw", name := "inDigitTable", desc := "(C)Z" } : Jvm.MethodName) method_2_code (3 : Nat) (Option.some Jvm.ClassFile.FieldType.boolean)).before args0 about1 = true := code_word (m := ⟨1, 1⟩) (meth := k1m1) (c := k1c1) (by decide +kernel) rfl rfl rfl (by decide +kernel)
set_option maxRecDepth 65536 in
theorem w_c3 : (Jvm.Cond.code ({ cls := "java/lang/String", name := "length", desc := "()I" } : Jvm.MethodName) jdk_42_method_54_code (1 : Nat) (Option.some Jvm.ClassFile.FieldType.int)).before args0 about1 = true := code_word (m := ⟨8, 1⟩) (meth := k8m1) (c := k8c1) (by decide +kernel) rfl rfl rfl (by decide +kernel)
set_option maxRecDepth 65536 in
theorem w_c4 : (Jvm.Cond.code ({ cls := "java/lang/String", name := "coder", desc := "()B" } : Jvm.MethodName) jdk_42_method_152_code (1 : Nat) (Option.some Jvm.ClassFile.FieldType.byte)).before args0 about1 = true := code_word (m := ⟨8, 3⟩) (meth := k8m3) (c := k8c3) (by decide +kernel) rfl rfl rfl (by decide +kernel)
set_option maxRecDepth 65536 in
theorem w_c5 : (Jvm.Cond.code ({ cls := "java/lang/String", name := "charAt", desc := "(I)C" } : Jvm.MethodName) jdk_42_method_56_code (2 : Nat) (Option.some Jvm.ClassFile.FieldType.char)).before args0 about1 = true := code_word (m := ⟨8, 2⟩) (meth := k8m2) (c := k8c2) (by decide +kernel) rfl rfl rfl (by decide +kernel)
set_option maxRecDepth 65536 in
theorem w_c6 : (Jvm.Cond.code ({ cls := "java/lang/String", name := "isLatin1", desc := "()Z" } : Jvm.MethodName) jdk_42_method_154_code (1 : Nat) (Option.some Jvm.ClassFile.FieldType.boolean)).before args0 about1 = true := code_word (m := ⟨8, 4⟩) (meth := k8m4) (c := k8c4) (by decide +kernel) rfl rfl rfl (by decide +kernel)
set_option maxRecDepth 65536 in
theorem w_c7 : (Jvm.Cond.code ({ cls := "java/lang/StringLatin1", name := "charAt", desc := "([BI)C" } : Jvm.MethodName) jdk_43_method_2_code (2 : Nat) (Option.some Jvm.ClassFile.FieldType.char)).before args0 about1 = true := code_word (m := ⟨9, 1⟩) (meth := k9m1) (c := k9c1) (by decide +kernel) rfl rfl rfl (by decide +kernel)
set_option maxRecDepth 65536 in
theorem w_c8 : (Jvm.Cond.code ({ cls := "java/lang/String", name := "checkIndex", desc := "(II)V" } : Jvm.MethodName) jdk_42_method_155_code (2 : Nat) (Option.none : Option Jvm.ClassFile.FieldType)).before args0 about1 = true := code_word (m := ⟨8, 5⟩) (meth := k8m5) (c := k8c5) (by decide +kernel) rfl rfl rfl (by decide +kernel)
set_option maxRecDepth 65536 in
theorem w_c9 : (Jvm.Cond.code ({ cls := "jdk/internal/util/Preconditions", name := "checkIndex", desc := "(IILjava/util/function/BiFunction;)I" } : Jvm.MethodName) jdk_41_method_11_code (3 : Nat) (Option.some Jvm.ClassFile.FieldType.int)).before args0 about1 = true := code_word (m := ⟨10, 1⟩) (meth := k10m1) (c := k10c1) (by decide +kernel) rfl rfl rfl (by decide +kernel)
def codes1 : List Jvm.Cond := [Jvm.Cond.code x code maxLocals ret, Jvm.Cond.code ({ cls := "com/example/restate/restate/Chars", name := "isDigit", desc := "(C)Z" } : Jvm.MethodName) prog_8_method_3_code (1 : Nat) (Option.some Jvm.ClassFile.FieldType.boolean), Jvm.Cond.code ({ cls := "com/example/restate/restate/CharsIsDigitPinLaw", name := "inDigitTable", desc := "(C)Z" } : Jvm.MethodName) method_2_code (3 : Nat) (Option.some Jvm.ClassFile.FieldType.boolean), Jvm.Cond.code ({ cls := "java/lang/String", name := "length", desc := "()I" } : Jvm.MethodName) jdk_42_method_54_code (1 : Nat) (Option.some Jvm.ClassFile.FieldType.int), Jvm.Cond.code ({ cls := "java/lang/String", name := "coder", desc := "()B" } : Jvm.MethodName) jdk_42_method_152_code (1 : Nat) (Option.some Jvm.ClassFile.FieldType.byte), Jvm.Cond.code ({ cls := "java/lang/String", name := "charAt", desc := "(I)C" } : Jvm.MethodName) jdk_42_method_56_code (2 : Nat) (Option.some Jvm.ClassFile.FieldType.char), Jvm.Cond.code ({ cls := "java/lang/String", name := "isLatin1", desc := "()Z" } : Jvm.MethodName) jdk_42_method_154_code (1 : Nat) (Option.some Jvm.ClassFile.FieldType.boolean), Jvm.Cond.code ({ cls := "java/lang/StringLatin1", name := "charAt", desc := "([BI)C" } : Jvm.MethodName) jdk_43_method_2_code (2 : Nat) (Option.some Jvm.ClassFile.FieldType.char), Jvm.Cond.code ({ cls := "java/lang/String", name := "checkIndex", desc := "(II)V" } : Jvm.MethodName) jdk_42_method_155_code (2 : Nat) (Option.none : Option Jvm.ClassFile.FieldType), Jvm.Cond.code ({ cls := "jdk/internal/util/Preconditions", name := "checkIndex", desc := "(IILjava/util/function/BiFunction;)I" } : Jvm.MethodName) jdk_41_method_11_code (3 : Nat) (Option.some Jvm.ClassFile.FieldType.int)]
set_option maxRecDepth 65536 in
theorem codes_eq : words1.filter isCode = codes1 := rfl
theorem w_codes : ∀ c ∈ words1.filter isCode, c.before args0 about1 = true := by
  rw [codes_eq]
  intro c hc
  simp only [codes1, List.mem_cons, List.not_mem_nil, or_false] at hc
  rcases hc with rfl | rfl | rfl | rfl | rfl | rfl | rfl | rfl | rfl | rfl
  · exact w_c0
  · exact w_c1
  · exact w_c2
  · exact w_c3
  · exact w_c4
  · exact w_c5
  · exact w_c6
  · exact w_c7
  · exact w_c8
  · exact w_c9
set_option maxRecDepth 65536 in
theorem w_t1 : (words1.take 24).all (fun c => isCode c || c.before args0 about1) = true := by decide +kernel
set_option maxRecDepth 65536 in
theorem w_t2 : ((words1.drop 24).take 24).all (fun c => isCode c || c.before args0 about1) = true := by decide +kernel
set_option maxRecDepth 65536 in
theorem w_t3 : ((words1.drop 24).drop 24).all (fun c => isCode c || c.before args0 about1) = true := by decide +kernel
theorem w_tables : (allAtoms (Jvm.Cond.code x code maxLocals ret :: tables_1)).before args0 about1 = true := by
  rw [allAtoms_all]
  show words1.all (fun c => c.before args0 about1) = true
  refine all_split ?_ w_codes
  rw [← List.take_append_drop 24 words1, List.all_append, w_t1, ← List.take_append_drop 24 (words1.drop 24), List.all_append, w_t2, w_t3]
  rfl
set_option maxRecDepth 65536 in
theorem w_rest : rest_1_c.before args0 about1 = true := by decide +kernel
set_option maxRecDepth 65536 in
theorem w_case : (Jvm.Cond.and given_1 narrow_1).before args0 about1 = true := by decide +kernel
set_option maxRecDepth 65536 in
theorem w_consts : constsHeld consts_1 about1 := Jvm.Lit.constsHeldB_iff.mp (by decide +kernel)
theorem w_applies : (headSpec (Jvm.Cond.code x code maxLocals ret :: tables_1) room_1).applies x e0.platform about1 = true :=
  (Spec.applies_iff w_frames).mpr ⟨w_running, w_runnable, w_alone, w_named, w_hears, w_ripe, w_room, w_tables⟩
theorem atStart : AtStart classFile x code maxLocals ret World_1 tables_1 room_1 Calls_1 rest_1 Pre_1 launch0 p0 e0 about1 theMethod args0 below0 :=
  ⟨lists_1, trivial, launch0.admits_env _ _ _, launch0.least_env, fairChoices_fair.cas, fairChoices_fair.clock, w_frames, w_args, w_heap, w_applies, ⟨w_consts, trivial⟩, w_rest, w_case⟩
end start1
theorem witness_1 : WitnessClaimed_1 := ⟨start1.p0, start1.e0, start1.about1, start1.theMethod, start1.args0, start1.below0, start1.atStart⟩
end Jvm.Pilot.@@N@@
