import JvmDerived
import JvmDerived.Pilot.@@N@@Statement
import JvmDerived.Pilot.@@N@@Code
set_option linter.unusedVariables false
set_option linter.unusedSimpArgs false
namespace Jvm.RoadKit
open Sem ClassFile Op Lib Jvm.Stand Jvm.Free Jvm.LawKit
section New
variable {p : Program} {l : Launch} {e : Env} {R : Room} {s : State} {m : MethodId} {args : Array Value} {below : List Frame} {meth : Method} {c : Code} {T : State} {locs : List Loc} {cells slots : Nat}
theorem retI (X : Stand p l e R s m args below meth c T locs cells slots) (hx : p.tables.exec = Jvm.exec) {pc : Nat} {Ls : Array Slot} {z : Int32} {rest : List Value} (hret : meth.sig.returnType = some .int) (hd : decode c.code pc = .ok (.ireturn, 1)) {fs : List Frame}
    (hl : ∀ (f : JFrame) (acts : List Action), f.method = m → f.locked = none → f.entered = [] → (doReturn e (T.setTop f) acts (some (.int z))).1 = T.setFrames fs) : Steps p.tables e below (T.setTop (mkF m pc Ls (.int z :: rest))) (T.setFrames fs) := by
  have hm' : T.vm.method? m = some meth := X.method'
  have hn : narrow .int (.int z) = .int z := rfl
  show Steps p.tables e below (T.setTop { method := m, pc := pc, locals := Ls, stack := _ :: rest, locked := none }) _
  jvm_step X.here [X.here.top, hx, hd, hm', hret, hn]
  first | (intro acts; rw [hl _ acts rfl rfl rfl]) | rw [hl _ _ rfl rfl rfl]
  exact Steps.refl _
end New
end Jvm.RoadKit
namespace Jvm.Pilot.@@N@@
open Jvm Jvm.ClassFile Sem Op Lib Jvm.Free Jvm.Stand Jvm.LawKit Jvm.RoadKit Bundle Jvm.Pilot.@@N@@.Jvm.D
/-- two addresses are unlike; a number isn't above another: names of their own, so that 'omega' doesn't look at them -/
def own_Ne (a b : Nat) : Prop := a ≠ b
def own_Le (a b : Nat) : Prop := a ≤ b
theorem own_Ne.symm {a b : Nat} (h : own_Ne a b) : own_Ne b a := Ne.symm h
theorem own_Le.tr {a b c : Nat} (h : own_Le a b) (k : b ≤ c) : own_Le a c := Nat.le_trans h k
/-- an array of ints (bytes) of which the length is known -/
def own_Arl (Z : State) (h : Heap) (a : Addr) (ty : FieldType) (z : Int32) : Prop := ∃ c : Cell, Arr Z h a c ty ∧ c.slots.size = z.toNatClampNeg ∧ ¬ z < 0
/-- an array of ints (bytes) that holds f -/
def own_Arf (Z : State) (h : Heap) (a : Addr) (ty : FieldType) (z : Int32) (f : Nat → Int32) : Prop := ∃ c : Cell, Arr Z h a c ty ∧ c.slots.size = z.toNatClampNeg ∧ ¬ z < 0 ∧ ∀ i, i < z.toNatClampNeg → c.slots[i]? = some (.int (f i))
section Arrs
variable {Z : State} {h h' : Heap} {a b : Addr} {ty : FieldType} {z j x : Int32} {f g : Nat → Int32} {sl : Nat} {v : Value} {ws : List Addr} {k : ClassId} {vs : List Value} {dv : Value} {c : Cell}
theorem own_Arl.lt (F : own_Arl Z h a ty z) : a < h.size := by obtain ⟨c, A, -⟩ := F; exact A.lt
theorem own_Arl.ext (F : own_Arl Z h a ty z) (E : Ext h h') : own_Arl Z h' a ty z := by obtain ⟨c, A, r⟩ := F; exact ⟨c, A.ext E, r⟩
theorem own_Arl.other (F : own_Arl Z h b ty z) (W : Wr h h' a sl v) (q : b ≠ a) : own_Arl Z h' b ty z := by obtain ⟨c, A, r⟩ := F; exact ⟨c, A.other W q, r⟩
theorem own_Arl.keep (F : own_Arl Z h a ty z) (K : Keep h h' ws) (q : a ∉ ws) : own_Arl Z h' a ty z := by obtain ⟨c, A, r⟩ := F; exact ⟨c, ⟨K.2.1 a c A.1 q, A.2⟩, r⟩
theorem own_Arl.new (A : Arr Z h a (newA k ty z) ty) (q : ¬ z < 0) : own_Arl Z h a ty z := ⟨_, A, sz_new _ _ _, q⟩
theorem own_Arl.same (A : Arr Z h a c ty) (S : c.slots.size = z.toNatClampNeg) (q : ¬ z < 0) (W : Wr h h' a sl v) : own_Arl Z h' a ty z := ⟨_, A.same W, (sz_set _ _ _).trans S, q⟩
theorem own_Arl.ofV (F : Arv Z h a k ty z vs dv) : own_Arl Z h a ty z := by obtain ⟨c, A, -, S, N, -⟩ := F; exact ⟨c, A, S, N⟩
theorem own_Arl.ofA (F : own_Arf Z h a ty z f) : own_Arl Z h a ty z := by obtain ⟨c, A, S, N, -⟩ := F; exact ⟨c, A, S, N⟩
theorem own_Arf.lt (F : own_Arf Z h a ty z f) : a < h.size := by obtain ⟨c, A, -⟩ := F; exact A.lt
theorem own_Arf.ext (F : own_Arf Z h a ty z f) (E : Ext h h') : own_Arf Z h' a ty z f := by obtain ⟨c, A, r⟩ := F; exact ⟨c, A.ext E, r⟩
theorem own_Arf.other (F : own_Arf Z h b ty z f) (W : Wr h h' a sl v) (q : b ≠ a) : own_Arf Z h' b ty z f := by obtain ⟨c, A, r⟩ := F; exact ⟨c, A.other W q, r⟩
theorem own_Arf.keep (F : own_Arf Z h a ty z f) (K : Keep h h' ws) (q : a ∉ ws) : own_Arf Z h' a ty z f := by obtain ⟨c, A, r⟩ := F; exact ⟨c, ⟨K.2.1 a c A.1 q, A.2⟩, r⟩
theorem own_Arf.new (A : Arr Z h a (newA k ty z) ty) (q : ¬ z < 0) (hd : defaultValue ty = .int 0) : own_Arf Z h a ty z (fun _ => 0) := ⟨_, A, sz_new _ _ _, q, fun i hi => by simp [newA, hi, hd]⟩
theorem own_Arf.set (A : Arr Z h a c ty) (S : c.slots.size = z.toNatClampNeg) (q : ¬ z < 0) (H : ∀ i, i < z.toNatClampNeg → c.slots[i]? = some (.int (f i))) (W : Wr h h' a sl (.int x)) (e : sl = j.toNatClampNeg) (hg : g = fun i => if i = j.toNatClampNeg then x else f i) : own_Arf Z h' a ty z g := by
  subst e hg
  refine ⟨_, A.same W, (sz_set _ _ _).trans S, q, fun i hi => ?_⟩
  by_cases hij : i = j.toNatClampNeg
  · subst hij
    have hs : j.toNatClampNeg < c.slots.size := by rw [S]; exact hi
    simp [Cell.setSlot, hs]
  · rw [show (c.setSlot j.toNatClampNeg (.int x)).slots[i]? = c.slots[i]? from Array.getElem?_setIfInBounds_ne (Ne.symm hij), H i hi]
    simp [hij]
theorem own_Arf.ofV (F : Arv Z h a k ty z vs dv) (e : ∀ i, i < z.toNatClampNeg → vs.getD i dv = .int (f i)) : own_Arf Z h a ty z f := by
  obtain ⟨c, A, -, S, N, H, -⟩ := F
  exact ⟨c, A, S, N, fun i hi => by rw [H i (by rw [S]; exact hi), e i hi]⟩
theorem own_Arf.congr (F : own_Arf Z h a ty z f) (e : ∀ i, i < z.toNatClampNeg → f i = g i) : own_Arf Z h a ty z g := by obtain ⟨c, A, S, N, H⟩ := F; exact ⟨c, A, S, N, fun i hi => by rw [← e i hi]; exact H i hi⟩
theorem own_sta_keep {C n d : String} (F : Sta Z h C n d v) (K : Keep h h' []) : Sta Z h' C n d v := by
  obtain ⟨cf, i, k, f, st, cell, h1, h2, h3, h4, h5, r⟩ := F
  exact ⟨cf, i, k, f, st, cell, h1, h2, h3, h4, K.2.1 _ _ h5 nin0, r⟩
theorem own_at (H : ∀ i, i < z.toNatClampNeg → c.slots[i]? = some (.int (f i))) (S : c.slots.size = z.toNatClampNeg) (q : ¬ (j < 0 ∨ c.slots.size ≤ j.toNatClampNeg)) (e : f j.toNatClampNeg = x) : c.slots[j.toNatClampNeg]? = some (.int x) := by
  rw [← e]; exact H _ (by rw [← S]; exact Nat.lt_of_not_le fun y => q (Or.inr y))
end Arrs
theorem own_nn {j : Int32} (h : 0 ≤ j.toInt) : ¬ j < 0 := by rw [Int32.lt_iff_toInt_lt]; have q0 : (0 : Int32).toInt = 0 := rfl; omega
theorem own_clamp {j : Int32} (h : 0 ≤ j.toInt) : (j.toNatClampNeg : Int) = j.toInt := (nat_of (own_nn h)).symm
theorem own_d1_0 : decode prog_176_method_10_code 0 = .ok (.iconst 0, 1) := by decide +kernel
theorem own_d1_1 : decode prog_176_method_10_code 1 = .ok (.istore_n 1, 1) := by decide +kernel
theorem own_d1_2 : decode prog_176_method_10_code 2 = .ok (.iconst 0, 1) := by decide +kernel
theorem own_d1_3 : decode prog_176_method_10_code 3 = .ok (.istore_n 2, 1) := by decide +kernel
theorem own_d1_4 : decode prog_176_method_10_code 4 = .ok (.iload_n 2, 1) := by decide +kernel
theorem own_d1_5 : decode prog_176_method_10_code 5 = .ok (.aload_n 0, 1) := by decide +kernel
theorem own_d1_6 : decode prog_176_method_10_code 6 = .ok (.arraylength, 1) := by decide +kernel
theorem own_d1_7 : decode prog_176_method_10_code 7 = .ok (.if_icmp .ge 23, 3) := by decide +kernel
theorem own_d1_10 : decode prog_176_method_10_code 10 = .ok (.iload_n 1, 1) := by decide +kernel
theorem own_d1_11 : decode prog_176_method_10_code 11 = .ok (.aload_n 0, 1) := by decide +kernel
theorem own_d1_12 : decode prog_176_method_10_code 12 = .ok (.iload_n 2, 1) := by decide +kernel
theorem own_d1_13 : decode prog_176_method_10_code 13 = .ok (.iconst 1, 1) := by decide +kernel
theorem own_d1_14 : decode prog_176_method_10_code 14 = .ok (.iadd, 1) := by decide +kernel
theorem own_d1_15 : decode prog_176_method_10_code 15 = .ok (.iaload, 1) := by decide +kernel
theorem own_d1_16 : decode prog_176_method_10_code 16 = .ok (.aload_n 0, 1) := by decide +kernel
theorem own_d1_17 : decode prog_176_method_10_code 17 = .ok (.iload_n 2, 1) := by decide +kernel
theorem own_d1_18 : decode prog_176_method_10_code 18 = .ok (.iaload, 1) := by decide +kernel
theorem own_d1_19 : decode prog_176_method_10_code 19 = .ok (.isub, 1) := by decide +kernel
theorem own_d1_20 : decode prog_176_method_10_code 20 = .ok (.iconst 1, 1) := by decide +kernel
theorem own_d1_21 : decode prog_176_method_10_code 21 = .ok (.iadd, 1) := by decide +kernel
theorem own_d1_22 : decode prog_176_method_10_code 22 = .ok (.iadd, 1) := by decide +kernel
theorem own_d1_23 : decode prog_176_method_10_code 23 = .ok (.istore_n 1, 1) := by decide +kernel
theorem own_d1_24 : decode prog_176_method_10_code 24 = .ok (.iinc 2 2, 3) := by decide +kernel
theorem own_d1_27 : decode prog_176_method_10_code 27 = .ok (.goto (-23), 3) := by decide +kernel
theorem own_d1_30 : decode prog_176_method_10_code 30 = .ok (.iload_n 1, 1) := by decide +kernel
theorem own_d1_31 : decode prog_176_method_10_code 31 = .ok (.newarray .int, 2) := by decide +kernel
theorem own_d1_33 : decode prog_176_method_10_code 33 = .ok (.astore_n 2, 1) := by decide +kernel
theorem own_d1_34 : decode prog_176_method_10_code 34 = .ok (.iconst 0, 1) := by decide +kernel
theorem own_d1_35 : decode prog_176_method_10_code 35 = .ok (.istore_n 3, 1) := by decide +kernel
theorem own_d1_36 : decode prog_176_method_10_code 36 = .ok (.iconst 0, 1) := by decide +kernel
theorem own_d1_37 : decode prog_176_method_10_code 37 = .ok (.istore 4, 2) := by decide +kernel
theorem own_d1_39 : decode prog_176_method_10_code 39 = .ok (.iload 4, 2) := by decide +kernel
theorem own_d1_41 : decode prog_176_method_10_code 41 = .ok (.aload_n 0, 1) := by decide +kernel
theorem own_d1_42 : decode prog_176_method_10_code 42 = .ok (.arraylength, 1) := by decide +kernel
theorem own_d1_43 : decode prog_176_method_10_code 43 = .ok (.if_icmp .ge 40, 3) := by decide +kernel
theorem own_d1_46 : decode prog_176_method_10_code 46 = .ok (.aload_n 0, 1) := by decide +kernel
theorem own_d1_47 : decode prog_176_method_10_code 47 = .ok (.iload 4, 2) := by decide +kernel
theorem own_d1_49 : decode prog_176_method_10_code 49 = .ok (.iaload, 1) := by decide +kernel
theorem own_d1_50 : decode prog_176_method_10_code 50 = .ok (.istore 5, 2) := by decide +kernel
theorem own_d1_52 : decode prog_176_method_10_code 52 = .ok (.iload 5, 2) := by decide +kernel
theorem own_d1_54 : decode prog_176_method_10_code 54 = .ok (.aload_n 0, 1) := by decide +kernel
theorem own_d1_55 : decode prog_176_method_10_code 55 = .ok (.iload 4, 2) := by decide +kernel
theorem own_d1_57 : decode prog_176_method_10_code 57 = .ok (.iconst 1, 1) := by decide +kernel
theorem own_d1_58 : decode prog_176_method_10_code 58 = .ok (.iadd, 1) := by decide +kernel
theorem own_d1_59 : decode prog_176_method_10_code 59 = .ok (.iaload, 1) := by decide +kernel
theorem own_d1_60 : decode prog_176_method_10_code 60 = .ok (.if_icmp .gt 17, 3) := by decide +kernel
theorem own_d1_63 : decode prog_176_method_10_code 63 = .ok (.aload_n 2, 1) := by decide +kernel
theorem own_d1_64 : decode prog_176_method_10_code 64 = .ok (.iload_n 3, 1) := by decide +kernel
theorem own_d1_65 : decode prog_176_method_10_code 65 = .ok (.iinc 3 1, 3) := by decide +kernel
theorem own_d1_68 : decode prog_176_method_10_code 68 = .ok (.iload 5, 2) := by decide +kernel
theorem own_d1_70 : decode prog_176_method_10_code 70 = .ok (.iastore, 1) := by decide +kernel
theorem own_d1_71 : decode prog_176_method_10_code 71 = .ok (.iinc 5 1, 3) := by decide +kernel
theorem own_d1_74 : decode prog_176_method_10_code 74 = .ok (.goto (-22), 3) := by decide +kernel
theorem own_d1_77 : decode prog_176_method_10_code 77 = .ok (.iinc 4 2, 3) := by decide +kernel
theorem own_d1_80 : decode prog_176_method_10_code 80 = .ok (.goto (-41), 3) := by decide +kernel
theorem own_d1_83 : decode prog_176_method_10_code 83 = .ok (.aload_n 2, 1) := by decide +kernel
theorem own_d1_84 : decode prog_176_method_10_code 84 = .ok (.areturn, 1) := by decide +kernel
theorem own_pn0 : plainName "com/example/omegaprobe/omegaprobe/graph/StateSets" = true := by first | (simp [plainName, overriddenIn]; done) | decide +kernel
def Q_rmE0 (Z : State) (ra : Addr) (g : Nat → Int32) (h0 : Heap) (n0 : Nat) (v : Option Value) (h : Heap) (L : List Loc) : Prop := ∃ (pa : Addr), ∃ (z : Int32), ∃ (f : Nat → Int32), v = some (.ref pa) ∧ (z.toInt = 0) ∧ Fr n0 L ∧ Keep h0 h [] ∧ own_Le h0.size pa ∧ own_Arf Z h pa .int z f
theorem own_ef_rmE0 (m : MethodId) (ra : Addr) : entryFrame m #[(.ref ra)] 6 = mkF m 0 #[.val (.ref ra), .unset, .unset, .unset, .unset, .unset] [] := by first | (simp [entryFrame, mkF, argsToLocals, Value.category]; done) | rfl
set_option maxRecDepth 65536 in
set_option maxHeartbeats 40000000 in
theorem rmE0 (l : Launch) (Z : State) (a0 : Array Value) (hw : ∀ d ∈ tables_1, d.before a0 Z = true) (ws : List Jvm.Cond) (ra : Addr) (g : Nat → Int32) (h0 : Heap) (n0 : Nat) (Z0 : own_Le n0 h0.size) (P_0 : own_Arf Z h0 ra .int (0 : Int32) g) :
    MetFree l (⟨"com/example/omegaprobe/omegaprobe/graph/StateSets", "expand", "([I)[I"⟩ : MethodName) (head1 (Jvm.Cond.code (⟨"com/example/omegaprobe/omegaprobe/graph/StateSets", "expand", "([I)[I"⟩ : MethodName) prog_176_method_10_code 6 (some (.array .int)) :: ws) ({ frames := 0, cells := 1, slots := 0, locals := 0 } : Room)) (fun a U => a = #[(.ref ra)] ∧ Z.Warmed39 U.vm ∧ U.heap = h0) (fun _ _ _ _ _ => True) (fun _ U o U' => ∃ v L, o = .returned v ∧ Q_rmE0 Z ra g h0 n0 v U'.heap L ∧ FrameEnd U o U' L ({ frames := 0, cells := 1, slots := 0, locals := 0 } : Room).cells ({ frames := 0, cells := 1, slots := 0, locals := 0 } : Room).slots) := by
  refine MetFree.of_bodySF (plainFor_of_name own_pn0) hisR ?_
  intro p e s m args below meth c s₁ Bd hml0 hP hK
  obtain ⟨rfl, hZ, hh⟩ := hP
  have hx := Bd.exec
  have hby := Bd.bytes
  have hml : c.maxLocals = 6 := hml0
  have hown : s.vm.findClass "com/example/omegaprobe/omegaprobe/graph/StateSets" = some m.cls := findClass_of_methodNamed Bd.named
  have hnm := (name_of_methodNamed Bd.named Bd.method).1
  have X0 : Stand p l e ({ frames := 0, cells := 1, slots := 0, locals := 0 } : Room) s m #[(.ref ra)] below meth c s₁ [] 0 0 := Stand.of_body Bd
  have e0 : s₁.heap = h0 := by rw [← hh, Bd.state]; rfl
  have N0 := Fr.nil n0
  have pre0 : ∀ t, Steps p.tables e below (s₁.setTop (mkF m 0 #[.val (.ref ra), .unset, .unset, .unset, .unset, .unset] [])) t → Steps p.tables e below (s₁.setTop (entryFrame m #[(.ref ra)] 6)) t := fun t k => castTop (own_ef_rmE0 m ra) k
  obtain ⟨cl1, Ar1, S1, N1, Hs1⟩ := id P_0
  have hc2 : ¬ ((0 : Int32) < (0 : Int32)) := by
    have q3 := (by decide : (0 : Int32).toInt = 0)
    rw [Int32.lt_iff_toInt_lt]; omega
  have K4 : ∀ t, Steps p.tables e below (s₁.setTop (mkF m 31 #[.val (.ref ra), .val (.int (0 : Int32)), .val (.int (0 : Int32)), .unset, .unset, .unset] [(.int (0 : Int32))])) t → Steps p.tables e below (s₁.setTop (entryFrame m #[(.ref ra)] 6)) t := fun t k => pre0 t (by
    show Steps p.tables e below (s₁.setTop (mkF m 0 #[.val (.ref ra), .unset, .unset, .unset, .unset, .unset] [])) t
    refine XS.iconst X0.here hx rfl (hb hby own_d1_0) ?_
    show Steps p.tables e below (s₁.setTop (mkF m 1 #[.val (.ref ra), .unset, .unset, .unset, .unset, .unset] [(.int (0 : Int32))])) t
    refine XS.istoreN X0.here hx rfl (hb hby own_d1_1) rfl (l' := #[.val (.ref ra), .val (.int (0 : Int32)), .unset, .unset, .unset, .unset]) rfl ?_
    show Steps p.tables e below (s₁.setTop (mkF m 2 #[.val (.ref ra), .val (.int (0 : Int32)), .unset, .unset, .unset, .unset] [])) t
    refine XS.iconst X0.here hx rfl (hb hby own_d1_2) ?_
    show Steps p.tables e below (s₁.setTop (mkF m 3 #[.val (.ref ra), .val (.int (0 : Int32)), .unset, .unset, .unset, .unset] [(.int (0 : Int32))])) t
    refine XS.istoreN X0.here hx rfl (hb hby own_d1_3) rfl (l' := #[.val (.ref ra), .val (.int (0 : Int32)), .val (.int (0 : Int32)), .unset, .unset, .unset]) rfl ?_
    show Steps p.tables e below (s₁.setTop (mkF m 4 #[.val (.ref ra), .val (.int (0 : Int32)), .val (.int (0 : Int32)), .unset, .unset, .unset] [])) t
    refine XS.iloadN X0.here hx rfl (hb hby own_d1_4) rfl ?_
    show Steps p.tables e below (s₁.setTop (mkF m 5 #[.val (.ref ra), .val (.int (0 : Int32)), .val (.int (0 : Int32)), .unset, .unset, .unset] [(.int (0 : Int32))])) t
    refine XS.aloadN X0.here hx rfl (hb hby own_d1_5) rfl rfl ?_
    show Steps p.tables e below (s₁.setTop (mkF m 6 #[.val (.ref ra), .val (.int (0 : Int32)), .val (.int (0 : Int32)), .unset, .unset, .unset] [(.ref ra), (.int (0 : Int32))])) t
    refine X0.arraylength hx (by rw [e0]; exact Ar1.1) (State.isArrayOf_alike hZ.alike Ar1.2.1) (g := (mkF m 6 #[.val (.ref ra), .val (.int (0 : Int32)), .val (.int (0 : Int32)), .unset, .unset, .unset] [(.ref ra), (.int (0 : Int32))])) rfl rfl (hb hby own_d1_6) _ ?_
    rw [len_of S1 N1]
    show Steps p.tables e below (s₁.setTop (mkF m 7 #[.val (.ref ra), .val (.int (0 : Int32)), .val (.int (0 : Int32)), .unset, .unset, .unset] [(.int (0 : Int32)), (.int (0 : Int32))])) t
    refine XS.icmpYes X0.here hx rfl (pc0 := 7) (pc' := 30) rfl (hb hby own_d1_7) rfl (flt hc2).2.1 (by decide) (by decide) ?_
    show Steps p.tables e below (s₁.setTop (mkF m 30 #[.val (.ref ra), .val (.int (0 : Int32)), .val (.int (0 : Int32)), .unset, .unset, .unset] [])) t
    refine XS.iloadN X0.here hx rfl (hb hby own_d1_30) rfl ?_
    exact k)
  obtain ⟨T5, h5, k5, X5, e5, E5, A5, st5⟩ := newP X0 hx hZ (hw _ (List.mem_of_getElem? (i := 3) rfl)) e0 (g := (mkF m 31 #[.val (.ref ra), .val (.int (0 : Int32)), .val (.int (0 : Int32)), .unset, .unset, .unset] [(.int (0 : Int32))])) rfl (hb hby own_d1_31) rfl (by decide) (cap := 0) (by decide) (by decide) (by decide) (by decide)
  obtain ⟨b5, g5⟩ : ∃ z, z = h0.size := ⟨_, rfl⟩
  rw [← g5] at A5 st5
  have ne6 : own_Ne ra b5 := Nat.ne_of_lt (Nat.lt_of_lt_of_le P_0.lt (Nat.le_of_eq g5.symm))
  have gb7 : own_Le n0 b5 := Nat.le_trans Z0 (Nat.le_of_eq g5.symm)
  have sb8 : own_Le h0.size b5 := Nat.le_trans (Keep.refl h0 []).1 (Nat.le_of_eq g5.symm)
  have F9 := P_0.ext E5
  have Z10 : own_Le n0 h5.size := Nat.le_trans Z0 E5.1
  have Kp11 : Keep h0 h5 [] := Keep.ext (Keep.refl h0 []) E5
  have V12 : own_Arf Z h5 b5 .int (0 : Int32) (fun _ => (0 : Int32)) := own_Arf.new A5 (by decide) rfl
  have K13 : ∀ t, Steps p.tables e below (T5.setTop (mkF m 33 #[.val (.ref ra), .val (.int (0 : Int32)), .val (.int (0 : Int32)), .unset, .unset, .unset] [(.ref b5)])) t → Steps p.tables e below (s₁.setTop (entryFrame m #[(.ref ra)] 6)) t := fun t k => K4 t (st5 _ k)
  obtain ⟨cl14, Ar14, S14, N14, Hs14⟩ := id F9
  have hc15 : ¬ ((0 : Int32) < (0 : Int32)) := by
    have q16 := (by decide : (0 : Int32).toInt = 0)
    rw [Int32.lt_iff_toInt_lt]; omega
  have K17 : ∀ t, Steps p.tables e below (T5.setTop (mkF m 84 #[.val (.ref ra), .val (.int (0 : Int32)), .val (.ref b5), .val (.int (0 : Int32)), .val (.int (0 : Int32)), .unset] [(.ref b5)])) t → Steps p.tables e below (s₁.setTop (entryFrame m #[(.ref ra)] 6)) t := fun t k => K13 t (by
    show Steps p.tables e below (T5.setTop (mkF m 33 #[.val (.ref ra), .val (.int (0 : Int32)), .val (.int (0 : Int32)), .unset, .unset, .unset] [(.ref b5)])) t
    refine XS.astoreN X5.here hx rfl (hb hby own_d1_33) rfl rfl (l' := #[.val (.ref ra), .val (.int (0 : Int32)), .val (.ref b5), .unset, .unset, .unset]) rfl ?_
    show Steps p.tables e below (T5.setTop (mkF m 34 #[.val (.ref ra), .val (.int (0 : Int32)), .val (.ref b5), .unset, .unset, .unset] [])) t
    refine XS.iconst X5.here hx rfl (hb hby own_d1_34) ?_
    show Steps p.tables e below (T5.setTop (mkF m 35 #[.val (.ref ra), .val (.int (0 : Int32)), .val (.ref b5), .unset, .unset, .unset] [(.int (0 : Int32))])) t
    refine XS.istoreN X5.here hx rfl (hb hby own_d1_35) rfl (l' := #[.val (.ref ra), .val (.int (0 : Int32)), .val (.ref b5), .val (.int (0 : Int32)), .unset, .unset]) rfl ?_
    show Steps p.tables e below (T5.setTop (mkF m 36 #[.val (.ref ra), .val (.int (0 : Int32)), .val (.ref b5), .val (.int (0 : Int32)), .unset, .unset] [])) t
    refine XS.iconst X5.here hx rfl (hb hby own_d1_36) ?_
    show Steps p.tables e below (T5.setTop (mkF m 37 #[.val (.ref ra), .val (.int (0 : Int32)), .val (.ref b5), .val (.int (0 : Int32)), .unset, .unset] [(.int (0 : Int32))])) t
    refine XS.istore X5.here hx rfl (hb hby own_d1_37) rfl (l' := #[.val (.ref ra), .val (.int (0 : Int32)), .val (.ref b5), .val (.int (0 : Int32)), .val (.int (0 : Int32)), .unset]) rfl ?_
    show Steps p.tables e below (T5.setTop (mkF m 39 #[.val (.ref ra), .val (.int (0 : Int32)), .val (.ref b5), .val (.int (0 : Int32)), .val (.int (0 : Int32)), .unset] [])) t
    refine XS.iload X5.here hx rfl (hb hby own_d1_39) rfl ?_
    show Steps p.tables e below (T5.setTop (mkF m 41 #[.val (.ref ra), .val (.int (0 : Int32)), .val (.ref b5), .val (.int (0 : Int32)), .val (.int (0 : Int32)), .unset] [(.int (0 : Int32))])) t
    refine XS.aloadN X5.here hx rfl (hb hby own_d1_41) rfl rfl ?_
    show Steps p.tables e below (T5.setTop (mkF m 42 #[.val (.ref ra), .val (.int (0 : Int32)), .val (.ref b5), .val (.int (0 : Int32)), .val (.int (0 : Int32)), .unset] [(.ref ra), (.int (0 : Int32))])) t
    refine X5.arraylength hx (by rw [e5]; exact Ar14.1) (State.isArrayOf_alike hZ.alike Ar14.2.1) (g := (mkF m 42 #[.val (.ref ra), .val (.int (0 : Int32)), .val (.ref b5), .val (.int (0 : Int32)), .val (.int (0 : Int32)), .unset] [(.ref ra), (.int (0 : Int32))])) rfl rfl (hb hby own_d1_42) _ ?_
    rw [len_of S14 N14]
    show Steps p.tables e below (T5.setTop (mkF m 43 #[.val (.ref ra), .val (.int (0 : Int32)), .val (.ref b5), .val (.int (0 : Int32)), .val (.int (0 : Int32)), .unset] [(.int (0 : Int32)), (.int (0 : Int32))])) t
    refine XS.icmpYes X5.here hx rfl (pc0 := 43) (pc' := 83) rfl (hb hby own_d1_43) rfl (flt hc15).2.1 (by decide) (by decide) ?_
    show Steps p.tables e below (T5.setTop (mkF m 83 #[.val (.ref ra), .val (.int (0 : Int32)), .val (.ref b5), .val (.int (0 : Int32)), .val (.int (0 : Int32)), .unset] [])) t
    refine XS.aloadN X5.here hx rfl (hb hby own_d1_83) rfl rfl ?_
    exact k)
  obtain ⟨fs, hr, hrun, hended, hW, hsame⟩ := X5.leave (v := some (.ref b5)) (fun h => by rw [Bd.returns] at h; cases h)
  refine ⟨_, _, K17 _ ?_, hrun, hended, _, _, rfl, ?_, ⟨_, rfl⟩, hW, hsame.mono (by decide) (by decide)⟩
  · jvm_step X5.here [X5.here.top, hx, (hb hby own_d1_84), X5.method', Bd.returns, Value.isRef, FieldType.isReference]
    first | (intro acts; rw [hr _ acts rfl rfl rfl]) | rw [hr _ _ rfl rfl rfl]
    exact Steps.refl _
  · show Q_rmE0 Z ra g h0 n0 _ T5.heap _
    rw [e5]
    exact ⟨b5, (0 : Int32), (fun _ => (0 : Int32)), rfl, (by decide), N0, Kp11, sb8, V12⟩
def Q_rmE1 (Z : State) (ra : Addr) (g : Nat → Int32) (h0 : Heap) (n0 : Nat) (v : Option Value) (h : Heap) (L : List Loc) : Prop := ∃ (pa : Addr), ∃ (z : Int32), ∃ (f : Nat → Int32), v = some (.ref pa) ∧ (z.toInt = ((g 1).toInt - (g 0).toInt + 1) ∧ (∀ i : Nat, (i : Int) < ((g 1).toInt - (g 0).toInt + 1) → (f i).toInt = (g 0).toInt + (i : Int))) ∧ Fr n0 L ∧ Keep h0 h [] ∧ own_Le h0.size pa ∧ own_Arf Z h pa .int z f
theorem own_ef_rmE1 (m : MethodId) (ra : Addr) : entryFrame m #[(.ref ra)] 6 = mkF m 0 #[.val (.ref ra), .unset, .unset, .unset, .unset, .unset] [] := by first | (simp [entryFrame, mkF, argsToLocals, Value.category]; done) | rfl
set_option maxRecDepth 65536 in
set_option maxHeartbeats 40000000 in
theorem rmE1 (l : Launch) (Z : State) (a0 : Array Value) (hw : ∀ d ∈ tables_1, d.before a0 Z = true) (ws : List Jvm.Cond) (ra : Addr) (g : Nat → Int32) (h0 : Heap) (n0 : Nat) (Z0 : own_Le n0 h0.size) (P_0 : own_Arf Z h0 ra .int (2 : Int32) g) (P_1 : 0 ≤ (g 0).toInt ∧ (g 0).toInt ≤ (g 1).toInt ∧ (g 1).toInt ≤ (g 0).toInt + 3 ∧ (g 1).toInt ≤ 2147483643) :
    MetFree l (⟨"com/example/omegaprobe/omegaprobe/graph/StateSets", "expand", "([I)[I"⟩ : MethodName) (head1 (Jvm.Cond.code (⟨"com/example/omegaprobe/omegaprobe/graph/StateSets", "expand", "([I)[I"⟩ : MethodName) prog_176_method_10_code 6 (some (.array .int)) :: ws) ({ frames := 0, cells := 1, slots := 8, locals := 0 } : Room)) (fun a U => a = #[(.ref ra)] ∧ Z.Warmed39 U.vm ∧ U.heap = h0) (fun _ _ _ _ _ => True) (fun _ U o U' => ∃ v L, o = .returned v ∧ Q_rmE1 Z ra g h0 n0 v U'.heap L ∧ FrameEnd U o U' L ({ frames := 0, cells := 1, slots := 8, locals := 0 } : Room).cells ({ frames := 0, cells := 1, slots := 8, locals := 0 } : Room).slots) := by
  refine MetFree.of_bodySF (plainFor_of_name own_pn0) hisR ?_
  intro p e s m args below meth c s₁ Bd hml0 hP hK
  obtain ⟨rfl, hZ, hh⟩ := hP
  have hx := Bd.exec
  have hby := Bd.bytes
  have hml : c.maxLocals = 6 := hml0
  have hown : s.vm.findClass "com/example/omegaprobe/omegaprobe/graph/StateSets" = some m.cls := findClass_of_methodNamed Bd.named
  have hnm := (name_of_methodNamed Bd.named Bd.method).1
  have X0 : Stand p l e ({ frames := 0, cells := 1, slots := 8, locals := 0 } : Room) s m #[(.ref ra)] below meth c s₁ [] 0 0 := Stand.of_body Bd
  have e0 : s₁.heap = h0 := by rw [← hh, Bd.state]; rfl
  have N0 := Fr.nil n0
  have pre0 : ∀ t, Steps p.tables e below (s₁.setTop (mkF m 0 #[.val (.ref ra), .unset, .unset, .unset, .unset, .unset] [])) t → Steps p.tables e below (s₁.setTop (entryFrame m #[(.ref ra)] 6)) t := fun t k => castTop (own_ef_rmE1 m ra) k
  obtain ⟨cl18, Ar18, S18, N18, Hs18⟩ := id P_0
  have hc19 : (0 : Int32) < (2 : Int32) := by
    have q20 := (by decide : (0 : Int32).toInt = 0)
    have q21 := (by decide : (2 : Int32).toInt = 2)
    rw [Int32.lt_iff_toInt_lt]; omega
  have q23 : ¬ (1 : Int32) < 0 ∧ (1 : Int32) < (2 : Int32) := by
    have q24 := (by decide : (1 : Int32).toInt = 1)
    have q25 := (by decide : (2 : Int32).toInt = 2)
    rw [Int32.lt_iff_toInt_lt, Int32.lt_iff_toInt_lt]; have q0 : (0 : Int32).toInt = 0 := rfl; omega
  obtain ⟨cl22, Ar22, S22, N22, Hs22⟩ := id P_0
  have hin22 : ¬ ((1 : Int32) < 0 ∨ cl22.slots.size ≤ ((1 : Int32)).toNatClampNeg) := inb_of S22 q23
  have hat22 : cl22.slots[((1 : Int32)).toNatClampNeg]? = some (.int (g 1)) := own_at Hs22 S22 hin22 (rfl)
  have q27 : ¬ (0 : Int32) < 0 ∧ (0 : Int32) < (2 : Int32) := by
    have q28 := (by decide : (0 : Int32).toInt = 0)
    have q29 := (by decide : (2 : Int32).toInt = 2)
    rw [Int32.lt_iff_toInt_lt, Int32.lt_iff_toInt_lt]; have q0 : (0 : Int32).toInt = 0 := rfl; omega
  obtain ⟨cl26, Ar26, S26, N26, Hs26⟩ := id P_0
  have hin26 : ¬ ((0 : Int32) < 0 ∨ cl26.slots.size ≤ ((0 : Int32)).toNatClampNeg) := inb_of S26 q27
  have hat26 : cl26.slots[((0 : Int32)).toNatClampNeg]? = some (.int (g 0)) := own_at Hs26 S26 hin26 (rfl)
  obtain ⟨cl30, Ar30, S30, N30, Hs30⟩ := id P_0
  have hc31 : ¬ ((2 : Int32) < (2 : Int32)) := by
    have q32 := (by decide : (2 : Int32).toInt = 2)
    rw [Int32.lt_iff_toInt_lt]; omega
  obtain ⟨p0a, p0b, p0c, p0d⟩ := P_1
  have K33 : ∀ t, Steps p.tables e below (s₁.setTop (mkF m 30 #[.val (.ref ra), .val (.int ((0 : Int32) + (((g 1) - (g 0)) + (1 : Int32)))), .val (.int (2 : Int32)), .unset, .unset, .unset] [])) t → Steps p.tables e below (s₁.setTop (entryFrame m #[(.ref ra)] 6)) t := fun t k => pre0 t (by
    show Steps p.tables e below (s₁.setTop (mkF m 0 #[.val (.ref ra), .unset, .unset, .unset, .unset, .unset] [])) t
    refine XS.iconst X0.here hx rfl (hb hby own_d1_0) ?_
    show Steps p.tables e below (s₁.setTop (mkF m 1 #[.val (.ref ra), .unset, .unset, .unset, .unset, .unset] [(.int (0 : Int32))])) t
    refine XS.istoreN X0.here hx rfl (hb hby own_d1_1) rfl (l' := #[.val (.ref ra), .val (.int (0 : Int32)), .unset, .unset, .unset, .unset]) rfl ?_
    show Steps p.tables e below (s₁.setTop (mkF m 2 #[.val (.ref ra), .val (.int (0 : Int32)), .unset, .unset, .unset, .unset] [])) t
    refine XS.iconst X0.here hx rfl (hb hby own_d1_2) ?_
    show Steps p.tables e below (s₁.setTop (mkF m 3 #[.val (.ref ra), .val (.int (0 : Int32)), .unset, .unset, .unset, .unset] [(.int (0 : Int32))])) t
    refine XS.istoreN X0.here hx rfl (hb hby own_d1_3) rfl (l' := #[.val (.ref ra), .val (.int (0 : Int32)), .val (.int (0 : Int32)), .unset, .unset, .unset]) rfl ?_
    show Steps p.tables e below (s₁.setTop (mkF m 4 #[.val (.ref ra), .val (.int (0 : Int32)), .val (.int (0 : Int32)), .unset, .unset, .unset] [])) t
    refine XS.iloadN X0.here hx rfl (hb hby own_d1_4) rfl ?_
    show Steps p.tables e below (s₁.setTop (mkF m 5 #[.val (.ref ra), .val (.int (0 : Int32)), .val (.int (0 : Int32)), .unset, .unset, .unset] [(.int (0 : Int32))])) t
    refine XS.aloadN X0.here hx rfl (hb hby own_d1_5) rfl rfl ?_
    show Steps p.tables e below (s₁.setTop (mkF m 6 #[.val (.ref ra), .val (.int (0 : Int32)), .val (.int (0 : Int32)), .unset, .unset, .unset] [(.ref ra), (.int (0 : Int32))])) t
    refine X0.arraylength hx (by rw [e0]; exact Ar18.1) (State.isArrayOf_alike hZ.alike Ar18.2.1) (g := (mkF m 6 #[.val (.ref ra), .val (.int (0 : Int32)), .val (.int (0 : Int32)), .unset, .unset, .unset] [(.ref ra), (.int (0 : Int32))])) rfl rfl (hb hby own_d1_6) _ ?_
    rw [len_of S18 N18]
    show Steps p.tables e below (s₁.setTop (mkF m 7 #[.val (.ref ra), .val (.int (0 : Int32)), .val (.int (0 : Int32)), .unset, .unset, .unset] [(.int (2 : Int32)), (.int (0 : Int32))])) t
    refine XS.icmpNo X0.here hx rfl (hb hby own_d1_7) rfl (tlt hc19).2.1 ?_
    show Steps p.tables e below (s₁.setTop (mkF m 10 #[.val (.ref ra), .val (.int (0 : Int32)), .val (.int (0 : Int32)), .unset, .unset, .unset] [])) t
    refine XS.iloadN X0.here hx rfl (hb hby own_d1_10) rfl ?_
    show Steps p.tables e below (s₁.setTop (mkF m 11 #[.val (.ref ra), .val (.int (0 : Int32)), .val (.int (0 : Int32)), .unset, .unset, .unset] [(.int (0 : Int32))])) t
    refine XS.aloadN X0.here hx rfl (hb hby own_d1_11) rfl rfl ?_
    show Steps p.tables e below (s₁.setTop (mkF m 12 #[.val (.ref ra), .val (.int (0 : Int32)), .val (.int (0 : Int32)), .unset, .unset, .unset] [(.ref ra), (.int (0 : Int32))])) t
    refine XS.iloadN X0.here hx rfl (hb hby own_d1_12) rfl ?_
    show Steps p.tables e below (s₁.setTop (mkF m 13 #[.val (.ref ra), .val (.int (0 : Int32)), .val (.int (0 : Int32)), .unset, .unset, .unset] [(.int (0 : Int32)), (.ref ra), (.int (0 : Int32))])) t
    refine XS.iconst X0.here hx rfl (hb hby own_d1_13) ?_
    show Steps p.tables e below (s₁.setTop (mkF m 14 #[.val (.ref ra), .val (.int (0 : Int32)), .val (.int (0 : Int32)), .unset, .unset, .unset] [(.int (1 : Int32)), (.int (0 : Int32)), (.ref ra), (.int (0 : Int32))])) t
    refine XS.iadd X0.here hx rfl (hb hby own_d1_14) rfl ?_
    show Steps p.tables e below (s₁.setTop (mkF m 15 #[.val (.ref ra), .val (.int (0 : Int32)), .val (.int (0 : Int32)), .unset, .unset, .unset] [(.int (1 : Int32)), (.ref ra), (.int (0 : Int32))])) t
    refine X0.iaload hx (j := (1 : Int32)) (v := (.int (g 1))) (by rw [e0]; exact Ar22.1) (State.isArrayOf_alike hZ.alike Ar22.2.1) Ar22.2.2 hin22 hat22 (g := (mkF m 15 #[.val (.ref ra), .val (.int (0 : Int32)), .val (.int (0 : Int32)), .unset, .unset, .unset] [(.int (1 : Int32)), (.ref ra), (.int (0 : Int32))])) rfl rfl (hb hby own_d1_15) _ ?_
    show Steps p.tables e below (s₁.setTop (mkF m 16 #[.val (.ref ra), .val (.int (0 : Int32)), .val (.int (0 : Int32)), .unset, .unset, .unset] [(.int (g 1)), (.int (0 : Int32))])) t
    refine XS.aloadN X0.here hx rfl (hb hby own_d1_16) rfl rfl ?_
    show Steps p.tables e below (s₁.setTop (mkF m 17 #[.val (.ref ra), .val (.int (0 : Int32)), .val (.int (0 : Int32)), .unset, .unset, .unset] [(.ref ra), (.int (g 1)), (.int (0 : Int32))])) t
    refine XS.iloadN X0.here hx rfl (hb hby own_d1_17) rfl ?_
    show Steps p.tables e below (s₁.setTop (mkF m 18 #[.val (.ref ra), .val (.int (0 : Int32)), .val (.int (0 : Int32)), .unset, .unset, .unset] [(.int (0 : Int32)), (.ref ra), (.int (g 1)), (.int (0 : Int32))])) t
    refine X0.iaload hx (j := (0 : Int32)) (v := (.int (g 0))) (by rw [e0]; exact Ar26.1) (State.isArrayOf_alike hZ.alike Ar26.2.1) Ar26.2.2 hin26 hat26 (g := (mkF m 18 #[.val (.ref ra), .val (.int (0 : Int32)), .val (.int (0 : Int32)), .unset, .unset, .unset] [(.int (0 : Int32)), (.ref ra), (.int (g 1)), (.int (0 : Int32))])) rfl rfl (hb hby own_d1_18) _ ?_
    show Steps p.tables e below (s₁.setTop (mkF m 19 #[.val (.ref ra), .val (.int (0 : Int32)), .val (.int (0 : Int32)), .unset, .unset, .unset] [(.int (g 0)), (.int (g 1)), (.int (0 : Int32))])) t
    refine XS.isub X0.here hx rfl (hb hby own_d1_19) rfl ?_
    show Steps p.tables e below (s₁.setTop (mkF m 20 #[.val (.ref ra), .val (.int (0 : Int32)), .val (.int (0 : Int32)), .unset, .unset, .unset] [(.int ((g 1) - (g 0))), (.int (0 : Int32))])) t
    refine XS.iconst X0.here hx rfl (hb hby own_d1_20) ?_
    show Steps p.tables e below (s₁.setTop (mkF m 21 #[.val (.ref ra), .val (.int (0 : Int32)), .val (.int (0 : Int32)), .unset, .unset, .unset] [(.int (1 : Int32)), (.int ((g 1) - (g 0))), (.int (0 : Int32))])) t
    refine XS.iadd X0.here hx rfl (hb hby own_d1_21) rfl ?_
    show Steps p.tables e below (s₁.setTop (mkF m 22 #[.val (.ref ra), .val (.int (0 : Int32)), .val (.int (0 : Int32)), .unset, .unset, .unset] [(.int (((g 1) - (g 0)) + (1 : Int32))), (.int (0 : Int32))])) t
    refine XS.iadd X0.here hx rfl (hb hby own_d1_22) rfl ?_
    show Steps p.tables e below (s₁.setTop (mkF m 23 #[.val (.ref ra), .val (.int (0 : Int32)), .val (.int (0 : Int32)), .unset, .unset, .unset] [(.int ((0 : Int32) + (((g 1) - (g 0)) + (1 : Int32))))])) t
    refine XS.istoreN X0.here hx rfl (hb hby own_d1_23) rfl (l' := #[.val (.ref ra), .val (.int ((0 : Int32) + (((g 1) - (g 0)) + (1 : Int32)))), .val (.int (0 : Int32)), .unset, .unset, .unset]) rfl ?_
    show Steps p.tables e below (s₁.setTop (mkF m 24 #[.val (.ref ra), .val (.int ((0 : Int32) + (((g 1) - (g 0)) + (1 : Int32)))), .val (.int (0 : Int32)), .unset, .unset, .unset] [])) t
    refine XS.iinc X0.here hx rfl (hb hby own_d1_24) rfl (l' := #[.val (.ref ra), .val (.int ((0 : Int32) + (((g 1) - (g 0)) + (1 : Int32)))), .val (.int (2 : Int32)), .unset, .unset, .unset]) rfl ?_
    show Steps p.tables e below (s₁.setTop (mkF m 27 #[.val (.ref ra), .val (.int ((0 : Int32) + (((g 1) - (g 0)) + (1 : Int32)))), .val (.int (2 : Int32)), .unset, .unset, .unset] [])) t
    refine XS.goto X0.here hx rfl (pc0 := 27) (pc' := 4) rfl (hb hby own_d1_27) (by decide) (by decide) ?_
    show Steps p.tables e below (s₁.setTop (mkF m 4 #[.val (.ref ra), .val (.int ((0 : Int32) + (((g 1) - (g 0)) + (1 : Int32)))), .val (.int (2 : Int32)), .unset, .unset, .unset] [])) t
    refine XS.iloadN X0.here hx rfl (hb hby own_d1_4) rfl ?_
    show Steps p.tables e below (s₁.setTop (mkF m 5 #[.val (.ref ra), .val (.int ((0 : Int32) + (((g 1) - (g 0)) + (1 : Int32)))), .val (.int (2 : Int32)), .unset, .unset, .unset] [(.int (2 : Int32))])) t
    refine XS.aloadN X0.here hx rfl (hb hby own_d1_5) rfl rfl ?_
    show Steps p.tables e below (s₁.setTop (mkF m 6 #[.val (.ref ra), .val (.int ((0 : Int32) + (((g 1) - (g 0)) + (1 : Int32)))), .val (.int (2 : Int32)), .unset, .unset, .unset] [(.ref ra), (.int (2 : Int32))])) t
    refine X0.arraylength hx (by rw [e0]; exact Ar30.1) (State.isArrayOf_alike hZ.alike Ar30.2.1) (g := (mkF m 6 #[.val (.ref ra), .val (.int ((0 : Int32) + (((g 1) - (g 0)) + (1 : Int32)))), .val (.int (2 : Int32)), .unset, .unset, .unset] [(.ref ra), (.int (2 : Int32))])) rfl rfl (hb hby own_d1_6) _ ?_
    rw [len_of S30 N30]
    show Steps p.tables e below (s₁.setTop (mkF m 7 #[.val (.ref ra), .val (.int ((0 : Int32) + (((g 1) - (g 0)) + (1 : Int32)))), .val (.int (2 : Int32)), .unset, .unset, .unset] [(.int (2 : Int32)), (.int (2 : Int32))])) t
    refine XS.icmpYes X0.here hx rfl (pc0 := 7) (pc' := 30) rfl (hb hby own_d1_7) rfl (flt hc31).2.1 (by decide) (by decide) ?_
    exact k)
  obtain ⟨sz_34, Sp34, K45⟩ : ∃ (sz_34 : Int32), (sz_34.toInt = ((g 1).toInt - (g 0).toInt + 1)) ∧ ∀ t, Steps p.tables e below (s₁.setTop (mkF m 30 #[.val (.ref ra), .val (.int sz_34), .val (.int (2 : Int32)), .unset, .unset, .unset] [])) t → Steps p.tables e below (s₁.setTop (entryFrame m #[(.ref ra)] 6)) t := by
    refine ⟨((0 : Int32) + (((g 1) - (g 0)) + (1 : Int32))), ?_, K33⟩
    have q35 := (by decide : (0 : Int32).toInt = 0)
    have q36 := rng32 (g 1)
    have q37 := rng32 (g 0)
    have q38 := c_isub (g 1) (g 0)
    have q39 := rng32 ((g 1) - (g 0))
    have q40 := (by decide : (1 : Int32).toInt = 1)
    have q41 := c_iadd ((g 1) - (g 0)) (1 : Int32)
    have q42 := rng32 (((g 1) - (g 0)) + (1 : Int32))
    have q43 := c_iadd (0 : Int32) (((g 1) - (g 0)) + (1 : Int32))
    have q44 := rng32 ((0 : Int32) + (((g 1) - (g 0)) + (1 : Int32)))
    omega
  have q46 : ¬ sz_34 < 0 := by
    have q48 := rng32 sz_34
    rw [Int32.lt_iff_toInt_lt]; have q0 : (0 : Int32).toInt = 0 := rfl; omega
  have q47 : sz_34.toNatClampNeg ≤ 8 := by
    have q49 := rng32 sz_34
    have q0 := nat_of q46; omega
  have K50 : ∀ t, Steps p.tables e below (s₁.setTop (mkF m 31 #[.val (.ref ra), .val (.int sz_34), .val (.int (2 : Int32)), .unset, .unset, .unset] [(.int sz_34)])) t → Steps p.tables e below (s₁.setTop (entryFrame m #[(.ref ra)] 6)) t := fun t k => K45 t (by
    show Steps p.tables e below (s₁.setTop (mkF m 30 #[.val (.ref ra), .val (.int sz_34), .val (.int (2 : Int32)), .unset, .unset, .unset] [])) t
    refine XS.iloadN X0.here hx rfl (hb hby own_d1_30) rfl ?_
    exact k)
  obtain ⟨T51, h51, k51, X51, e51, E51, A51, st51⟩ := newP X0 hx hZ (hw _ (List.mem_of_getElem? (i := 3) rfl)) e0 (g := (mkF m 31 #[.val (.ref ra), .val (.int sz_34), .val (.int (2 : Int32)), .unset, .unset, .unset] [(.int sz_34)])) rfl (hb hby own_d1_31) rfl q46 (cap := 8) q47 (by decide) (by decide) (by decide)
  obtain ⟨b51, g51⟩ : ∃ z, z = h0.size := ⟨_, rfl⟩
  rw [← g51] at A51 st51
  have ne52 : own_Ne ra b51 := Nat.ne_of_lt (Nat.lt_of_lt_of_le P_0.lt (Nat.le_of_eq g51.symm))
  have gb53 : own_Le n0 b51 := Nat.le_trans Z0 (Nat.le_of_eq g51.symm)
  have sb54 : own_Le h0.size b51 := Nat.le_trans (Keep.refl h0 []).1 (Nat.le_of_eq g51.symm)
  have F55 := P_0.ext E51
  have Z56 : own_Le n0 h51.size := Nat.le_trans Z0 E51.1
  have Kp57 : Keep h0 h51 [] := Keep.ext (Keep.refl h0 []) E51
  have V58 : own_Arf Z h51 b51 .int sz_34 (fun _ => (0 : Int32)) := own_Arf.new A51 q46 rfl
  have K59 : ∀ t, Steps p.tables e below (T51.setTop (mkF m 33 #[.val (.ref ra), .val (.int sz_34), .val (.int (2 : Int32)), .unset, .unset, .unset] [(.ref b51)])) t → Steps p.tables e below (s₁.setTop (entryFrame m #[(.ref ra)] 6)) t := fun t k => K50 t (st51 _ k)
  obtain ⟨cl60, Ar60, S60, N60, Hs60⟩ := id F55
  have hc61 : (0 : Int32) < (2 : Int32) := by
    have q62 := (by decide : (0 : Int32).toInt = 0)
    have q63 := (by decide : (2 : Int32).toInt = 2)
    rw [Int32.lt_iff_toInt_lt]; omega
  have q65 : ¬ (0 : Int32) < 0 ∧ (0 : Int32) < (2 : Int32) := by
    have q66 := (by decide : (0 : Int32).toInt = 0)
    have q67 := (by decide : (2 : Int32).toInt = 2)
    rw [Int32.lt_iff_toInt_lt, Int32.lt_iff_toInt_lt]; have q0 : (0 : Int32).toInt = 0 := rfl; omega
  obtain ⟨cl64, Ar64, S64, N64, Hs64⟩ := id F55
  have hin64 : ¬ ((0 : Int32) < 0 ∨ cl64.slots.size ≤ ((0 : Int32)).toNatClampNeg) := inb_of S64 q65
  have hat64 : cl64.slots[((0 : Int32)).toNatClampNeg]? = some (.int (g 0)) := own_at Hs64 S64 hin64 (rfl)
  have K68 : ∀ t, Steps p.tables e below (T51.setTop (mkF m 52 #[.val (.ref ra), .val (.int sz_34), .val (.ref b51), .val (.int (0 : Int32)), .val (.int (0 : Int32)), .val (.int (g 0))] [])) t → Steps p.tables e below (s₁.setTop (entryFrame m #[(.ref ra)] 6)) t := fun t k => K59 t (by
    show Steps p.tables e below (T51.setTop (mkF m 33 #[.val (.ref ra), .val (.int sz_34), .val (.int (2 : Int32)), .unset, .unset, .unset] [(.ref b51)])) t
    refine XS.astoreN X51.here hx rfl (hb hby own_d1_33) rfl rfl (l' := #[.val (.ref ra), .val (.int sz_34), .val (.ref b51), .unset, .unset, .unset]) rfl ?_
    show Steps p.tables e below (T51.setTop (mkF m 34 #[.val (.ref ra), .val (.int sz_34), .val (.ref b51), .unset, .unset, .unset] [])) t
    refine XS.iconst X51.here hx rfl (hb hby own_d1_34) ?_
    show Steps p.tables e below (T51.setTop (mkF m 35 #[.val (.ref ra), .val (.int sz_34), .val (.ref b51), .unset, .unset, .unset] [(.int (0 : Int32))])) t
    refine XS.istoreN X51.here hx rfl (hb hby own_d1_35) rfl (l' := #[.val (.ref ra), .val (.int sz_34), .val (.ref b51), .val (.int (0 : Int32)), .unset, .unset]) rfl ?_
    show Steps p.tables e below (T51.setTop (mkF m 36 #[.val (.ref ra), .val (.int sz_34), .val (.ref b51), .val (.int (0 : Int32)), .unset, .unset] [])) t
    refine XS.iconst X51.here hx rfl (hb hby own_d1_36) ?_
    show Steps p.tables e below (T51.setTop (mkF m 37 #[.val (.ref ra), .val (.int sz_34), .val (.ref b51), .val (.int (0 : Int32)), .unset, .unset] [(.int (0 : Int32))])) t
    refine XS.istore X51.here hx rfl (hb hby own_d1_37) rfl (l' := #[.val (.ref ra), .val (.int sz_34), .val (.ref b51), .val (.int (0 : Int32)), .val (.int (0 : Int32)), .unset]) rfl ?_
    show Steps p.tables e below (T51.setTop (mkF m 39 #[.val (.ref ra), .val (.int sz_34), .val (.ref b51), .val (.int (0 : Int32)), .val (.int (0 : Int32)), .unset] [])) t
    refine XS.iload X51.here hx rfl (hb hby own_d1_39) rfl ?_
    show Steps p.tables e below (T51.setTop (mkF m 41 #[.val (.ref ra), .val (.int sz_34), .val (.ref b51), .val (.int (0 : Int32)), .val (.int (0 : Int32)), .unset] [(.int (0 : Int32))])) t
    refine XS.aloadN X51.here hx rfl (hb hby own_d1_41) rfl rfl ?_
    show Steps p.tables e below (T51.setTop (mkF m 42 #[.val (.ref ra), .val (.int sz_34), .val (.ref b51), .val (.int (0 : Int32)), .val (.int (0 : Int32)), .unset] [(.ref ra), (.int (0 : Int32))])) t
    refine X51.arraylength hx (by rw [e51]; exact Ar60.1) (State.isArrayOf_alike hZ.alike Ar60.2.1) (g := (mkF m 42 #[.val (.ref ra), .val (.int sz_34), .val (.ref b51), .val (.int (0 : Int32)), .val (.int (0 : Int32)), .unset] [(.ref ra), (.int (0 : Int32))])) rfl rfl (hb hby own_d1_42) _ ?_
    rw [len_of S60 N60]
    show Steps p.tables e below (T51.setTop (mkF m 43 #[.val (.ref ra), .val (.int sz_34), .val (.ref b51), .val (.int (0 : Int32)), .val (.int (0 : Int32)), .unset] [(.int (2 : Int32)), (.int (0 : Int32))])) t
    refine XS.icmpNo X51.here hx rfl (hb hby own_d1_43) rfl (tlt hc61).2.1 ?_
    show Steps p.tables e below (T51.setTop (mkF m 46 #[.val (.ref ra), .val (.int sz_34), .val (.ref b51), .val (.int (0 : Int32)), .val (.int (0 : Int32)), .unset] [])) t
    refine XS.aloadN X51.here hx rfl (hb hby own_d1_46) rfl rfl ?_
    show Steps p.tables e below (T51.setTop (mkF m 47 #[.val (.ref ra), .val (.int sz_34), .val (.ref b51), .val (.int (0 : Int32)), .val (.int (0 : Int32)), .unset] [(.ref ra)])) t
    refine XS.iload X51.here hx rfl (hb hby own_d1_47) rfl ?_
    show Steps p.tables e below (T51.setTop (mkF m 49 #[.val (.ref ra), .val (.int sz_34), .val (.ref b51), .val (.int (0 : Int32)), .val (.int (0 : Int32)), .unset] [(.int (0 : Int32)), (.ref ra)])) t
    refine X51.iaload hx (j := (0 : Int32)) (v := (.int (g 0))) (by rw [e51]; exact Ar64.1) (State.isArrayOf_alike hZ.alike Ar64.2.1) Ar64.2.2 hin64 hat64 (g := (mkF m 49 #[.val (.ref ra), .val (.int sz_34), .val (.ref b51), .val (.int (0 : Int32)), .val (.int (0 : Int32)), .unset] [(.int (0 : Int32)), (.ref ra)])) rfl rfl (hb hby own_d1_49) _ ?_
    show Steps p.tables e below (T51.setTop (mkF m 50 #[.val (.ref ra), .val (.int sz_34), .val (.ref b51), .val (.int (0 : Int32)), .val (.int (0 : Int32)), .unset] [(.int (g 0))])) t
    refine XS.istore X51.here hx rfl (hb hby own_d1_50) rfl (l' := #[.val (.ref ra), .val (.int sz_34), .val (.ref b51), .val (.int (0 : Int32)), .val (.int (0 : Int32)), .val (.int (g 0))]) rfl ?_
    exact k)
  have loop69 : ∀ (d : Nat) (T : State) (Lc : List Loc) (h : Heap) (ff : Nat → Int32) (nx : Int32) (sx : Int32), Stand p l e ({ frames := 0, cells := 1, slots := 8, locals := 0 } : Room) s m #[(.ref ra)] below meth c T Lc 1 8 → T.heap = h → Fr n0 Lc → Keep h0 h [] → own_Le n0 h.size → own_Arf Z h ra .int (2 : Int32) g → own_Arf Z h b51 .int sz_34 ff → (nx.toInt = 0 + (sx.toInt - (g 0).toInt) ∧ sx.toInt + ((d : Nat) : Int) = (g 1).toInt + 1 ∧ (g 0).toInt ≤ sx.toInt ∧ (∀ j : Nat, (j : Int) < 0 → ff j = (fun _ => (0 : Int32)) j) ∧ (∀ j : Nat, 0 ≤ (j : Int) → (j : Int) < nx.toInt → (ff j).toInt = (g 0).toInt + ((j : Int) - 0))) → ∃ (T' : State) (Lc' : List Loc) (h' : Heap) (ff' : Nat → Int32) (nx' : Int32) (sx' : Int32), Stand p l e ({ frames := 0, cells := 1, slots := 8, locals := 0 } : Room) s m #[(.ref ra)] below meth c T' Lc' 1 8 ∧ T'.heap = h' ∧ Fr n0 Lc' ∧ Keep h0 h' [] ∧ own_Le n0 h'.size ∧ own_Arf Z h' ra .int (2 : Int32) g ∧ own_Arf Z h' b51 .int sz_34 ff' ∧ (nx'.toInt = 0 + ((g 1).toInt - (g 0).toInt + 1) ∧ (∀ j : Nat, (j : Int) < 0 → ff' j = (fun _ => (0 : Int32)) j) ∧ (∀ j : Nat, 0 ≤ (j : Int) → (j : Int) < 0 + ((g 1).toInt - (g 0).toInt + 1) → (ff' j).toInt = (g 0).toInt + ((j : Int) - 0))) ∧ ∀ t, Steps p.tables e below (T'.setTop (mkF m 77 #[.val (.ref ra), .val (.int sz_34), .val (.ref b51), .val (.int nx'), .val (.int (0 : Int32)), .val (.int sx')] [])) t → Steps p.tables e below (T.setTop (mkF m 52 #[.val (.ref ra), .val (.int sz_34), .val (.ref b51), .val (.int nx), .val (.int (0 : Int32)), .val (.int sx)] [])) t := by
    intro d
    induction d with
    | zero =>
      intro T Lc h ff nx sx Xl el Nl Kl Zl Fl0 Fl1 hI
      have idK : ∀ t, Steps p.tables e below (T.setTop (mkF m 52 #[.val (.ref ra), .val (.int sz_34), .val (.ref b51), .val (.int nx), .val (.int (0 : Int32)), .val (.int sx)] [])) t → Steps p.tables e below (T.setTop (mkF m 52 #[.val (.ref ra), .val (.int sz_34), .val (.ref b51), .val (.int nx), .val (.int (0 : Int32)), .val (.int sx)] [])) t := fun _ k => k
      obtain ⟨hI1, hI2, hI3, hI4, hI5⟩ := hI
      have hcl := own_clamp (j := nx) (by omega)
      have q71 : ¬ (1 : Int32) < 0 ∧ (1 : Int32) < (2 : Int32) := by
        have q72 := rng32 nx
        have q73 := rng32 sx
        have q74 := (by decide : (1 : Int32).toInt = 1)
        have q75 := (by decide : (2 : Int32).toInt = 2)
        rw [Int32.lt_iff_toInt_lt, Int32.lt_iff_toInt_lt]; have q0 : (0 : Int32).toInt = 0 := rfl; omega
      obtain ⟨cl70, Ar70, S70, N70, Hs70⟩ := id Fl0
      have hin70 : ¬ ((1 : Int32) < 0 ∨ cl70.slots.size ≤ ((1 : Int32)).toNatClampNeg) := inb_of S70 q71
      have hat70 : cl70.slots[((1 : Int32)).toNatClampNeg]? = some (.int (g 1)) := own_at Hs70 S70 hin70 (rfl)
      have hc76 : (g 1) < sx := by
        have q77 := rng32 nx
        have q78 := rng32 sx
        have q79 := rng32 (g 1)
        rw [Int32.lt_iff_toInt_lt]; omega
      have K80 : ∀ t, Steps p.tables e below (T.setTop (mkF m 77 #[.val (.ref ra), .val (.int sz_34), .val (.ref b51), .val (.int nx), .val (.int (0 : Int32)), .val (.int sx)] [])) t → Steps p.tables e below (T.setTop (mkF m 52 #[.val (.ref ra), .val (.int sz_34), .val (.ref b51), .val (.int nx), .val (.int (0 : Int32)), .val (.int sx)] [])) t := fun t k => idK t (by
        show Steps p.tables e below (T.setTop (mkF m 52 #[.val (.ref ra), .val (.int sz_34), .val (.ref b51), .val (.int nx), .val (.int (0 : Int32)), .val (.int sx)] [])) t
        refine XS.iload Xl.here hx rfl (hb hby own_d1_52) rfl ?_
        show Steps p.tables e below (T.setTop (mkF m 54 #[.val (.ref ra), .val (.int sz_34), .val (.ref b51), .val (.int nx), .val (.int (0 : Int32)), .val (.int sx)] [(.int sx)])) t
        refine XS.aloadN Xl.here hx rfl (hb hby own_d1_54) rfl rfl ?_
        show Steps p.tables e below (T.setTop (mkF m 55 #[.val (.ref ra), .val (.int sz_34), .val (.ref b51), .val (.int nx), .val (.int (0 : Int32)), .val (.int sx)] [(.ref ra), (.int sx)])) t
        refine XS.iload Xl.here hx rfl (hb hby own_d1_55) rfl ?_
        show Steps p.tables e below (T.setTop (mkF m 57 #[.val (.ref ra), .val (.int sz_34), .val (.ref b51), .val (.int nx), .val (.int (0 : Int32)), .val (.int sx)] [(.int (0 : Int32)), (.ref ra), (.int sx)])) t
        refine XS.iconst Xl.here hx rfl (hb hby own_d1_57) ?_
        show Steps p.tables e below (T.setTop (mkF m 58 #[.val (.ref ra), .val (.int sz_34), .val (.ref b51), .val (.int nx), .val (.int (0 : Int32)), .val (.int sx)] [(.int (1 : Int32)), (.int (0 : Int32)), (.ref ra), (.int sx)])) t
        refine XS.iadd Xl.here hx rfl (hb hby own_d1_58) rfl ?_
        show Steps p.tables e below (T.setTop (mkF m 59 #[.val (.ref ra), .val (.int sz_34), .val (.ref b51), .val (.int nx), .val (.int (0 : Int32)), .val (.int sx)] [(.int (1 : Int32)), (.ref ra), (.int sx)])) t
        refine Xl.iaload hx (j := (1 : Int32)) (v := (.int (g 1))) (by rw [el]; exact Ar70.1) (State.isArrayOf_alike hZ.alike Ar70.2.1) Ar70.2.2 hin70 hat70 (g := (mkF m 59 #[.val (.ref ra), .val (.int sz_34), .val (.ref b51), .val (.int nx), .val (.int (0 : Int32)), .val (.int sx)] [(.int (1 : Int32)), (.ref ra), (.int sx)])) rfl rfl (hb hby own_d1_59) _ ?_
        show Steps p.tables e below (T.setTop (mkF m 60 #[.val (.ref ra), .val (.int sz_34), .val (.ref b51), .val (.int nx), .val (.int (0 : Int32)), .val (.int sx)] [(.int (g 1)), (.int sx)])) t
        refine XS.icmpYes Xl.here hx rfl (pc0 := 60) (pc' := 77) rfl (hb hby own_d1_60) rfl (tlt hc76).2.2.1 (by decide) (by decide) ?_
        exact k)
      have q81 := rng32 nx
      have q82 := rng32 sx
      exact ⟨T, _, h, ff, nx, sx, Xl, el, Nl, Kl, Zl, Fl0, Fl1, (by exact ⟨by omega, hI4, fun j h1 h2 => hI5 j h1 (by omega)⟩), K80⟩
    | succ d ih =>
      intro T Lc h ff nx sx Xl el Nl Kl Zl Fl0 Fl1 hI
      have idK : ∀ t, Steps p.tables e below (T.setTop (mkF m 52 #[.val (.ref ra), .val (.int sz_34), .val (.ref b51), .val (.int nx), .val (.int (0 : Int32)), .val (.int sx)] [])) t → Steps p.tables e below (T.setTop (mkF m 52 #[.val (.ref ra), .val (.int sz_34), .val (.ref b51), .val (.int nx), .val (.int (0 : Int32)), .val (.int sx)] [])) t := fun _ k => k
      obtain ⟨hI1, hI2, hI3, hI4, hI5⟩ := hI
      have hcl := own_clamp (j := nx) (by omega)
      have q84 : ¬ (1 : Int32) < 0 ∧ (1 : Int32) < (2 : Int32) := by
        have q85 := rng32 nx
        have q86 := rng32 sx
        have q87 := (by decide : (1 : Int32).toInt = 1)
        have q88 := (by decide : (2 : Int32).toInt = 2)
        rw [Int32.lt_iff_toInt_lt, Int32.lt_iff_toInt_lt]; have q0 : (0 : Int32).toInt = 0 := rfl; omega
      obtain ⟨cl83, Ar83, S83, N83, Hs83⟩ := id Fl0
      have hin83 : ¬ ((1 : Int32) < 0 ∨ cl83.slots.size ≤ ((1 : Int32)).toNatClampNeg) := inb_of S83 q84
      have hat83 : cl83.slots[((1 : Int32)).toNatClampNeg]? = some (.int (g 1)) := own_at Hs83 S83 hin83 (rfl)
      have hc89 : ¬ ((g 1) < sx) := by
        have q90 := rng32 nx
        have q91 := rng32 sx
        have q92 := rng32 (g 1)
        rw [Int32.lt_iff_toInt_lt]; omega
      have K93 : ∀ t, Steps p.tables e below (T.setTop (mkF m 70 #[.val (.ref ra), .val (.int sz_34), .val (.ref b51), .val (.int (nx + (1 : Int32))), .val (.int (0 : Int32)), .val (.int sx)] [(.int sx), (.int nx), (.ref b51)])) t → Steps p.tables e below (T.setTop (mkF m 52 #[.val (.ref ra), .val (.int sz_34), .val (.ref b51), .val (.int nx), .val (.int (0 : Int32)), .val (.int sx)] [])) t := fun t k => idK t (by
        show Steps p.tables e below (T.setTop (mkF m 52 #[.val (.ref ra), .val (.int sz_34), .val (.ref b51), .val (.int nx), .val (.int (0 : Int32)), .val (.int sx)] [])) t
        refine XS.iload Xl.here hx rfl (hb hby own_d1_52) rfl ?_
        show Steps p.tables e below (T.setTop (mkF m 54 #[.val (.ref ra), .val (.int sz_34), .val (.ref b51), .val (.int nx), .val (.int (0 : Int32)), .val (.int sx)] [(.int sx)])) t
        refine XS.aloadN Xl.here hx rfl (hb hby own_d1_54) rfl rfl ?_
        show Steps p.tables e below (T.setTop (mkF m 55 #[.val (.ref ra), .val (.int sz_34), .val (.ref b51), .val (.int nx), .val (.int (0 : Int32)), .val (.int sx)] [(.ref ra), (.int sx)])) t
        refine XS.iload Xl.here hx rfl (hb hby own_d1_55) rfl ?_
        show Steps p.tables e below (T.setTop (mkF m 57 #[.val (.ref ra), .val (.int sz_34), .val (.ref b51), .val (.int nx), .val (.int (0 : Int32)), .val (.int sx)] [(.int (0 : Int32)), (.ref ra), (.int sx)])) t
        refine XS.iconst Xl.here hx rfl (hb hby own_d1_57) ?_
        show Steps p.tables e below (T.setTop (mkF m 58 #[.val (.ref ra), .val (.int sz_34), .val (.ref b51), .val (.int nx), .val (.int (0 : Int32)), .val (.int sx)] [(.int (1 : Int32)), (.int (0 : Int32)), (.ref ra), (.int sx)])) t
        refine XS.iadd Xl.here hx rfl (hb hby own_d1_58) rfl ?_
        show Steps p.tables e below (T.setTop (mkF m 59 #[.val (.ref ra), .val (.int sz_34), .val (.ref b51), .val (.int nx), .val (.int (0 : Int32)), .val (.int sx)] [(.int (1 : Int32)), (.ref ra), (.int sx)])) t
        refine Xl.iaload hx (j := (1 : Int32)) (v := (.int (g 1))) (by rw [el]; exact Ar83.1) (State.isArrayOf_alike hZ.alike Ar83.2.1) Ar83.2.2 hin83 hat83 (g := (mkF m 59 #[.val (.ref ra), .val (.int sz_34), .val (.ref b51), .val (.int nx), .val (.int (0 : Int32)), .val (.int sx)] [(.int (1 : Int32)), (.ref ra), (.int sx)])) rfl rfl (hb hby own_d1_59) _ ?_
        show Steps p.tables e below (T.setTop (mkF m 60 #[.val (.ref ra), .val (.int sz_34), .val (.ref b51), .val (.int nx), .val (.int (0 : Int32)), .val (.int sx)] [(.int (g 1)), (.int sx)])) t
        refine XS.icmpNo Xl.here hx rfl (hb hby own_d1_60) rfl (flt hc89).2.2.1 ?_
        show Steps p.tables e below (T.setTop (mkF m 63 #[.val (.ref ra), .val (.int sz_34), .val (.ref b51), .val (.int nx), .val (.int (0 : Int32)), .val (.int sx)] [])) t
        refine XS.aloadN Xl.here hx rfl (hb hby own_d1_63) rfl rfl ?_
        show Steps p.tables e below (T.setTop (mkF m 64 #[.val (.ref ra), .val (.int sz_34), .val (.ref b51), .val (.int nx), .val (.int (0 : Int32)), .val (.int sx)] [(.ref b51)])) t
        refine XS.iloadN Xl.here hx rfl (hb hby own_d1_64) rfl ?_
        show Steps p.tables e below (T.setTop (mkF m 65 #[.val (.ref ra), .val (.int sz_34), .val (.ref b51), .val (.int nx), .val (.int (0 : Int32)), .val (.int sx)] [(.int nx), (.ref b51)])) t
        refine XS.iinc Xl.here hx rfl (hb hby own_d1_65) rfl (l' := #[.val (.ref ra), .val (.int sz_34), .val (.ref b51), .val (.int (nx + (1 : Int32))), .val (.int (0 : Int32)), .val (.int sx)]) rfl ?_
        show Steps p.tables e below (T.setTop (mkF m 68 #[.val (.ref ra), .val (.int sz_34), .val (.ref b51), .val (.int (nx + (1 : Int32))), .val (.int (0 : Int32)), .val (.int sx)] [(.int nx), (.ref b51)])) t
        refine XS.iload Xl.here hx rfl (hb hby own_d1_68) rfl ?_
        exact k)
      have q95 : ¬ nx < 0 ∧ nx < sz_34 := by
        have q96 := rng32 nx
        have q97 := rng32 sx
        have q98 := rng32 sz_34
        rw [Int32.lt_iff_toInt_lt, Int32.lt_iff_toInt_lt]; have q0 : (0 : Int32).toInt = 0 := rfl; omega
      obtain ⟨cl94, Ar94, S94, N94, Hs94⟩ := id Fl1
      have hin94 : ¬ (nx < 0 ∨ cl94.slots.size ≤ (nx).toNatClampNeg) := inb_of S94 q95
      obtain ⟨T94, h94, X94, e94, W94, st94⟩ := stI Xl hx hZ el Ar94 (j := nx) hin94 (g := (mkF m 70 #[.val (.ref ra), .val (.int sz_34), .val (.ref b51), .val (.int (nx + (1 : Int32))), .val (.int (0 : Int32)), .val (.int sx)] [(.int sx), (.int nx), (.ref b51)])) rfl rfl (hb hby own_d1_70)
      obtain ⟨f100, hf100⟩ : ∃ fnew : Nat → Int32, fnew = fun i => if i = nx.toNatClampNeg then sx else ff i := ⟨_, rfl⟩
      have V99 : own_Arf Z h94 b51 .int sz_34 f100 := own_Arf.set Ar94 S94 N94 Hs94 W94 rfl hf100
      have Kp101 : Keep h0 h94 [] := Keep.wr Kl W94 (Or.inr sb54)
      have Z102 : own_Le n0 h94.size := Nat.le_trans Zl (Keep.of_wr W94).1
      have N103 := Fr.snoc X94 Nl gb53
      have F104 := Fl0.other W94 ne52
      have K105 : ∀ t, Steps p.tables e below (T94.setTop (mkF m 71 #[.val (.ref ra), .val (.int sz_34), .val (.ref b51), .val (.int (nx + (1 : Int32))), .val (.int (0 : Int32)), .val (.int sx)] [])) t → Steps p.tables e below (T.setTop (mkF m 52 #[.val (.ref ra), .val (.int sz_34), .val (.ref b51), .val (.int nx), .val (.int (0 : Int32)), .val (.int sx)] [])) t := fun t k => K93 t (st94 _ k)
      have K106 : ∀ t, Steps p.tables e below (T94.setTop (mkF m 52 #[.val (.ref ra), .val (.int sz_34), .val (.ref b51), .val (.int (nx + (1 : Int32))), .val (.int (0 : Int32)), .val (.int (sx + (1 : Int32)))] [])) t → Steps p.tables e below (T.setTop (mkF m 52 #[.val (.ref ra), .val (.int sz_34), .val (.ref b51), .val (.int nx), .val (.int (0 : Int32)), .val (.int sx)] [])) t := fun t k => K105 t (by
        show Steps p.tables e below (T94.setTop (mkF m 71 #[.val (.ref ra), .val (.int sz_34), .val (.ref b51), .val (.int (nx + (1 : Int32))), .val (.int (0 : Int32)), .val (.int sx)] [])) t
        refine XS.iinc X94.here hx rfl (hb hby own_d1_71) rfl (l' := #[.val (.ref ra), .val (.int sz_34), .val (.ref b51), .val (.int (nx + (1 : Int32))), .val (.int (0 : Int32)), .val (.int (sx + (1 : Int32)))]) rfl ?_
        show Steps p.tables e below (T94.setTop (mkF m 74 #[.val (.ref ra), .val (.int sz_34), .val (.ref b51), .val (.int (nx + (1 : Int32))), .val (.int (0 : Int32)), .val (.int (sx + (1 : Int32)))] [])) t
        refine XS.goto X94.here hx rfl (pc0 := 74) (pc' := 52) rfl (hb hby own_d1_74) (by decide) (by decide) ?_
        exact k)
      have q107 := rng32 nx
      have q108 := rng32 sx
      have q109 := (by decide : (1 : Int32).toInt = 1)
      have q110 := c_iadd nx (1 : Int32)
      have q111 := rng32 (nx + (1 : Int32))
      have q112 := c_iadd sx (1 : Int32)
      have q113 := rng32 (sx + (1 : Int32))
      have hI2 : ((nx + (1 : Int32)).toInt = 0 + ((sx + (1 : Int32)).toInt - (g 0).toInt) ∧ (sx + (1 : Int32)).toInt + ((d : Nat) : Int) = (g 1).toInt + 1 ∧ (g 0).toInt ≤ (sx + (1 : Int32)).toInt ∧ (∀ j : Nat, (j : Int) < 0 → f100 j = (fun _ => (0 : Int32)) j) ∧ (∀ j : Nat, 0 ≤ (j : Int) → (j : Int) < (nx + (1 : Int32)).toInt → (f100 j).toInt = (g 0).toInt + ((j : Int) - 0))) := by 
        refine ⟨by omega, by omega, by omega, fun j hj => ?_, fun j h1 h2 => ?_⟩
        · rw [hf100]; simp only; rw [if_neg (by omega)]; exact hI4 j hj
        · rw [hf100]; simp only
          by_cases hj : j = nx.toNatClampNeg
          · rw [if_pos hj]; omega
          · rw [if_neg hj]; exact hI5 j h1 (by omega)
      obtain ⟨T2, Lc2, h2', ff_2, nx_2, sx_2, X2', e2', N2', K2', Z2', Fx0', Fx1', hF, kk⟩ := ih T94 _ h94 (f100) (nx + (1 : Int32)) (sx + (1 : Int32)) X94 e94 N103 Kp101 Z102 F104 V99 hI2
      exact ⟨T2, Lc2, h2', ff_2, nx_2, sx_2, X2', e2', N2', K2', Z2', Fx0', Fx1', hF, fun t k => K106 t (kk t k)⟩
  have hI114 : ((0 : Int32).toInt = 0 + ((g 0).toInt - (g 0).toInt) ∧ (g 0).toInt + ((((((g 1).toInt - (g 0).toInt + 1).toNat)) : Nat) : Int) = (g 1).toInt + 1 ∧ (g 0).toInt ≤ (g 0).toInt ∧ (∀ j : Nat, (j : Int) < 0 → (fun _ => (0 : Int32)) j = (fun _ => (0 : Int32)) j) ∧ (∀ j : Nat, 0 ≤ (j : Int) → (j : Int) < (0 : Int32).toInt → ((fun _ => (0 : Int32)) j).toInt = (g 0).toInt + ((j : Int) - 0))) := by
    have q115 := (by decide : (0 : Int32).toInt = 0)
    have q116 := rng32 (g 0)
    exact ⟨by omega, by omega, by omega, fun _ _ => rfl, fun j h1 h2 => by omega⟩
  obtain ⟨T114, Lc114, h114, ff_114, nx_114, sx_114, X114, e114, N114, Kp114, Z114, Fz114_0, Fz114_1, hF114, kl114⟩ := loop69 ((((g 1).toInt - (g 0).toInt + 1).toNat)) T51 _ h51 ((fun _ => (0 : Int32))) (0 : Int32) (g 0) X51 e51 N0 Kp57 Z56 F55 V58 hI114
  have K117 : ∀ t, Steps p.tables e below (T114.setTop (mkF m 77 #[.val (.ref ra), .val (.int sz_34), .val (.ref b51), .val (.int nx_114), .val (.int (0 : Int32)), .val (.int sx_114)] [])) t → Steps p.tables e below (s₁.setTop (entryFrame m #[(.ref ra)] 6)) t := fun t k => K68 t (kl114 t k)
  obtain ⟨hF114a, hF114b, hF114c⟩ := hF114
  obtain ⟨cl118, Ar118, S118, N118, Hs118⟩ := id Fz114_0
  have hc119 : ¬ ((2 : Int32) < (2 : Int32)) := by
    have q120 := (by decide : (2 : Int32).toInt = 2)
    rw [Int32.lt_iff_toInt_lt]; omega
  have K121 : ∀ t, Steps p.tables e below (T114.setTop (mkF m 84 #[.val (.ref ra), .val (.int sz_34), .val (.ref b51), .val (.int nx_114), .val (.int (2 : Int32)), .val (.int sx_114)] [(.ref b51)])) t → Steps p.tables e below (s₁.setTop (entryFrame m #[(.ref ra)] 6)) t := fun t k => K117 t (by
    show Steps p.tables e below (T114.setTop (mkF m 77 #[.val (.ref ra), .val (.int sz_34), .val (.ref b51), .val (.int nx_114), .val (.int (0 : Int32)), .val (.int sx_114)] [])) t
    refine XS.iinc X114.here hx rfl (hb hby own_d1_77) rfl (l' := #[.val (.ref ra), .val (.int sz_34), .val (.ref b51), .val (.int nx_114), .val (.int (2 : Int32)), .val (.int sx_114)]) rfl ?_
    show Steps p.tables e below (T114.setTop (mkF m 80 #[.val (.ref ra), .val (.int sz_34), .val (.ref b51), .val (.int nx_114), .val (.int (2 : Int32)), .val (.int sx_114)] [])) t
    refine XS.goto X114.here hx rfl (pc0 := 80) (pc' := 39) rfl (hb hby own_d1_80) (by decide) (by decide) ?_
    show Steps p.tables e below (T114.setTop (mkF m 39 #[.val (.ref ra), .val (.int sz_34), .val (.ref b51), .val (.int nx_114), .val (.int (2 : Int32)), .val (.int sx_114)] [])) t
    refine XS.iload X114.here hx rfl (hb hby own_d1_39) rfl ?_
    show Steps p.tables e below (T114.setTop (mkF m 41 #[.val (.ref ra), .val (.int sz_34), .val (.ref b51), .val (.int nx_114), .val (.int (2 : Int32)), .val (.int sx_114)] [(.int (2 : Int32))])) t
    refine XS.aloadN X114.here hx rfl (hb hby own_d1_41) rfl rfl ?_
    show Steps p.tables e below (T114.setTop (mkF m 42 #[.val (.ref ra), .val (.int sz_34), .val (.ref b51), .val (.int nx_114), .val (.int (2 : Int32)), .val (.int sx_114)] [(.ref ra), (.int (2 : Int32))])) t
    refine X114.arraylength hx (by rw [e114]; exact Ar118.1) (State.isArrayOf_alike hZ.alike Ar118.2.1) (g := (mkF m 42 #[.val (.ref ra), .val (.int sz_34), .val (.ref b51), .val (.int nx_114), .val (.int (2 : Int32)), .val (.int sx_114)] [(.ref ra), (.int (2 : Int32))])) rfl rfl (hb hby own_d1_42) _ ?_
    rw [len_of S118 N118]
    show Steps p.tables e below (T114.setTop (mkF m 43 #[.val (.ref ra), .val (.int sz_34), .val (.ref b51), .val (.int nx_114), .val (.int (2 : Int32)), .val (.int sx_114)] [(.int (2 : Int32)), (.int (2 : Int32))])) t
    refine XS.icmpYes X114.here hx rfl (pc0 := 43) (pc' := 83) rfl (hb hby own_d1_43) rfl (flt hc119).2.1 (by decide) (by decide) ?_
    show Steps p.tables e below (T114.setTop (mkF m 83 #[.val (.ref ra), .val (.int sz_34), .val (.ref b51), .val (.int nx_114), .val (.int (2 : Int32)), .val (.int sx_114)] [])) t
    refine XS.aloadN X114.here hx rfl (hb hby own_d1_83) rfl rfl ?_
    exact k)
  obtain ⟨fs, hr, hrun, hended, hW, hsame⟩ := X114.leave (v := some (.ref b51)) (fun h => by rw [Bd.returns] at h; cases h)
  refine ⟨_, _, K121 _ ?_, hrun, hended, _, _, rfl, ?_, ⟨_, rfl⟩, hW, hsame.mono (by decide) (by decide)⟩
  · jvm_step X114.here [X114.here.top, hx, (hb hby own_d1_84), X114.method', Bd.returns, Value.isRef, FieldType.isReference]
    first | (intro acts; rw [hr _ acts rfl rfl rfl]) | rw [hr _ _ rfl rfl rfl]
    exact Steps.refl _
  · show Q_rmE1 Z ra g h0 n0 _ T114.heap _
    rw [e114]
    exact ⟨b51, sz_34, ff_114, rfl, ⟨Sp34, fun i hi => by have := hF114c i (by omega) (by omega); omega⟩, N114, Kp114, sb54, Fz114_1⟩
def Q_rmE2 (Z : State) (ra : Addr) (g : Nat → Int32) (h0 : Heap) (n0 : Nat) (v : Option Value) (h : Heap) (L : List Loc) : Prop := ∃ (pa : Addr), ∃ (z : Int32), ∃ (f : Nat → Int32), v = some (.ref pa) ∧ (z.toInt = ((g 1).toInt - (g 0).toInt + 1) + ((g 3).toInt - (g 2).toInt + 1) ∧ (∀ i : Nat, (i : Int) < ((g 1).toInt - (g 0).toInt + 1) → (f i).toInt = (g 0).toInt + (i : Int)) ∧ (∀ i : Nat, ((g 1).toInt - (g 0).toInt + 1) ≤ (i : Int) → (i : Int) < ((g 1).toInt - (g 0).toInt + 1) + ((g 3).toInt - (g 2).toInt + 1) → (f i).toInt = (g 2).toInt + ((i : Int) - ((g 1).toInt - (g 0).toInt + 1)))) ∧ Fr n0 L ∧ Keep h0 h [] ∧ own_Le h0.size pa ∧ own_Arf Z h pa .int z f
theorem own_ef_rmE2 (m : MethodId) (ra : Addr) : entryFrame m #[(.ref ra)] 6 = mkF m 0 #[.val (.ref ra), .unset, .unset, .unset, .unset, .unset] [] := by first | (simp [entryFrame, mkF, argsToLocals, Value.category]; done) | rfl
set_option maxRecDepth 65536 in
set_option maxHeartbeats 40000000 in
theorem rmE2 (l : Launch) (Z : State) (a0 : Array Value) (hw : ∀ d ∈ tables_1, d.before a0 Z = true) (ws : List Jvm.Cond) (ra : Addr) (g : Nat → Int32) (h0 : Heap) (n0 : Nat) (Z0 : own_Le n0 h0.size) (P_0 : own_Arf Z h0 ra .int (4 : Int32) g) (P_1 : 0 ≤ (g 0).toInt ∧ (g 0).toInt ≤ (g 1).toInt ∧ (g 1).toInt ≤ (g 0).toInt + 3 ∧ (g 1).toInt ≤ 2147483643) (P_2 : 0 ≤ (g 2).toInt ∧ (g 2).toInt ≤ (g 3).toInt ∧ (g 3).toInt ≤ (g 2).toInt + 3 ∧ (g 3).toInt ≤ 2147483643) :
    MetFree l (⟨"com/example/omegaprobe/omegaprobe/graph/StateSets", "expand", "([I)[I"⟩ : MethodName) (head1 (Jvm.Cond.code (⟨"com/example/omegaprobe/omegaprobe/graph/StateSets", "expand", "([I)[I"⟩ : MethodName) prog_176_method_10_code 6 (some (.array .int)) :: ws) ({ frames := 0, cells := 1, slots := 8, locals := 0 } : Room)) (fun a U => a = #[(.ref ra)] ∧ Z.Warmed39 U.vm ∧ U.heap = h0) (fun _ _ _ _ _ => True) (fun _ U o U' => ∃ v L, o = .returned v ∧ Q_rmE2 Z ra g h0 n0 v U'.heap L ∧ FrameEnd U o U' L ({ frames := 0, cells := 1, slots := 8, locals := 0 } : Room).cells ({ frames := 0, cells := 1, slots := 8, locals := 0 } : Room).slots) := by
  refine MetFree.of_bodySF (plainFor_of_name own_pn0) hisR ?_
  intro p e s m args below meth c s₁ Bd hml0 hP hK
  obtain ⟨rfl, hZ, hh⟩ := hP
  have hx := Bd.exec
  have hby := Bd.bytes
  have hml : c.maxLocals = 6 := hml0
  have hown : s.vm.findClass "com/example/omegaprobe/omegaprobe/graph/StateSets" = some m.cls := findClass_of_methodNamed Bd.named
  have hnm := (name_of_methodNamed Bd.named Bd.method).1
  have X0 : Stand p l e ({ frames := 0, cells := 1, slots := 8, locals := 0 } : Room) s m #[(.ref ra)] below meth c s₁ [] 0 0 := Stand.of_body Bd
  have e0 : s₁.heap = h0 := by rw [← hh, Bd.state]; rfl
  have N0 := Fr.nil n0
  have pre0 : ∀ t, Steps p.tables e below (s₁.setTop (mkF m 0 #[.val (.ref ra), .unset, .unset, .unset, .unset, .unset] [])) t → Steps p.tables e below (s₁.setTop (entryFrame m #[(.ref ra)] 6)) t := fun t k => castTop (own_ef_rmE2 m ra) k
  obtain ⟨cl122, Ar122, S122, N122, Hs122⟩ := id P_0
  have hc123 : (0 : Int32) < (4 : Int32) := by
    have q124 := (by decide : (0 : Int32).toInt = 0)
    have q125 := (by decide : (4 : Int32).toInt = 4)
    rw [Int32.lt_iff_toInt_lt]; omega
  have q127 : ¬ (1 : Int32) < 0 ∧ (1 : Int32) < (4 : Int32) := by
    have q128 := (by decide : (1 : Int32).toInt = 1)
    have q129 := (by decide : (4 : Int32).toInt = 4)
    rw [Int32.lt_iff_toInt_lt, Int32.lt_iff_toInt_lt]; have q0 : (0 : Int32).toInt = 0 := rfl; omega
  obtain ⟨cl126, Ar126, S126, N126, Hs126⟩ := id P_0
  have hin126 : ¬ ((1 : Int32) < 0 ∨ cl126.slots.size ≤ ((1 : Int32)).toNatClampNeg) := inb_of S126 q127
  have hat126 : cl126.slots[((1 : Int32)).toNatClampNeg]? = some (.int (g 1)) := own_at Hs126 S126 hin126 (rfl)
  have q131 : ¬ (0 : Int32) < 0 ∧ (0 : Int32) < (4 : Int32) := by
    have q132 := (by decide : (0 : Int32).toInt = 0)
    have q133 := (by decide : (4 : Int32).toInt = 4)
    rw [Int32.lt_iff_toInt_lt, Int32.lt_iff_toInt_lt]; have q0 : (0 : Int32).toInt = 0 := rfl; omega
  obtain ⟨cl130, Ar130, S130, N130, Hs130⟩ := id P_0
  have hin130 : ¬ ((0 : Int32) < 0 ∨ cl130.slots.size ≤ ((0 : Int32)).toNatClampNeg) := inb_of S130 q131
  have hat130 : cl130.slots[((0 : Int32)).toNatClampNeg]? = some (.int (g 0)) := own_at Hs130 S130 hin130 (rfl)
  obtain ⟨cl134, Ar134, S134, N134, Hs134⟩ := id P_0
  have hc135 : (2 : Int32) < (4 : Int32) := by
    have q136 := (by decide : (2 : Int32).toInt = 2)
    have q137 := (by decide : (4 : Int32).toInt = 4)
    rw [Int32.lt_iff_toInt_lt]; omega
  have q139 : ¬ (3 : Int32) < 0 ∧ (3 : Int32) < (4 : Int32) := by
    have q140 := (by decide : (3 : Int32).toInt = 3)
    have q141 := (by decide : (4 : Int32).toInt = 4)
    rw [Int32.lt_iff_toInt_lt, Int32.lt_iff_toInt_lt]; have q0 : (0 : Int32).toInt = 0 := rfl; omega
  obtain ⟨cl138, Ar138, S138, N138, Hs138⟩ := id P_0
  have hin138 : ¬ ((3 : Int32) < 0 ∨ cl138.slots.size ≤ ((3 : Int32)).toNatClampNeg) := inb_of S138 q139
  have hat138 : cl138.slots[((3 : Int32)).toNatClampNeg]? = some (.int (g 3)) := own_at Hs138 S138 hin138 (rfl)
  have q143 : ¬ (2 : Int32) < 0 ∧ (2 : Int32) < (4 : Int32) := by
    have q144 := (by decide : (2 : Int32).toInt = 2)
    have q145 := (by decide : (4 : Int32).toInt = 4)
    rw [Int32.lt_iff_toInt_lt, Int32.lt_iff_toInt_lt]; have q0 : (0 : Int32).toInt = 0 := rfl; omega
  obtain ⟨cl142, Ar142, S142, N142, Hs142⟩ := id P_0
  have hin142 : ¬ ((2 : Int32) < 0 ∨ cl142.slots.size ≤ ((2 : Int32)).toNatClampNeg) := inb_of S142 q143
  have hat142 : cl142.slots[((2 : Int32)).toNatClampNeg]? = some (.int (g 2)) := own_at Hs142 S142 hin142 (rfl)
  obtain ⟨cl146, Ar146, S146, N146, Hs146⟩ := id P_0
  have hc147 : ¬ ((4 : Int32) < (4 : Int32)) := by
    have q148 := (by decide : (4 : Int32).toInt = 4)
    rw [Int32.lt_iff_toInt_lt]; omega
  obtain ⟨p0a, p0b, p0c, p0d⟩ := P_1
  obtain ⟨p1a, p1b, p1c, p1d⟩ := P_2
  have K149 : ∀ t, Steps p.tables e below (s₁.setTop (mkF m 30 #[.val (.ref ra), .val (.int (((0 : Int32) + (((g 1) - (g 0)) + (1 : Int32))) + (((g 3) - (g 2)) + (1 : Int32)))), .val (.int (4 : Int32)), .unset, .unset, .unset] [])) t → Steps p.tables e below (s₁.setTop (entryFrame m #[(.ref ra)] 6)) t := fun t k => pre0 t (by
    show Steps p.tables e below (s₁.setTop (mkF m 0 #[.val (.ref ra), .unset, .unset, .unset, .unset, .unset] [])) t
    refine XS.iconst X0.here hx rfl (hb hby own_d1_0) ?_
    show Steps p.tables e below (s₁.setTop (mkF m 1 #[.val (.ref ra), .unset, .unset, .unset, .unset, .unset] [(.int (0 : Int32))])) t
    refine XS.istoreN X0.here hx rfl (hb hby own_d1_1) rfl (l' := #[.val (.ref ra), .val (.int (0 : Int32)), .unset, .unset, .unset, .unset]) rfl ?_
    show Steps p.tables e below (s₁.setTop (mkF m 2 #[.val (.ref ra), .val (.int (0 : Int32)), .unset, .unset, .unset, .unset] [])) t
    refine XS.iconst X0.here hx rfl (hb hby own_d1_2) ?_
    show Steps p.tables e below (s₁.setTop (mkF m 3 #[.val (.ref ra), .val (.int (0 : Int32)), .unset, .unset, .unset, .unset] [(.int (0 : Int32))])) t
    refine XS.istoreN X0.here hx rfl (hb hby own_d1_3) rfl (l' := #[.val (.ref ra), .val (.int (0 : Int32)), .val (.int (0 : Int32)), .unset, .unset, .unset]) rfl ?_
    show Steps p.tables e below (s₁.setTop (mkF m 4 #[.val (.ref ra), .val (.int (0 : Int32)), .val (.int (0 : Int32)), .unset, .unset, .unset] [])) t
    refine XS.iloadN X0.here hx rfl (hb hby own_d1_4) rfl ?_
    show Steps p.tables e below (s₁.setTop (mkF m 5 #[.val (.ref ra), .val (.int (0 : Int32)), .val (.int (0 : Int32)), .unset, .unset, .unset] [(.int (0 : Int32))])) t
    refine XS.aloadN X0.here hx rfl (hb hby own_d1_5) rfl rfl ?_
    show Steps p.tables e below (s₁.setTop (mkF m 6 #[.val (.ref ra), .val (.int (0 : Int32)), .val (.int (0 : Int32)), .unset, .unset, .unset] [(.ref ra), (.int (0 : Int32))])) t
    refine X0.arraylength hx (by rw [e0]; exact Ar122.1) (State.isArrayOf_alike hZ.alike Ar122.2.1) (g := (mkF m 6 #[.val (.ref ra), .val (.int (0 : Int32)), .val (.int (0 : Int32)), .unset, .unset, .unset] [(.ref ra), (.int (0 : Int32))])) rfl rfl (hb hby own_d1_6) _ ?_
    rw [len_of S122 N122]
    show Steps p.tables e below (s₁.setTop (mkF m 7 #[.val (.ref ra), .val (.int (0 : Int32)), .val (.int (0 : Int32)), .unset, .unset, .unset] [(.int (4 : Int32)), (.int (0 : Int32))])) t
    refine XS.icmpNo X0.here hx rfl (hb hby own_d1_7) rfl (tlt hc123).2.1 ?_
    show Steps p.tables e below (s₁.setTop (mkF m 10 #[.val (.ref ra), .val (.int (0 : Int32)), .val (.int (0 : Int32)), .unset, .unset, .unset] [])) t
    refine XS.iloadN X0.here hx rfl (hb hby own_d1_10) rfl ?_
    show Steps p.tables e below (s₁.setTop (mkF m 11 #[.val (.ref ra), .val (.int (0 : Int32)), .val (.int (0 : Int32)), .unset, .unset, .unset] [(.int (0 : Int32))])) t
    refine XS.aloadN X0.here hx rfl (hb hby own_d1_11) rfl rfl ?_
    show Steps p.tables e below (s₁.setTop (mkF m 12 #[.val (.ref ra), .val (.int (0 : Int32)), .val (.int (0 : Int32)), .unset, .unset, .unset] [(.ref ra), (.int (0 : Int32))])) t
    refine XS.iloadN X0.here hx rfl (hb hby own_d1_12) rfl ?_
    show Steps p.tables e below (s₁.setTop (mkF m 13 #[.val (.ref ra), .val (.int (0 : Int32)), .val (.int (0 : Int32)), .unset, .unset, .unset] [(.int (0 : Int32)), (.ref ra), (.int (0 : Int32))])) t
    refine XS.iconst X0.here hx rfl (hb hby own_d1_13) ?_
    show Steps p.tables e below (s₁.setTop (mkF m 14 #[.val (.ref ra), .val (.int (0 : Int32)), .val (.int (0 : Int32)), .unset, .unset, .unset] [(.int (1 : Int32)), (.int (0 : Int32)), (.ref ra), (.int (0 : Int32))])) t
    refine XS.iadd X0.here hx rfl (hb hby own_d1_14) rfl ?_
    show Steps p.tables e below (s₁.setTop (mkF m 15 #[.val (.ref ra), .val (.int (0 : Int32)), .val (.int (0 : Int32)), .unset, .unset, .unset] [(.int (1 : Int32)), (.ref ra), (.int (0 : Int32))])) t
    refine X0.iaload hx (j := (1 : Int32)) (v := (.int (g 1))) (by rw [e0]; exact Ar126.1) (State.isArrayOf_alike hZ.alike Ar126.2.1) Ar126.2.2 hin126 hat126 (g := (mkF m 15 #[.val (.ref ra), .val (.int (0 : Int32)), .val (.int (0 : Int32)), .unset, .unset, .unset] [(.int (1 : Int32)), (.ref ra), (.int (0 : Int32))])) rfl rfl (hb hby own_d1_15) _ ?_
    show Steps p.tables e below (s₁.setTop (mkF m 16 #[.val (.ref ra), .val (.int (0 : Int32)), .val (.int (0 : Int32)), .unset, .unset, .unset] [(.int (g 1)), (.int (0 : Int32))])) t
    refine XS.aloadN X0.here hx rfl (hb hby own_d1_16) rfl rfl ?_
    show Steps p.tables e below (s₁.setTop (mkF m 17 #[.val (.ref ra), .val (.int (0 : Int32)), .val (.int (0 : Int32)), .unset, .unset, .unset] [(.ref ra), (.int (g 1)), (.int (0 : Int32))])) t
    refine XS.iloadN X0.here hx rfl (hb hby own_d1_17) rfl ?_
    show Steps p.tables e below (s₁.setTop (mkF m 18 #[.val (.ref ra), .val (.int (0 : Int32)), .val (.int (0 : Int32)), .unset, .unset, .unset] [(.int (0 : Int32)), (.ref ra), (.int (g 1)), (.int (0 : Int32))])) t
    refine X0.iaload hx (j := (0 : Int32)) (v := (.int (g 0))) (by rw [e0]; exact Ar130.1) (State.isArrayOf_alike hZ.alike Ar130.2.1) Ar130.2.2 hin130 hat130 (g := (mkF m 18 #[.val (.ref ra), .val (.int (0 : Int32)), .val (.int (0 : Int32)), .unset, .unset, .unset] [(.int (0 : Int32)), (.ref ra), (.int (g 1)), (.int (0 : Int32))])) rfl rfl (hb hby own_d1_18) _ ?_
    show Steps p.tables e below (s₁.setTop (mkF m 19 #[.val (.ref ra), .val (.int (0 : Int32)), .val (.int (0 : Int32)), .unset, .unset, .unset] [(.int (g 0)), (.int (g 1)), (.int (0 : Int32))])) t
    refine XS.isub X0.here hx rfl (hb hby own_d1_19) rfl ?_
    show Steps p.tables e below (s₁.setTop (mkF m 20 #[.val (.ref ra), .val (.int (0 : Int32)), .val (.int (0 : Int32)), .unset, .unset, .unset] [(.int ((g 1) - (g 0))), (.int (0 : Int32))])) t
    refine XS.iconst X0.here hx rfl (hb hby own_d1_20) ?_
    show Steps p.tables e below (s₁.setTop (mkF m 21 #[.val (.ref ra), .val (.int (0 : Int32)), .val (.int (0 : Int32)), .unset, .unset, .unset] [(.int (1 : Int32)), (.int ((g 1) - (g 0))), (.int (0 : Int32))])) t
    refine XS.iadd X0.here hx rfl (hb hby own_d1_21) rfl ?_
    show Steps p.tables e below (s₁.setTop (mkF m 22 #[.val (.ref ra), .val (.int (0 : Int32)), .val (.int (0 : Int32)), .unset, .unset, .unset] [(.int (((g 1) - (g 0)) + (1 : Int32))), (.int (0 : Int32))])) t
    refine XS.iadd X0.here hx rfl (hb hby own_d1_22) rfl ?_
    show Steps p.tables e below (s₁.setTop (mkF m 23 #[.val (.ref ra), .val (.int (0 : Int32)), .val (.int (0 : Int32)), .unset, .unset, .unset] [(.int ((0 : Int32) + (((g 1) - (g 0)) + (1 : Int32))))])) t
    refine XS.istoreN X0.here hx rfl (hb hby own_d1_23) rfl (l' := #[.val (.ref ra), .val (.int ((0 : Int32) + (((g 1) - (g 0)) + (1 : Int32)))), .val (.int (0 : Int32)), .unset, .unset, .unset]) rfl ?_
    show Steps p.tables e below (s₁.setTop (mkF m 24 #[.val (.ref ra), .val (.int ((0 : Int32) + (((g 1) - (g 0)) + (1 : Int32)))), .val (.int (0 : Int32)), .unset, .unset, .unset] [])) t
    refine XS.iinc X0.here hx rfl (hb hby own_d1_24) rfl (l' := #[.val (.ref ra), .val (.int ((0 : Int32) + (((g 1) - (g 0)) + (1 : Int32)))), .val (.int (2 : Int32)), .unset, .unset, .unset]) rfl ?_
    show Steps p.tables e below (s₁.setTop (mkF m 27 #[.val (.ref ra), .val (.int ((0 : Int32) + (((g 1) - (g 0)) + (1 : Int32)))), .val (.int (2 : Int32)), .unset, .unset, .unset] [])) t
    refine XS.goto X0.here hx rfl (pc0 := 27) (pc' := 4) rfl (hb hby own_d1_27) (by decide) (by decide) ?_
    show Steps p.tables e below (s₁.setTop (mkF m 4 #[.val (.ref ra), .val (.int ((0 : Int32) + (((g 1) - (g 0)) + (1 : Int32)))), .val (.int (2 : Int32)), .unset, .unset, .unset] [])) t
    refine XS.iloadN X0.here hx rfl (hb hby own_d1_4) rfl ?_
    show Steps p.tables e below (s₁.setTop (mkF m 5 #[.val (.ref ra), .val (.int ((0 : Int32) + (((g 1) - (g 0)) + (1 : Int32)))), .val (.int (2 : Int32)), .unset, .unset, .unset] [(.int (2 : Int32))])) t
    refine XS.aloadN X0.here hx rfl (hb hby own_d1_5) rfl rfl ?_
    show Steps p.tables e below (s₁.setTop (mkF m 6 #[.val (.ref ra), .val (.int ((0 : Int32) + (((g 1) - (g 0)) + (1 : Int32)))), .val (.int (2 : Int32)), .unset, .unset, .unset] [(.ref ra), (.int (2 : Int32))])) t
    refine X0.arraylength hx (by rw [e0]; exact Ar134.1) (State.isArrayOf_alike hZ.alike Ar134.2.1) (g := (mkF m 6 #[.val (.ref ra), .val (.int ((0 : Int32) + (((g 1) - (g 0)) + (1 : Int32)))), .val (.int (2 : Int32)), .unset, .unset, .unset] [(.ref ra), (.int (2 : Int32))])) rfl rfl (hb hby own_d1_6) _ ?_
    rw [len_of S134 N134]
    show Steps p.tables e below (s₁.setTop (mkF m 7 #[.val (.ref ra), .val (.int ((0 : Int32) + (((g 1) - (g 0)) + (1 : Int32)))), .val (.int (2 : Int32)), .unset, .unset, .unset] [(.int (4 : Int32)), (.int (2 : Int32))])) t
    refine XS.icmpNo X0.here hx rfl (hb hby own_d1_7) rfl (tlt hc135).2.1 ?_
    show Steps p.tables e below (s₁.setTop (mkF m 10 #[.val (.ref ra), .val (.int ((0 : Int32) + (((g 1) - (g 0)) + (1 : Int32)))), .val (.int (2 : Int32)), .unset, .unset, .unset] [])) t
    refine XS.iloadN X0.here hx rfl (hb hby own_d1_10) rfl ?_
    show Steps p.tables e below (s₁.setTop (mkF m 11 #[.val (.ref ra), .val (.int ((0 : Int32) + (((g 1) - (g 0)) + (1 : Int32)))), .val (.int (2 : Int32)), .unset, .unset, .unset] [(.int ((0 : Int32) + (((g 1) - (g 0)) + (1 : Int32))))])) t
    refine XS.aloadN X0.here hx rfl (hb hby own_d1_11) rfl rfl ?_
    show Steps p.tables e below (s₁.setTop (mkF m 12 #[.val (.ref ra), .val (.int ((0 : Int32) + (((g 1) - (g 0)) + (1 : Int32)))), .val (.int (2 : Int32)), .unset, .unset, .unset] [(.ref ra), (.int ((0 : Int32) + (((g 1) - (g 0)) + (1 : Int32))))])) t
    refine XS.iloadN X0.here hx rfl (hb hby own_d1_12) rfl ?_
    show Steps p.tables e below (s₁.setTop (mkF m 13 #[.val (.ref ra), .val (.int ((0 : Int32) + (((g 1) - (g 0)) + (1 : Int32)))), .val (.int (2 : Int32)), .unset, .unset, .unset] [(.int (2 : Int32)), (.ref ra), (.int ((0 : Int32) + (((g 1) - (g 0)) + (1 : Int32))))])) t
    refine XS.iconst X0.here hx rfl (hb hby own_d1_13) ?_
    show Steps p.tables e below (s₁.setTop (mkF m 14 #[.val (.ref ra), .val (.int ((0 : Int32) + (((g 1) - (g 0)) + (1 : Int32)))), .val (.int (2 : Int32)), .unset, .unset, .unset] [(.int (1 : Int32)), (.int (2 : Int32)), (.ref ra), (.int ((0 : Int32) + (((g 1) - (g 0)) + (1 : Int32))))])) t
    refine XS.iadd X0.here hx rfl (hb hby own_d1_14) rfl ?_
    show Steps p.tables e below (s₁.setTop (mkF m 15 #[.val (.ref ra), .val (.int ((0 : Int32) + (((g 1) - (g 0)) + (1 : Int32)))), .val (.int (2 : Int32)), .unset, .unset, .unset] [(.int (3 : Int32)), (.ref ra), (.int ((0 : Int32) + (((g 1) - (g 0)) + (1 : Int32))))])) t
    refine X0.iaload hx (j := (3 : Int32)) (v := (.int (g 3))) (by rw [e0]; exact Ar138.1) (State.isArrayOf_alike hZ.alike Ar138.2.1) Ar138.2.2 hin138 hat138 (g := (mkF m 15 #[.val (.ref ra), .val (.int ((0 : Int32) + (((g 1) - (g 0)) + (1 : Int32)))), .val (.int (2 : Int32)), .unset, .unset, .unset] [(.int (3 : Int32)), (.ref ra), (.int ((0 : Int32) + (((g 1) - (g 0)) + (1 : Int32))))])) rfl rfl (hb hby own_d1_15) _ ?_
    show Steps p.tables e below (s₁.setTop (mkF m 16 #[.val (.ref ra), .val (.int ((0 : Int32) + (((g 1) - (g 0)) + (1 : Int32)))), .val (.int (2 : Int32)), .unset, .unset, .unset] [(.int (g 3)), (.int ((0 : Int32) + (((g 1) - (g 0)) + (1 : Int32))))])) t
    refine XS.aloadN X0.here hx rfl (hb hby own_d1_16) rfl rfl ?_
    show Steps p.tables e below (s₁.setTop (mkF m 17 #[.val (.ref ra), .val (.int ((0 : Int32) + (((g 1) - (g 0)) + (1 : Int32)))), .val (.int (2 : Int32)), .unset, .unset, .unset] [(.ref ra), (.int (g 3)), (.int ((0 : Int32) + (((g 1) - (g 0)) + (1 : Int32))))])) t
    refine XS.iloadN X0.here hx rfl (hb hby own_d1_17) rfl ?_
    show Steps p.tables e below (s₁.setTop (mkF m 18 #[.val (.ref ra), .val (.int ((0 : Int32) + (((g 1) - (g 0)) + (1 : Int32)))), .val (.int (2 : Int32)), .unset, .unset, .unset] [(.int (2 : Int32)), (.ref ra), (.int (g 3)), (.int ((0 : Int32) + (((g 1) - (g 0)) + (1 : Int32))))])) t
    refine X0.iaload hx (j := (2 : Int32)) (v := (.int (g 2))) (by rw [e0]; exact Ar142.1) (State.isArrayOf_alike hZ.alike Ar142.2.1) Ar142.2.2 hin142 hat142 (g := (mkF m 18 #[.val (.ref ra), .val (.int ((0 : Int32) + (((g 1) - (g 0)) + (1 : Int32)))), .val (.int (2 : Int32)), .unset, .unset, .unset] [(.int (2 : Int32)), (.ref ra), (.int (g 3)), (.int ((0 : Int32) + (((g 1) - (g 0)) + (1 : Int32))))])) rfl rfl (hb hby own_d1_18) _ ?_
    show Steps p.tables e below (s₁.setTop (mkF m 19 #[.val (.ref ra), .val (.int ((0 : Int32) + (((g 1) - (g 0)) + (1 : Int32)))), .val (.int (2 : Int32)), .unset, .unset, .unset] [(.int (g 2)), (.int (g 3)), (.int ((0 : Int32) + (((g 1) - (g 0)) + (1 : Int32))))])) t
    refine XS.isub X0.here hx rfl (hb hby own_d1_19) rfl ?_
    show Steps p.tables e below (s₁.setTop (mkF m 20 #[.val (.ref ra), .val (.int ((0 : Int32) + (((g 1) - (g 0)) + (1 : Int32)))), .val (.int (2 : Int32)), .unset, .unset, .unset] [(.int ((g 3) - (g 2))), (.int ((0 : Int32) + (((g 1) - (g 0)) + (1 : Int32))))])) t
    refine XS.iconst X0.here hx rfl (hb hby own_d1_20) ?_
    show Steps p.tables e below (s₁.setTop (mkF m 21 #[.val (.ref ra), .val (.int ((0 : Int32) + (((g 1) - (g 0)) + (1 : Int32)))), .val (.int (2 : Int32)), .unset, .unset, .unset] [(.int (1 : Int32)), (.int ((g 3) - (g 2))), (.int ((0 : Int32) + (((g 1) - (g 0)) + (1 : Int32))))])) t
    refine XS.iadd X0.here hx rfl (hb hby own_d1_21) rfl ?_
    show Steps p.tables e below (s₁.setTop (mkF m 22 #[.val (.ref ra), .val (.int ((0 : Int32) + (((g 1) - (g 0)) + (1 : Int32)))), .val (.int (2 : Int32)), .unset, .unset, .unset] [(.int (((g 3) - (g 2)) + (1 : Int32))), (.int ((0 : Int32) + (((g 1) - (g 0)) + (1 : Int32))))])) t
    refine XS.iadd X0.here hx rfl (hb hby own_d1_22) rfl ?_
    show Steps p.tables e below (s₁.setTop (mkF m 23 #[.val (.ref ra), .val (.int ((0 : Int32) + (((g 1) - (g 0)) + (1 : Int32)))), .val (.int (2 : Int32)), .unset, .unset, .unset] [(.int (((0 : Int32) + (((g 1) - (g 0)) + (1 : Int32))) + (((g 3) - (g 2)) + (1 : Int32))))])) t
    refine XS.istoreN X0.here hx rfl (hb hby own_d1_23) rfl (l' := #[.val (.ref ra), .val (.int (((0 : Int32) + (((g 1) - (g 0)) + (1 : Int32))) + (((g 3) - (g 2)) + (1 : Int32)))), .val (.int (2 : Int32)), .unset, .unset, .unset]) rfl ?_
    show Steps p.tables e below (s₁.setTop (mkF m 24 #[.val (.ref ra), .val (.int (((0 : Int32) + (((g 1) - (g 0)) + (1 : Int32))) + (((g 3) - (g 2)) + (1 : Int32)))), .val (.int (2 : Int32)), .unset, .unset, .unset] [])) t
    refine XS.iinc X0.here hx rfl (hb hby own_d1_24) rfl (l' := #[.val (.ref ra), .val (.int (((0 : Int32) + (((g 1) - (g 0)) + (1 : Int32))) + (((g 3) - (g 2)) + (1 : Int32)))), .val (.int (4 : Int32)), .unset, .unset, .unset]) rfl ?_
    show Steps p.tables e below (s₁.setTop (mkF m 27 #[.val (.ref ra), .val (.int (((0 : Int32) + (((g 1) - (g 0)) + (1 : Int32))) + (((g 3) - (g 2)) + (1 : Int32)))), .val (.int (4 : Int32)), .unset, .unset, .unset] [])) t
    refine XS.goto X0.here hx rfl (pc0 := 27) (pc' := 4) rfl (hb hby own_d1_27) (by decide) (by decide) ?_
    show Steps p.tables e below (s₁.setTop (mkF m 4 #[.val (.ref ra), .val (.int (((0 : Int32) + (((g 1) - (g 0)) + (1 : Int32))) + (((g 3) - (g 2)) + (1 : Int32)))), .val (.int (4 : Int32)), .unset, .unset, .unset] [])) t
    refine XS.iloadN X0.here hx rfl (hb hby own_d1_4) rfl ?_
    show Steps p.tables e below (s₁.setTop (mkF m 5 #[.val (.ref ra), .val (.int (((0 : Int32) + (((g 1) - (g 0)) + (1 : Int32))) + (((g 3) - (g 2)) + (1 : Int32)))), .val (.int (4 : Int32)), .unset, .unset, .unset] [(.int (4 : Int32))])) t
    refine XS.aloadN X0.here hx rfl (hb hby own_d1_5) rfl rfl ?_
    show Steps p.tables e below (s₁.setTop (mkF m 6 #[.val (.ref ra), .val (.int (((0 : Int32) + (((g 1) - (g 0)) + (1 : Int32))) + (((g 3) - (g 2)) + (1 : Int32)))), .val (.int (4 : Int32)), .unset, .unset, .unset] [(.ref ra), (.int (4 : Int32))])) t
    refine X0.arraylength hx (by rw [e0]; exact Ar146.1) (State.isArrayOf_alike hZ.alike Ar146.2.1) (g := (mkF m 6 #[.val (.ref ra), .val (.int (((0 : Int32) + (((g 1) - (g 0)) + (1 : Int32))) + (((g 3) - (g 2)) + (1 : Int32)))), .val (.int (4 : Int32)), .unset, .unset, .unset] [(.ref ra), (.int (4 : Int32))])) rfl rfl (hb hby own_d1_6) _ ?_
    rw [len_of S146 N146]
    show Steps p.tables e below (s₁.setTop (mkF m 7 #[.val (.ref ra), .val (.int (((0 : Int32) + (((g 1) - (g 0)) + (1 : Int32))) + (((g 3) - (g 2)) + (1 : Int32)))), .val (.int (4 : Int32)), .unset, .unset, .unset] [(.int (4 : Int32)), (.int (4 : Int32))])) t
    refine XS.icmpYes X0.here hx rfl (pc0 := 7) (pc' := 30) rfl (hb hby own_d1_7) rfl (flt hc147).2.1 (by decide) (by decide) ?_
    exact k)
  obtain ⟨sz_150, Sp150, K169⟩ : ∃ (sz_150 : Int32), (sz_150.toInt = ((g 1).toInt - (g 0).toInt + 1) + ((g 3).toInt - (g 2).toInt + 1)) ∧ ∀ t, Steps p.tables e below (s₁.setTop (mkF m 30 #[.val (.ref ra), .val (.int sz_150), .val (.int (4 : Int32)), .unset, .unset, .unset] [])) t → Steps p.tables e below (s₁.setTop (entryFrame m #[(.ref ra)] 6)) t := by
    refine ⟨(((0 : Int32) + (((g 1) - (g 0)) + (1 : Int32))) + (((g 3) - (g 2)) + (1 : Int32))), ?_, K149⟩
    have q151 := (by decide : (0 : Int32).toInt = 0)
    have q152 := rng32 (g 1)
    have q153 := rng32 (g 0)
    have q154 := c_isub (g 1) (g 0)
    have q155 := rng32 ((g 1) - (g 0))
    have q156 := (by decide : (1 : Int32).toInt = 1)
    have q157 := c_iadd ((g 1) - (g 0)) (1 : Int32)
    have q158 := rng32 (((g 1) - (g 0)) + (1 : Int32))
    have q159 := c_iadd (0 : Int32) (((g 1) - (g 0)) + (1 : Int32))
    have q160 := rng32 ((0 : Int32) + (((g 1) - (g 0)) + (1 : Int32)))
    have q161 := rng32 (g 3)
    have q162 := rng32 (g 2)
    have q163 := c_isub (g 3) (g 2)
    have q164 := rng32 ((g 3) - (g 2))
    have q165 := c_iadd ((g 3) - (g 2)) (1 : Int32)
    have q166 := rng32 (((g 3) - (g 2)) + (1 : Int32))
    have q167 := c_iadd ((0 : Int32) + (((g 1) - (g 0)) + (1 : Int32))) (((g 3) - (g 2)) + (1 : Int32))
    have q168 := rng32 (((0 : Int32) + (((g 1) - (g 0)) + (1 : Int32))) + (((g 3) - (g 2)) + (1 : Int32)))
    omega
  have q170 : ¬ sz_150 < 0 := by
    have q172 := rng32 sz_150
    rw [Int32.lt_iff_toInt_lt]; have q0 : (0 : Int32).toInt = 0 := rfl; omega
  have q171 : sz_150.toNatClampNeg ≤ 8 := by
    have q173 := rng32 sz_150
    have q0 := nat_of q170; omega
  have K174 : ∀ t, Steps p.tables e below (s₁.setTop (mkF m 31 #[.val (.ref ra), .val (.int sz_150), .val (.int (4 : Int32)), .unset, .unset, .unset] [(.int sz_150)])) t → Steps p.tables e below (s₁.setTop (entryFrame m #[(.ref ra)] 6)) t := fun t k => K169 t (by
    show Steps p.tables e below (s₁.setTop (mkF m 30 #[.val (.ref ra), .val (.int sz_150), .val (.int (4 : Int32)), .unset, .unset, .unset] [])) t
    refine XS.iloadN X0.here hx rfl (hb hby own_d1_30) rfl ?_
    exact k)
  obtain ⟨T175, h175, k175, X175, e175, E175, A175, st175⟩ := newP X0 hx hZ (hw _ (List.mem_of_getElem? (i := 3) rfl)) e0 (g := (mkF m 31 #[.val (.ref ra), .val (.int sz_150), .val (.int (4 : Int32)), .unset, .unset, .unset] [(.int sz_150)])) rfl (hb hby own_d1_31) rfl q170 (cap := 8) q171 (by decide) (by decide) (by decide)
  obtain ⟨b175, g175⟩ : ∃ z, z = h0.size := ⟨_, rfl⟩
  rw [← g175] at A175 st175
  have ne176 : own_Ne ra b175 := Nat.ne_of_lt (Nat.lt_of_lt_of_le P_0.lt (Nat.le_of_eq g175.symm))
  have gb177 : own_Le n0 b175 := Nat.le_trans Z0 (Nat.le_of_eq g175.symm)
  have sb178 : own_Le h0.size b175 := Nat.le_trans (Keep.refl h0 []).1 (Nat.le_of_eq g175.symm)
  have F179 := P_0.ext E175
  have Z180 : own_Le n0 h175.size := Nat.le_trans Z0 E175.1
  have Kp181 : Keep h0 h175 [] := Keep.ext (Keep.refl h0 []) E175
  have V182 : own_Arf Z h175 b175 .int sz_150 (fun _ => (0 : Int32)) := own_Arf.new A175 q170 rfl
  have K183 : ∀ t, Steps p.tables e below (T175.setTop (mkF m 33 #[.val (.ref ra), .val (.int sz_150), .val (.int (4 : Int32)), .unset, .unset, .unset] [(.ref b175)])) t → Steps p.tables e below (s₁.setTop (entryFrame m #[(.ref ra)] 6)) t := fun t k => K174 t (st175 _ k)
  obtain ⟨cl184, Ar184, S184, N184, Hs184⟩ := id F179
  have hc185 : (0 : Int32) < (4 : Int32) := by
    have q186 := (by decide : (0 : Int32).toInt = 0)
    have q187 := (by decide : (4 : Int32).toInt = 4)
    rw [Int32.lt_iff_toInt_lt]; omega
  have q189 : ¬ (0 : Int32) < 0 ∧ (0 : Int32) < (4 : Int32) := by
    have q190 := (by decide : (0 : Int32).toInt = 0)
    have q191 := (by decide : (4 : Int32).toInt = 4)
    rw [Int32.lt_iff_toInt_lt, Int32.lt_iff_toInt_lt]; have q0 : (0 : Int32).toInt = 0 := rfl; omega
  obtain ⟨cl188, Ar188, S188, N188, Hs188⟩ := id F179
  have hin188 : ¬ ((0 : Int32) < 0 ∨ cl188.slots.size ≤ ((0 : Int32)).toNatClampNeg) := inb_of S188 q189
  have hat188 : cl188.slots[((0 : Int32)).toNatClampNeg]? = some (.int (g 0)) := own_at Hs188 S188 hin188 (rfl)
  have K192 : ∀ t, Steps p.tables e below (T175.setTop (mkF m 52 #[.val (.ref ra), .val (.int sz_150), .val (.ref b175), .val (.int (0 : Int32)), .val (.int (0 : Int32)), .val (.int (g 0))] [])) t → Steps p.tables e below (s₁.setTop (entryFrame m #[(.ref ra)] 6)) t := fun t k => K183 t (by
    show Steps p.tables e below (T175.setTop (mkF m 33 #[.val (.ref ra), .val (.int sz_150), .val (.int (4 : Int32)), .unset, .unset, .unset] [(.ref b175)])) t
    refine XS.astoreN X175.here hx rfl (hb hby own_d1_33) rfl rfl (l' := #[.val (.ref ra), .val (.int sz_150), .val (.ref b175), .unset, .unset, .unset]) rfl ?_
    show Steps p.tables e below (T175.setTop (mkF m 34 #[.val (.ref ra), .val (.int sz_150), .val (.ref b175), .unset, .unset, .unset] [])) t
    refine XS.iconst X175.here hx rfl (hb hby own_d1_34) ?_
    show Steps p.tables e below (T175.setTop (mkF m 35 #[.val (.ref ra), .val (.int sz_150), .val (.ref b175), .unset, .unset, .unset] [(.int (0 : Int32))])) t
    refine XS.istoreN X175.here hx rfl (hb hby own_d1_35) rfl (l' := #[.val (.ref ra), .val (.int sz_150), .val (.ref b175), .val (.int (0 : Int32)), .unset, .unset]) rfl ?_
    show Steps p.tables e below (T175.setTop (mkF m 36 #[.val (.ref ra), .val (.int sz_150), .val (.ref b175), .val (.int (0 : Int32)), .unset, .unset] [])) t
    refine XS.iconst X175.here hx rfl (hb hby own_d1_36) ?_
    show Steps p.tables e below (T175.setTop (mkF m 37 #[.val (.ref ra), .val (.int sz_150), .val (.ref b175), .val (.int (0 : Int32)), .unset, .unset] [(.int (0 : Int32))])) t
    refine XS.istore X175.here hx rfl (hb hby own_d1_37) rfl (l' := #[.val (.ref ra), .val (.int sz_150), .val (.ref b175), .val (.int (0 : Int32)), .val (.int (0 : Int32)), .unset]) rfl ?_
    show Steps p.tables e below (T175.setTop (mkF m 39 #[.val (.ref ra), .val (.int sz_150), .val (.ref b175), .val (.int (0 : Int32)), .val (.int (0 : Int32)), .unset] [])) t
    refine XS.iload X175.here hx rfl (hb hby own_d1_39) rfl ?_
    show Steps p.tables e below (T175.setTop (mkF m 41 #[.val (.ref ra), .val (.int sz_150), .val (.ref b175), .val (.int (0 : Int32)), .val (.int (0 : Int32)), .unset] [(.int (0 : Int32))])) t
    refine XS.aloadN X175.here hx rfl (hb hby own_d1_41) rfl rfl ?_
    show Steps p.tables e below (T175.setTop (mkF m 42 #[.val (.ref ra), .val (.int sz_150), .val (.ref b175), .val (.int (0 : Int32)), .val (.int (0 : Int32)), .unset] [(.ref ra), (.int (0 : Int32))])) t
    refine X175.arraylength hx (by rw [e175]; exact Ar184.1) (State.isArrayOf_alike hZ.alike Ar184.2.1) (g := (mkF m 42 #[.val (.ref ra), .val (.int sz_150), .val (.ref b175), .val (.int (0 : Int32)), .val (.int (0 : Int32)), .unset] [(.ref ra), (.int (0 : Int32))])) rfl rfl (hb hby own_d1_42) _ ?_
    rw [len_of S184 N184]
    show Steps p.tables e below (T175.setTop (mkF m 43 #[.val (.ref ra), .val (.int sz_150), .val (.ref b175), .val (.int (0 : Int32)), .val (.int (0 : Int32)), .unset] [(.int (4 : Int32)), (.int (0 : Int32))])) t
    refine XS.icmpNo X175.here hx rfl (hb hby own_d1_43) rfl (tlt hc185).2.1 ?_
    show Steps p.tables e below (T175.setTop (mkF m 46 #[.val (.ref ra), .val (.int sz_150), .val (.ref b175), .val (.int (0 : Int32)), .val (.int (0 : Int32)), .unset] [])) t
    refine XS.aloadN X175.here hx rfl (hb hby own_d1_46) rfl rfl ?_
    show Steps p.tables e below (T175.setTop (mkF m 47 #[.val (.ref ra), .val (.int sz_150), .val (.ref b175), .val (.int (0 : Int32)), .val (.int (0 : Int32)), .unset] [(.ref ra)])) t
    refine XS.iload X175.here hx rfl (hb hby own_d1_47) rfl ?_
    show Steps p.tables e below (T175.setTop (mkF m 49 #[.val (.ref ra), .val (.int sz_150), .val (.ref b175), .val (.int (0 : Int32)), .val (.int (0 : Int32)), .unset] [(.int (0 : Int32)), (.ref ra)])) t
    refine X175.iaload hx (j := (0 : Int32)) (v := (.int (g 0))) (by rw [e175]; exact Ar188.1) (State.isArrayOf_alike hZ.alike Ar188.2.1) Ar188.2.2 hin188 hat188 (g := (mkF m 49 #[.val (.ref ra), .val (.int sz_150), .val (.ref b175), .val (.int (0 : Int32)), .val (.int (0 : Int32)), .unset] [(.int (0 : Int32)), (.ref ra)])) rfl rfl (hb hby own_d1_49) _ ?_
    show Steps p.tables e below (T175.setTop (mkF m 50 #[.val (.ref ra), .val (.int sz_150), .val (.ref b175), .val (.int (0 : Int32)), .val (.int (0 : Int32)), .unset] [(.int (g 0))])) t
    refine XS.istore X175.here hx rfl (hb hby own_d1_50) rfl (l' := #[.val (.ref ra), .val (.int sz_150), .val (.ref b175), .val (.int (0 : Int32)), .val (.int (0 : Int32)), .val (.int (g 0))]) rfl ?_
    exact k)
  have loop193 : ∀ (d : Nat) (T : State) (Lc : List Loc) (h : Heap) (ff : Nat → Int32) (nx : Int32) (sx : Int32), Stand p l e ({ frames := 0, cells := 1, slots := 8, locals := 0 } : Room) s m #[(.ref ra)] below meth c T Lc 1 8 → T.heap = h → Fr n0 Lc → Keep h0 h [] → own_Le n0 h.size → own_Arf Z h ra .int (4 : Int32) g → own_Arf Z h b175 .int sz_150 ff → (nx.toInt = 0 + (sx.toInt - (g 0).toInt) ∧ sx.toInt + ((d : Nat) : Int) = (g 1).toInt + 1 ∧ (g 0).toInt ≤ sx.toInt ∧ (∀ j : Nat, (j : Int) < 0 → ff j = (fun _ => (0 : Int32)) j) ∧ (∀ j : Nat, 0 ≤ (j : Int) → (j : Int) < nx.toInt → (ff j).toInt = (g 0).toInt + ((j : Int) - 0))) → ∃ (T' : State) (Lc' : List Loc) (h' : Heap) (ff' : Nat → Int32) (nx' : Int32) (sx' : Int32), Stand p l e ({ frames := 0, cells := 1, slots := 8, locals := 0 } : Room) s m #[(.ref ra)] below meth c T' Lc' 1 8 ∧ T'.heap = h' ∧ Fr n0 Lc' ∧ Keep h0 h' [] ∧ own_Le n0 h'.size ∧ own_Arf Z h' ra .int (4 : Int32) g ∧ own_Arf Z h' b175 .int sz_150 ff' ∧ (nx'.toInt = 0 + ((g 1).toInt - (g 0).toInt + 1) ∧ (∀ j : Nat, (j : Int) < 0 → ff' j = (fun _ => (0 : Int32)) j) ∧ (∀ j : Nat, 0 ≤ (j : Int) → (j : Int) < 0 + ((g 1).toInt - (g 0).toInt + 1) → (ff' j).toInt = (g 0).toInt + ((j : Int) - 0))) ∧ ∀ t, Steps p.tables e below (T'.setTop (mkF m 77 #[.val (.ref ra), .val (.int sz_150), .val (.ref b175), .val (.int nx'), .val (.int (0 : Int32)), .val (.int sx')] [])) t → Steps p.tables e below (T.setTop (mkF m 52 #[.val (.ref ra), .val (.int sz_150), .val (.ref b175), .val (.int nx), .val (.int (0 : Int32)), .val (.int sx)] [])) t := by
    intro d
    induction d with
    | zero =>
      intro T Lc h ff nx sx Xl el Nl Kl Zl Fl0 Fl1 hI
      have idK : ∀ t, Steps p.tables e below (T.setTop (mkF m 52 #[.val (.ref ra), .val (.int sz_150), .val (.ref b175), .val (.int nx), .val (.int (0 : Int32)), .val (.int sx)] [])) t → Steps p.tables e below (T.setTop (mkF m 52 #[.val (.ref ra), .val (.int sz_150), .val (.ref b175), .val (.int nx), .val (.int (0 : Int32)), .val (.int sx)] [])) t := fun _ k => k
      obtain ⟨hI1, hI2, hI3, hI4, hI5⟩ := hI
      have hcl := own_clamp (j := nx) (by omega)
      have q195 : ¬ (1 : Int32) < 0 ∧ (1 : Int32) < (4 : Int32) := by
        have q196 := rng32 nx
        have q197 := rng32 sx
        have q198 := (by decide : (1 : Int32).toInt = 1)
        have q199 := (by decide : (4 : Int32).toInt = 4)
        rw [Int32.lt_iff_toInt_lt, Int32.lt_iff_toInt_lt]; have q0 : (0 : Int32).toInt = 0 := rfl; omega
      obtain ⟨cl194, Ar194, S194, N194, Hs194⟩ := id Fl0
      have hin194 : ¬ ((1 : Int32) < 0 ∨ cl194.slots.size ≤ ((1 : Int32)).toNatClampNeg) := inb_of S194 q195
      have hat194 : cl194.slots[((1 : Int32)).toNatClampNeg]? = some (.int (g 1)) := own_at Hs194 S194 hin194 (rfl)
      have hc200 : (g 1) < sx := by
        have q201 := rng32 nx
        have q202 := rng32 sx
        have q203 := rng32 (g 1)
        rw [Int32.lt_iff_toInt_lt]; omega
      have K204 : ∀ t, Steps p.tables e below (T.setTop (mkF m 77 #[.val (.ref ra), .val (.int sz_150), .val (.ref b175), .val (.int nx), .val (.int (0 : Int32)), .val (.int sx)] [])) t → Steps p.tables e below (T.setTop (mkF m 52 #[.val (.ref ra), .val (.int sz_150), .val (.ref b175), .val (.int nx), .val (.int (0 : Int32)), .val (.int sx)] [])) t := fun t k => idK t (by
        show Steps p.tables e below (T.setTop (mkF m 52 #[.val (.ref ra), .val (.int sz_150), .val (.ref b175), .val (.int nx), .val (.int (0 : Int32)), .val (.int sx)] [])) t
        refine XS.iload Xl.here hx rfl (hb hby own_d1_52) rfl ?_
        show Steps p.tables e below (T.setTop (mkF m 54 #[.val (.ref ra), .val (.int sz_150), .val (.ref b175), .val (.int nx), .val (.int (0 : Int32)), .val (.int sx)] [(.int sx)])) t
        refine XS.aloadN Xl.here hx rfl (hb hby own_d1_54) rfl rfl ?_
        show Steps p.tables e below (T.setTop (mkF m 55 #[.val (.ref ra), .val (.int sz_150), .val (.ref b175), .val (.int nx), .val (.int (0 : Int32)), .val (.int sx)] [(.ref ra), (.int sx)])) t
        refine XS.iload Xl.here hx rfl (hb hby own_d1_55) rfl ?_
        show Steps p.tables e below (T.setTop (mkF m 57 #[.val (.ref ra), .val (.int sz_150), .val (.ref b175), .val (.int nx), .val (.int (0 : Int32)), .val (.int sx)] [(.int (0 : Int32)), (.ref ra), (.int sx)])) t
        refine XS.iconst Xl.here hx rfl (hb hby own_d1_57) ?_
        show Steps p.tables e below (T.setTop (mkF m 58 #[.val (.ref ra), .val (.int sz_150), .val (.ref b175), .val (.int nx), .val (.int (0 : Int32)), .val (.int sx)] [(.int (1 : Int32)), (.int (0 : Int32)), (.ref ra), (.int sx)])) t
        refine XS.iadd Xl.here hx rfl (hb hby own_d1_58) rfl ?_
        show Steps p.tables e below (T.setTop (mkF m 59 #[.val (.ref ra), .val (.int sz_150), .val (.ref b175), .val (.int nx), .val (.int (0 : Int32)), .val (.int sx)] [(.int (1 : Int32)), (.ref ra), (.int sx)])) t
        refine Xl.iaload hx (j := (1 : Int32)) (v := (.int (g 1))) (by rw [el]; exact Ar194.1) (State.isArrayOf_alike hZ.alike Ar194.2.1) Ar194.2.2 hin194 hat194 (g := (mkF m 59 #[.val (.ref ra), .val (.int sz_150), .val (.ref b175), .val (.int nx), .val (.int (0 : Int32)), .val (.int sx)] [(.int (1 : Int32)), (.ref ra), (.int sx)])) rfl rfl (hb hby own_d1_59) _ ?_
        show Steps p.tables e below (T.setTop (mkF m 60 #[.val (.ref ra), .val (.int sz_150), .val (.ref b175), .val (.int nx), .val (.int (0 : Int32)), .val (.int sx)] [(.int (g 1)), (.int sx)])) t
        refine XS.icmpYes Xl.here hx rfl (pc0 := 60) (pc' := 77) rfl (hb hby own_d1_60) rfl (tlt hc200).2.2.1 (by decide) (by decide) ?_
        exact k)
      have q205 := rng32 nx
      have q206 := rng32 sx
      exact ⟨T, _, h, ff, nx, sx, Xl, el, Nl, Kl, Zl, Fl0, Fl1, (by exact ⟨by omega, hI4, fun j h1 h2 => hI5 j h1 (by omega)⟩), K204⟩
    | succ d ih =>
      intro T Lc h ff nx sx Xl el Nl Kl Zl Fl0 Fl1 hI
      have idK : ∀ t, Steps p.tables e below (T.setTop (mkF m 52 #[.val (.ref ra), .val (.int sz_150), .val (.ref b175), .val (.int nx), .val (.int (0 : Int32)), .val (.int sx)] [])) t → Steps p.tables e below (T.setTop (mkF m 52 #[.val (.ref ra), .val (.int sz_150), .val (.ref b175), .val (.int nx), .val (.int (0 : Int32)), .val (.int sx)] [])) t := fun _ k => k
      obtain ⟨hI1, hI2, hI3, hI4, hI5⟩ := hI
      have hcl := own_clamp (j := nx) (by omega)
      have q208 : ¬ (1 : Int32) < 0 ∧ (1 : Int32) < (4 : Int32) := by
        have q209 := rng32 nx
        have q210 := rng32 sx
        have q211 := (by decide : (1 : Int32).toInt = 1)
        have q212 := (by decide : (4 : Int32).toInt = 4)
        rw [Int32.lt_iff_toInt_lt, Int32.lt_iff_toInt_lt]; have q0 : (0 : Int32).toInt = 0 := rfl; omega
      obtain ⟨cl207, Ar207, S207, N207, Hs207⟩ := id Fl0
      have hin207 : ¬ ((1 : Int32) < 0 ∨ cl207.slots.size ≤ ((1 : Int32)).toNatClampNeg) := inb_of S207 q208
      have hat207 : cl207.slots[((1 : Int32)).toNatClampNeg]? = some (.int (g 1)) := own_at Hs207 S207 hin207 (rfl)
      have hc213 : ¬ ((g 1) < sx) := by
        have q214 := rng32 nx
        have q215 := rng32 sx
        have q216 := rng32 (g 1)
        rw [Int32.lt_iff_toInt_lt]; omega
      have K217 : ∀ t, Steps p.tables e below (T.setTop (mkF m 70 #[.val (.ref ra), .val (.int sz_150), .val (.ref b175), .val (.int (nx + (1 : Int32))), .val (.int (0 : Int32)), .val (.int sx)] [(.int sx), (.int nx), (.ref b175)])) t → Steps p.tables e below (T.setTop (mkF m 52 #[.val (.ref ra), .val (.int sz_150), .val (.ref b175), .val (.int nx), .val (.int (0 : Int32)), .val (.int sx)] [])) t := fun t k => idK t (by
        show Steps p.tables e below (T.setTop (mkF m 52 #[.val (.ref ra), .val (.int sz_150), .val (.ref b175), .val (.int nx), .val (.int (0 : Int32)), .val (.int sx)] [])) t
        refine XS.iload Xl.here hx rfl (hb hby own_d1_52) rfl ?_
        show Steps p.tables e below (T.setTop (mkF m 54 #[.val (.ref ra), .val (.int sz_150), .val (.ref b175), .val (.int nx), .val (.int (0 : Int32)), .val (.int sx)] [(.int sx)])) t
        refine XS.aloadN Xl.here hx rfl (hb hby own_d1_54) rfl rfl ?_
        show Steps p.tables e below (T.setTop (mkF m 55 #[.val (.ref ra), .val (.int sz_150), .val (.ref b175), .val (.int nx), .val (.int (0 : Int32)), .val (.int sx)] [(.ref ra), (.int sx)])) t
        refine XS.iload Xl.here hx rfl (hb hby own_d1_55) rfl ?_
        show Steps p.tables e below (T.setTop (mkF m 57 #[.val (.ref ra), .val (.int sz_150), .val (.ref b175), .val (.int nx), .val (.int (0 : Int32)), .val (.int sx)] [(.int (0 : Int32)), (.ref ra), (.int sx)])) t
        refine XS.iconst Xl.here hx rfl (hb hby own_d1_57) ?_
        show Steps p.tables e below (T.setTop (mkF m 58 #[.val (.ref ra), .val (.int sz_150), .val (.ref b175), .val (.int nx), .val (.int (0 : Int32)), .val (.int sx)] [(.int (1 : Int32)), (.int (0 : Int32)), (.ref ra), (.int sx)])) t
        refine XS.iadd Xl.here hx rfl (hb hby own_d1_58) rfl ?_
        show Steps p.tables e below (T.setTop (mkF m 59 #[.val (.ref ra), .val (.int sz_150), .val (.ref b175), .val (.int nx), .val (.int (0 : Int32)), .val (.int sx)] [(.int (1 : Int32)), (.ref ra), (.int sx)])) t
        refine Xl.iaload hx (j := (1 : Int32)) (v := (.int (g 1))) (by rw [el]; exact Ar207.1) (State.isArrayOf_alike hZ.alike Ar207.2.1) Ar207.2.2 hin207 hat207 (g := (mkF m 59 #[.val (.ref ra), .val (.int sz_150), .val (.ref b175), .val (.int nx), .val (.int (0 : Int32)), .val (.int sx)] [(.int (1 : Int32)), (.ref ra), (.int sx)])) rfl rfl (hb hby own_d1_59) _ ?_
        show Steps p.tables e below (T.setTop (mkF m 60 #[.val (.ref ra), .val (.int sz_150), .val (.ref b175), .val (.int nx), .val (.int (0 : Int32)), .val (.int sx)] [(.int (g 1)), (.int sx)])) t
        refine XS.icmpNo Xl.here hx rfl (hb hby own_d1_60) rfl (flt hc213).2.2.1 ?_
        show Steps p.tables e below (T.setTop (mkF m 63 #[.val (.ref ra), .val (.int sz_150), .val (.ref b175), .val (.int nx), .val (.int (0 : Int32)), .val (.int sx)] [])) t
        refine XS.aloadN Xl.here hx rfl (hb hby own_d1_63) rfl rfl ?_
        show Steps p.tables e below (T.setTop (mkF m 64 #[.val (.ref ra), .val (.int sz_150), .val (.ref b175), .val (.int nx), .val (.int (0 : Int32)), .val (.int sx)] [(.ref b175)])) t
        refine XS.iloadN Xl.here hx rfl (hb hby own_d1_64) rfl ?_
        show Steps p.tables e below (T.setTop (mkF m 65 #[.val (.ref ra), .val (.int sz_150), .val (.ref b175), .val (.int nx), .val (.int (0 : Int32)), .val (.int sx)] [(.int nx), (.ref b175)])) t
        refine XS.iinc Xl.here hx rfl (hb hby own_d1_65) rfl (l' := #[.val (.ref ra), .val (.int sz_150), .val (.ref b175), .val (.int (nx + (1 : Int32))), .val (.int (0 : Int32)), .val (.int sx)]) rfl ?_
        show Steps p.tables e below (T.setTop (mkF m 68 #[.val (.ref ra), .val (.int sz_150), .val (.ref b175), .val (.int (nx + (1 : Int32))), .val (.int (0 : Int32)), .val (.int sx)] [(.int nx), (.ref b175)])) t
        refine XS.iload Xl.here hx rfl (hb hby own_d1_68) rfl ?_
        exact k)
      have q219 : ¬ nx < 0 ∧ nx < sz_150 := by
        have q220 := rng32 nx
        have q221 := rng32 sx
        have q222 := rng32 sz_150
        rw [Int32.lt_iff_toInt_lt, Int32.lt_iff_toInt_lt]; have q0 : (0 : Int32).toInt = 0 := rfl; omega
      obtain ⟨cl218, Ar218, S218, N218, Hs218⟩ := id Fl1
      have hin218 : ¬ (nx < 0 ∨ cl218.slots.size ≤ (nx).toNatClampNeg) := inb_of S218 q219
      obtain ⟨T218, h218, X218, e218, W218, st218⟩ := stI Xl hx hZ el Ar218 (j := nx) hin218 (g := (mkF m 70 #[.val (.ref ra), .val (.int sz_150), .val (.ref b175), .val (.int (nx + (1 : Int32))), .val (.int (0 : Int32)), .val (.int sx)] [(.int sx), (.int nx), (.ref b175)])) rfl rfl (hb hby own_d1_70)
      obtain ⟨f224, hf224⟩ : ∃ fnew : Nat → Int32, fnew = fun i => if i = nx.toNatClampNeg then sx else ff i := ⟨_, rfl⟩
      have V223 : own_Arf Z h218 b175 .int sz_150 f224 := own_Arf.set Ar218 S218 N218 Hs218 W218 rfl hf224
      have Kp225 : Keep h0 h218 [] := Keep.wr Kl W218 (Or.inr sb178)
      have Z226 : own_Le n0 h218.size := Nat.le_trans Zl (Keep.of_wr W218).1
      have N227 := Fr.snoc X218 Nl gb177
      have F228 := Fl0.other W218 ne176
      have K229 : ∀ t, Steps p.tables e below (T218.setTop (mkF m 71 #[.val (.ref ra), .val (.int sz_150), .val (.ref b175), .val (.int (nx + (1 : Int32))), .val (.int (0 : Int32)), .val (.int sx)] [])) t → Steps p.tables e below (T.setTop (mkF m 52 #[.val (.ref ra), .val (.int sz_150), .val (.ref b175), .val (.int nx), .val (.int (0 : Int32)), .val (.int sx)] [])) t := fun t k => K217 t (st218 _ k)
      have K230 : ∀ t, Steps p.tables e below (T218.setTop (mkF m 52 #[.val (.ref ra), .val (.int sz_150), .val (.ref b175), .val (.int (nx + (1 : Int32))), .val (.int (0 : Int32)), .val (.int (sx + (1 : Int32)))] [])) t → Steps p.tables e below (T.setTop (mkF m 52 #[.val (.ref ra), .val (.int sz_150), .val (.ref b175), .val (.int nx), .val (.int (0 : Int32)), .val (.int sx)] [])) t := fun t k => K229 t (by
        show Steps p.tables e below (T218.setTop (mkF m 71 #[.val (.ref ra), .val (.int sz_150), .val (.ref b175), .val (.int (nx + (1 : Int32))), .val (.int (0 : Int32)), .val (.int sx)] [])) t
        refine XS.iinc X218.here hx rfl (hb hby own_d1_71) rfl (l' := #[.val (.ref ra), .val (.int sz_150), .val (.ref b175), .val (.int (nx + (1 : Int32))), .val (.int (0 : Int32)), .val (.int (sx + (1 : Int32)))]) rfl ?_
        show Steps p.tables e below (T218.setTop (mkF m 74 #[.val (.ref ra), .val (.int sz_150), .val (.ref b175), .val (.int (nx + (1 : Int32))), .val (.int (0 : Int32)), .val (.int (sx + (1 : Int32)))] [])) t
        refine XS.goto X218.here hx rfl (pc0 := 74) (pc' := 52) rfl (hb hby own_d1_74) (by decide) (by decide) ?_
        exact k)
      have q231 := rng32 nx
      have q232 := rng32 sx
      have q233 := (by decide : (1 : Int32).toInt = 1)
      have q234 := c_iadd nx (1 : Int32)
      have q235 := rng32 (nx + (1 : Int32))
      have q236 := c_iadd sx (1 : Int32)
      have q237 := rng32 (sx + (1 : Int32))
      have hI2 : ((nx + (1 : Int32)).toInt = 0 + ((sx + (1 : Int32)).toInt - (g 0).toInt) ∧ (sx + (1 : Int32)).toInt + ((d : Nat) : Int) = (g 1).toInt + 1 ∧ (g 0).toInt ≤ (sx + (1 : Int32)).toInt ∧ (∀ j : Nat, (j : Int) < 0 → f224 j = (fun _ => (0 : Int32)) j) ∧ (∀ j : Nat, 0 ≤ (j : Int) → (j : Int) < (nx + (1 : Int32)).toInt → (f224 j).toInt = (g 0).toInt + ((j : Int) - 0))) := by 
        refine ⟨by omega, by omega, by omega, fun j hj => ?_, fun j h1 h2 => ?_⟩
        · rw [hf224]; simp only; rw [if_neg (by omega)]; exact hI4 j hj
        · rw [hf224]; simp only
          by_cases hj : j = nx.toNatClampNeg
          · rw [if_pos hj]; omega
          · rw [if_neg hj]; exact hI5 j h1 (by omega)
      obtain ⟨T2, Lc2, h2', ff_2, nx_2, sx_2, X2', e2', N2', K2', Z2', Fx0', Fx1', hF, kk⟩ := ih T218 _ h218 (f224) (nx + (1 : Int32)) (sx + (1 : Int32)) X218 e218 N227 Kp225 Z226 F228 V223 hI2
      exact ⟨T2, Lc2, h2', ff_2, nx_2, sx_2, X2', e2', N2', K2', Z2', Fx0', Fx1', hF, fun t k => K230 t (kk t k)⟩
  have hI238 : ((0 : Int32).toInt = 0 + ((g 0).toInt - (g 0).toInt) ∧ (g 0).toInt + ((((((g 1).toInt - (g 0).toInt + 1).toNat)) : Nat) : Int) = (g 1).toInt + 1 ∧ (g 0).toInt ≤ (g 0).toInt ∧ (∀ j : Nat, (j : Int) < 0 → (fun _ => (0 : Int32)) j = (fun _ => (0 : Int32)) j) ∧ (∀ j : Nat, 0 ≤ (j : Int) → (j : Int) < (0 : Int32).toInt → ((fun _ => (0 : Int32)) j).toInt = (g 0).toInt + ((j : Int) - 0))) := by
    have q239 := (by decide : (0 : Int32).toInt = 0)
    have q240 := rng32 (g 0)
    exact ⟨by omega, by omega, by omega, fun _ _ => rfl, fun j h1 h2 => by omega⟩
  obtain ⟨T238, Lc238, h238, ff_238, nx_238, sx_238, X238, e238, N238, Kp238, Z238, Fz238_0, Fz238_1, hF238, kl238⟩ := loop193 ((((g 1).toInt - (g 0).toInt + 1).toNat)) T175 _ h175 ((fun _ => (0 : Int32))) (0 : Int32) (g 0) X175 e175 N0 Kp181 Z180 F179 V182 hI238
  have K241 : ∀ t, Steps p.tables e below (T238.setTop (mkF m 77 #[.val (.ref ra), .val (.int sz_150), .val (.ref b175), .val (.int nx_238), .val (.int (0 : Int32)), .val (.int sx_238)] [])) t → Steps p.tables e below (s₁.setTop (entryFrame m #[(.ref ra)] 6)) t := fun t k => K192 t (kl238 t k)
  obtain ⟨hF238a, hF238b, hF238c⟩ := hF238
  obtain ⟨cl242, Ar242, S242, N242, Hs242⟩ := id Fz238_0
  have hc243 : (2 : Int32) < (4 : Int32) := by
    have q244 := (by decide : (2 : Int32).toInt = 2)
    have q245 := (by decide : (4 : Int32).toInt = 4)
    rw [Int32.lt_iff_toInt_lt]; omega
  have q247 : ¬ (2 : Int32) < 0 ∧ (2 : Int32) < (4 : Int32) := by
    have q248 := (by decide : (2 : Int32).toInt = 2)
    have q249 := (by decide : (4 : Int32).toInt = 4)
    rw [Int32.lt_iff_toInt_lt, Int32.lt_iff_toInt_lt]; have q0 : (0 : Int32).toInt = 0 := rfl; omega
  obtain ⟨cl246, Ar246, S246, N246, Hs246⟩ := id Fz238_0
  have hin246 : ¬ ((2 : Int32) < 0 ∨ cl246.slots.size ≤ ((2 : Int32)).toNatClampNeg) := inb_of S246 q247
  have hat246 : cl246.slots[((2 : Int32)).toNatClampNeg]? = some (.int (g 2)) := own_at Hs246 S246 hin246 (rfl)
  have K250 : ∀ t, Steps p.tables e below (T238.setTop (mkF m 52 #[.val (.ref ra), .val (.int sz_150), .val (.ref b175), .val (.int nx_238), .val (.int (2 : Int32)), .val (.int (g 2))] [])) t → Steps p.tables e below (s₁.setTop (entryFrame m #[(.ref ra)] 6)) t := fun t k => K241 t (by
    show Steps p.tables e below (T238.setTop (mkF m 77 #[.val (.ref ra), .val (.int sz_150), .val (.ref b175), .val (.int nx_238), .val (.int (0 : Int32)), .val (.int sx_238)] [])) t
    refine XS.iinc X238.here hx rfl (hb hby own_d1_77) rfl (l' := #[.val (.ref ra), .val (.int sz_150), .val (.ref b175), .val (.int nx_238), .val (.int (2 : Int32)), .val (.int sx_238)]) rfl ?_
    show Steps p.tables e below (T238.setTop (mkF m 80 #[.val (.ref ra), .val (.int sz_150), .val (.ref b175), .val (.int nx_238), .val (.int (2 : Int32)), .val (.int sx_238)] [])) t
    refine XS.goto X238.here hx rfl (pc0 := 80) (pc' := 39) rfl (hb hby own_d1_80) (by decide) (by decide) ?_
    show Steps p.tables e below (T238.setTop (mkF m 39 #[.val (.ref ra), .val (.int sz_150), .val (.ref b175), .val (.int nx_238), .val (.int (2 : Int32)), .val (.int sx_238)] [])) t
    refine XS.iload X238.here hx rfl (hb hby own_d1_39) rfl ?_
    show Steps p.tables e below (T238.setTop (mkF m 41 #[.val (.ref ra), .val (.int sz_150), .val (.ref b175), .val (.int nx_238), .val (.int (2 : Int32)), .val (.int sx_238)] [(.int (2 : Int32))])) t
    refine XS.aloadN X238.here hx rfl (hb hby own_d1_41) rfl rfl ?_
    show Steps p.tables e below (T238.setTop (mkF m 42 #[.val (.ref ra), .val (.int sz_150), .val (.ref b175), .val (.int nx_238), .val (.int (2 : Int32)), .val (.int sx_238)] [(.ref ra), (.int (2 : Int32))])) t
    refine X238.arraylength hx (by rw [e238]; exact Ar242.1) (State.isArrayOf_alike hZ.alike Ar242.2.1) (g := (mkF m 42 #[.val (.ref ra), .val (.int sz_150), .val (.ref b175), .val (.int nx_238), .val (.int (2 : Int32)), .val (.int sx_238)] [(.ref ra), (.int (2 : Int32))])) rfl rfl (hb hby own_d1_42) _ ?_
    rw [len_of S242 N242]
    show Steps p.tables e below (T238.setTop (mkF m 43 #[.val (.ref ra), .val (.int sz_150), .val (.ref b175), .val (.int nx_238), .val (.int (2 : Int32)), .val (.int sx_238)] [(.int (4 : Int32)), (.int (2 : Int32))])) t
    refine XS.icmpNo X238.here hx rfl (hb hby own_d1_43) rfl (tlt hc243).2.1 ?_
    show Steps p.tables e below (T238.setTop (mkF m 46 #[.val (.ref ra), .val (.int sz_150), .val (.ref b175), .val (.int nx_238), .val (.int (2 : Int32)), .val (.int sx_238)] [])) t
    refine XS.aloadN X238.here hx rfl (hb hby own_d1_46) rfl rfl ?_
    show Steps p.tables e below (T238.setTop (mkF m 47 #[.val (.ref ra), .val (.int sz_150), .val (.ref b175), .val (.int nx_238), .val (.int (2 : Int32)), .val (.int sx_238)] [(.ref ra)])) t
    refine XS.iload X238.here hx rfl (hb hby own_d1_47) rfl ?_
    show Steps p.tables e below (T238.setTop (mkF m 49 #[.val (.ref ra), .val (.int sz_150), .val (.ref b175), .val (.int nx_238), .val (.int (2 : Int32)), .val (.int sx_238)] [(.int (2 : Int32)), (.ref ra)])) t
    refine X238.iaload hx (j := (2 : Int32)) (v := (.int (g 2))) (by rw [e238]; exact Ar246.1) (State.isArrayOf_alike hZ.alike Ar246.2.1) Ar246.2.2 hin246 hat246 (g := (mkF m 49 #[.val (.ref ra), .val (.int sz_150), .val (.ref b175), .val (.int nx_238), .val (.int (2 : Int32)), .val (.int sx_238)] [(.int (2 : Int32)), (.ref ra)])) rfl rfl (hb hby own_d1_49) _ ?_
    show Steps p.tables e below (T238.setTop (mkF m 50 #[.val (.ref ra), .val (.int sz_150), .val (.ref b175), .val (.int nx_238), .val (.int (2 : Int32)), .val (.int sx_238)] [(.int (g 2))])) t
    refine XS.istore X238.here hx rfl (hb hby own_d1_50) rfl (l' := #[.val (.ref ra), .val (.int sz_150), .val (.ref b175), .val (.int nx_238), .val (.int (2 : Int32)), .val (.int (g 2))]) rfl ?_
    exact k)
  have loop251 : ∀ (d : Nat) (T : State) (Lc : List Loc) (h : Heap) (ff : Nat → Int32) (nx : Int32) (sx : Int32), Stand p l e ({ frames := 0, cells := 1, slots := 8, locals := 0 } : Room) s m #[(.ref ra)] below meth c T Lc 1 8 → T.heap = h → Fr n0 Lc → Keep h0 h [] → own_Le n0 h.size → own_Arf Z h ra .int (4 : Int32) g → own_Arf Z h b175 .int sz_150 ff → (nx.toInt = ((g 1).toInt - (g 0).toInt + 1) + (sx.toInt - (g 2).toInt) ∧ sx.toInt + ((d : Nat) : Int) = (g 3).toInt + 1 ∧ (g 2).toInt ≤ sx.toInt ∧ (∀ j : Nat, (j : Int) < ((g 1).toInt - (g 0).toInt + 1) → ff j = ff_238 j) ∧ (∀ j : Nat, ((g 1).toInt - (g 0).toInt + 1) ≤ (j : Int) → (j : Int) < nx.toInt → (ff j).toInt = (g 2).toInt + ((j : Int) - ((g 1).toInt - (g 0).toInt + 1)))) → ∃ (T' : State) (Lc' : List Loc) (h' : Heap) (ff' : Nat → Int32) (nx' : Int32) (sx' : Int32), Stand p l e ({ frames := 0, cells := 1, slots := 8, locals := 0 } : Room) s m #[(.ref ra)] below meth c T' Lc' 1 8 ∧ T'.heap = h' ∧ Fr n0 Lc' ∧ Keep h0 h' [] ∧ own_Le n0 h'.size ∧ own_Arf Z h' ra .int (4 : Int32) g ∧ own_Arf Z h' b175 .int sz_150 ff' ∧ (nx'.toInt = ((g 1).toInt - (g 0).toInt + 1) + ((g 3).toInt - (g 2).toInt + 1) ∧ (∀ j : Nat, (j : Int) < ((g 1).toInt - (g 0).toInt + 1) → ff' j = ff_238 j) ∧ (∀ j : Nat, ((g 1).toInt - (g 0).toInt + 1) ≤ (j : Int) → (j : Int) < ((g 1).toInt - (g 0).toInt + 1) + ((g 3).toInt - (g 2).toInt + 1) → (ff' j).toInt = (g 2).toInt + ((j : Int) - ((g 1).toInt - (g 0).toInt + 1)))) ∧ ∀ t, Steps p.tables e below (T'.setTop (mkF m 77 #[.val (.ref ra), .val (.int sz_150), .val (.ref b175), .val (.int nx'), .val (.int (2 : Int32)), .val (.int sx')] [])) t → Steps p.tables e below (T.setTop (mkF m 52 #[.val (.ref ra), .val (.int sz_150), .val (.ref b175), .val (.int nx), .val (.int (2 : Int32)), .val (.int sx)] [])) t := by
    intro d
    induction d with
    | zero =>
      intro T Lc h ff nx sx Xl el Nl Kl Zl Fl0 Fl1 hI
      have idK : ∀ t, Steps p.tables e below (T.setTop (mkF m 52 #[.val (.ref ra), .val (.int sz_150), .val (.ref b175), .val (.int nx), .val (.int (2 : Int32)), .val (.int sx)] [])) t → Steps p.tables e below (T.setTop (mkF m 52 #[.val (.ref ra), .val (.int sz_150), .val (.ref b175), .val (.int nx), .val (.int (2 : Int32)), .val (.int sx)] [])) t := fun _ k => k
      obtain ⟨hI1, hI2, hI3, hI4, hI5⟩ := hI
      have hcl := own_clamp (j := nx) (by omega)
      have q253 : ¬ (3 : Int32) < 0 ∧ (3 : Int32) < (4 : Int32) := by
        have q254 := rng32 nx
        have q255 := rng32 sx
        have q256 := (by decide : (3 : Int32).toInt = 3)
        have q257 := (by decide : (4 : Int32).toInt = 4)
        rw [Int32.lt_iff_toInt_lt, Int32.lt_iff_toInt_lt]; have q0 : (0 : Int32).toInt = 0 := rfl; omega
      obtain ⟨cl252, Ar252, S252, N252, Hs252⟩ := id Fl0
      have hin252 : ¬ ((3 : Int32) < 0 ∨ cl252.slots.size ≤ ((3 : Int32)).toNatClampNeg) := inb_of S252 q253
      have hat252 : cl252.slots[((3 : Int32)).toNatClampNeg]? = some (.int (g 3)) := own_at Hs252 S252 hin252 (rfl)
      have hc258 : (g 3) < sx := by
        have q259 := rng32 nx
        have q260 := rng32 sx
        have q261 := rng32 (g 3)
        rw [Int32.lt_iff_toInt_lt]; omega
      have K262 : ∀ t, Steps p.tables e below (T.setTop (mkF m 77 #[.val (.ref ra), .val (.int sz_150), .val (.ref b175), .val (.int nx), .val (.int (2 : Int32)), .val (.int sx)] [])) t → Steps p.tables e below (T.setTop (mkF m 52 #[.val (.ref ra), .val (.int sz_150), .val (.ref b175), .val (.int nx), .val (.int (2 : Int32)), .val (.int sx)] [])) t := fun t k => idK t (by
        show Steps p.tables e below (T.setTop (mkF m 52 #[.val (.ref ra), .val (.int sz_150), .val (.ref b175), .val (.int nx), .val (.int (2 : Int32)), .val (.int sx)] [])) t
        refine XS.iload Xl.here hx rfl (hb hby own_d1_52) rfl ?_
        show Steps p.tables e below (T.setTop (mkF m 54 #[.val (.ref ra), .val (.int sz_150), .val (.ref b175), .val (.int nx), .val (.int (2 : Int32)), .val (.int sx)] [(.int sx)])) t
        refine XS.aloadN Xl.here hx rfl (hb hby own_d1_54) rfl rfl ?_
        show Steps p.tables e below (T.setTop (mkF m 55 #[.val (.ref ra), .val (.int sz_150), .val (.ref b175), .val (.int nx), .val (.int (2 : Int32)), .val (.int sx)] [(.ref ra), (.int sx)])) t
        refine XS.iload Xl.here hx rfl (hb hby own_d1_55) rfl ?_
        show Steps p.tables e below (T.setTop (mkF m 57 #[.val (.ref ra), .val (.int sz_150), .val (.ref b175), .val (.int nx), .val (.int (2 : Int32)), .val (.int sx)] [(.int (2 : Int32)), (.ref ra), (.int sx)])) t
        refine XS.iconst Xl.here hx rfl (hb hby own_d1_57) ?_
        show Steps p.tables e below (T.setTop (mkF m 58 #[.val (.ref ra), .val (.int sz_150), .val (.ref b175), .val (.int nx), .val (.int (2 : Int32)), .val (.int sx)] [(.int (1 : Int32)), (.int (2 : Int32)), (.ref ra), (.int sx)])) t
        refine XS.iadd Xl.here hx rfl (hb hby own_d1_58) rfl ?_
        show Steps p.tables e below (T.setTop (mkF m 59 #[.val (.ref ra), .val (.int sz_150), .val (.ref b175), .val (.int nx), .val (.int (2 : Int32)), .val (.int sx)] [(.int (3 : Int32)), (.ref ra), (.int sx)])) t
        refine Xl.iaload hx (j := (3 : Int32)) (v := (.int (g 3))) (by rw [el]; exact Ar252.1) (State.isArrayOf_alike hZ.alike Ar252.2.1) Ar252.2.2 hin252 hat252 (g := (mkF m 59 #[.val (.ref ra), .val (.int sz_150), .val (.ref b175), .val (.int nx), .val (.int (2 : Int32)), .val (.int sx)] [(.int (3 : Int32)), (.ref ra), (.int sx)])) rfl rfl (hb hby own_d1_59) _ ?_
        show Steps p.tables e below (T.setTop (mkF m 60 #[.val (.ref ra), .val (.int sz_150), .val (.ref b175), .val (.int nx), .val (.int (2 : Int32)), .val (.int sx)] [(.int (g 3)), (.int sx)])) t
        refine XS.icmpYes Xl.here hx rfl (pc0 := 60) (pc' := 77) rfl (hb hby own_d1_60) rfl (tlt hc258).2.2.1 (by decide) (by decide) ?_
        exact k)
      have q263 := rng32 nx
      have q264 := rng32 sx
      exact ⟨T, _, h, ff, nx, sx, Xl, el, Nl, Kl, Zl, Fl0, Fl1, (by exact ⟨by omega, hI4, fun j h1 h2 => hI5 j h1 (by omega)⟩), K262⟩
    | succ d ih =>
      intro T Lc h ff nx sx Xl el Nl Kl Zl Fl0 Fl1 hI
      have idK : ∀ t, Steps p.tables e below (T.setTop (mkF m 52 #[.val (.ref ra), .val (.int sz_150), .val (.ref b175), .val (.int nx), .val (.int (2 : Int32)), .val (.int sx)] [])) t → Steps p.tables e below (T.setTop (mkF m 52 #[.val (.ref ra), .val (.int sz_150), .val (.ref b175), .val (.int nx), .val (.int (2 : Int32)), .val (.int sx)] [])) t := fun _ k => k
      obtain ⟨hI1, hI2, hI3, hI4, hI5⟩ := hI
      have hcl := own_clamp (j := nx) (by omega)
      have q266 : ¬ (3 : Int32) < 0 ∧ (3 : Int32) < (4 : Int32) := by
        have q267 := rng32 nx
        have q268 := rng32 sx
        have q269 := (by decide : (3 : Int32).toInt = 3)
        have q270 := (by decide : (4 : Int32).toInt = 4)
        rw [Int32.lt_iff_toInt_lt, Int32.lt_iff_toInt_lt]; have q0 : (0 : Int32).toInt = 0 := rfl; omega
      obtain ⟨cl265, Ar265, S265, N265, Hs265⟩ := id Fl0
      have hin265 : ¬ ((3 : Int32) < 0 ∨ cl265.slots.size ≤ ((3 : Int32)).toNatClampNeg) := inb_of S265 q266
      have hat265 : cl265.slots[((3 : Int32)).toNatClampNeg]? = some (.int (g 3)) := own_at Hs265 S265 hin265 (rfl)
      have hc271 : ¬ ((g 3) < sx) := by
        have q272 := rng32 nx
        have q273 := rng32 sx
        have q274 := rng32 (g 3)
        rw [Int32.lt_iff_toInt_lt]; omega
      have K275 : ∀ t, Steps p.tables e below (T.setTop (mkF m 70 #[.val (.ref ra), .val (.int sz_150), .val (.ref b175), .val (.int (nx + (1 : Int32))), .val (.int (2 : Int32)), .val (.int sx)] [(.int sx), (.int nx), (.ref b175)])) t → Steps p.tables e below (T.setTop (mkF m 52 #[.val (.ref ra), .val (.int sz_150), .val (.ref b175), .val (.int nx), .val (.int (2 : Int32)), .val (.int sx)] [])) t := fun t k => idK t (by
        show Steps p.tables e below (T.setTop (mkF m 52 #[.val (.ref ra), .val (.int sz_150), .val (.ref b175), .val (.int nx), .val (.int (2 : Int32)), .val (.int sx)] [])) t
        refine XS.iload Xl.here hx rfl (hb hby own_d1_52) rfl ?_
        show Steps p.tables e below (T.setTop (mkF m 54 #[.val (.ref ra), .val (.int sz_150), .val (.ref b175), .val (.int nx), .val (.int (2 : Int32)), .val (.int sx)] [(.int sx)])) t
        refine XS.aloadN Xl.here hx rfl (hb hby own_d1_54) rfl rfl ?_
        show Steps p.tables e below (T.setTop (mkF m 55 #[.val (.ref ra), .val (.int sz_150), .val (.ref b175), .val (.int nx), .val (.int (2 : Int32)), .val (.int sx)] [(.ref ra), (.int sx)])) t
        refine XS.iload Xl.here hx rfl (hb hby own_d1_55) rfl ?_
        show Steps p.tables e below (T.setTop (mkF m 57 #[.val (.ref ra), .val (.int sz_150), .val (.ref b175), .val (.int nx), .val (.int (2 : Int32)), .val (.int sx)] [(.int (2 : Int32)), (.ref ra), (.int sx)])) t
        refine XS.iconst Xl.here hx rfl (hb hby own_d1_57) ?_
        show Steps p.tables e below (T.setTop (mkF m 58 #[.val (.ref ra), .val (.int sz_150), .val (.ref b175), .val (.int nx), .val (.int (2 : Int32)), .val (.int sx)] [(.int (1 : Int32)), (.int (2 : Int32)), (.ref ra), (.int sx)])) t
        refine XS.iadd Xl.here hx rfl (hb hby own_d1_58) rfl ?_
        show Steps p.tables e below (T.setTop (mkF m 59 #[.val (.ref ra), .val (.int sz_150), .val (.ref b175), .val (.int nx), .val (.int (2 : Int32)), .val (.int sx)] [(.int (3 : Int32)), (.ref ra), (.int sx)])) t
        refine Xl.iaload hx (j := (3 : Int32)) (v := (.int (g 3))) (by rw [el]; exact Ar265.1) (State.isArrayOf_alike hZ.alike Ar265.2.1) Ar265.2.2 hin265 hat265 (g := (mkF m 59 #[.val (.ref ra), .val (.int sz_150), .val (.ref b175), .val (.int nx), .val (.int (2 : Int32)), .val (.int sx)] [(.int (3 : Int32)), (.ref ra), (.int sx)])) rfl rfl (hb hby own_d1_59) _ ?_
        show Steps p.tables e below (T.setTop (mkF m 60 #[.val (.ref ra), .val (.int sz_150), .val (.ref b175), .val (.int nx), .val (.int (2 : Int32)), .val (.int sx)] [(.int (g 3)), (.int sx)])) t
        refine XS.icmpNo Xl.here hx rfl (hb hby own_d1_60) rfl (flt hc271).2.2.1 ?_
        show Steps p.tables e below (T.setTop (mkF m 63 #[.val (.ref ra), .val (.int sz_150), .val (.ref b175), .val (.int nx), .val (.int (2 : Int32)), .val (.int sx)] [])) t
        refine XS.aloadN Xl.here hx rfl (hb hby own_d1_63) rfl rfl ?_
        show Steps p.tables e below (T.setTop (mkF m 64 #[.val (.ref ra), .val (.int sz_150), .val (.ref b175), .val (.int nx), .val (.int (2 : Int32)), .val (.int sx)] [(.ref b175)])) t
        refine XS.iloadN Xl.here hx rfl (hb hby own_d1_64) rfl ?_
        show Steps p.tables e below (T.setTop (mkF m 65 #[.val (.ref ra), .val (.int sz_150), .val (.ref b175), .val (.int nx), .val (.int (2 : Int32)), .val (.int sx)] [(.int nx), (.ref b175)])) t
        refine XS.iinc Xl.here hx rfl (hb hby own_d1_65) rfl (l' := #[.val (.ref ra), .val (.int sz_150), .val (.ref b175), .val (.int (nx + (1 : Int32))), .val (.int (2 : Int32)), .val (.int sx)]) rfl ?_
        show Steps p.tables e below (T.setTop (mkF m 68 #[.val (.ref ra), .val (.int sz_150), .val (.ref b175), .val (.int (nx + (1 : Int32))), .val (.int (2 : Int32)), .val (.int sx)] [(.int nx), (.ref b175)])) t
        refine XS.iload Xl.here hx rfl (hb hby own_d1_68) rfl ?_
        exact k)
      have q277 : ¬ nx < 0 ∧ nx < sz_150 := by
        have q278 := rng32 nx
        have q279 := rng32 sx
        have q280 := rng32 sz_150
        rw [Int32.lt_iff_toInt_lt, Int32.lt_iff_toInt_lt]; have q0 : (0 : Int32).toInt = 0 := rfl; omega
      obtain ⟨cl276, Ar276, S276, N276, Hs276⟩ := id Fl1
      have hin276 : ¬ (nx < 0 ∨ cl276.slots.size ≤ (nx).toNatClampNeg) := inb_of S276 q277
      obtain ⟨T276, h276, X276, e276, W276, st276⟩ := stI Xl hx hZ el Ar276 (j := nx) hin276 (g := (mkF m 70 #[.val (.ref ra), .val (.int sz_150), .val (.ref b175), .val (.int (nx + (1 : Int32))), .val (.int (2 : Int32)), .val (.int sx)] [(.int sx), (.int nx), (.ref b175)])) rfl rfl (hb hby own_d1_70)
      obtain ⟨f282, hf282⟩ : ∃ fnew : Nat → Int32, fnew = fun i => if i = nx.toNatClampNeg then sx else ff i := ⟨_, rfl⟩
      have V281 : own_Arf Z h276 b175 .int sz_150 f282 := own_Arf.set Ar276 S276 N276 Hs276 W276 rfl hf282
      have Kp283 : Keep h0 h276 [] := Keep.wr Kl W276 (Or.inr sb178)
      have Z284 : own_Le n0 h276.size := Nat.le_trans Zl (Keep.of_wr W276).1
      have N285 := Fr.snoc X276 Nl gb177
      have F286 := Fl0.other W276 ne176
      have K287 : ∀ t, Steps p.tables e below (T276.setTop (mkF m 71 #[.val (.ref ra), .val (.int sz_150), .val (.ref b175), .val (.int (nx + (1 : Int32))), .val (.int (2 : Int32)), .val (.int sx)] [])) t → Steps p.tables e below (T.setTop (mkF m 52 #[.val (.ref ra), .val (.int sz_150), .val (.ref b175), .val (.int nx), .val (.int (2 : Int32)), .val (.int sx)] [])) t := fun t k => K275 t (st276 _ k)
      have K288 : ∀ t, Steps p.tables e below (T276.setTop (mkF m 52 #[.val (.ref ra), .val (.int sz_150), .val (.ref b175), .val (.int (nx + (1 : Int32))), .val (.int (2 : Int32)), .val (.int (sx + (1 : Int32)))] [])) t → Steps p.tables e below (T.setTop (mkF m 52 #[.val (.ref ra), .val (.int sz_150), .val (.ref b175), .val (.int nx), .val (.int (2 : Int32)), .val (.int sx)] [])) t := fun t k => K287 t (by
        show Steps p.tables e below (T276.setTop (mkF m 71 #[.val (.ref ra), .val (.int sz_150), .val (.ref b175), .val (.int (nx + (1 : Int32))), .val (.int (2 : Int32)), .val (.int sx)] [])) t
        refine XS.iinc X276.here hx rfl (hb hby own_d1_71) rfl (l' := #[.val (.ref ra), .val (.int sz_150), .val (.ref b175), .val (.int (nx + (1 : Int32))), .val (.int (2 : Int32)), .val (.int (sx + (1 : Int32)))]) rfl ?_
        show Steps p.tables e below (T276.setTop (mkF m 74 #[.val (.ref ra), .val (.int sz_150), .val (.ref b175), .val (.int (nx + (1 : Int32))), .val (.int (2 : Int32)), .val (.int (sx + (1 : Int32)))] [])) t
        refine XS.goto X276.here hx rfl (pc0 := 74) (pc' := 52) rfl (hb hby own_d1_74) (by decide) (by decide) ?_
        exact k)
      have q289 := rng32 nx
      have q290 := rng32 sx
      have q291 := (by decide : (1 : Int32).toInt = 1)
      have q292 := c_iadd nx (1 : Int32)
      have q293 := rng32 (nx + (1 : Int32))
      have q294 := c_iadd sx (1 : Int32)
      have q295 := rng32 (sx + (1 : Int32))
      have hI2 : ((nx + (1 : Int32)).toInt = ((g 1).toInt - (g 0).toInt + 1) + ((sx + (1 : Int32)).toInt - (g 2).toInt) ∧ (sx + (1 : Int32)).toInt + ((d : Nat) : Int) = (g 3).toInt + 1 ∧ (g 2).toInt ≤ (sx + (1 : Int32)).toInt ∧ (∀ j : Nat, (j : Int) < ((g 1).toInt - (g 0).toInt + 1) → f282 j = ff_238 j) ∧ (∀ j : Nat, ((g 1).toInt - (g 0).toInt + 1) ≤ (j : Int) → (j : Int) < (nx + (1 : Int32)).toInt → (f282 j).toInt = (g 2).toInt + ((j : Int) - ((g 1).toInt - (g 0).toInt + 1)))) := by 
        refine ⟨by omega, by omega, by omega, fun j hj => ?_, fun j h1 h2 => ?_⟩
        · rw [hf282]; simp only; rw [if_neg (by omega)]; exact hI4 j hj
        · rw [hf282]; simp only
          by_cases hj : j = nx.toNatClampNeg
          · rw [if_pos hj]; omega
          · rw [if_neg hj]; exact hI5 j h1 (by omega)
      obtain ⟨T2, Lc2, h2', ff_2, nx_2, sx_2, X2', e2', N2', K2', Z2', Fx0', Fx1', hF, kk⟩ := ih T276 _ h276 (f282) (nx + (1 : Int32)) (sx + (1 : Int32)) X276 e276 N285 Kp283 Z284 F286 V281 hI2
      exact ⟨T2, Lc2, h2', ff_2, nx_2, sx_2, X2', e2', N2', K2', Z2', Fx0', Fx1', hF, fun t k => K288 t (kk t k)⟩
  have hI296 : (nx_238.toInt = ((g 1).toInt - (g 0).toInt + 1) + ((g 2).toInt - (g 2).toInt) ∧ (g 2).toInt + ((((((g 3).toInt - (g 2).toInt + 1).toNat)) : Nat) : Int) = (g 3).toInt + 1 ∧ (g 2).toInt ≤ (g 2).toInt ∧ (∀ j : Nat, (j : Int) < ((g 1).toInt - (g 0).toInt + 1) → ff_238 j = ff_238 j) ∧ (∀ j : Nat, ((g 1).toInt - (g 0).toInt + 1) ≤ (j : Int) → (j : Int) < nx_238.toInt → (ff_238 j).toInt = (g 2).toInt + ((j : Int) - ((g 1).toInt - (g 0).toInt + 1)))) := by
    have q297 := rng32 nx_238
    have q298 := rng32 (g 2)
    exact ⟨by omega, by omega, by omega, fun _ _ => rfl, fun j h1 h2 => by omega⟩
  obtain ⟨T296, Lc296, h296, ff_296, nx_296, sx_296, X296, e296, N296, Kp296, Z296, Fz296_0, Fz296_1, hF296, kl296⟩ := loop251 ((((g 3).toInt - (g 2).toInt + 1).toNat)) T238 _ h238 (ff_238) nx_238 (g 2) X238 e238 N238 Kp238 Z238 Fz238_0 Fz238_1 hI296
  have K299 : ∀ t, Steps p.tables e below (T296.setTop (mkF m 77 #[.val (.ref ra), .val (.int sz_150), .val (.ref b175), .val (.int nx_296), .val (.int (2 : Int32)), .val (.int sx_296)] [])) t → Steps p.tables e below (s₁.setTop (entryFrame m #[(.ref ra)] 6)) t := fun t k => K250 t (kl296 t k)
  obtain ⟨hF296a, hF296b, hF296c⟩ := hF296
  obtain ⟨cl300, Ar300, S300, N300, Hs300⟩ := id Fz296_0
  have hc301 : ¬ ((4 : Int32) < (4 : Int32)) := by
    have q302 := (by decide : (4 : Int32).toInt = 4)
    rw [Int32.lt_iff_toInt_lt]; omega
  have K303 : ∀ t, Steps p.tables e below (T296.setTop (mkF m 84 #[.val (.ref ra), .val (.int sz_150), .val (.ref b175), .val (.int nx_296), .val (.int (4 : Int32)), .val (.int sx_296)] [(.ref b175)])) t → Steps p.tables e below (s₁.setTop (entryFrame m #[(.ref ra)] 6)) t := fun t k => K299 t (by
    show Steps p.tables e below (T296.setTop (mkF m 77 #[.val (.ref ra), .val (.int sz_150), .val (.ref b175), .val (.int nx_296), .val (.int (2 : Int32)), .val (.int sx_296)] [])) t
    refine XS.iinc X296.here hx rfl (hb hby own_d1_77) rfl (l' := #[.val (.ref ra), .val (.int sz_150), .val (.ref b175), .val (.int nx_296), .val (.int (4 : Int32)), .val (.int sx_296)]) rfl ?_
    show Steps p.tables e below (T296.setTop (mkF m 80 #[.val (.ref ra), .val (.int sz_150), .val (.ref b175), .val (.int nx_296), .val (.int (4 : Int32)), .val (.int sx_296)] [])) t
    refine XS.goto X296.here hx rfl (pc0 := 80) (pc' := 39) rfl (hb hby own_d1_80) (by decide) (by decide) ?_
    show Steps p.tables e below (T296.setTop (mkF m 39 #[.val (.ref ra), .val (.int sz_150), .val (.ref b175), .val (.int nx_296), .val (.int (4 : Int32)), .val (.int sx_296)] [])) t
    refine XS.iload X296.here hx rfl (hb hby own_d1_39) rfl ?_
    show Steps p.tables e below (T296.setTop (mkF m 41 #[.val (.ref ra), .val (.int sz_150), .val (.ref b175), .val (.int nx_296), .val (.int (4 : Int32)), .val (.int sx_296)] [(.int (4 : Int32))])) t
    refine XS.aloadN X296.here hx rfl (hb hby own_d1_41) rfl rfl ?_
    show Steps p.tables e below (T296.setTop (mkF m 42 #[.val (.ref ra), .val (.int sz_150), .val (.ref b175), .val (.int nx_296), .val (.int (4 : Int32)), .val (.int sx_296)] [(.ref ra), (.int (4 : Int32))])) t
    refine X296.arraylength hx (by rw [e296]; exact Ar300.1) (State.isArrayOf_alike hZ.alike Ar300.2.1) (g := (mkF m 42 #[.val (.ref ra), .val (.int sz_150), .val (.ref b175), .val (.int nx_296), .val (.int (4 : Int32)), .val (.int sx_296)] [(.ref ra), (.int (4 : Int32))])) rfl rfl (hb hby own_d1_42) _ ?_
    rw [len_of S300 N300]
    show Steps p.tables e below (T296.setTop (mkF m 43 #[.val (.ref ra), .val (.int sz_150), .val (.ref b175), .val (.int nx_296), .val (.int (4 : Int32)), .val (.int sx_296)] [(.int (4 : Int32)), (.int (4 : Int32))])) t
    refine XS.icmpYes X296.here hx rfl (pc0 := 43) (pc' := 83) rfl (hb hby own_d1_43) rfl (flt hc301).2.1 (by decide) (by decide) ?_
    show Steps p.tables e below (T296.setTop (mkF m 83 #[.val (.ref ra), .val (.int sz_150), .val (.ref b175), .val (.int nx_296), .val (.int (4 : Int32)), .val (.int sx_296)] [])) t
    refine XS.aloadN X296.here hx rfl (hb hby own_d1_83) rfl rfl ?_
    exact k)
  obtain ⟨fs, hr, hrun, hended, hW, hsame⟩ := X296.leave (v := some (.ref b175)) (fun h => by rw [Bd.returns] at h; cases h)
  refine ⟨_, _, K303 _ ?_, hrun, hended, _, _, rfl, ?_, ⟨_, rfl⟩, hW, hsame.mono (by decide) (by decide)⟩
  · jvm_step X296.here [X296.here.top, hx, (hb hby own_d1_84), X296.method', Bd.returns, Value.isRef, FieldType.isReference]
    first | (intro acts; rw [hr _ acts rfl rfl rfl]) | rw [hr _ _ rfl rfl rfl]
    exact Steps.refl _
  · show Q_rmE2 Z ra g h0 n0 _ T296.heap _
    rw [e296]
    exact ⟨b175, sz_150, ff_296, rfl, ⟨Sp150, fun i hi => by rw [hF296b i (by omega)]; have := hF238c i (by omega) (by omega); omega, fun i h1 h2 => hF296c i h1 (by omega)⟩, N296, Kp296, sb178, Fz296_1⟩
theorem own_d2_0 : decode method_3_code 0 = .ok (.iload_n 1, 1) := by decide +kernel
theorem own_d2_1 : decode method_3_code 1 = .ok (.aload_n 0, 1) := by decide +kernel
theorem own_d2_2 : decode method_3_code 2 = .ok (.arraylength, 1) := by decide +kernel
theorem own_d2_3 : decode method_3_code 3 = .ok (.if_icmp .lt 5, 3) := by decide +kernel
theorem own_d2_6 : decode method_3_code 6 = .ok (.iconst 1, 1) := by decide +kernel
theorem own_d2_7 : decode method_3_code 7 = .ok (.ireturn, 1) := by decide +kernel
theorem own_d2_8 : decode method_3_code 8 = .ok (.iload_n 1, 1) := by decide +kernel
theorem own_d2_9 : decode method_3_code 9 = .ok (.iload_n 2, 1) := by decide +kernel
theorem own_d2_10 : decode method_3_code 10 = .ok (.if_icmp .ge 9, 3) := by decide +kernel
theorem own_d2_13 : decode method_3_code 13 = .ok (.iload_n 3, 1) := by decide +kernel
theorem own_d2_14 : decode method_3_code 14 = .ok (.iload_n 1, 1) := by decide +kernel
theorem own_d2_15 : decode method_3_code 15 = .ok (.iadd, 1) := by decide +kernel
theorem own_d2_16 : decode method_3_code 16 = .ok (.goto 9, 3) := by decide +kernel
theorem own_d2_19 : decode method_3_code 19 = .ok (.iload 4, 2) := by decide +kernel
theorem own_d2_21 : decode method_3_code 21 = .ok (.iload_n 1, 1) := by decide +kernel
theorem own_d2_22 : decode method_3_code 22 = .ok (.iload_n 2, 1) := by decide +kernel
theorem own_d2_23 : decode method_3_code 23 = .ok (.isub, 1) := by decide +kernel
theorem own_d2_24 : decode method_3_code 24 = .ok (.iadd, 1) := by decide +kernel
theorem own_d2_25 : decode method_3_code 25 = .ok (.istore 5, 2) := by decide +kernel
theorem own_d2_27 : decode method_3_code 27 = .ok (.aload_n 0, 1) := by decide +kernel
theorem own_d2_28 : decode method_3_code 28 = .ok (.iload_n 1, 1) := by decide +kernel
theorem own_d2_29 : decode method_3_code 29 = .ok (.iaload, 1) := by decide +kernel
theorem own_d2_30 : decode method_3_code 30 = .ok (.iload 5, 2) := by decide +kernel
theorem own_d2_32 : decode method_3_code 32 = .ok (.if_icmp .ne 7, 3) := by decide +kernel
theorem own_d2_35 : decode method_3_code 35 = .ok (.iconst 1, 1) := by decide +kernel
theorem own_d2_36 : decode method_3_code 36 = .ok (.goto 4, 3) := by decide +kernel
theorem own_d2_39 : decode method_3_code 39 = .ok (.iconst 0, 1) := by decide +kernel
theorem own_d2_40 : decode method_3_code 40 = .ok (.ireturn, 1) := by decide +kernel
theorem own_pn1 : plainName "com/example/omegaprobe/omegaprobe/graph/StateSetsExpandPinLaw" = true := by first | (simp [plainName, overriddenIn]; done) | decide +kernel
def Q_rm2 (Z : State) (sa : Addr) (pi : Int32) (p1 : Int32) (ps : Int32) (pf : Int32) (z : Int32) (f : Nat → Int32) (h0 : Heap) (n0 : Nat) (v : Option Value) (h : Heap) (L : List Loc) : Prop := ∃ (r : Int32), v = some (.int r) ∧ (r.toInt = 1) ∧ Fr n0 L ∧ h = h0
theorem own_ef_rm2 (m : MethodId) (sa : Addr) (pi : Int32) (p1 : Int32) (ps : Int32) (pf : Int32) : entryFrame m #[(.ref sa), (.int pi), (.int p1), (.int ps), (.int pf)] 6 = mkF m 0 #[.val (.ref sa), .val (.int pi), .val (.int p1), .val (.int ps), .val (.int pf), .unset] [] := by first | (simp [entryFrame, mkF, argsToLocals, Value.category]; done) | rfl
set_option maxRecDepth 65536 in
set_option maxHeartbeats 40000000 in
theorem rm2 (l : Launch) (Z : State) (a0 : Array Value) (hw : ∀ d ∈ tables_1, d.before a0 Z = true) (ws : List Jvm.Cond) (sa : Addr) (pi : Int32) (p1 : Int32) (ps : Int32) (pf : Int32) (z : Int32) (f : Nat → Int32) (h0 : Heap) (n0 : Nat) (Z0 : own_Le n0 h0.size) (P_0 : own_Arf Z h0 sa .int z f) (P_1 : 0 ≤ pi.toInt ∧ pi.toInt ≤ 7 ∧ 1 ≤ p1.toInt ∧ p1.toInt ≤ 4) (P_2 : ∀ i : Nat, (i : Int) < z.toInt → ((i : Int) < p1.toInt → (f i).toInt = ps.toInt + (i : Int)) ∧ (p1.toInt ≤ (i : Int) → (f i).toInt = pf.toInt + ((i : Int) - p1.toInt))) :
    MetFree l (⟨"com/example/omegaprobe/omegaprobe/graph/StateSetsExpandPinLaw", "ok", "([IIIII)Z"⟩ : MethodName) (head1 (Jvm.Cond.code (⟨"com/example/omegaprobe/omegaprobe/graph/StateSetsExpandPinLaw", "ok", "([IIIII)Z"⟩ : MethodName) method_3_code 6 (some .boolean) :: ws) ({ frames := 0, cells := 0, slots := 0, locals := 0 } : Room)) (fun a U => a = #[(.ref sa), (.int pi), (.int p1), (.int ps), (.int pf)] ∧ Z.Warmed39 U.vm ∧ U.heap = h0) (fun _ _ _ _ _ => True) (fun _ U o U' => ∃ v L, o = .returned v ∧ Q_rm2 Z sa pi p1 ps pf z f h0 n0 v U'.heap L ∧ FrameEnd U o U' L ({ frames := 0, cells := 0, slots := 0, locals := 0 } : Room).cells ({ frames := 0, cells := 0, slots := 0, locals := 0 } : Room).slots) := by
  refine MetFree.of_bodySF (plainFor_of_name own_pn1) hisR ?_
  intro p e s m args below meth c s₁ Bd hml0 hP hK
  obtain ⟨rfl, hZ, hh⟩ := hP
  have hx := Bd.exec
  have hby := Bd.bytes
  have hml : c.maxLocals = 6 := hml0
  have hown : s.vm.findClass "com/example/omegaprobe/omegaprobe/graph/StateSetsExpandPinLaw" = some m.cls := findClass_of_methodNamed Bd.named
  have hnm := (name_of_methodNamed Bd.named Bd.method).1
  have X0 : Stand p l e ({ frames := 0, cells := 0, slots := 0, locals := 0 } : Room) s m #[(.ref sa), (.int pi), (.int p1), (.int ps), (.int pf)] below meth c s₁ [] 0 0 := Stand.of_body Bd
  have e0 : s₁.heap = h0 := by rw [← hh, Bd.state]; rfl
  have N0 := Fr.nil n0
  have pre0 : ∀ t, Steps p.tables e below (s₁.setTop (mkF m 0 #[.val (.ref sa), .val (.int pi), .val (.int p1), .val (.int ps), .val (.int pf), .unset] [])) t → Steps p.tables e below (s₁.setTop (entryFrame m #[(.ref sa), (.int pi), (.int p1), (.int ps), (.int pf)] 6)) t := fun t k => castTop (own_ef_rm2 m sa pi p1 ps pf) k
  obtain ⟨p1a, p1b, p1c, p1d⟩ := P_1
  have hcl := own_clamp (j := pi) p1a
  have q304 := rng32 p1
  have q305 := rng32 ps
  have q306 := rng32 pf
  have q307 := rng32 pi
  have q308 := rng32 z
  obtain ⟨cl309, Ar309, S309, N309, Hs309⟩ := id P_0
  have K311 : ∀ t, Steps p.tables e below (s₁.setTop (mkF m 3 #[.val (.ref sa), .val (.int pi), .val (.int p1), .val (.int ps), .val (.int pf), .unset] [(.int z), (.int pi)])) t → Steps p.tables e below (s₁.setTop (entryFrame m #[(.ref sa), (.int pi), (.int p1), (.int ps), (.int pf)] 6)) t := fun t k => pre0 t (by
    show Steps p.tables e below (s₁.setTop (mkF m 0 #[.val (.ref sa), .val (.int pi), .val (.int p1), .val (.int ps), .val (.int pf), .unset] [])) t
    refine XS.iloadN X0.here hx rfl (hb hby own_d2_0) rfl ?_
    show Steps p.tables e below (s₁.setTop (mkF m 1 #[.val (.ref sa), .val (.int pi), .val (.int p1), .val (.int ps), .val (.int pf), .unset] [(.int pi)])) t
    refine XS.aloadN X0.here hx rfl (hb hby own_d2_1) rfl rfl ?_
    show Steps p.tables e below (s₁.setTop (mkF m 2 #[.val (.ref sa), .val (.int pi), .val (.int p1), .val (.int ps), .val (.int pf), .unset] [(.ref sa), (.int pi)])) t
    refine X0.arraylength hx (by rw [e0]; exact Ar309.1) (State.isArrayOf_alike hZ.alike Ar309.2.1) (g := (mkF m 2 #[.val (.ref sa), .val (.int pi), .val (.int p1), .val (.int ps), .val (.int pf), .unset] [(.ref sa), (.int pi)])) rfl rfl (hb hby own_d2_2) _ ?_
    rw [len_of S309 N309]
    exact k)
  by_cases hc310 : pi < z
  · have q312 : pi.toInt < z.toInt := Int32.lt_iff_toInt_lt.mp hc310
    have hP := P_2 pi.toNatClampNeg (by omega)
    rw [hcl] at hP
    have hr := rng32 (f pi.toNatClampNeg)
    have K314 : ∀ t, Steps p.tables e below (s₁.setTop (mkF m 10 #[.val (.ref sa), .val (.int pi), .val (.int p1), .val (.int ps), .val (.int pf), .unset] [(.int p1), (.int pi)])) t → Steps p.tables e below (s₁.setTop (entryFrame m #[(.ref sa), (.int pi), (.int p1), (.int ps), (.int pf)] 6)) t := fun t k => K311 t (by
      show Steps p.tables e below (s₁.setTop (mkF m 3 #[.val (.ref sa), .val (.int pi), .val (.int p1), .val (.int ps), .val (.int pf), .unset] [(.int z), (.int pi)])) t
      refine XS.icmpYes X0.here hx rfl (pc0 := 3) (pc' := 8) rfl (hb hby own_d2_3) rfl (tlt hc310).1 (by decide) (by decide) ?_
      show Steps p.tables e below (s₁.setTop (mkF m 8 #[.val (.ref sa), .val (.int pi), .val (.int p1), .val (.int ps), .val (.int pf), .unset] [])) t
      refine XS.iloadN X0.here hx rfl (hb hby own_d2_8) rfl ?_
      show Steps p.tables e below (s₁.setTop (mkF m 9 #[.val (.ref sa), .val (.int pi), .val (.int p1), .val (.int ps), .val (.int pf), .unset] [(.int pi)])) t
      refine XS.iloadN X0.here hx rfl (hb hby own_d2_9) rfl ?_
      exact k)
    by_cases hc313 : pi < p1
    · have q315 : pi.toInt < p1.toInt := Int32.lt_iff_toInt_lt.mp hc313
      have q317 : ¬ pi < 0 ∧ pi < z := by
        rw [Int32.lt_iff_toInt_lt, Int32.lt_iff_toInt_lt]; have q0 : (0 : Int32).toInt = 0 := rfl; omega
      obtain ⟨cl316, Ar316, S316, N316, Hs316⟩ := id P_0
      have hin316 : ¬ (pi < 0 ∨ cl316.slots.size ≤ (pi).toNatClampNeg) := inb_of S316 q317
      have hat316 : cl316.slots[(pi).toNatClampNeg]? = some (.int (f pi.toNatClampNeg)) := own_at Hs316 S316 hin316 (rfl)
      have hc318 : (f pi.toNatClampNeg) = (ps + pi) := by
        have q319 := rng32 (f pi.toNatClampNeg)
        have q320 := c_iadd ps pi
        have q321 := rng32 (ps + pi)
        exact Int32.toInt_inj.mp (by omega)
      have K322 : ∀ t, Steps p.tables e below (s₁.setTop (mkF m 40 #[.val (.ref sa), .val (.int pi), .val (.int p1), .val (.int ps), .val (.int pf), .val (.int (ps + pi))] [(.int (1 : Int32))])) t → Steps p.tables e below (s₁.setTop (entryFrame m #[(.ref sa), (.int pi), (.int p1), (.int ps), (.int pf)] 6)) t := fun t k => K314 t (by
        show Steps p.tables e below (s₁.setTop (mkF m 10 #[.val (.ref sa), .val (.int pi), .val (.int p1), .val (.int ps), .val (.int pf), .unset] [(.int p1), (.int pi)])) t
        refine XS.icmpNo X0.here hx rfl (hb hby own_d2_10) rfl (tlt hc313).2.1 ?_
        show Steps p.tables e below (s₁.setTop (mkF m 13 #[.val (.ref sa), .val (.int pi), .val (.int p1), .val (.int ps), .val (.int pf), .unset] [])) t
        refine XS.iloadN X0.here hx rfl (hb hby own_d2_13) rfl ?_
        show Steps p.tables e below (s₁.setTop (mkF m 14 #[.val (.ref sa), .val (.int pi), .val (.int p1), .val (.int ps), .val (.int pf), .unset] [(.int ps)])) t
        refine XS.iloadN X0.here hx rfl (hb hby own_d2_14) rfl ?_
        show Steps p.tables e below (s₁.setTop (mkF m 15 #[.val (.ref sa), .val (.int pi), .val (.int p1), .val (.int ps), .val (.int pf), .unset] [(.int pi), (.int ps)])) t
        refine XS.iadd X0.here hx rfl (hb hby own_d2_15) rfl ?_
        show Steps p.tables e below (s₁.setTop (mkF m 16 #[.val (.ref sa), .val (.int pi), .val (.int p1), .val (.int ps), .val (.int pf), .unset] [(.int (ps + pi))])) t
        refine XS.goto X0.here hx rfl (pc0 := 16) (pc' := 25) rfl (hb hby own_d2_16) (by decide) (by decide) ?_
        show Steps p.tables e below (s₁.setTop (mkF m 25 #[.val (.ref sa), .val (.int pi), .val (.int p1), .val (.int ps), .val (.int pf), .unset] [(.int (ps + pi))])) t
        refine XS.istore X0.here hx rfl (hb hby own_d2_25) rfl (l' := #[.val (.ref sa), .val (.int pi), .val (.int p1), .val (.int ps), .val (.int pf), .val (.int (ps + pi))]) rfl ?_
        show Steps p.tables e below (s₁.setTop (mkF m 27 #[.val (.ref sa), .val (.int pi), .val (.int p1), .val (.int ps), .val (.int pf), .val (.int (ps + pi))] [])) t
        refine XS.aloadN X0.here hx rfl (hb hby own_d2_27) rfl rfl ?_
        show Steps p.tables e below (s₁.setTop (mkF m 28 #[.val (.ref sa), .val (.int pi), .val (.int p1), .val (.int ps), .val (.int pf), .val (.int (ps + pi))] [(.ref sa)])) t
        refine XS.iloadN X0.here hx rfl (hb hby own_d2_28) rfl ?_
        show Steps p.tables e below (s₁.setTop (mkF m 29 #[.val (.ref sa), .val (.int pi), .val (.int p1), .val (.int ps), .val (.int pf), .val (.int (ps + pi))] [(.int pi), (.ref sa)])) t
        refine X0.iaload hx (j := pi) (v := (.int (f pi.toNatClampNeg))) (by rw [e0]; exact Ar316.1) (State.isArrayOf_alike hZ.alike Ar316.2.1) Ar316.2.2 hin316 hat316 (g := (mkF m 29 #[.val (.ref sa), .val (.int pi), .val (.int p1), .val (.int ps), .val (.int pf), .val (.int (ps + pi))] [(.int pi), (.ref sa)])) rfl rfl (hb hby own_d2_29) _ ?_
        show Steps p.tables e below (s₁.setTop (mkF m 30 #[.val (.ref sa), .val (.int pi), .val (.int p1), .val (.int ps), .val (.int pf), .val (.int (ps + pi))] [(.int (f pi.toNatClampNeg))])) t
        refine XS.iload X0.here hx rfl (hb hby own_d2_30) rfl ?_
        show Steps p.tables e below (s₁.setTop (mkF m 32 #[.val (.ref sa), .val (.int pi), .val (.int p1), .val (.int ps), .val (.int pf), .val (.int (ps + pi))] [(.int (ps + pi)), (.int (f pi.toNatClampNeg))])) t
        refine XS.icmpNo X0.here hx rfl (hb hby own_d2_32) rfl (teq hc318).2 ?_
        show Steps p.tables e below (s₁.setTop (mkF m 35 #[.val (.ref sa), .val (.int pi), .val (.int p1), .val (.int ps), .val (.int pf), .val (.int (ps + pi))] [])) t
        refine XS.iconst X0.here hx rfl (hb hby own_d2_35) ?_
        show Steps p.tables e below (s₁.setTop (mkF m 36 #[.val (.ref sa), .val (.int pi), .val (.int p1), .val (.int ps), .val (.int pf), .val (.int (ps + pi))] [(.int (1 : Int32))])) t
        refine XS.goto X0.here hx rfl (pc0 := 36) (pc' := 40) rfl (hb hby own_d2_36) (by decide) (by decide) ?_
        exact k)
      obtain ⟨fs, hr, hrun, hended, hW, hsame⟩ := X0.leave (v := some (.int (1 : Int32))) (fun h => by rw [Bd.returns] at h; cases h)
      refine ⟨_, _, K322 _ ?_, hrun, hended, _, _, rfl, ?_, ⟨_, rfl⟩, hW, hsame.mono (by decide) (by decide)⟩
      · exact retN X0 hx (t := .boolean) Bd.returns (by simp) (hb hby own_d2_40) hr
      · show Q_rm2 Z sa pi p1 ps pf z f h0 n0 _ s₁.heap _
        have q323 := (by decide : (1 : Int32).toInt = 1)
        rw [e0]
        exact ⟨(1 : Int32), rfl, (by omega), N0, rfl⟩
    · have q324 : ¬ pi.toInt < p1.toInt := fun q => hc313 (Int32.lt_iff_toInt_lt.mpr q)
      have q326 : ¬ pi < 0 ∧ pi < z := by
        rw [Int32.lt_iff_toInt_lt, Int32.lt_iff_toInt_lt]; have q0 : (0 : Int32).toInt = 0 := rfl; omega
      obtain ⟨cl325, Ar325, S325, N325, Hs325⟩ := id P_0
      have hin325 : ¬ (pi < 0 ∨ cl325.slots.size ≤ (pi).toNatClampNeg) := inb_of S325 q326
      have hat325 : cl325.slots[(pi).toNatClampNeg]? = some (.int (f pi.toNatClampNeg)) := own_at Hs325 S325 hin325 (rfl)
      have hc327 : (f pi.toNatClampNeg) = (pf + (pi - p1)) := by
        have q328 := rng32 (f pi.toNatClampNeg)
        have q329 := c_isub pi p1
        have q330 := rng32 (pi - p1)
        have q331 := c_iadd pf (pi - p1)
        have q332 := rng32 (pf + (pi - p1))
        exact Int32.toInt_inj.mp (by omega)
      have K333 : ∀ t, Steps p.tables e below (s₁.setTop (mkF m 40 #[.val (.ref sa), .val (.int pi), .val (.int p1), .val (.int ps), .val (.int pf), .val (.int (pf + (pi - p1)))] [(.int (1 : Int32))])) t → Steps p.tables e below (s₁.setTop (entryFrame m #[(.ref sa), (.int pi), (.int p1), (.int ps), (.int pf)] 6)) t := fun t k => K314 t (by
        show Steps p.tables e below (s₁.setTop (mkF m 10 #[.val (.ref sa), .val (.int pi), .val (.int p1), .val (.int ps), .val (.int pf), .unset] [(.int p1), (.int pi)])) t
        refine XS.icmpYes X0.here hx rfl (pc0 := 10) (pc' := 19) rfl (hb hby own_d2_10) rfl (flt hc313).2.1 (by decide) (by decide) ?_
        show Steps p.tables e below (s₁.setTop (mkF m 19 #[.val (.ref sa), .val (.int pi), .val (.int p1), .val (.int ps), .val (.int pf), .unset] [])) t
        refine XS.iload X0.here hx rfl (hb hby own_d2_19) rfl ?_
        show Steps p.tables e below (s₁.setTop (mkF m 21 #[.val (.ref sa), .val (.int pi), .val (.int p1), .val (.int ps), .val (.int pf), .unset] [(.int pf)])) t
        refine XS.iloadN X0.here hx rfl (hb hby own_d2_21) rfl ?_
        show Steps p.tables e below (s₁.setTop (mkF m 22 #[.val (.ref sa), .val (.int pi), .val (.int p1), .val (.int ps), .val (.int pf), .unset] [(.int pi), (.int pf)])) t
        refine XS.iloadN X0.here hx rfl (hb hby own_d2_22) rfl ?_
        show Steps p.tables e below (s₁.setTop (mkF m 23 #[.val (.ref sa), .val (.int pi), .val (.int p1), .val (.int ps), .val (.int pf), .unset] [(.int p1), (.int pi), (.int pf)])) t
        refine XS.isub X0.here hx rfl (hb hby own_d2_23) rfl ?_
        show Steps p.tables e below (s₁.setTop (mkF m 24 #[.val (.ref sa), .val (.int pi), .val (.int p1), .val (.int ps), .val (.int pf), .unset] [(.int (pi - p1)), (.int pf)])) t
        refine XS.iadd X0.here hx rfl (hb hby own_d2_24) rfl ?_
        show Steps p.tables e below (s₁.setTop (mkF m 25 #[.val (.ref sa), .val (.int pi), .val (.int p1), .val (.int ps), .val (.int pf), .unset] [(.int (pf + (pi - p1)))])) t
        refine XS.istore X0.here hx rfl (hb hby own_d2_25) rfl (l' := #[.val (.ref sa), .val (.int pi), .val (.int p1), .val (.int ps), .val (.int pf), .val (.int (pf + (pi - p1)))]) rfl ?_
        show Steps p.tables e below (s₁.setTop (mkF m 27 #[.val (.ref sa), .val (.int pi), .val (.int p1), .val (.int ps), .val (.int pf), .val (.int (pf + (pi - p1)))] [])) t
        refine XS.aloadN X0.here hx rfl (hb hby own_d2_27) rfl rfl ?_
        show Steps p.tables e below (s₁.setTop (mkF m 28 #[.val (.ref sa), .val (.int pi), .val (.int p1), .val (.int ps), .val (.int pf), .val (.int (pf + (pi - p1)))] [(.ref sa)])) t
        refine XS.iloadN X0.here hx rfl (hb hby own_d2_28) rfl ?_
        show Steps p.tables e below (s₁.setTop (mkF m 29 #[.val (.ref sa), .val (.int pi), .val (.int p1), .val (.int ps), .val (.int pf), .val (.int (pf + (pi - p1)))] [(.int pi), (.ref sa)])) t
        refine X0.iaload hx (j := pi) (v := (.int (f pi.toNatClampNeg))) (by rw [e0]; exact Ar325.1) (State.isArrayOf_alike hZ.alike Ar325.2.1) Ar325.2.2 hin325 hat325 (g := (mkF m 29 #[.val (.ref sa), .val (.int pi), .val (.int p1), .val (.int ps), .val (.int pf), .val (.int (pf + (pi - p1)))] [(.int pi), (.ref sa)])) rfl rfl (hb hby own_d2_29) _ ?_
        show Steps p.tables e below (s₁.setTop (mkF m 30 #[.val (.ref sa), .val (.int pi), .val (.int p1), .val (.int ps), .val (.int pf), .val (.int (pf + (pi - p1)))] [(.int (f pi.toNatClampNeg))])) t
        refine XS.iload X0.here hx rfl (hb hby own_d2_30) rfl ?_
        show Steps p.tables e below (s₁.setTop (mkF m 32 #[.val (.ref sa), .val (.int pi), .val (.int p1), .val (.int ps), .val (.int pf), .val (.int (pf + (pi - p1)))] [(.int (pf + (pi - p1))), (.int (f pi.toNatClampNeg))])) t
        refine XS.icmpNo X0.here hx rfl (hb hby own_d2_32) rfl (teq hc327).2 ?_
        show Steps p.tables e below (s₁.setTop (mkF m 35 #[.val (.ref sa), .val (.int pi), .val (.int p1), .val (.int ps), .val (.int pf), .val (.int (pf + (pi - p1)))] [])) t
        refine XS.iconst X0.here hx rfl (hb hby own_d2_35) ?_
        show Steps p.tables e below (s₁.setTop (mkF m 36 #[.val (.ref sa), .val (.int pi), .val (.int p1), .val (.int ps), .val (.int pf), .val (.int (pf + (pi - p1)))] [(.int (1 : Int32))])) t
        refine XS.goto X0.here hx rfl (pc0 := 36) (pc' := 40) rfl (hb hby own_d2_36) (by decide) (by decide) ?_
        exact k)
      obtain ⟨fs, hr, hrun, hended, hW, hsame⟩ := X0.leave (v := some (.int (1 : Int32))) (fun h => by rw [Bd.returns] at h; cases h)
      refine ⟨_, _, K333 _ ?_, hrun, hended, _, _, rfl, ?_, ⟨_, rfl⟩, hW, hsame.mono (by decide) (by decide)⟩
      · exact retN X0 hx (t := .boolean) Bd.returns (by simp) (hb hby own_d2_40) hr
      · show Q_rm2 Z sa pi p1 ps pf z f h0 n0 _ s₁.heap _
        have q334 := (by decide : (1 : Int32).toInt = 1)
        rw [e0]
        exact ⟨(1 : Int32), rfl, (by omega), N0, rfl⟩
  · have q335 : ¬ pi.toInt < z.toInt := fun q => hc310 (Int32.lt_iff_toInt_lt.mpr q)
    have K336 : ∀ t, Steps p.tables e below (s₁.setTop (mkF m 7 #[.val (.ref sa), .val (.int pi), .val (.int p1), .val (.int ps), .val (.int pf), .unset] [(.int (1 : Int32))])) t → Steps p.tables e below (s₁.setTop (entryFrame m #[(.ref sa), (.int pi), (.int p1), (.int ps), (.int pf)] 6)) t := fun t k => K311 t (by
      show Steps p.tables e below (s₁.setTop (mkF m 3 #[.val (.ref sa), .val (.int pi), .val (.int p1), .val (.int ps), .val (.int pf), .unset] [(.int z), (.int pi)])) t
      refine XS.icmpNo X0.here hx rfl (hb hby own_d2_3) rfl (flt hc310).1 ?_
      show Steps p.tables e below (s₁.setTop (mkF m 6 #[.val (.ref sa), .val (.int pi), .val (.int p1), .val (.int ps), .val (.int pf), .unset] [])) t
      refine XS.iconst X0.here hx rfl (hb hby own_d2_6) ?_
      exact k)
    obtain ⟨fs, hr, hrun, hended, hW, hsame⟩ := X0.leave (v := some (.int (1 : Int32))) (fun h => by rw [Bd.returns] at h; cases h)
    refine ⟨_, _, K336 _ ?_, hrun, hended, _, _, rfl, ?_, ⟨_, rfl⟩, hW, hsame.mono (by decide) (by decide)⟩
    · exact retN X0 hx (t := .boolean) Bd.returns (by simp) (hb hby own_d2_7) hr
    · show Q_rm2 Z sa pi p1 ps pf z f h0 n0 _ s₁.heap _
      have q337 := (by decide : (1 : Int32).toInt = 1)
      rw [e0]
      exact ⟨(1 : Int32), rfl, (by omega), N0, rfl⟩
theorem own_pd0 : parseMethodDescriptor "([I)[I" = some ⟨[(.array .int)], some (.array .int)⟩ := by decide +kernel
theorem own_pd1 : parseMethodDescriptor "([IIIII)Z" = some ⟨[(.array .int), .int, .int, .int, .int], some .boolean⟩ := by decide +kernel
def Q_rm0 (Z : State) (x0 : Int32) (x1 : Int32) (x2 : Int32) (x3 : Int32) (x4 : Int32) (h0 : Heap) (n0 : Nat) (v : Option Value) (h : Heap) (L : List Loc) : Prop := v = some (.int (1 : Int32)) ∧ (True) ∧ Fr n0 L ∧ Keep h0 h []
theorem own_ef_rm0 (m : MethodId) (x0 : Int32) (x1 : Int32) (x2 : Int32) (x3 : Int32) (x4 : Int32) : entryFrame m #[(.int x0), (.int x1), (.int x2), (.int x3), (.int x4)] maxLocals = mkF m 0 #[.val (.int x0), .val (.int x1), .val (.int x2), .val (.int x3), .val (.int x4), .unset, .unset, .unset, .unset, .unset, .unset, .unset, .unset, .unset, .unset, .unset] [] := by first | (simp [entryFrame, mkF, argsToLocals, Value.category, maxLocals]; done) | rfl
set_option maxRecDepth 65536 in
set_option maxHeartbeats 40000000 in
theorem rm0 (l : Launch) (Z : State) (a0 : Array Value) (hw : ∀ d ∈ tables_1, d.before a0 Z = true) (ws : List Jvm.Cond) (x0 : Int32) (x1 : Int32) (x2 : Int32) (x3 : Int32) (x4 : Int32) (h0 : Heap) (n0 : Nat) (Z0 : own_Le n0 h0.size) :
    MetFree l x (head1 (Jvm.Cond.code x code maxLocals ret :: ws) room_1) (fun a U => a = #[(.int x0), (.int x1), (.int x2), (.int x3), (.int x4)] ∧ Z.Warmed39 U.vm ∧ U.heap = h0) (fun _ _ _ _ _ => True) (fun _ U o U' => ∃ v L, o = .returned v ∧ Q_rm0 Z x0 x1 x2 x3 x4 h0 n0 v U'.heap L ∧ FrameEnd U o U' L room_1.cells room_1.slots) := by
  refine MetFree.of_bodySF (plainFor_of_name own_pn1) hisR ?_
  intro p e s m args below meth c s₁ Bd hml0 hP hK
  obtain ⟨rfl, hZ, hh⟩ := hP
  have hx := Bd.exec
  have hby := Bd.bytes
  have hml : c.maxLocals = 16 := hml0
  have hown : s.vm.findClass "com/example/omegaprobe/omegaprobe/graph/StateSetsExpandPinLaw" = some m.cls := findClass_of_methodNamed Bd.named
  have hnm := (name_of_methodNamed Bd.named Bd.method).1
  have X0 : Stand p l e room_1 s m #[(.int x0), (.int x1), (.int x2), (.int x3), (.int x4)] below meth c s₁ [] 0 0 := Stand.of_body Bd
  have e0 : s₁.heap = h0 := by rw [← hh, Bd.state]; rfl
  have N0 := Fr.nil n0
  have pre0 : ∀ t, Steps p.tables e below (s₁.setTop (mkF m 0 #[.val (.int x0), .val (.int x1), .val (.int x2), .val (.int x3), .val (.int x4), .unset, .unset, .unset, .unset, .unset, .unset, .unset, .unset, .unset, .unset, .unset] [])) t → Steps p.tables e below (s₁.setTop (entryFrame m #[(.int x0), (.int x1), (.int x2), (.int x3), (.int x4)] maxLocals)) t := fun t k => castTop (own_ef_rm0 m x0 x1 x2 x3 x4) k
  have q338 : (3 : Int32) ≠ 0 := by decide
  have K339 : ∀ t, Steps p.tables e below (s₁.setTop (mkF m 9 #[.val (.int x0), .val (.int x1), .val (.int x2), .val (.int x3), .val (.int x4), .val (.int ((x4 &&& (2147483647 : Int32)) % (3 : Int32))), .unset, .unset, .unset, .unset, .unset, .unset, .unset, .unset, .unset, .unset] [])) t → Steps p.tables e below (s₁.setTop (entryFrame m #[(.int x0), (.int x1), (.int x2), (.int x3), (.int x4)] maxLocals)) t := fun t k => pre0 t (by
    show Steps p.tables e below (s₁.setTop (mkF m 0 #[.val (.int x0), .val (.int x1), .val (.int x2), .val (.int x3), .val (.int x4), .unset, .unset, .unset, .unset, .unset, .unset, .unset, .unset, .unset, .unset, .unset] [])) t
    refine XS.iload X0.here hx rfl (hb hby at_0) rfl ?_
    show Steps p.tables e below (s₁.setTop (mkF m 2 #[.val (.int x0), .val (.int x1), .val (.int x2), .val (.int x3), .val (.int x4), .unset, .unset, .unset, .unset, .unset, .unset, .unset, .unset, .unset, .unset, .unset] [(.int x4)])) t
    refine X0.ldcInt hx hown (mvT hZ (hw _ (List.mem_of_getElem? (i := 0) rfl))) (g := (mkF m 2 #[.val (.int x0), .val (.int x1), .val (.int x2), .val (.int x3), .val (.int x4), .unset, .unset, .unset, .unset, .unset, .unset, .unset, .unset, .unset, .unset, .unset] [(.int x4)])) rfl (hb hby at_2) _ ?_
    show Steps p.tables e below (s₁.setTop (mkF m 4 #[.val (.int x0), .val (.int x1), .val (.int x2), .val (.int x3), .val (.int x4), .unset, .unset, .unset, .unset, .unset, .unset, .unset, .unset, .unset, .unset, .unset] [(.int (2147483647 : Int32)), (.int x4)])) t
    refine XS.iand X0.here hx rfl (hb hby at_4) rfl ?_
    show Steps p.tables e below (s₁.setTop (mkF m 5 #[.val (.int x0), .val (.int x1), .val (.int x2), .val (.int x3), .val (.int x4), .unset, .unset, .unset, .unset, .unset, .unset, .unset, .unset, .unset, .unset, .unset] [(.int (x4 &&& (2147483647 : Int32)))])) t
    refine XS.iconst X0.here hx rfl (hb hby at_5) ?_
    show Steps p.tables e below (s₁.setTop (mkF m 6 #[.val (.int x0), .val (.int x1), .val (.int x2), .val (.int x3), .val (.int x4), .unset, .unset, .unset, .unset, .unset, .unset, .unset, .unset, .unset, .unset, .unset] [(.int (3 : Int32)), (.int (x4 &&& (2147483647 : Int32)))])) t
    refine iremM X0 hx rfl (hb hby at_6) rfl q338 ?_
    show Steps p.tables e below (s₁.setTop (mkF m 7 #[.val (.int x0), .val (.int x1), .val (.int x2), .val (.int x3), .val (.int x4), .unset, .unset, .unset, .unset, .unset, .unset, .unset, .unset, .unset, .unset, .unset] [(.int ((x4 &&& (2147483647 : Int32)) % (3 : Int32)))])) t
    refine XS.istore X0.here hx rfl (hb hby at_7) rfl (l' := #[.val (.int x0), .val (.int x1), .val (.int x2), .val (.int x3), .val (.int x4), .val (.int ((x4 &&& (2147483647 : Int32)) % (3 : Int32))), .unset, .unset, .unset, .unset, .unset, .unset, .unset, .unset, .unset, .unset]) rfl ?_
    exact k)
  obtain ⟨kk_340, Sp340, K348⟩ : ∃ (kk_340 : Int32), (0 ≤ kk_340.toInt ∧ kk_340.toInt ≤ 2) ∧ ∀ t, Steps p.tables e below (s₁.setTop (mkF m 9 #[.val (.int x0), .val (.int x1), .val (.int x2), .val (.int x3), .val (.int x4), .val (.int kk_340), .unset, .unset, .unset, .unset, .unset, .unset, .unset, .unset, .unset, .unset] [])) t → Steps p.tables e below (s₁.setTop (entryFrame m #[(.int x0), (.int x1), (.int x2), (.int x3), (.int x4)] maxLocals)) t := by
    refine ⟨((x4 &&& (2147483647 : Int32)) % (3 : Int32)), ?_, K339⟩
    have q341 := rng32 x4
    have q342 := (by decide : (2147483647 : Int32).toInt = 2147483647)
    have q343 := (show (x4 &&& (2147483647 : Int32)).toInt = x4.toInt % 2147483648 from c_mask x4 (2147483647 : Int32) 31 (by decide) (by decide))
    have q344 := rng32 (x4 &&& (2147483647 : Int32))
    have q345 := (by decide : (3 : Int32).toInt = 3)
    have q346 := c_irem (x4 &&& (2147483647 : Int32)) (3 : Int32) 3 rfl
    have q347 := rng32 ((x4 &&& (2147483647 : Int32)) % (3 : Int32))
    omega
  have q349 : (2147483627 : Int32) ≠ 0 := by decide
  have K350 : ∀ t, Steps p.tables e below (s₁.setTop (mkF m 18 #[.val (.int x0), .val (.int x1), .val (.int x2), .val (.int x3), .val (.int x4), .val (.int kk_340), .val (.int ((x0 &&& (2147483647 : Int32)) % (2147483627 : Int32))), .unset, .unset, .unset, .unset, .unset, .unset, .unset, .unset, .unset] [])) t → Steps p.tables e below (s₁.setTop (entryFrame m #[(.int x0), (.int x1), (.int x2), (.int x3), (.int x4)] maxLocals)) t := fun t k => K348 t (by
    show Steps p.tables e below (s₁.setTop (mkF m 9 #[.val (.int x0), .val (.int x1), .val (.int x2), .val (.int x3), .val (.int x4), .val (.int kk_340), .unset, .unset, .unset, .unset, .unset, .unset, .unset, .unset, .unset, .unset] [])) t
    refine XS.iloadN X0.here hx rfl (hb hby at_9) rfl ?_
    show Steps p.tables e below (s₁.setTop (mkF m 10 #[.val (.int x0), .val (.int x1), .val (.int x2), .val (.int x3), .val (.int x4), .val (.int kk_340), .unset, .unset, .unset, .unset, .unset, .unset, .unset, .unset, .unset, .unset] [(.int x0)])) t
    refine X0.ldcInt hx hown (mvT hZ (hw _ (List.mem_of_getElem? (i := 0) rfl))) (g := (mkF m 10 #[.val (.int x0), .val (.int x1), .val (.int x2), .val (.int x3), .val (.int x4), .val (.int kk_340), .unset, .unset, .unset, .unset, .unset, .unset, .unset, .unset, .unset, .unset] [(.int x0)])) rfl (hb hby at_10) _ ?_
    show Steps p.tables e below (s₁.setTop (mkF m 12 #[.val (.int x0), .val (.int x1), .val (.int x2), .val (.int x3), .val (.int x4), .val (.int kk_340), .unset, .unset, .unset, .unset, .unset, .unset, .unset, .unset, .unset, .unset] [(.int (2147483647 : Int32)), (.int x0)])) t
    refine XS.iand X0.here hx rfl (hb hby at_12) rfl ?_
    show Steps p.tables e below (s₁.setTop (mkF m 13 #[.val (.int x0), .val (.int x1), .val (.int x2), .val (.int x3), .val (.int x4), .val (.int kk_340), .unset, .unset, .unset, .unset, .unset, .unset, .unset, .unset, .unset, .unset] [(.int (x0 &&& (2147483647 : Int32)))])) t
    refine X0.ldcInt hx hown (mvT hZ (hw _ (List.mem_of_getElem? (i := 1) rfl))) (g := (mkF m 13 #[.val (.int x0), .val (.int x1), .val (.int x2), .val (.int x3), .val (.int x4), .val (.int kk_340), .unset, .unset, .unset, .unset, .unset, .unset, .unset, .unset, .unset, .unset] [(.int (x0 &&& (2147483647 : Int32)))])) rfl (hb hby at_13) _ ?_
    show Steps p.tables e below (s₁.setTop (mkF m 15 #[.val (.int x0), .val (.int x1), .val (.int x2), .val (.int x3), .val (.int x4), .val (.int kk_340), .unset, .unset, .unset, .unset, .unset, .unset, .unset, .unset, .unset, .unset] [(.int (2147483627 : Int32)), (.int (x0 &&& (2147483647 : Int32)))])) t
    refine iremM X0 hx rfl (hb hby at_15) rfl q349 ?_
    show Steps p.tables e below (s₁.setTop (mkF m 16 #[.val (.int x0), .val (.int x1), .val (.int x2), .val (.int x3), .val (.int x4), .val (.int kk_340), .unset, .unset, .unset, .unset, .unset, .unset, .unset, .unset, .unset, .unset] [(.int ((x0 &&& (2147483647 : Int32)) % (2147483627 : Int32)))])) t
    refine XS.istore X0.here hx rfl (hb hby at_16) rfl (l' := #[.val (.int x0), .val (.int x1), .val (.int x2), .val (.int x3), .val (.int x4), .val (.int kk_340), .val (.int ((x0 &&& (2147483647 : Int32)) % (2147483627 : Int32))), .unset, .unset, .unset, .unset, .unset, .unset, .unset, .unset, .unset]) rfl ?_
    exact k)
  obtain ⟨s1_351, Sp351, K359⟩ : ∃ (s1_351 : Int32), (0 ≤ s1_351.toInt ∧ s1_351.toInt ≤ 2147483626) ∧ ∀ t, Steps p.tables e below (s₁.setTop (mkF m 18 #[.val (.int x0), .val (.int x1), .val (.int x2), .val (.int x3), .val (.int x4), .val (.int kk_340), .val (.int s1_351), .unset, .unset, .unset, .unset, .unset, .unset, .unset, .unset, .unset] [])) t → Steps p.tables e below (s₁.setTop (entryFrame m #[(.int x0), (.int x1), (.int x2), (.int x3), (.int x4)] maxLocals)) t := by
    refine ⟨((x0 &&& (2147483647 : Int32)) % (2147483627 : Int32)), ?_, K350⟩
    have q352 := rng32 x0
    have q353 := (by decide : (2147483647 : Int32).toInt = 2147483647)
    have q354 := (show (x0 &&& (2147483647 : Int32)).toInt = x0.toInt % 2147483648 from c_mask x0 (2147483647 : Int32) 31 (by decide) (by decide))
    have q355 := rng32 (x0 &&& (2147483647 : Int32))
    have q356 := (by decide : (2147483627 : Int32).toInt = 2147483627)
    have q357 := c_irem (x0 &&& (2147483647 : Int32)) (2147483627 : Int32) 2147483627 rfl
    have q358 := rng32 ((x0 &&& (2147483647 : Int32)) % (2147483627 : Int32))
    omega
  have K360 : ∀ t, Steps p.tables e below (s₁.setTop (mkF m 25 #[.val (.int x0), .val (.int x1), .val (.int x2), .val (.int x3), .val (.int x4), .val (.int kk_340), .val (.int s1_351), .val (.int ((x1 &&& (3 : Int32)) + (1 : Int32))), .unset, .unset, .unset, .unset, .unset, .unset, .unset, .unset] [])) t → Steps p.tables e below (s₁.setTop (entryFrame m #[(.int x0), (.int x1), (.int x2), (.int x3), (.int x4)] maxLocals)) t := fun t k => K359 t (by
    show Steps p.tables e below (s₁.setTop (mkF m 18 #[.val (.int x0), .val (.int x1), .val (.int x2), .val (.int x3), .val (.int x4), .val (.int kk_340), .val (.int s1_351), .unset, .unset, .unset, .unset, .unset, .unset, .unset, .unset, .unset] [])) t
    refine XS.iloadN X0.here hx rfl (hb hby at_18) rfl ?_
    show Steps p.tables e below (s₁.setTop (mkF m 19 #[.val (.int x0), .val (.int x1), .val (.int x2), .val (.int x3), .val (.int x4), .val (.int kk_340), .val (.int s1_351), .unset, .unset, .unset, .unset, .unset, .unset, .unset, .unset, .unset] [(.int x1)])) t
    refine XS.iconst X0.here hx rfl (hb hby at_19) ?_
    show Steps p.tables e below (s₁.setTop (mkF m 20 #[.val (.int x0), .val (.int x1), .val (.int x2), .val (.int x3), .val (.int x4), .val (.int kk_340), .val (.int s1_351), .unset, .unset, .unset, .unset, .unset, .unset, .unset, .unset, .unset] [(.int (3 : Int32)), (.int x1)])) t
    refine XS.iand X0.here hx rfl (hb hby at_20) rfl ?_
    show Steps p.tables e below (s₁.setTop (mkF m 21 #[.val (.int x0), .val (.int x1), .val (.int x2), .val (.int x3), .val (.int x4), .val (.int kk_340), .val (.int s1_351), .unset, .unset, .unset, .unset, .unset, .unset, .unset, .unset, .unset] [(.int (x1 &&& (3 : Int32)))])) t
    refine XS.iconst X0.here hx rfl (hb hby at_21) ?_
    show Steps p.tables e below (s₁.setTop (mkF m 22 #[.val (.int x0), .val (.int x1), .val (.int x2), .val (.int x3), .val (.int x4), .val (.int kk_340), .val (.int s1_351), .unset, .unset, .unset, .unset, .unset, .unset, .unset, .unset, .unset] [(.int (1 : Int32)), (.int (x1 &&& (3 : Int32)))])) t
    refine XS.iadd X0.here hx rfl (hb hby at_22) rfl ?_
    show Steps p.tables e below (s₁.setTop (mkF m 23 #[.val (.int x0), .val (.int x1), .val (.int x2), .val (.int x3), .val (.int x4), .val (.int kk_340), .val (.int s1_351), .unset, .unset, .unset, .unset, .unset, .unset, .unset, .unset, .unset] [(.int ((x1 &&& (3 : Int32)) + (1 : Int32)))])) t
    refine XS.istore X0.here hx rfl (hb hby at_23) rfl (l' := #[.val (.int x0), .val (.int x1), .val (.int x2), .val (.int x3), .val (.int x4), .val (.int kk_340), .val (.int s1_351), .val (.int ((x1 &&& (3 : Int32)) + (1 : Int32))), .unset, .unset, .unset, .unset, .unset, .unset, .unset, .unset]) rfl ?_
    exact k)
  obtain ⟨n1_361, Sp361, K369⟩ : ∃ (n1_361 : Int32), (1 ≤ n1_361.toInt ∧ n1_361.toInt ≤ 4) ∧ ∀ t, Steps p.tables e below (s₁.setTop (mkF m 25 #[.val (.int x0), .val (.int x1), .val (.int x2), .val (.int x3), .val (.int x4), .val (.int kk_340), .val (.int s1_351), .val (.int n1_361), .unset, .unset, .unset, .unset, .unset, .unset, .unset, .unset] [])) t → Steps p.tables e below (s₁.setTop (entryFrame m #[(.int x0), (.int x1), (.int x2), (.int x3), (.int x4)] maxLocals)) t := by
    refine ⟨((x1 &&& (3 : Int32)) + (1 : Int32)), ?_, K360⟩
    have q362 := rng32 x1
    have q363 := (by decide : (3 : Int32).toInt = 3)
    have q364 := (show (x1 &&& (3 : Int32)).toInt = x1.toInt % 4 from c_mask x1 (3 : Int32) 2 (by decide) (by decide))
    have q365 := rng32 (x1 &&& (3 : Int32))
    have q366 := (by decide : (1 : Int32).toInt = 1)
    have q367 := c_iadd (x1 &&& (3 : Int32)) (1 : Int32)
    have q368 := rng32 ((x1 &&& (3 : Int32)) + (1 : Int32))
    omega
  have K370 : ∀ t, Steps p.tables e below (s₁.setTop (mkF m 34 #[.val (.int x0), .val (.int x1), .val (.int x2), .val (.int x3), .val (.int x4), .val (.int kk_340), .val (.int s1_351), .val (.int n1_361), .val (.int ((s1_351 + n1_361) - (1 : Int32))), .unset, .unset, .unset, .unset, .unset, .unset, .unset] [])) t → Steps p.tables e below (s₁.setTop (entryFrame m #[(.int x0), (.int x1), (.int x2), (.int x3), (.int x4)] maxLocals)) t := fun t k => K369 t (by
    show Steps p.tables e below (s₁.setTop (mkF m 25 #[.val (.int x0), .val (.int x1), .val (.int x2), .val (.int x3), .val (.int x4), .val (.int kk_340), .val (.int s1_351), .val (.int n1_361), .unset, .unset, .unset, .unset, .unset, .unset, .unset, .unset] [])) t
    refine XS.iload X0.here hx rfl (hb hby at_25) rfl ?_
    show Steps p.tables e below (s₁.setTop (mkF m 27 #[.val (.int x0), .val (.int x1), .val (.int x2), .val (.int x3), .val (.int x4), .val (.int kk_340), .val (.int s1_351), .val (.int n1_361), .unset, .unset, .unset, .unset, .unset, .unset, .unset, .unset] [(.int s1_351)])) t
    refine XS.iload X0.here hx rfl (hb hby at_27) rfl ?_
    show Steps p.tables e below (s₁.setTop (mkF m 29 #[.val (.int x0), .val (.int x1), .val (.int x2), .val (.int x3), .val (.int x4), .val (.int kk_340), .val (.int s1_351), .val (.int n1_361), .unset, .unset, .unset, .unset, .unset, .unset, .unset, .unset] [(.int n1_361), (.int s1_351)])) t
    refine XS.iadd X0.here hx rfl (hb hby at_29) rfl ?_
    show Steps p.tables e below (s₁.setTop (mkF m 30 #[.val (.int x0), .val (.int x1), .val (.int x2), .val (.int x3), .val (.int x4), .val (.int kk_340), .val (.int s1_351), .val (.int n1_361), .unset, .unset, .unset, .unset, .unset, .unset, .unset, .unset] [(.int (s1_351 + n1_361))])) t
    refine XS.iconst X0.here hx rfl (hb hby at_30) ?_
    show Steps p.tables e below (s₁.setTop (mkF m 31 #[.val (.int x0), .val (.int x1), .val (.int x2), .val (.int x3), .val (.int x4), .val (.int kk_340), .val (.int s1_351), .val (.int n1_361), .unset, .unset, .unset, .unset, .unset, .unset, .unset, .unset] [(.int (1 : Int32)), (.int (s1_351 + n1_361))])) t
    refine XS.isub X0.here hx rfl (hb hby at_31) rfl ?_
    show Steps p.tables e below (s₁.setTop (mkF m 32 #[.val (.int x0), .val (.int x1), .val (.int x2), .val (.int x3), .val (.int x4), .val (.int kk_340), .val (.int s1_351), .val (.int n1_361), .unset, .unset, .unset, .unset, .unset, .unset, .unset, .unset] [(.int ((s1_351 + n1_361) - (1 : Int32)))])) t
    refine XS.istore X0.here hx rfl (hb hby at_32) rfl (l' := #[.val (.int x0), .val (.int x1), .val (.int x2), .val (.int x3), .val (.int x4), .val (.int kk_340), .val (.int s1_351), .val (.int n1_361), .val (.int ((s1_351 + n1_361) - (1 : Int32))), .unset, .unset, .unset, .unset, .unset, .unset, .unset]) rfl ?_
    exact k)
  obtain ⟨l1_371, Sp371, K379⟩ : ∃ (l1_371 : Int32), (l1_371.toInt = s1_351.toInt + n1_361.toInt - 1) ∧ ∀ t, Steps p.tables e below (s₁.setTop (mkF m 34 #[.val (.int x0), .val (.int x1), .val (.int x2), .val (.int x3), .val (.int x4), .val (.int kk_340), .val (.int s1_351), .val (.int n1_361), .val (.int l1_371), .unset, .unset, .unset, .unset, .unset, .unset, .unset] [])) t → Steps p.tables e below (s₁.setTop (entryFrame m #[(.int x0), (.int x1), (.int x2), (.int x3), (.int x4)] maxLocals)) t := by
    refine ⟨((s1_351 + n1_361) - (1 : Int32)), ?_, K370⟩
    have q372 := rng32 s1_351
    have q373 := rng32 n1_361
    have q374 := c_iadd s1_351 n1_361
    have q375 := rng32 (s1_351 + n1_361)
    have q376 := (by decide : (1 : Int32).toInt = 1)
    have q377 := c_isub (s1_351 + n1_361) (1 : Int32)
    have q378 := rng32 ((s1_351 + n1_361) - (1 : Int32))
    omega
  have K380 : ∀ t, Steps p.tables e below (s₁.setTop (mkF m 41 #[.val (.int x0), .val (.int x1), .val (.int x2), .val (.int x3), .val (.int x4), .val (.int kk_340), .val (.int s1_351), .val (.int n1_361), .val (.int l1_371), .val (.int ((2147483639 : Int32) - l1_371)), .unset, .unset, .unset, .unset, .unset, .unset] [])) t → Steps p.tables e below (s₁.setTop (entryFrame m #[(.int x0), (.int x1), (.int x2), (.int x3), (.int x4)] maxLocals)) t := fun t k => K379 t (by
    show Steps p.tables e below (s₁.setTop (mkF m 34 #[.val (.int x0), .val (.int x1), .val (.int x2), .val (.int x3), .val (.int x4), .val (.int kk_340), .val (.int s1_351), .val (.int n1_361), .val (.int l1_371), .unset, .unset, .unset, .unset, .unset, .unset, .unset] [])) t
    refine X0.ldcInt hx hown (mvT hZ (hw _ (List.mem_of_getElem? (i := 2) rfl))) (g := (mkF m 34 #[.val (.int x0), .val (.int x1), .val (.int x2), .val (.int x3), .val (.int x4), .val (.int kk_340), .val (.int s1_351), .val (.int n1_361), .val (.int l1_371), .unset, .unset, .unset, .unset, .unset, .unset, .unset] [])) rfl (hb hby at_34) _ ?_
    show Steps p.tables e below (s₁.setTop (mkF m 36 #[.val (.int x0), .val (.int x1), .val (.int x2), .val (.int x3), .val (.int x4), .val (.int kk_340), .val (.int s1_351), .val (.int n1_361), .val (.int l1_371), .unset, .unset, .unset, .unset, .unset, .unset, .unset] [(.int (2147483639 : Int32))])) t
    refine XS.iload X0.here hx rfl (hb hby at_36) rfl ?_
    show Steps p.tables e below (s₁.setTop (mkF m 38 #[.val (.int x0), .val (.int x1), .val (.int x2), .val (.int x3), .val (.int x4), .val (.int kk_340), .val (.int s1_351), .val (.int n1_361), .val (.int l1_371), .unset, .unset, .unset, .unset, .unset, .unset, .unset] [(.int l1_371), (.int (2147483639 : Int32))])) t
    refine XS.isub X0.here hx rfl (hb hby at_38) rfl ?_
    show Steps p.tables e below (s₁.setTop (mkF m 39 #[.val (.int x0), .val (.int x1), .val (.int x2), .val (.int x3), .val (.int x4), .val (.int kk_340), .val (.int s1_351), .val (.int n1_361), .val (.int l1_371), .unset, .unset, .unset, .unset, .unset, .unset, .unset] [(.int ((2147483639 : Int32) - l1_371))])) t
    refine XS.istore X0.here hx rfl (hb hby at_39) rfl (l' := #[.val (.int x0), .val (.int x1), .val (.int x2), .val (.int x3), .val (.int x4), .val (.int kk_340), .val (.int s1_351), .val (.int n1_361), .val (.int l1_371), .val (.int ((2147483639 : Int32) - l1_371)), .unset, .unset, .unset, .unset, .unset, .unset]) rfl ?_
    exact k)
  obtain ⟨rm_381, Sp381, K386⟩ : ∃ (rm_381 : Int32), (rm_381.toInt = 2147483639 - l1_371.toInt) ∧ ∀ t, Steps p.tables e below (s₁.setTop (mkF m 41 #[.val (.int x0), .val (.int x1), .val (.int x2), .val (.int x3), .val (.int x4), .val (.int kk_340), .val (.int s1_351), .val (.int n1_361), .val (.int l1_371), .val (.int rm_381), .unset, .unset, .unset, .unset, .unset, .unset] [])) t → Steps p.tables e below (s₁.setTop (entryFrame m #[(.int x0), (.int x1), (.int x2), (.int x3), (.int x4)] maxLocals)) t := by
    refine ⟨((2147483639 : Int32) - l1_371), ?_, K380⟩
    have q382 := (by decide : (2147483639 : Int32).toInt = 2147483639)
    have q383 := rng32 l1_371
    have q384 := c_isub (2147483639 : Int32) l1_371
    have q385 := rng32 ((2147483639 : Int32) - l1_371)
    omega
  have q387 : rm_381 ≠ 0 := by
    have q388 := rng32 rm_381
    intro q; have q2 : rm_381.toInt = 0 := (by rw [q]; rfl); omega
  have K389 : ∀ t, Steps p.tables e below (s₁.setTop (mkF m 55 #[.val (.int x0), .val (.int x1), .val (.int x2), .val (.int x3), .val (.int x4), .val (.int kk_340), .val (.int s1_351), .val (.int n1_361), .val (.int l1_371), .val (.int rm_381), .val (.int ((l1_371 + (2 : Int32)) + ((x2 &&& (2147483647 : Int32)) % rm_381))), .unset, .unset, .unset, .unset, .unset] [])) t → Steps p.tables e below (s₁.setTop (entryFrame m #[(.int x0), (.int x1), (.int x2), (.int x3), (.int x4)] maxLocals)) t := fun t k => K386 t (by
    show Steps p.tables e below (s₁.setTop (mkF m 41 #[.val (.int x0), .val (.int x1), .val (.int x2), .val (.int x3), .val (.int x4), .val (.int kk_340), .val (.int s1_351), .val (.int n1_361), .val (.int l1_371), .val (.int rm_381), .unset, .unset, .unset, .unset, .unset, .unset] [])) t
    refine XS.iload X0.here hx rfl (hb hby at_41) rfl ?_
    show Steps p.tables e below (s₁.setTop (mkF m 43 #[.val (.int x0), .val (.int x1), .val (.int x2), .val (.int x3), .val (.int x4), .val (.int kk_340), .val (.int s1_351), .val (.int n1_361), .val (.int l1_371), .val (.int rm_381), .unset, .unset, .unset, .unset, .unset, .unset] [(.int l1_371)])) t
    refine XS.iconst X0.here hx rfl (hb hby at_43) ?_
    show Steps p.tables e below (s₁.setTop (mkF m 44 #[.val (.int x0), .val (.int x1), .val (.int x2), .val (.int x3), .val (.int x4), .val (.int kk_340), .val (.int s1_351), .val (.int n1_361), .val (.int l1_371), .val (.int rm_381), .unset, .unset, .unset, .unset, .unset, .unset] [(.int (2 : Int32)), (.int l1_371)])) t
    refine XS.iadd X0.here hx rfl (hb hby at_44) rfl ?_
    show Steps p.tables e below (s₁.setTop (mkF m 45 #[.val (.int x0), .val (.int x1), .val (.int x2), .val (.int x3), .val (.int x4), .val (.int kk_340), .val (.int s1_351), .val (.int n1_361), .val (.int l1_371), .val (.int rm_381), .unset, .unset, .unset, .unset, .unset, .unset] [(.int (l1_371 + (2 : Int32)))])) t
    refine XS.iloadN X0.here hx rfl (hb hby at_45) rfl ?_
    show Steps p.tables e below (s₁.setTop (mkF m 46 #[.val (.int x0), .val (.int x1), .val (.int x2), .val (.int x3), .val (.int x4), .val (.int kk_340), .val (.int s1_351), .val (.int n1_361), .val (.int l1_371), .val (.int rm_381), .unset, .unset, .unset, .unset, .unset, .unset] [(.int x2), (.int (l1_371 + (2 : Int32)))])) t
    refine X0.ldcInt hx hown (mvT hZ (hw _ (List.mem_of_getElem? (i := 0) rfl))) (g := (mkF m 46 #[.val (.int x0), .val (.int x1), .val (.int x2), .val (.int x3), .val (.int x4), .val (.int kk_340), .val (.int s1_351), .val (.int n1_361), .val (.int l1_371), .val (.int rm_381), .unset, .unset, .unset, .unset, .unset, .unset] [(.int x2), (.int (l1_371 + (2 : Int32)))])) rfl (hb hby at_46) _ ?_
    show Steps p.tables e below (s₁.setTop (mkF m 48 #[.val (.int x0), .val (.int x1), .val (.int x2), .val (.int x3), .val (.int x4), .val (.int kk_340), .val (.int s1_351), .val (.int n1_361), .val (.int l1_371), .val (.int rm_381), .unset, .unset, .unset, .unset, .unset, .unset] [(.int (2147483647 : Int32)), (.int x2), (.int (l1_371 + (2 : Int32)))])) t
    refine XS.iand X0.here hx rfl (hb hby at_48) rfl ?_
    show Steps p.tables e below (s₁.setTop (mkF m 49 #[.val (.int x0), .val (.int x1), .val (.int x2), .val (.int x3), .val (.int x4), .val (.int kk_340), .val (.int s1_351), .val (.int n1_361), .val (.int l1_371), .val (.int rm_381), .unset, .unset, .unset, .unset, .unset, .unset] [(.int (x2 &&& (2147483647 : Int32))), (.int (l1_371 + (2 : Int32)))])) t
    refine XS.iload X0.here hx rfl (hb hby at_49) rfl ?_
    show Steps p.tables e below (s₁.setTop (mkF m 51 #[.val (.int x0), .val (.int x1), .val (.int x2), .val (.int x3), .val (.int x4), .val (.int kk_340), .val (.int s1_351), .val (.int n1_361), .val (.int l1_371), .val (.int rm_381), .unset, .unset, .unset, .unset, .unset, .unset] [(.int rm_381), (.int (x2 &&& (2147483647 : Int32))), (.int (l1_371 + (2 : Int32)))])) t
    refine iremM X0 hx rfl (hb hby at_51) rfl q387 ?_
    show Steps p.tables e below (s₁.setTop (mkF m 52 #[.val (.int x0), .val (.int x1), .val (.int x2), .val (.int x3), .val (.int x4), .val (.int kk_340), .val (.int s1_351), .val (.int n1_361), .val (.int l1_371), .val (.int rm_381), .unset, .unset, .unset, .unset, .unset, .unset] [(.int ((x2 &&& (2147483647 : Int32)) % rm_381)), (.int (l1_371 + (2 : Int32)))])) t
    refine XS.iadd X0.here hx rfl (hb hby at_52) rfl ?_
    show Steps p.tables e below (s₁.setTop (mkF m 53 #[.val (.int x0), .val (.int x1), .val (.int x2), .val (.int x3), .val (.int x4), .val (.int kk_340), .val (.int s1_351), .val (.int n1_361), .val (.int l1_371), .val (.int rm_381), .unset, .unset, .unset, .unset, .unset, .unset] [(.int ((l1_371 + (2 : Int32)) + ((x2 &&& (2147483647 : Int32)) % rm_381)))])) t
    refine XS.istore X0.here hx rfl (hb hby at_53) rfl (l' := #[.val (.int x0), .val (.int x1), .val (.int x2), .val (.int x3), .val (.int x4), .val (.int kk_340), .val (.int s1_351), .val (.int n1_361), .val (.int l1_371), .val (.int rm_381), .val (.int ((l1_371 + (2 : Int32)) + ((x2 &&& (2147483647 : Int32)) % rm_381))), .unset, .unset, .unset, .unset, .unset]) rfl ?_
    exact k)
  obtain ⟨f2_390, Sp390, K404⟩ : ∃ (f2_390 : Int32), (l1_371.toInt + 2 ≤ f2_390.toInt ∧ f2_390.toInt ≤ 2147483640) ∧ ∀ t, Steps p.tables e below (s₁.setTop (mkF m 55 #[.val (.int x0), .val (.int x1), .val (.int x2), .val (.int x3), .val (.int x4), .val (.int kk_340), .val (.int s1_351), .val (.int n1_361), .val (.int l1_371), .val (.int rm_381), .val (.int f2_390), .unset, .unset, .unset, .unset, .unset] [])) t → Steps p.tables e below (s₁.setTop (entryFrame m #[(.int x0), (.int x1), (.int x2), (.int x3), (.int x4)] maxLocals)) t := by
    refine ⟨((l1_371 + (2 : Int32)) + ((x2 &&& (2147483647 : Int32)) % rm_381)), ?_, K389⟩
    have q391 := rng32 l1_371
    have q392 := (by decide : (2 : Int32).toInt = 2)
    have q393 := c_iadd l1_371 (2 : Int32)
    have q394 := rng32 (l1_371 + (2 : Int32))
    have q395 := rng32 x2
    have q396 := (by decide : (2147483647 : Int32).toInt = 2147483647)
    have q397 := (show (x2 &&& (2147483647 : Int32)).toInt = x2.toInt % 2147483648 from c_mask x2 (2147483647 : Int32) 31 (by decide) (by decide))
    have q398 := rng32 (x2 &&& (2147483647 : Int32))
    have q399 := rng32 rm_381
    have q400 := c_iremV (x2 &&& (2147483647 : Int32)) rm_381
    have q401 := rng32 ((x2 &&& (2147483647 : Int32)) % rm_381)
    have q402 := c_iadd (l1_371 + (2 : Int32)) ((x2 &&& (2147483647 : Int32)) % rm_381)
    have q403 := rng32 ((l1_371 + (2 : Int32)) + ((x2 &&& (2147483647 : Int32)) % rm_381))
    omega
  have K405 : ∀ t, Steps p.tables e below (s₁.setTop (mkF m 62 #[.val (.int x0), .val (.int x1), .val (.int x2), .val (.int x3), .val (.int x4), .val (.int kk_340), .val (.int s1_351), .val (.int n1_361), .val (.int l1_371), .val (.int rm_381), .val (.int f2_390), .val (.int ((x3 &&& (3 : Int32)) + (1 : Int32))), .unset, .unset, .unset, .unset] [])) t → Steps p.tables e below (s₁.setTop (entryFrame m #[(.int x0), (.int x1), (.int x2), (.int x3), (.int x4)] maxLocals)) t := fun t k => K404 t (by
    show Steps p.tables e below (s₁.setTop (mkF m 55 #[.val (.int x0), .val (.int x1), .val (.int x2), .val (.int x3), .val (.int x4), .val (.int kk_340), .val (.int s1_351), .val (.int n1_361), .val (.int l1_371), .val (.int rm_381), .val (.int f2_390), .unset, .unset, .unset, .unset, .unset] [])) t
    refine XS.iloadN X0.here hx rfl (hb hby at_55) rfl ?_
    show Steps p.tables e below (s₁.setTop (mkF m 56 #[.val (.int x0), .val (.int x1), .val (.int x2), .val (.int x3), .val (.int x4), .val (.int kk_340), .val (.int s1_351), .val (.int n1_361), .val (.int l1_371), .val (.int rm_381), .val (.int f2_390), .unset, .unset, .unset, .unset, .unset] [(.int x3)])) t
    refine XS.iconst X0.here hx rfl (hb hby at_56) ?_
    show Steps p.tables e below (s₁.setTop (mkF m 57 #[.val (.int x0), .val (.int x1), .val (.int x2), .val (.int x3), .val (.int x4), .val (.int kk_340), .val (.int s1_351), .val (.int n1_361), .val (.int l1_371), .val (.int rm_381), .val (.int f2_390), .unset, .unset, .unset, .unset, .unset] [(.int (3 : Int32)), (.int x3)])) t
    refine XS.iand X0.here hx rfl (hb hby at_57) rfl ?_
    show Steps p.tables e below (s₁.setTop (mkF m 58 #[.val (.int x0), .val (.int x1), .val (.int x2), .val (.int x3), .val (.int x4), .val (.int kk_340), .val (.int s1_351), .val (.int n1_361), .val (.int l1_371), .val (.int rm_381), .val (.int f2_390), .unset, .unset, .unset, .unset, .unset] [(.int (x3 &&& (3 : Int32)))])) t
    refine XS.iconst X0.here hx rfl (hb hby at_58) ?_
    show Steps p.tables e below (s₁.setTop (mkF m 59 #[.val (.int x0), .val (.int x1), .val (.int x2), .val (.int x3), .val (.int x4), .val (.int kk_340), .val (.int s1_351), .val (.int n1_361), .val (.int l1_371), .val (.int rm_381), .val (.int f2_390), .unset, .unset, .unset, .unset, .unset] [(.int (1 : Int32)), (.int (x3 &&& (3 : Int32)))])) t
    refine XS.iadd X0.here hx rfl (hb hby at_59) rfl ?_
    show Steps p.tables e below (s₁.setTop (mkF m 60 #[.val (.int x0), .val (.int x1), .val (.int x2), .val (.int x3), .val (.int x4), .val (.int kk_340), .val (.int s1_351), .val (.int n1_361), .val (.int l1_371), .val (.int rm_381), .val (.int f2_390), .unset, .unset, .unset, .unset, .unset] [(.int ((x3 &&& (3 : Int32)) + (1 : Int32)))])) t
    refine XS.istore X0.here hx rfl (hb hby at_60) rfl (l' := #[.val (.int x0), .val (.int x1), .val (.int x2), .val (.int x3), .val (.int x4), .val (.int kk_340), .val (.int s1_351), .val (.int n1_361), .val (.int l1_371), .val (.int rm_381), .val (.int f2_390), .val (.int ((x3 &&& (3 : Int32)) + (1 : Int32))), .unset, .unset, .unset, .unset]) rfl ?_
    exact k)
  obtain ⟨n2_406, Sp406, K414⟩ : ∃ (n2_406 : Int32), (1 ≤ n2_406.toInt ∧ n2_406.toInt ≤ 4) ∧ ∀ t, Steps p.tables e below (s₁.setTop (mkF m 62 #[.val (.int x0), .val (.int x1), .val (.int x2), .val (.int x3), .val (.int x4), .val (.int kk_340), .val (.int s1_351), .val (.int n1_361), .val (.int l1_371), .val (.int rm_381), .val (.int f2_390), .val (.int n2_406), .unset, .unset, .unset, .unset] [])) t → Steps p.tables e below (s₁.setTop (entryFrame m #[(.int x0), (.int x1), (.int x2), (.int x3), (.int x4)] maxLocals)) t := by
    refine ⟨((x3 &&& (3 : Int32)) + (1 : Int32)), ?_, K405⟩
    have q407 := rng32 x3
    have q408 := (by decide : (3 : Int32).toInt = 3)
    have q409 := (show (x3 &&& (3 : Int32)).toInt = x3.toInt % 4 from c_mask x3 (3 : Int32) 2 (by decide) (by decide))
    have q410 := rng32 (x3 &&& (3 : Int32))
    have q411 := (by decide : (1 : Int32).toInt = 1)
    have q412 := c_iadd (x3 &&& (3 : Int32)) (1 : Int32)
    have q413 := rng32 ((x3 &&& (3 : Int32)) + (1 : Int32))
    omega
  have K415 : ∀ t, Steps p.tables e below (s₁.setTop (mkF m 71 #[.val (.int x0), .val (.int x1), .val (.int x2), .val (.int x3), .val (.int x4), .val (.int kk_340), .val (.int s1_351), .val (.int n1_361), .val (.int l1_371), .val (.int rm_381), .val (.int f2_390), .val (.int n2_406), .val (.int ((f2_390 + n2_406) - (1 : Int32))), .unset, .unset, .unset] [])) t → Steps p.tables e below (s₁.setTop (entryFrame m #[(.int x0), (.int x1), (.int x2), (.int x3), (.int x4)] maxLocals)) t := fun t k => K414 t (by
    show Steps p.tables e below (s₁.setTop (mkF m 62 #[.val (.int x0), .val (.int x1), .val (.int x2), .val (.int x3), .val (.int x4), .val (.int kk_340), .val (.int s1_351), .val (.int n1_361), .val (.int l1_371), .val (.int rm_381), .val (.int f2_390), .val (.int n2_406), .unset, .unset, .unset, .unset] [])) t
    refine XS.iload X0.here hx rfl (hb hby at_62) rfl ?_
    show Steps p.tables e below (s₁.setTop (mkF m 64 #[.val (.int x0), .val (.int x1), .val (.int x2), .val (.int x3), .val (.int x4), .val (.int kk_340), .val (.int s1_351), .val (.int n1_361), .val (.int l1_371), .val (.int rm_381), .val (.int f2_390), .val (.int n2_406), .unset, .unset, .unset, .unset] [(.int f2_390)])) t
    refine XS.iload X0.here hx rfl (hb hby at_64) rfl ?_
    show Steps p.tables e below (s₁.setTop (mkF m 66 #[.val (.int x0), .val (.int x1), .val (.int x2), .val (.int x3), .val (.int x4), .val (.int kk_340), .val (.int s1_351), .val (.int n1_361), .val (.int l1_371), .val (.int rm_381), .val (.int f2_390), .val (.int n2_406), .unset, .unset, .unset, .unset] [(.int n2_406), (.int f2_390)])) t
    refine XS.iadd X0.here hx rfl (hb hby at_66) rfl ?_
    show Steps p.tables e below (s₁.setTop (mkF m 67 #[.val (.int x0), .val (.int x1), .val (.int x2), .val (.int x3), .val (.int x4), .val (.int kk_340), .val (.int s1_351), .val (.int n1_361), .val (.int l1_371), .val (.int rm_381), .val (.int f2_390), .val (.int n2_406), .unset, .unset, .unset, .unset] [(.int (f2_390 + n2_406))])) t
    refine XS.iconst X0.here hx rfl (hb hby at_67) ?_
    show Steps p.tables e below (s₁.setTop (mkF m 68 #[.val (.int x0), .val (.int x1), .val (.int x2), .val (.int x3), .val (.int x4), .val (.int kk_340), .val (.int s1_351), .val (.int n1_361), .val (.int l1_371), .val (.int rm_381), .val (.int f2_390), .val (.int n2_406), .unset, .unset, .unset, .unset] [(.int (1 : Int32)), (.int (f2_390 + n2_406))])) t
    refine XS.isub X0.here hx rfl (hb hby at_68) rfl ?_
    show Steps p.tables e below (s₁.setTop (mkF m 69 #[.val (.int x0), .val (.int x1), .val (.int x2), .val (.int x3), .val (.int x4), .val (.int kk_340), .val (.int s1_351), .val (.int n1_361), .val (.int l1_371), .val (.int rm_381), .val (.int f2_390), .val (.int n2_406), .unset, .unset, .unset, .unset] [(.int ((f2_390 + n2_406) - (1 : Int32)))])) t
    refine XS.istore X0.here hx rfl (hb hby at_69) rfl (l' := #[.val (.int x0), .val (.int x1), .val (.int x2), .val (.int x3), .val (.int x4), .val (.int kk_340), .val (.int s1_351), .val (.int n1_361), .val (.int l1_371), .val (.int rm_381), .val (.int f2_390), .val (.int n2_406), .val (.int ((f2_390 + n2_406) - (1 : Int32))), .unset, .unset, .unset]) rfl ?_
    exact k)
  obtain ⟨l2_416, Sp416, K424⟩ : ∃ (l2_416 : Int32), (l2_416.toInt = f2_390.toInt + n2_406.toInt - 1) ∧ ∀ t, Steps p.tables e below (s₁.setTop (mkF m 71 #[.val (.int x0), .val (.int x1), .val (.int x2), .val (.int x3), .val (.int x4), .val (.int kk_340), .val (.int s1_351), .val (.int n1_361), .val (.int l1_371), .val (.int rm_381), .val (.int f2_390), .val (.int n2_406), .val (.int l2_416), .unset, .unset, .unset] [])) t → Steps p.tables e below (s₁.setTop (entryFrame m #[(.int x0), (.int x1), (.int x2), (.int x3), (.int x4)] maxLocals)) t := by
    refine ⟨((f2_390 + n2_406) - (1 : Int32)), ?_, K415⟩
    have q417 := rng32 f2_390
    have q418 := rng32 n2_406
    have q419 := c_iadd f2_390 n2_406
    have q420 := rng32 (f2_390 + n2_406)
    have q421 := (by decide : (1 : Int32).toInt = 1)
    have q422 := c_isub (f2_390 + n2_406) (1 : Int32)
    have q423 := rng32 ((f2_390 + n2_406) - (1 : Int32))
    omega
  have K426 : ∀ t, Steps p.tables e below (s₁.setTop (mkF m 73 #[.val (.int x0), .val (.int x1), .val (.int x2), .val (.int x3), .val (.int x4), .val (.int kk_340), .val (.int s1_351), .val (.int n1_361), .val (.int l1_371), .val (.int rm_381), .val (.int f2_390), .val (.int n2_406), .val (.int l2_416), .unset, .unset, .unset] [(.int kk_340)])) t → Steps p.tables e below (s₁.setTop (entryFrame m #[(.int x0), (.int x1), (.int x2), (.int x3), (.int x4)] maxLocals)) t := fun t k => K424 t (by
    show Steps p.tables e below (s₁.setTop (mkF m 71 #[.val (.int x0), .val (.int x1), .val (.int x2), .val (.int x3), .val (.int x4), .val (.int kk_340), .val (.int s1_351), .val (.int n1_361), .val (.int l1_371), .val (.int rm_381), .val (.int f2_390), .val (.int n2_406), .val (.int l2_416), .unset, .unset, .unset] [])) t
    refine XS.iload X0.here hx rfl (hb hby at_71) rfl ?_
    exact k)
  by_cases hc425 : kk_340 = (0 : Int32)
  · have q427 : kk_340.toInt = (0 : Int32).toInt := congrArg Int32.toInt hc425
    have K428 : ∀ t, Steps p.tables e below (s₁.setTop (mkF m 77 #[.val (.int x0), .val (.int x1), .val (.int x2), .val (.int x3), .val (.int x4), .val (.int kk_340), .val (.int s1_351), .val (.int n1_361), .val (.int l1_371), .val (.int rm_381), .val (.int f2_390), .val (.int n2_406), .val (.int l2_416), .unset, .unset, .unset] [(.int (0 : Int32))])) t → Steps p.tables e below (s₁.setTop (entryFrame m #[(.int x0), (.int x1), (.int x2), (.int x3), (.int x4)] maxLocals)) t := fun t k => K426 t (by
      show Steps p.tables e below (s₁.setTop (mkF m 73 #[.val (.int x0), .val (.int x1), .val (.int x2), .val (.int x3), .val (.int x4), .val (.int kk_340), .val (.int s1_351), .val (.int n1_361), .val (.int l1_371), .val (.int rm_381), .val (.int f2_390), .val (.int n2_406), .val (.int l2_416), .unset, .unset, .unset] [(.int kk_340)])) t
      refine XS.ifNo X0.here hx rfl (hb hby at_73) rfl ((if0 _ _).trans (teq hc425).2) ?_
      show Steps p.tables e below (s₁.setTop (mkF m 76 #[.val (.int x0), .val (.int x1), .val (.int x2), .val (.int x3), .val (.int x4), .val (.int kk_340), .val (.int s1_351), .val (.int n1_361), .val (.int l1_371), .val (.int rm_381), .val (.int f2_390), .val (.int n2_406), .val (.int l2_416), .unset, .unset, .unset] [])) t
      refine XS.iconst X0.here hx rfl (hb hby at_76) ?_
      exact k)
    obtain ⟨T429, h429, k429, X429, e429, E429, A429, st429⟩ := newP X0 hx hZ (hw _ (List.mem_of_getElem? (i := 3) rfl)) e0 (g := (mkF m 77 #[.val (.int x0), .val (.int x1), .val (.int x2), .val (.int x3), .val (.int x4), .val (.int kk_340), .val (.int s1_351), .val (.int n1_361), .val (.int l1_371), .val (.int rm_381), .val (.int f2_390), .val (.int n2_406), .val (.int l2_416), .unset, .unset, .unset] [(.int (0 : Int32))])) rfl (hb hby at_77) rfl (by decide) (cap := 0) (by decide) (by decide) (by decide) (by decide)
    obtain ⟨b429, g429⟩ : ∃ z, z = h0.size := ⟨_, rfl⟩
    rw [← g429] at A429 st429
    have gb430 : own_Le n0 b429 := Nat.le_trans Z0 (Nat.le_of_eq g429.symm)
    have sb431 : own_Le h0.size b429 := Nat.le_trans (Keep.refl h0 []).1 (Nat.le_of_eq g429.symm)
    have Z432 : own_Le n0 h429.size := Nat.le_trans Z0 E429.1
    have Kp433 : Keep h0 h429 [] := Keep.ext (Keep.refl h0 []) E429
    have V434 : own_Arf Z h429 b429 .int (0 : Int32) (fun _ => (0 : Int32)) := own_Arf.new A429 (by decide) rfl
    have K435 : ∀ t, Steps p.tables e below (T429.setTop (mkF m 79 #[.val (.int x0), .val (.int x1), .val (.int x2), .val (.int x3), .val (.int x4), .val (.int kk_340), .val (.int s1_351), .val (.int n1_361), .val (.int l1_371), .val (.int rm_381), .val (.int f2_390), .val (.int n2_406), .val (.int l2_416), .unset, .unset, .unset] [(.ref b429)])) t → Steps p.tables e below (s₁.setTop (entryFrame m #[(.int x0), (.int x1), (.int x2), (.int x3), (.int x4)] maxLocals)) t := fun t k => K428 t (st429 _ k)
    have K436 : ∀ t, Steps p.tables e below (T429.setTop (mkF m 149 #[.val (.int x0), .val (.int x1), .val (.int x2), .val (.int x3), .val (.int x4), .val (.int kk_340), .val (.int s1_351), .val (.int n1_361), .val (.int l1_371), .val (.int rm_381), .val (.int f2_390), .val (.int n2_406), .val (.int l2_416), .val (.ref b429), .val (.int (0 : Int32)), .unset] [(.ref b429)])) t → Steps p.tables e below (s₁.setTop (entryFrame m #[(.int x0), (.int x1), (.int x2), (.int x3), (.int x4)] maxLocals)) t := fun t k => K435 t (by
      show Steps p.tables e below (T429.setTop (mkF m 79 #[.val (.int x0), .val (.int x1), .val (.int x2), .val (.int x3), .val (.int x4), .val (.int kk_340), .val (.int s1_351), .val (.int n1_361), .val (.int l1_371), .val (.int rm_381), .val (.int f2_390), .val (.int n2_406), .val (.int l2_416), .unset, .unset, .unset] [(.ref b429)])) t
      refine XS.astore X429.here hx rfl (hb hby at_79) rfl rfl (l' := #[.val (.int x0), .val (.int x1), .val (.int x2), .val (.int x3), .val (.int x4), .val (.int kk_340), .val (.int s1_351), .val (.int n1_361), .val (.int l1_371), .val (.int rm_381), .val (.int f2_390), .val (.int n2_406), .val (.int l2_416), .val (.ref b429), .unset, .unset]) rfl ?_
      show Steps p.tables e below (T429.setTop (mkF m 81 #[.val (.int x0), .val (.int x1), .val (.int x2), .val (.int x3), .val (.int x4), .val (.int kk_340), .val (.int s1_351), .val (.int n1_361), .val (.int l1_371), .val (.int rm_381), .val (.int f2_390), .val (.int n2_406), .val (.int l2_416), .val (.ref b429), .unset, .unset] [])) t
      refine XS.iconst X429.here hx rfl (hb hby at_81) ?_
      show Steps p.tables e below (T429.setTop (mkF m 82 #[.val (.int x0), .val (.int x1), .val (.int x2), .val (.int x3), .val (.int x4), .val (.int kk_340), .val (.int s1_351), .val (.int n1_361), .val (.int l1_371), .val (.int rm_381), .val (.int f2_390), .val (.int n2_406), .val (.int l2_416), .val (.ref b429), .unset, .unset] [(.int (0 : Int32))])) t
      refine XS.istore X429.here hx rfl (hb hby at_82) rfl (l' := #[.val (.int x0), .val (.int x1), .val (.int x2), .val (.int x3), .val (.int x4), .val (.int kk_340), .val (.int s1_351), .val (.int n1_361), .val (.int l1_371), .val (.int rm_381), .val (.int f2_390), .val (.int n2_406), .val (.int l2_416), .val (.ref b429), .val (.int (0 : Int32)), .unset]) rfl ?_
      show Steps p.tables e below (T429.setTop (mkF m 84 #[.val (.int x0), .val (.int x1), .val (.int x2), .val (.int x3), .val (.int x4), .val (.int kk_340), .val (.int s1_351), .val (.int n1_361), .val (.int l1_371), .val (.int rm_381), .val (.int f2_390), .val (.int n2_406), .val (.int l2_416), .val (.ref b429), .val (.int (0 : Int32)), .unset] [])) t
      refine XS.goto X429.here hx rfl (pc0 := 84) (pc' := 147) rfl (hb hby at_84) (by decide) (by decide) ?_
      show Steps p.tables e below (T429.setTop (mkF m 147 #[.val (.int x0), .val (.int x1), .val (.int x2), .val (.int x3), .val (.int x4), .val (.int kk_340), .val (.int s1_351), .val (.int n1_361), .val (.int l1_371), .val (.int rm_381), .val (.int f2_390), .val (.int n2_406), .val (.int l2_416), .val (.ref b429), .val (.int (0 : Int32)), .unset] [])) t
      refine XS.aload X429.here hx rfl (hb hby at_147) rfl rfl ?_
      exact k)
    obtain ⟨_, _, ⟨T437, L437, kk437, nn437⟩, -, X437, ⟨Lc437, hQ437, l437, y437, z437⟩, st437⟩ := Jvm.LawKit.callS X429 hx (y := (⟨"com/example/omegaprobe/omegaprobe/graph/StateSets", "expand", "([I)[I"⟩ : MethodName)) hown (mvT hZ (hw _ (List.mem_of_getElem? (i := 4) rfl))) (mvT hZ (hw _ (List.mem_of_getElem? (i := 5) rfl))) (mvT hZ (hw _ (List.mem_of_getElem? (i := 6) rfl))) (mvT hZ (hw _ (List.mem_of_getElem? (i := 7) rfl))) (by decide) (backOf (W := 0) (rmE0 l Z a0 hw [] b429 (fun _ => (0 : Int32)) h429 n0 Z432 V434) hZ (hw _ (List.mem_of_getElem? (i := 7) rfl)) (hw _ (List.mem_of_getElem? (i := 6) rfl)) (by decide) (by decide)) (g := (mkF m 149 #[.val (.int x0), .val (.int x1), .val (.int x2), .val (.int x3), .val (.int x4), .val (.int kk_340), .val (.int s1_351), .val (.int n1_361), .val (.int l1_371), .val (.int rm_381), .val (.int f2_390), .val (.int n2_406), .val (.int l2_416), .val (.ref b429), .val (.int (0 : Int32)), .unset] [(.ref b429)])) rfl (by rw [hml]; rfl) (argsL := [(.ref b429)]) (rest := []) (lenOf own_pd0 rfl) rfl (by show 2 * 0 + _ ≤ _; exact Nat.le_of_eq rfl) (hb hby at_149) (fun _ _ => ⟨rfl, e429, (by decide : 1 + 1 ≤ _), (by decide : 0 + 0 ≤ _)⟩)
    dsimp only [Pt.U, Pt.locs, Pt.cells, Pt.slots] at X437 l437 y437 z437 st437 hQ437
    subst l437 y437 z437
    obtain ⟨pa_437, z_437, f_437, rfl, Sp437, Nq437, Kc437, Pc437_0, Pc437_1⟩ := hQ437
    have N438 := Fr.app N0 Nq437
    obtain ⟨h437, e437⟩ : ∃ z, z = T437.heap := ⟨_, rfl⟩
    rw [← e437] at Kc437 Pc437_1
    have ne439 : own_Ne b429 pa_437 := Nat.ne_of_lt (Nat.lt_of_lt_of_le V434.lt Pc437_0)
    have sb440 : own_Le h0.size pa_437 := Nat.le_trans Kp433.1 Pc437_0
    have gb441 : own_Le n0 pa_437 := Nat.le_trans Z432 Pc437_0
    have F442 := V434.keep Kc437 nin0
    have Kp443 : Keep h0 h437 [] := Keep.trans Kp433 Kc437 all0
    have Z444 : own_Le n0 h437.size := Nat.le_trans Z432 Kc437.1
    have K445 : ∀ t, Steps p.tables e below (T437.setTop (mkF m 152 #[.val (.int x0), .val (.int x1), .val (.int x2), .val (.int x3), .val (.int x4), .val (.int kk_340), .val (.int s1_351), .val (.int n1_361), .val (.int l1_371), .val (.int rm_381), .val (.int f2_390), .val (.int n2_406), .val (.int l2_416), .val (.ref b429), .val (.int (0 : Int32)), .unset] [(.ref pa_437)])) t → Steps p.tables e below (s₁.setTop (entryFrame m #[(.int x0), (.int x1), (.int x2), (.int x3), (.int x4)] maxLocals)) t := fun t k => K436 t (st437 _ k)
    have hok : ∀ i : Nat, (i : Int) < z_437.toInt → ((i : Int) < n1_361.toInt → (f_437 i).toInt = s1_351.toInt + (i : Int)) ∧ (n1_361.toInt ≤ (i : Int) → (f_437 i).toInt = f2_390.toInt + ((i : Int) - n1_361.toInt)) := by
      intro i hi; omega
    have hz : z_437.toInt = 0 := Sp437
    obtain ⟨cl446, Ar446, S446, N446, Hs446⟩ := id Pc437_1
    have hc447 : z_437 = (0 : Int32) := by
      have q448 := rng32 kk_340
      have q449 := (by decide : (0 : Int32).toInt = 0)
      have q450 := rng32 z_437
      exact Int32.toInt_inj.mp (by omega)
    have K451 : ∀ t, Steps p.tables e below (T437.setTop (mkF m 173 #[.val (.int x0), .val (.int x1), .val (.int x2), .val (.int x3), .val (.int x4), .val (.int kk_340), .val (.int s1_351), .val (.int n1_361), .val (.int l1_371), .val (.int rm_381), .val (.int f2_390), .val (.int n2_406), .val (.int l2_416), .val (.ref b429), .val (.int (0 : Int32)), .val (.ref pa_437)] [(.int f2_390), (.int s1_351), (.int n1_361), (.int (0 : Int32)), (.ref pa_437)])) t → Steps p.tables e below (s₁.setTop (entryFrame m #[(.int x0), (.int x1), (.int x2), (.int x3), (.int x4)] maxLocals)) t := fun t k => K445 t (by
      show Steps p.tables e below (T437.setTop (mkF m 152 #[.val (.int x0), .val (.int x1), .val (.int x2), .val (.int x3), .val (.int x4), .val (.int kk_340), .val (.int s1_351), .val (.int n1_361), .val (.int l1_371), .val (.int rm_381), .val (.int f2_390), .val (.int n2_406), .val (.int l2_416), .val (.ref b429), .val (.int (0 : Int32)), .unset] [(.ref pa_437)])) t
      refine XS.astore X437.here hx rfl (hb hby at_152) rfl rfl (l' := #[.val (.int x0), .val (.int x1), .val (.int x2), .val (.int x3), .val (.int x4), .val (.int kk_340), .val (.int s1_351), .val (.int n1_361), .val (.int l1_371), .val (.int rm_381), .val (.int f2_390), .val (.int n2_406), .val (.int l2_416), .val (.ref b429), .val (.int (0 : Int32)), .val (.ref pa_437)]) rfl ?_
      show Steps p.tables e below (T437.setTop (mkF m 154 #[.val (.int x0), .val (.int x1), .val (.int x2), .val (.int x3), .val (.int x4), .val (.int kk_340), .val (.int s1_351), .val (.int n1_361), .val (.int l1_371), .val (.int rm_381), .val (.int f2_390), .val (.int n2_406), .val (.int l2_416), .val (.ref b429), .val (.int (0 : Int32)), .val (.ref pa_437)] [])) t
      refine XS.aload X437.here hx rfl (hb hby at_154) rfl rfl ?_
      show Steps p.tables e below (T437.setTop (mkF m 156 #[.val (.int x0), .val (.int x1), .val (.int x2), .val (.int x3), .val (.int x4), .val (.int kk_340), .val (.int s1_351), .val (.int n1_361), .val (.int l1_371), .val (.int rm_381), .val (.int f2_390), .val (.int n2_406), .val (.int l2_416), .val (.ref b429), .val (.int (0 : Int32)), .val (.ref pa_437)] [(.ref pa_437)])) t
      refine X437.arraylength hx (by rw [e437.symm]; exact Ar446.1) (State.isArrayOf_alike hZ.alike Ar446.2.1) (g := (mkF m 156 #[.val (.int x0), .val (.int x1), .val (.int x2), .val (.int x3), .val (.int x4), .val (.int kk_340), .val (.int s1_351), .val (.int n1_361), .val (.int l1_371), .val (.int rm_381), .val (.int f2_390), .val (.int n2_406), .val (.int l2_416), .val (.ref b429), .val (.int (0 : Int32)), .val (.ref pa_437)] [(.ref pa_437)])) rfl rfl (hb hby at_156) _ ?_
      rw [len_of S446 N446]
      show Steps p.tables e below (T437.setTop (mkF m 157 #[.val (.int x0), .val (.int x1), .val (.int x2), .val (.int x3), .val (.int x4), .val (.int kk_340), .val (.int s1_351), .val (.int n1_361), .val (.int l1_371), .val (.int rm_381), .val (.int f2_390), .val (.int n2_406), .val (.int l2_416), .val (.ref b429), .val (.int (0 : Int32)), .val (.ref pa_437)] [(.int z_437)])) t
      refine XS.iload X437.here hx rfl (hb hby at_157) rfl ?_
      show Steps p.tables e below (T437.setTop (mkF m 159 #[.val (.int x0), .val (.int x1), .val (.int x2), .val (.int x3), .val (.int x4), .val (.int kk_340), .val (.int s1_351), .val (.int n1_361), .val (.int l1_371), .val (.int rm_381), .val (.int f2_390), .val (.int n2_406), .val (.int l2_416), .val (.ref b429), .val (.int (0 : Int32)), .val (.ref pa_437)] [(.int (0 : Int32)), (.int z_437)])) t
      refine XS.icmpYes X437.here hx rfl (pc0 := 159) (pc' := 164) rfl (hb hby at_159) rfl (teq hc447).1 (by decide) (by decide) ?_
      show Steps p.tables e below (T437.setTop (mkF m 164 #[.val (.int x0), .val (.int x1), .val (.int x2), .val (.int x3), .val (.int x4), .val (.int kk_340), .val (.int s1_351), .val (.int n1_361), .val (.int l1_371), .val (.int rm_381), .val (.int f2_390), .val (.int n2_406), .val (.int l2_416), .val (.ref b429), .val (.int (0 : Int32)), .val (.ref pa_437)] [])) t
      refine XS.aload X437.here hx rfl (hb hby at_164) rfl rfl ?_
      show Steps p.tables e below (T437.setTop (mkF m 166 #[.val (.int x0), .val (.int x1), .val (.int x2), .val (.int x3), .val (.int x4), .val (.int kk_340), .val (.int s1_351), .val (.int n1_361), .val (.int l1_371), .val (.int rm_381), .val (.int f2_390), .val (.int n2_406), .val (.int l2_416), .val (.ref b429), .val (.int (0 : Int32)), .val (.ref pa_437)] [(.ref pa_437)])) t
      refine XS.iconst X437.here hx rfl (hb hby at_166) ?_
      show Steps p.tables e below (T437.setTop (mkF m 167 #[.val (.int x0), .val (.int x1), .val (.int x2), .val (.int x3), .val (.int x4), .val (.int kk_340), .val (.int s1_351), .val (.int n1_361), .val (.int l1_371), .val (.int rm_381), .val (.int f2_390), .val (.int n2_406), .val (.int l2_416), .val (.ref b429), .val (.int (0 : Int32)), .val (.ref pa_437)] [(.int (0 : Int32)), (.ref pa_437)])) t
      refine XS.iload X437.here hx rfl (hb hby at_167) rfl ?_
      show Steps p.tables e below (T437.setTop (mkF m 169 #[.val (.int x0), .val (.int x1), .val (.int x2), .val (.int x3), .val (.int x4), .val (.int kk_340), .val (.int s1_351), .val (.int n1_361), .val (.int l1_371), .val (.int rm_381), .val (.int f2_390), .val (.int n2_406), .val (.int l2_416), .val (.ref b429), .val (.int (0 : Int32)), .val (.ref pa_437)] [(.int n1_361), (.int (0 : Int32)), (.ref pa_437)])) t
      refine XS.iload X437.here hx rfl (hb hby at_169) rfl ?_
      show Steps p.tables e below (T437.setTop (mkF m 171 #[.val (.int x0), .val (.int x1), .val (.int x2), .val (.int x3), .val (.int x4), .val (.int kk_340), .val (.int s1_351), .val (.int n1_361), .val (.int l1_371), .val (.int rm_381), .val (.int f2_390), .val (.int n2_406), .val (.int l2_416), .val (.ref b429), .val (.int (0 : Int32)), .val (.ref pa_437)] [(.int s1_351), (.int n1_361), (.int (0 : Int32)), (.ref pa_437)])) t
      refine XS.iload X437.here hx rfl (hb hby at_171) rfl ?_
      exact k)
    have q452 : 0 ≤ (0 : Int32).toInt ∧ (0 : Int32).toInt ≤ 7 ∧ 1 ≤ n1_361.toInt ∧ n1_361.toInt ≤ 4 := by
      have q453 := rng32 kk_340
      have q454 := (by decide : (0 : Int32).toInt = 0)
      have q455 := rng32 n1_361
      have q456 := rng32 s1_351
      have q457 := rng32 f2_390
      have q458 := rng32 z_437
      omega
    obtain ⟨_, _, ⟨T459, L459, kk459, nn459⟩, -, X459, ⟨Lc459, hQ459, l459, y459, z459⟩, st459⟩ := Jvm.LawKit.callS X437 hx (y := (⟨"com/example/omegaprobe/omegaprobe/graph/StateSetsExpandPinLaw", "ok", "([IIIII)Z"⟩ : MethodName)) hown (mvT hZ (hw _ (List.mem_of_getElem? (i := 8) rfl))) (mvT hZ (hw _ (List.mem_of_getElem? (i := 9) rfl))) (mvT hZ (hw _ (List.mem_of_getElem? (i := 10) rfl))) (mvT hZ (hw _ (List.mem_of_getElem? (i := 11) rfl))) (by decide) (backOf (W := 0) (rm2 l Z a0 hw [] pa_437 (0 : Int32) n1_361 s1_351 f2_390 z_437 f_437 h437 n0 Z444 Pc437_1 q452 hok) hZ (hw _ (List.mem_of_getElem? (i := 11) rfl)) (hw _ (List.mem_of_getElem? (i := 10) rfl)) (by decide) (by decide)) (g := (mkF m 173 #[.val (.int x0), .val (.int x1), .val (.int x2), .val (.int x3), .val (.int x4), .val (.int kk_340), .val (.int s1_351), .val (.int n1_361), .val (.int l1_371), .val (.int rm_381), .val (.int f2_390), .val (.int n2_406), .val (.int l2_416), .val (.ref b429), .val (.int (0 : Int32)), .val (.ref pa_437)] [(.int f2_390), (.int s1_351), (.int n1_361), (.int (0 : Int32)), (.ref pa_437)])) rfl (by rw [hml]; rfl) (argsL := [(.ref pa_437), (.int (0 : Int32)), (.int n1_361), (.int s1_351), (.int f2_390)]) (rest := []) (lenOf own_pd1 rfl) rfl (by show 2 * 0 + _ ≤ _; exact Nat.le_of_eq rfl) (hb hby at_173) (fun _ _ => ⟨rfl, e437.symm, (by decide : 2 + 0 ≤ _), (by decide : 0 + 0 ≤ _)⟩)
    dsimp only [Pt.U, Pt.locs, Pt.cells, Pt.slots] at X459 l459 y459 z459 st459 hQ459
    subst l459 y459 z459
    obtain ⟨r_459, rfl, Sp459, Nq459, eh459⟩ := hQ459
    have N460 := Fr.app N438 Nq459
    have K461 : ∀ t, Steps p.tables e below (T459.setTop (mkF m 176 #[.val (.int x0), .val (.int x1), .val (.int x2), .val (.int x3), .val (.int x4), .val (.int kk_340), .val (.int s1_351), .val (.int n1_361), .val (.int l1_371), .val (.int rm_381), .val (.int f2_390), .val (.int n2_406), .val (.int l2_416), .val (.ref b429), .val (.int (0 : Int32)), .val (.ref pa_437)] [(.int r_459)])) t → Steps p.tables e below (s₁.setTop (entryFrame m #[(.int x0), (.int x1), (.int x2), (.int x3), (.int x4)] maxLocals)) t := fun t k => K451 t (st459 _ k)
    have hc462 : ¬ (r_459 = (0 : Int32)) := by
      have q463 := rng32 kk_340
      have q464 := (by decide : (0 : Int32).toInt = 0)
      have q465 := rng32 n1_361
      have q466 := rng32 s1_351
      have q467 := rng32 f2_390
      have q468 := rng32 z_437
      have q469 := rng32 r_459
      intro q; have q2 := congrArg Int32.toInt q; omega
    have K470 : ∀ t, Steps p.tables e below (T459.setTop (mkF m 188 #[.val (.int x0), .val (.int x1), .val (.int x2), .val (.int x3), .val (.int x4), .val (.int kk_340), .val (.int s1_351), .val (.int n1_361), .val (.int l1_371), .val (.int rm_381), .val (.int f2_390), .val (.int n2_406), .val (.int l2_416), .val (.ref b429), .val (.int (0 : Int32)), .val (.ref pa_437)] [(.int f2_390), (.int s1_351), (.int n1_361), (.int (1 : Int32)), (.ref pa_437)])) t → Steps p.tables e below (s₁.setTop (entryFrame m #[(.int x0), (.int x1), (.int x2), (.int x3), (.int x4)] maxLocals)) t := fun t k => K461 t (by
      show Steps p.tables e below (T459.setTop (mkF m 176 #[.val (.int x0), .val (.int x1), .val (.int x2), .val (.int x3), .val (.int x4), .val (.int kk_340), .val (.int s1_351), .val (.int n1_361), .val (.int l1_371), .val (.int rm_381), .val (.int f2_390), .val (.int n2_406), .val (.int l2_416), .val (.ref b429), .val (.int (0 : Int32)), .val (.ref pa_437)] [(.int r_459)])) t
      refine XS.ifNo X459.here hx rfl (hb hby at_176) rfl ((if0 _ _).trans (feq hc462).1) ?_
      show Steps p.tables e below (T459.setTop (mkF m 179 #[.val (.int x0), .val (.int x1), .val (.int x2), .val (.int x3), .val (.int x4), .val (.int kk_340), .val (.int s1_351), .val (.int n1_361), .val (.int l1_371), .val (.int rm_381), .val (.int f2_390), .val (.int n2_406), .val (.int l2_416), .val (.ref b429), .val (.int (0 : Int32)), .val (.ref pa_437)] [])) t
      refine XS.aload X459.here hx rfl (hb hby at_179) rfl rfl ?_
      show Steps p.tables e below (T459.setTop (mkF m 181 #[.val (.int x0), .val (.int x1), .val (.int x2), .val (.int x3), .val (.int x4), .val (.int kk_340), .val (.int s1_351), .val (.int n1_361), .val (.int l1_371), .val (.int rm_381), .val (.int f2_390), .val (.int n2_406), .val (.int l2_416), .val (.ref b429), .val (.int (0 : Int32)), .val (.ref pa_437)] [(.ref pa_437)])) t
      refine XS.iconst X459.here hx rfl (hb hby at_181) ?_
      show Steps p.tables e below (T459.setTop (mkF m 182 #[.val (.int x0), .val (.int x1), .val (.int x2), .val (.int x3), .val (.int x4), .val (.int kk_340), .val (.int s1_351), .val (.int n1_361), .val (.int l1_371), .val (.int rm_381), .val (.int f2_390), .val (.int n2_406), .val (.int l2_416), .val (.ref b429), .val (.int (0 : Int32)), .val (.ref pa_437)] [(.int (1 : Int32)), (.ref pa_437)])) t
      refine XS.iload X459.here hx rfl (hb hby at_182) rfl ?_
      show Steps p.tables e below (T459.setTop (mkF m 184 #[.val (.int x0), .val (.int x1), .val (.int x2), .val (.int x3), .val (.int x4), .val (.int kk_340), .val (.int s1_351), .val (.int n1_361), .val (.int l1_371), .val (.int rm_381), .val (.int f2_390), .val (.int n2_406), .val (.int l2_416), .val (.ref b429), .val (.int (0 : Int32)), .val (.ref pa_437)] [(.int n1_361), (.int (1 : Int32)), (.ref pa_437)])) t
      refine XS.iload X459.here hx rfl (hb hby at_184) rfl ?_
      show Steps p.tables e below (T459.setTop (mkF m 186 #[.val (.int x0), .val (.int x1), .val (.int x2), .val (.int x3), .val (.int x4), .val (.int kk_340), .val (.int s1_351), .val (.int n1_361), .val (.int l1_371), .val (.int rm_381), .val (.int f2_390), .val (.int n2_406), .val (.int l2_416), .val (.ref b429), .val (.int (0 : Int32)), .val (.ref pa_437)] [(.int s1_351), (.int n1_361), (.int (1 : Int32)), (.ref pa_437)])) t
      refine XS.iload X459.here hx rfl (hb hby at_186) rfl ?_
      exact k)
    have q471 : 0 ≤ (1 : Int32).toInt ∧ (1 : Int32).toInt ≤ 7 ∧ 1 ≤ n1_361.toInt ∧ n1_361.toInt ≤ 4 := by
      have q472 := rng32 kk_340
      have q473 := (by decide : (0 : Int32).toInt = 0)
      have q474 := rng32 n1_361
      have q475 := rng32 s1_351
      have q476 := rng32 f2_390
      have q477 := rng32 z_437
      have q478 := (by decide : (1 : Int32).toInt = 1)
      omega
    obtain ⟨_, _, ⟨T479, L479, kk479, nn479⟩, -, X479, ⟨Lc479, hQ479, l479, y479, z479⟩, st479⟩ := Jvm.LawKit.callS X459 hx (y := (⟨"com/example/omegaprobe/omegaprobe/graph/StateSetsExpandPinLaw", "ok", "([IIIII)Z"⟩ : MethodName)) hown (mvT hZ (hw _ (List.mem_of_getElem? (i := 8) rfl))) (mvT hZ (hw _ (List.mem_of_getElem? (i := 9) rfl))) (mvT hZ (hw _ (List.mem_of_getElem? (i := 10) rfl))) (mvT hZ (hw _ (List.mem_of_getElem? (i := 11) rfl))) (by decide) (backOf (W := 0) (rm2 l Z a0 hw [] pa_437 (1 : Int32) n1_361 s1_351 f2_390 z_437 f_437 h437 n0 Z444 Pc437_1 q471 hok) hZ (hw _ (List.mem_of_getElem? (i := 11) rfl)) (hw _ (List.mem_of_getElem? (i := 10) rfl)) (by decide) (by decide)) (g := (mkF m 188 #[.val (.int x0), .val (.int x1), .val (.int x2), .val (.int x3), .val (.int x4), .val (.int kk_340), .val (.int s1_351), .val (.int n1_361), .val (.int l1_371), .val (.int rm_381), .val (.int f2_390), .val (.int n2_406), .val (.int l2_416), .val (.ref b429), .val (.int (0 : Int32)), .val (.ref pa_437)] [(.int f2_390), (.int s1_351), (.int n1_361), (.int (1 : Int32)), (.ref pa_437)])) rfl (by rw [hml]; rfl) (argsL := [(.ref pa_437), (.int (1 : Int32)), (.int n1_361), (.int s1_351), (.int f2_390)]) (rest := []) (lenOf own_pd1 rfl) rfl (by show 2 * 0 + _ ≤ _; exact Nat.le_of_eq rfl) (hb hby at_188) (fun _ _ => ⟨rfl, eh459, (by decide : 2 + 0 ≤ _), (by decide : 0 + 0 ≤ _)⟩)
    dsimp only [Pt.U, Pt.locs, Pt.cells, Pt.slots] at X479 l479 y479 z479 st479 hQ479
    subst l479 y479 z479
    obtain ⟨r_479, rfl, Sp479, Nq479, eh479⟩ := hQ479
    have N480 := Fr.app N460 Nq479
    have K481 : ∀ t, Steps p.tables e below (T479.setTop (mkF m 191 #[.val (.int x0), .val (.int x1), .val (.int x2), .val (.int x3), .val (.int x4), .val (.int kk_340), .val (.int s1_351), .val (.int n1_361), .val (.int l1_371), .val (.int rm_381), .val (.int f2_390), .val (.int n2_406), .val (.int l2_416), .val (.ref b429), .val (.int (0 : Int32)), .val (.ref pa_437)] [(.int r_479)])) t → Steps p.tables e below (s₁.setTop (entryFrame m #[(.int x0), (.int x1), (.int x2), (.int x3), (.int x4)] maxLocals)) t := fun t k => K470 t (st479 _ k)
    have hc482 : ¬ (r_479 = (0 : Int32)) := by
      have q483 := rng32 kk_340
      have q484 := (by decide : (0 : Int32).toInt = 0)
      have q485 := rng32 n1_361
      have q486 := rng32 s1_351
      have q487 := rng32 f2_390
      have q488 := rng32 z_437
      have q489 := (by decide : (1 : Int32).toInt = 1)
      have q490 := rng32 r_479
      intro q; have q2 := congrArg Int32.toInt q; omega
    have K491 : ∀ t, Steps p.tables e below (T479.setTop (mkF m 203 #[.val (.int x0), .val (.int x1), .val (.int x2), .val (.int x3), .val (.int x4), .val (.int kk_340), .val (.int s1_351), .val (.int n1_361), .val (.int l1_371), .val (.int rm_381), .val (.int f2_390), .val (.int n2_406), .val (.int l2_416), .val (.ref b429), .val (.int (0 : Int32)), .val (.ref pa_437)] [(.int f2_390), (.int s1_351), (.int n1_361), (.int (2 : Int32)), (.ref pa_437)])) t → Steps p.tables e below (s₁.setTop (entryFrame m #[(.int x0), (.int x1), (.int x2), (.int x3), (.int x4)] maxLocals)) t := fun t k => K481 t (by
      show Steps p.tables e below (T479.setTop (mkF m 191 #[.val (.int x0), .val (.int x1), .val (.int x2), .val (.int x3), .val (.int x4), .val (.int kk_340), .val (.int s1_351), .val (.int n1_361), .val (.int l1_371), .val (.int rm_381), .val (.int f2_390), .val (.int n2_406), .val (.int l2_416), .val (.ref b429), .val (.int (0 : Int32)), .val (.ref pa_437)] [(.int r_479)])) t
      refine XS.ifNo X479.here hx rfl (hb hby at_191) rfl ((if0 _ _).trans (feq hc482).1) ?_
      show Steps p.tables e below (T479.setTop (mkF m 194 #[.val (.int x0), .val (.int x1), .val (.int x2), .val (.int x3), .val (.int x4), .val (.int kk_340), .val (.int s1_351), .val (.int n1_361), .val (.int l1_371), .val (.int rm_381), .val (.int f2_390), .val (.int n2_406), .val (.int l2_416), .val (.ref b429), .val (.int (0 : Int32)), .val (.ref pa_437)] [])) t
      refine XS.aload X479.here hx rfl (hb hby at_194) rfl rfl ?_
      show Steps p.tables e below (T479.setTop (mkF m 196 #[.val (.int x0), .val (.int x1), .val (.int x2), .val (.int x3), .val (.int x4), .val (.int kk_340), .val (.int s1_351), .val (.int n1_361), .val (.int l1_371), .val (.int rm_381), .val (.int f2_390), .val (.int n2_406), .val (.int l2_416), .val (.ref b429), .val (.int (0 : Int32)), .val (.ref pa_437)] [(.ref pa_437)])) t
      refine XS.iconst X479.here hx rfl (hb hby at_196) ?_
      show Steps p.tables e below (T479.setTop (mkF m 197 #[.val (.int x0), .val (.int x1), .val (.int x2), .val (.int x3), .val (.int x4), .val (.int kk_340), .val (.int s1_351), .val (.int n1_361), .val (.int l1_371), .val (.int rm_381), .val (.int f2_390), .val (.int n2_406), .val (.int l2_416), .val (.ref b429), .val (.int (0 : Int32)), .val (.ref pa_437)] [(.int (2 : Int32)), (.ref pa_437)])) t
      refine XS.iload X479.here hx rfl (hb hby at_197) rfl ?_
      show Steps p.tables e below (T479.setTop (mkF m 199 #[.val (.int x0), .val (.int x1), .val (.int x2), .val (.int x3), .val (.int x4), .val (.int kk_340), .val (.int s1_351), .val (.int n1_361), .val (.int l1_371), .val (.int rm_381), .val (.int f2_390), .val (.int n2_406), .val (.int l2_416), .val (.ref b429), .val (.int (0 : Int32)), .val (.ref pa_437)] [(.int n1_361), (.int (2 : Int32)), (.ref pa_437)])) t
      refine XS.iload X479.here hx rfl (hb hby at_199) rfl ?_
      show Steps p.tables e below (T479.setTop (mkF m 201 #[.val (.int x0), .val (.int x1), .val (.int x2), .val (.int x3), .val (.int x4), .val (.int kk_340), .val (.int s1_351), .val (.int n1_361), .val (.int l1_371), .val (.int rm_381), .val (.int f2_390), .val (.int n2_406), .val (.int l2_416), .val (.ref b429), .val (.int (0 : Int32)), .val (.ref pa_437)] [(.int s1_351), (.int n1_361), (.int (2 : Int32)), (.ref pa_437)])) t
      refine XS.iload X479.here hx rfl (hb hby at_201) rfl ?_
      exact k)
    have q492 : 0 ≤ (2 : Int32).toInt ∧ (2 : Int32).toInt ≤ 7 ∧ 1 ≤ n1_361.toInt ∧ n1_361.toInt ≤ 4 := by
      have q493 := rng32 kk_340
      have q494 := (by decide : (0 : Int32).toInt = 0)
      have q495 := rng32 n1_361
      have q496 := rng32 s1_351
      have q497 := rng32 f2_390
      have q498 := rng32 z_437
      have q499 := (by decide : (1 : Int32).toInt = 1)
      have q500 := (by decide : (2 : Int32).toInt = 2)
      omega
    obtain ⟨_, _, ⟨T501, L501, kk501, nn501⟩, -, X501, ⟨Lc501, hQ501, l501, y501, z501⟩, st501⟩ := Jvm.LawKit.callS X479 hx (y := (⟨"com/example/omegaprobe/omegaprobe/graph/StateSetsExpandPinLaw", "ok", "([IIIII)Z"⟩ : MethodName)) hown (mvT hZ (hw _ (List.mem_of_getElem? (i := 8) rfl))) (mvT hZ (hw _ (List.mem_of_getElem? (i := 9) rfl))) (mvT hZ (hw _ (List.mem_of_getElem? (i := 10) rfl))) (mvT hZ (hw _ (List.mem_of_getElem? (i := 11) rfl))) (by decide) (backOf (W := 0) (rm2 l Z a0 hw [] pa_437 (2 : Int32) n1_361 s1_351 f2_390 z_437 f_437 h437 n0 Z444 Pc437_1 q492 hok) hZ (hw _ (List.mem_of_getElem? (i := 11) rfl)) (hw _ (List.mem_of_getElem? (i := 10) rfl)) (by decide) (by decide)) (g := (mkF m 203 #[.val (.int x0), .val (.int x1), .val (.int x2), .val (.int x3), .val (.int x4), .val (.int kk_340), .val (.int s1_351), .val (.int n1_361), .val (.int l1_371), .val (.int rm_381), .val (.int f2_390), .val (.int n2_406), .val (.int l2_416), .val (.ref b429), .val (.int (0 : Int32)), .val (.ref pa_437)] [(.int f2_390), (.int s1_351), (.int n1_361), (.int (2 : Int32)), (.ref pa_437)])) rfl (by rw [hml]; rfl) (argsL := [(.ref pa_437), (.int (2 : Int32)), (.int n1_361), (.int s1_351), (.int f2_390)]) (rest := []) (lenOf own_pd1 rfl) rfl (by show 2 * 0 + _ ≤ _; exact Nat.le_of_eq rfl) (hb hby at_203) (fun _ _ => ⟨rfl, eh479, (by decide : 2 + 0 ≤ _), (by decide : 0 + 0 ≤ _)⟩)
    dsimp only [Pt.U, Pt.locs, Pt.cells, Pt.slots] at X501 l501 y501 z501 st501 hQ501
    subst l501 y501 z501
    obtain ⟨r_501, rfl, Sp501, Nq501, eh501⟩ := hQ501
    have N502 := Fr.app N480 Nq501
    have K503 : ∀ t, Steps p.tables e below (T501.setTop (mkF m 206 #[.val (.int x0), .val (.int x1), .val (.int x2), .val (.int x3), .val (.int x4), .val (.int kk_340), .val (.int s1_351), .val (.int n1_361), .val (.int l1_371), .val (.int rm_381), .val (.int f2_390), .val (.int n2_406), .val (.int l2_416), .val (.ref b429), .val (.int (0 : Int32)), .val (.ref pa_437)] [(.int r_501)])) t → Steps p.tables e below (s₁.setTop (entryFrame m #[(.int x0), (.int x1), (.int x2), (.int x3), (.int x4)] maxLocals)) t := fun t k => K491 t (st501 _ k)
    have hc504 : ¬ (r_501 = (0 : Int32)) := by
      have q505 := rng32 kk_340
      have q506 := (by decide : (0 : Int32).toInt = 0)
      have q507 := rng32 n1_361
      have q508 := rng32 s1_351
      have q509 := rng32 f2_390
      have q510 := rng32 z_437
      have q511 := (by decide : (1 : Int32).toInt = 1)
      have q512 := (by decide : (2 : Int32).toInt = 2)
      have q513 := rng32 r_501
      intro q; have q2 := congrArg Int32.toInt q; omega
    have K514 : ∀ t, Steps p.tables e below (T501.setTop (mkF m 218 #[.val (.int x0), .val (.int x1), .val (.int x2), .val (.int x3), .val (.int x4), .val (.int kk_340), .val (.int s1_351), .val (.int n1_361), .val (.int l1_371), .val (.int rm_381), .val (.int f2_390), .val (.int n2_406), .val (.int l2_416), .val (.ref b429), .val (.int (0 : Int32)), .val (.ref pa_437)] [(.int f2_390), (.int s1_351), (.int n1_361), (.int (3 : Int32)), (.ref pa_437)])) t → Steps p.tables e below (s₁.setTop (entryFrame m #[(.int x0), (.int x1), (.int x2), (.int x3), (.int x4)] maxLocals)) t := fun t k => K503 t (by
      show Steps p.tables e below (T501.setTop (mkF m 206 #[.val (.int x0), .val (.int x1), .val (.int x2), .val (.int x3), .val (.int x4), .val (.int kk_340), .val (.int s1_351), .val (.int n1_361), .val (.int l1_371), .val (.int rm_381), .val (.int f2_390), .val (.int n2_406), .val (.int l2_416), .val (.ref b429), .val (.int (0 : Int32)), .val (.ref pa_437)] [(.int r_501)])) t
      refine XS.ifNo X501.here hx rfl (hb hby at_206) rfl ((if0 _ _).trans (feq hc504).1) ?_
      show Steps p.tables e below (T501.setTop (mkF m 209 #[.val (.int x0), .val (.int x1), .val (.int x2), .val (.int x3), .val (.int x4), .val (.int kk_340), .val (.int s1_351), .val (.int n1_361), .val (.int l1_371), .val (.int rm_381), .val (.int f2_390), .val (.int n2_406), .val (.int l2_416), .val (.ref b429), .val (.int (0 : Int32)), .val (.ref pa_437)] [])) t
      refine XS.aload X501.here hx rfl (hb hby at_209) rfl rfl ?_
      show Steps p.tables e below (T501.setTop (mkF m 211 #[.val (.int x0), .val (.int x1), .val (.int x2), .val (.int x3), .val (.int x4), .val (.int kk_340), .val (.int s1_351), .val (.int n1_361), .val (.int l1_371), .val (.int rm_381), .val (.int f2_390), .val (.int n2_406), .val (.int l2_416), .val (.ref b429), .val (.int (0 : Int32)), .val (.ref pa_437)] [(.ref pa_437)])) t
      refine XS.iconst X501.here hx rfl (hb hby at_211) ?_
      show Steps p.tables e below (T501.setTop (mkF m 212 #[.val (.int x0), .val (.int x1), .val (.int x2), .val (.int x3), .val (.int x4), .val (.int kk_340), .val (.int s1_351), .val (.int n1_361), .val (.int l1_371), .val (.int rm_381), .val (.int f2_390), .val (.int n2_406), .val (.int l2_416), .val (.ref b429), .val (.int (0 : Int32)), .val (.ref pa_437)] [(.int (3 : Int32)), (.ref pa_437)])) t
      refine XS.iload X501.here hx rfl (hb hby at_212) rfl ?_
      show Steps p.tables e below (T501.setTop (mkF m 214 #[.val (.int x0), .val (.int x1), .val (.int x2), .val (.int x3), .val (.int x4), .val (.int kk_340), .val (.int s1_351), .val (.int n1_361), .val (.int l1_371), .val (.int rm_381), .val (.int f2_390), .val (.int n2_406), .val (.int l2_416), .val (.ref b429), .val (.int (0 : Int32)), .val (.ref pa_437)] [(.int n1_361), (.int (3 : Int32)), (.ref pa_437)])) t
      refine XS.iload X501.here hx rfl (hb hby at_214) rfl ?_
      show Steps p.tables e below (T501.setTop (mkF m 216 #[.val (.int x0), .val (.int x1), .val (.int x2), .val (.int x3), .val (.int x4), .val (.int kk_340), .val (.int s1_351), .val (.int n1_361), .val (.int l1_371), .val (.int rm_381), .val (.int f2_390), .val (.int n2_406), .val (.int l2_416), .val (.ref b429), .val (.int (0 : Int32)), .val (.ref pa_437)] [(.int s1_351), (.int n1_361), (.int (3 : Int32)), (.ref pa_437)])) t
      refine XS.iload X501.here hx rfl (hb hby at_216) rfl ?_
      exact k)
    have q515 : 0 ≤ (3 : Int32).toInt ∧ (3 : Int32).toInt ≤ 7 ∧ 1 ≤ n1_361.toInt ∧ n1_361.toInt ≤ 4 := by
      have q516 := rng32 kk_340
      have q517 := (by decide : (0 : Int32).toInt = 0)
      have q518 := rng32 n1_361
      have q519 := rng32 s1_351
      have q520 := rng32 f2_390
      have q521 := rng32 z_437
      have q522 := (by decide : (1 : Int32).toInt = 1)
      have q523 := (by decide : (2 : Int32).toInt = 2)
      have q524 := (by decide : (3 : Int32).toInt = 3)
      omega
    obtain ⟨_, _, ⟨T525, L525, kk525, nn525⟩, -, X525, ⟨Lc525, hQ525, l525, y525, z525⟩, st525⟩ := Jvm.LawKit.callS X501 hx (y := (⟨"com/example/omegaprobe/omegaprobe/graph/StateSetsExpandPinLaw", "ok", "([IIIII)Z"⟩ : MethodName)) hown (mvT hZ (hw _ (List.mem_of_getElem? (i := 8) rfl))) (mvT hZ (hw _ (List.mem_of_getElem? (i := 9) rfl))) (mvT hZ (hw _ (List.mem_of_getElem? (i := 10) rfl))) (mvT hZ (hw _ (List.mem_of_getElem? (i := 11) rfl))) (by decide) (backOf (W := 0) (rm2 l Z a0 hw [] pa_437 (3 : Int32) n1_361 s1_351 f2_390 z_437 f_437 h437 n0 Z444 Pc437_1 q515 hok) hZ (hw _ (List.mem_of_getElem? (i := 11) rfl)) (hw _ (List.mem_of_getElem? (i := 10) rfl)) (by decide) (by decide)) (g := (mkF m 218 #[.val (.int x0), .val (.int x1), .val (.int x2), .val (.int x3), .val (.int x4), .val (.int kk_340), .val (.int s1_351), .val (.int n1_361), .val (.int l1_371), .val (.int rm_381), .val (.int f2_390), .val (.int n2_406), .val (.int l2_416), .val (.ref b429), .val (.int (0 : Int32)), .val (.ref pa_437)] [(.int f2_390), (.int s1_351), (.int n1_361), (.int (3 : Int32)), (.ref pa_437)])) rfl (by rw [hml]; rfl) (argsL := [(.ref pa_437), (.int (3 : Int32)), (.int n1_361), (.int s1_351), (.int f2_390)]) (rest := []) (lenOf own_pd1 rfl) rfl (by show 2 * 0 + _ ≤ _; exact Nat.le_of_eq rfl) (hb hby at_218) (fun _ _ => ⟨rfl, eh501, (by decide : 2 + 0 ≤ _), (by decide : 0 + 0 ≤ _)⟩)
    dsimp only [Pt.U, Pt.locs, Pt.cells, Pt.slots] at X525 l525 y525 z525 st525 hQ525
    subst l525 y525 z525
    obtain ⟨r_525, rfl, Sp525, Nq525, eh525⟩ := hQ525
    have N526 := Fr.app N502 Nq525
    have K527 : ∀ t, Steps p.tables e below (T525.setTop (mkF m 221 #[.val (.int x0), .val (.int x1), .val (.int x2), .val (.int x3), .val (.int x4), .val (.int kk_340), .val (.int s1_351), .val (.int n1_361), .val (.int l1_371), .val (.int rm_381), .val (.int f2_390), .val (.int n2_406), .val (.int l2_416), .val (.ref b429), .val (.int (0 : Int32)), .val (.ref pa_437)] [(.int r_525)])) t → Steps p.tables e below (s₁.setTop (entryFrame m #[(.int x0), (.int x1), (.int x2), (.int x3), (.int x4)] maxLocals)) t := fun t k => K514 t (st525 _ k)
    have hc528 : ¬ (r_525 = (0 : Int32)) := by
      have q529 := rng32 kk_340
      have q530 := (by decide : (0 : Int32).toInt = 0)
      have q531 := rng32 n1_361
      have q532 := rng32 s1_351
      have q533 := rng32 f2_390
      have q534 := rng32 z_437
      have q535 := (by decide : (1 : Int32).toInt = 1)
      have q536 := (by decide : (2 : Int32).toInt = 2)
      have q537 := (by decide : (3 : Int32).toInt = 3)
      have q538 := rng32 r_525
      intro q; have q2 := congrArg Int32.toInt q; omega
    have K539 : ∀ t, Steps p.tables e below (T525.setTop (mkF m 233 #[.val (.int x0), .val (.int x1), .val (.int x2), .val (.int x3), .val (.int x4), .val (.int kk_340), .val (.int s1_351), .val (.int n1_361), .val (.int l1_371), .val (.int rm_381), .val (.int f2_390), .val (.int n2_406), .val (.int l2_416), .val (.ref b429), .val (.int (0 : Int32)), .val (.ref pa_437)] [(.int f2_390), (.int s1_351), (.int n1_361), (.int (4 : Int32)), (.ref pa_437)])) t → Steps p.tables e below (s₁.setTop (entryFrame m #[(.int x0), (.int x1), (.int x2), (.int x3), (.int x4)] maxLocals)) t := fun t k => K527 t (by
      show Steps p.tables e below (T525.setTop (mkF m 221 #[.val (.int x0), .val (.int x1), .val (.int x2), .val (.int x3), .val (.int x4), .val (.int kk_340), .val (.int s1_351), .val (.int n1_361), .val (.int l1_371), .val (.int rm_381), .val (.int f2_390), .val (.int n2_406), .val (.int l2_416), .val (.ref b429), .val (.int (0 : Int32)), .val (.ref pa_437)] [(.int r_525)])) t
      refine XS.ifNo X525.here hx rfl (hb hby at_221) rfl ((if0 _ _).trans (feq hc528).1) ?_
      show Steps p.tables e below (T525.setTop (mkF m 224 #[.val (.int x0), .val (.int x1), .val (.int x2), .val (.int x3), .val (.int x4), .val (.int kk_340), .val (.int s1_351), .val (.int n1_361), .val (.int l1_371), .val (.int rm_381), .val (.int f2_390), .val (.int n2_406), .val (.int l2_416), .val (.ref b429), .val (.int (0 : Int32)), .val (.ref pa_437)] [])) t
      refine XS.aload X525.here hx rfl (hb hby at_224) rfl rfl ?_
      show Steps p.tables e below (T525.setTop (mkF m 226 #[.val (.int x0), .val (.int x1), .val (.int x2), .val (.int x3), .val (.int x4), .val (.int kk_340), .val (.int s1_351), .val (.int n1_361), .val (.int l1_371), .val (.int rm_381), .val (.int f2_390), .val (.int n2_406), .val (.int l2_416), .val (.ref b429), .val (.int (0 : Int32)), .val (.ref pa_437)] [(.ref pa_437)])) t
      refine XS.iconst X525.here hx rfl (hb hby at_226) ?_
      show Steps p.tables e below (T525.setTop (mkF m 227 #[.val (.int x0), .val (.int x1), .val (.int x2), .val (.int x3), .val (.int x4), .val (.int kk_340), .val (.int s1_351), .val (.int n1_361), .val (.int l1_371), .val (.int rm_381), .val (.int f2_390), .val (.int n2_406), .val (.int l2_416), .val (.ref b429), .val (.int (0 : Int32)), .val (.ref pa_437)] [(.int (4 : Int32)), (.ref pa_437)])) t
      refine XS.iload X525.here hx rfl (hb hby at_227) rfl ?_
      show Steps p.tables e below (T525.setTop (mkF m 229 #[.val (.int x0), .val (.int x1), .val (.int x2), .val (.int x3), .val (.int x4), .val (.int kk_340), .val (.int s1_351), .val (.int n1_361), .val (.int l1_371), .val (.int rm_381), .val (.int f2_390), .val (.int n2_406), .val (.int l2_416), .val (.ref b429), .val (.int (0 : Int32)), .val (.ref pa_437)] [(.int n1_361), (.int (4 : Int32)), (.ref pa_437)])) t
      refine XS.iload X525.here hx rfl (hb hby at_229) rfl ?_
      show Steps p.tables e below (T525.setTop (mkF m 231 #[.val (.int x0), .val (.int x1), .val (.int x2), .val (.int x3), .val (.int x4), .val (.int kk_340), .val (.int s1_351), .val (.int n1_361), .val (.int l1_371), .val (.int rm_381), .val (.int f2_390), .val (.int n2_406), .val (.int l2_416), .val (.ref b429), .val (.int (0 : Int32)), .val (.ref pa_437)] [(.int s1_351), (.int n1_361), (.int (4 : Int32)), (.ref pa_437)])) t
      refine XS.iload X525.here hx rfl (hb hby at_231) rfl ?_
      exact k)
    have q540 : 0 ≤ (4 : Int32).toInt ∧ (4 : Int32).toInt ≤ 7 ∧ 1 ≤ n1_361.toInt ∧ n1_361.toInt ≤ 4 := by
      have q541 := rng32 kk_340
      have q542 := (by decide : (0 : Int32).toInt = 0)
      have q543 := rng32 n1_361
      have q544 := rng32 s1_351
      have q545 := rng32 f2_390
      have q546 := rng32 z_437
      have q547 := (by decide : (1 : Int32).toInt = 1)
      have q548 := (by decide : (2 : Int32).toInt = 2)
      have q549 := (by decide : (3 : Int32).toInt = 3)
      have q550 := (by decide : (4 : Int32).toInt = 4)
      omega
    obtain ⟨_, _, ⟨T551, L551, kk551, nn551⟩, -, X551, ⟨Lc551, hQ551, l551, y551, z551⟩, st551⟩ := Jvm.LawKit.callS X525 hx (y := (⟨"com/example/omegaprobe/omegaprobe/graph/StateSetsExpandPinLaw", "ok", "([IIIII)Z"⟩ : MethodName)) hown (mvT hZ (hw _ (List.mem_of_getElem? (i := 8) rfl))) (mvT hZ (hw _ (List.mem_of_getElem? (i := 9) rfl))) (mvT hZ (hw _ (List.mem_of_getElem? (i := 10) rfl))) (mvT hZ (hw _ (List.mem_of_getElem? (i := 11) rfl))) (by decide) (backOf (W := 0) (rm2 l Z a0 hw [] pa_437 (4 : Int32) n1_361 s1_351 f2_390 z_437 f_437 h437 n0 Z444 Pc437_1 q540 hok) hZ (hw _ (List.mem_of_getElem? (i := 11) rfl)) (hw _ (List.mem_of_getElem? (i := 10) rfl)) (by decide) (by decide)) (g := (mkF m 233 #[.val (.int x0), .val (.int x1), .val (.int x2), .val (.int x3), .val (.int x4), .val (.int kk_340), .val (.int s1_351), .val (.int n1_361), .val (.int l1_371), .val (.int rm_381), .val (.int f2_390), .val (.int n2_406), .val (.int l2_416), .val (.ref b429), .val (.int (0 : Int32)), .val (.ref pa_437)] [(.int f2_390), (.int s1_351), (.int n1_361), (.int (4 : Int32)), (.ref pa_437)])) rfl (by rw [hml]; rfl) (argsL := [(.ref pa_437), (.int (4 : Int32)), (.int n1_361), (.int s1_351), (.int f2_390)]) (rest := []) (lenOf own_pd1 rfl) rfl (by show 2 * 0 + _ ≤ _; exact Nat.le_of_eq rfl) (hb hby at_233) (fun _ _ => ⟨rfl, eh525, (by decide : 2 + 0 ≤ _), (by decide : 0 + 0 ≤ _)⟩)
    dsimp only [Pt.U, Pt.locs, Pt.cells, Pt.slots] at X551 l551 y551 z551 st551 hQ551
    subst l551 y551 z551
    obtain ⟨r_551, rfl, Sp551, Nq551, eh551⟩ := hQ551
    have N552 := Fr.app N526 Nq551
    have K553 : ∀ t, Steps p.tables e below (T551.setTop (mkF m 236 #[.val (.int x0), .val (.int x1), .val (.int x2), .val (.int x3), .val (.int x4), .val (.int kk_340), .val (.int s1_351), .val (.int n1_361), .val (.int l1_371), .val (.int rm_381), .val (.int f2_390), .val (.int n2_406), .val (.int l2_416), .val (.ref b429), .val (.int (0 : Int32)), .val (.ref pa_437)] [(.int r_551)])) t → Steps p.tables e below (s₁.setTop (entryFrame m #[(.int x0), (.int x1), (.int x2), (.int x3), (.int x4)] maxLocals)) t := fun t k => K539 t (st551 _ k)
    have hc554 : ¬ (r_551 = (0 : Int32)) := by
      have q555 := rng32 kk_340
      have q556 := (by decide : (0 : Int32).toInt = 0)
      have q557 := rng32 n1_361
      have q558 := rng32 s1_351
      have q559 := rng32 f2_390
      have q560 := rng32 z_437
      have q561 := (by decide : (1 : Int32).toInt = 1)
      have q562 := (by decide : (2 : Int32).toInt = 2)
      have q563 := (by decide : (3 : Int32).toInt = 3)
      have q564 := (by decide : (4 : Int32).toInt = 4)
      have q565 := rng32 r_551
      intro q; have q2 := congrArg Int32.toInt q; omega
    have K566 : ∀ t, Steps p.tables e below (T551.setTop (mkF m 248 #[.val (.int x0), .val (.int x1), .val (.int x2), .val (.int x3), .val (.int x4), .val (.int kk_340), .val (.int s1_351), .val (.int n1_361), .val (.int l1_371), .val (.int rm_381), .val (.int f2_390), .val (.int n2_406), .val (.int l2_416), .val (.ref b429), .val (.int (0 : Int32)), .val (.ref pa_437)] [(.int f2_390), (.int s1_351), (.int n1_361), (.int (5 : Int32)), (.ref pa_437)])) t → Steps p.tables e below (s₁.setTop (entryFrame m #[(.int x0), (.int x1), (.int x2), (.int x3), (.int x4)] maxLocals)) t := fun t k => K553 t (by
      show Steps p.tables e below (T551.setTop (mkF m 236 #[.val (.int x0), .val (.int x1), .val (.int x2), .val (.int x3), .val (.int x4), .val (.int kk_340), .val (.int s1_351), .val (.int n1_361), .val (.int l1_371), .val (.int rm_381), .val (.int f2_390), .val (.int n2_406), .val (.int l2_416), .val (.ref b429), .val (.int (0 : Int32)), .val (.ref pa_437)] [(.int r_551)])) t
      refine XS.ifNo X551.here hx rfl (hb hby at_236) rfl ((if0 _ _).trans (feq hc554).1) ?_
      show Steps p.tables e below (T551.setTop (mkF m 239 #[.val (.int x0), .val (.int x1), .val (.int x2), .val (.int x3), .val (.int x4), .val (.int kk_340), .val (.int s1_351), .val (.int n1_361), .val (.int l1_371), .val (.int rm_381), .val (.int f2_390), .val (.int n2_406), .val (.int l2_416), .val (.ref b429), .val (.int (0 : Int32)), .val (.ref pa_437)] [])) t
      refine XS.aload X551.here hx rfl (hb hby at_239) rfl rfl ?_
      show Steps p.tables e below (T551.setTop (mkF m 241 #[.val (.int x0), .val (.int x1), .val (.int x2), .val (.int x3), .val (.int x4), .val (.int kk_340), .val (.int s1_351), .val (.int n1_361), .val (.int l1_371), .val (.int rm_381), .val (.int f2_390), .val (.int n2_406), .val (.int l2_416), .val (.ref b429), .val (.int (0 : Int32)), .val (.ref pa_437)] [(.ref pa_437)])) t
      refine XS.iconst X551.here hx rfl (hb hby at_241) ?_
      show Steps p.tables e below (T551.setTop (mkF m 242 #[.val (.int x0), .val (.int x1), .val (.int x2), .val (.int x3), .val (.int x4), .val (.int kk_340), .val (.int s1_351), .val (.int n1_361), .val (.int l1_371), .val (.int rm_381), .val (.int f2_390), .val (.int n2_406), .val (.int l2_416), .val (.ref b429), .val (.int (0 : Int32)), .val (.ref pa_437)] [(.int (5 : Int32)), (.ref pa_437)])) t
      refine XS.iload X551.here hx rfl (hb hby at_242) rfl ?_
      show Steps p.tables e below (T551.setTop (mkF m 244 #[.val (.int x0), .val (.int x1), .val (.int x2), .val (.int x3), .val (.int x4), .val (.int kk_340), .val (.int s1_351), .val (.int n1_361), .val (.int l1_371), .val (.int rm_381), .val (.int f2_390), .val (.int n2_406), .val (.int l2_416), .val (.ref b429), .val (.int (0 : Int32)), .val (.ref pa_437)] [(.int n1_361), (.int (5 : Int32)), (.ref pa_437)])) t
      refine XS.iload X551.here hx rfl (hb hby at_244) rfl ?_
      show Steps p.tables e below (T551.setTop (mkF m 246 #[.val (.int x0), .val (.int x1), .val (.int x2), .val (.int x3), .val (.int x4), .val (.int kk_340), .val (.int s1_351), .val (.int n1_361), .val (.int l1_371), .val (.int rm_381), .val (.int f2_390), .val (.int n2_406), .val (.int l2_416), .val (.ref b429), .val (.int (0 : Int32)), .val (.ref pa_437)] [(.int s1_351), (.int n1_361), (.int (5 : Int32)), (.ref pa_437)])) t
      refine XS.iload X551.here hx rfl (hb hby at_246) rfl ?_
      exact k)
    have q567 : 0 ≤ (5 : Int32).toInt ∧ (5 : Int32).toInt ≤ 7 ∧ 1 ≤ n1_361.toInt ∧ n1_361.toInt ≤ 4 := by
      have q568 := rng32 kk_340
      have q569 := (by decide : (0 : Int32).toInt = 0)
      have q570 := rng32 n1_361
      have q571 := rng32 s1_351
      have q572 := rng32 f2_390
      have q573 := rng32 z_437
      have q574 := (by decide : (1 : Int32).toInt = 1)
      have q575 := (by decide : (2 : Int32).toInt = 2)
      have q576 := (by decide : (3 : Int32).toInt = 3)
      have q577 := (by decide : (4 : Int32).toInt = 4)
      have q578 := (by decide : (5 : Int32).toInt = 5)
      omega
    obtain ⟨_, _, ⟨T579, L579, kk579, nn579⟩, -, X579, ⟨Lc579, hQ579, l579, y579, z579⟩, st579⟩ := Jvm.LawKit.callS X551 hx (y := (⟨"com/example/omegaprobe/omegaprobe/graph/StateSetsExpandPinLaw", "ok", "([IIIII)Z"⟩ : MethodName)) hown (mvT hZ (hw _ (List.mem_of_getElem? (i := 8) rfl))) (mvT hZ (hw _ (List.mem_of_getElem? (i := 9) rfl))) (mvT hZ (hw _ (List.mem_of_getElem? (i := 10) rfl))) (mvT hZ (hw _ (List.mem_of_getElem? (i := 11) rfl))) (by decide) (backOf (W := 0) (rm2 l Z a0 hw [] pa_437 (5 : Int32) n1_361 s1_351 f2_390 z_437 f_437 h437 n0 Z444 Pc437_1 q567 hok) hZ (hw _ (List.mem_of_getElem? (i := 11) rfl)) (hw _ (List.mem_of_getElem? (i := 10) rfl)) (by decide) (by decide)) (g := (mkF m 248 #[.val (.int x0), .val (.int x1), .val (.int x2), .val (.int x3), .val (.int x4), .val (.int kk_340), .val (.int s1_351), .val (.int n1_361), .val (.int l1_371), .val (.int rm_381), .val (.int f2_390), .val (.int n2_406), .val (.int l2_416), .val (.ref b429), .val (.int (0 : Int32)), .val (.ref pa_437)] [(.int f2_390), (.int s1_351), (.int n1_361), (.int (5 : Int32)), (.ref pa_437)])) rfl (by rw [hml]; rfl) (argsL := [(.ref pa_437), (.int (5 : Int32)), (.int n1_361), (.int s1_351), (.int f2_390)]) (rest := []) (lenOf own_pd1 rfl) rfl (by show 2 * 0 + _ ≤ _; exact Nat.le_of_eq rfl) (hb hby at_248) (fun _ _ => ⟨rfl, eh551, (by decide : 2 + 0 ≤ _), (by decide : 0 + 0 ≤ _)⟩)
    dsimp only [Pt.U, Pt.locs, Pt.cells, Pt.slots] at X579 l579 y579 z579 st579 hQ579
    subst l579 y579 z579
    obtain ⟨r_579, rfl, Sp579, Nq579, eh579⟩ := hQ579
    have N580 := Fr.app N552 Nq579
    have K581 : ∀ t, Steps p.tables e below (T579.setTop (mkF m 251 #[.val (.int x0), .val (.int x1), .val (.int x2), .val (.int x3), .val (.int x4), .val (.int kk_340), .val (.int s1_351), .val (.int n1_361), .val (.int l1_371), .val (.int rm_381), .val (.int f2_390), .val (.int n2_406), .val (.int l2_416), .val (.ref b429), .val (.int (0 : Int32)), .val (.ref pa_437)] [(.int r_579)])) t → Steps p.tables e below (s₁.setTop (entryFrame m #[(.int x0), (.int x1), (.int x2), (.int x3), (.int x4)] maxLocals)) t := fun t k => K566 t (st579 _ k)
    have hc582 : ¬ (r_579 = (0 : Int32)) := by
      have q583 := rng32 kk_340
      have q584 := (by decide : (0 : Int32).toInt = 0)
      have q585 := rng32 n1_361
      have q586 := rng32 s1_351
      have q587 := rng32 f2_390
      have q588 := rng32 z_437
      have q589 := (by decide : (1 : Int32).toInt = 1)
      have q590 := (by decide : (2 : Int32).toInt = 2)
      have q591 := (by decide : (3 : Int32).toInt = 3)
      have q592 := (by decide : (4 : Int32).toInt = 4)
      have q593 := (by decide : (5 : Int32).toInt = 5)
      have q594 := rng32 r_579
      intro q; have q2 := congrArg Int32.toInt q; omega
    have K595 : ∀ t, Steps p.tables e below (T579.setTop (mkF m 264 #[.val (.int x0), .val (.int x1), .val (.int x2), .val (.int x3), .val (.int x4), .val (.int kk_340), .val (.int s1_351), .val (.int n1_361), .val (.int l1_371), .val (.int rm_381), .val (.int f2_390), .val (.int n2_406), .val (.int l2_416), .val (.ref b429), .val (.int (0 : Int32)), .val (.ref pa_437)] [(.int f2_390), (.int s1_351), (.int n1_361), (.int (6 : Int32)), (.ref pa_437)])) t → Steps p.tables e below (s₁.setTop (entryFrame m #[(.int x0), (.int x1), (.int x2), (.int x3), (.int x4)] maxLocals)) t := fun t k => K581 t (by
      show Steps p.tables e below (T579.setTop (mkF m 251 #[.val (.int x0), .val (.int x1), .val (.int x2), .val (.int x3), .val (.int x4), .val (.int kk_340), .val (.int s1_351), .val (.int n1_361), .val (.int l1_371), .val (.int rm_381), .val (.int f2_390), .val (.int n2_406), .val (.int l2_416), .val (.ref b429), .val (.int (0 : Int32)), .val (.ref pa_437)] [(.int r_579)])) t
      refine XS.ifNo X579.here hx rfl (hb hby at_251) rfl ((if0 _ _).trans (feq hc582).1) ?_
      show Steps p.tables e below (T579.setTop (mkF m 254 #[.val (.int x0), .val (.int x1), .val (.int x2), .val (.int x3), .val (.int x4), .val (.int kk_340), .val (.int s1_351), .val (.int n1_361), .val (.int l1_371), .val (.int rm_381), .val (.int f2_390), .val (.int n2_406), .val (.int l2_416), .val (.ref b429), .val (.int (0 : Int32)), .val (.ref pa_437)] [])) t
      refine XS.aload X579.here hx rfl (hb hby at_254) rfl rfl ?_
      show Steps p.tables e below (T579.setTop (mkF m 256 #[.val (.int x0), .val (.int x1), .val (.int x2), .val (.int x3), .val (.int x4), .val (.int kk_340), .val (.int s1_351), .val (.int n1_361), .val (.int l1_371), .val (.int rm_381), .val (.int f2_390), .val (.int n2_406), .val (.int l2_416), .val (.ref b429), .val (.int (0 : Int32)), .val (.ref pa_437)] [(.ref pa_437)])) t
      refine XS.bipush X579.here hx rfl (hb hby at_256) ?_
      show Steps p.tables e below (T579.setTop (mkF m 258 #[.val (.int x0), .val (.int x1), .val (.int x2), .val (.int x3), .val (.int x4), .val (.int kk_340), .val (.int s1_351), .val (.int n1_361), .val (.int l1_371), .val (.int rm_381), .val (.int f2_390), .val (.int n2_406), .val (.int l2_416), .val (.ref b429), .val (.int (0 : Int32)), .val (.ref pa_437)] [(.int (6 : Int32)), (.ref pa_437)])) t
      refine XS.iload X579.here hx rfl (hb hby at_258) rfl ?_
      show Steps p.tables e below (T579.setTop (mkF m 260 #[.val (.int x0), .val (.int x1), .val (.int x2), .val (.int x3), .val (.int x4), .val (.int kk_340), .val (.int s1_351), .val (.int n1_361), .val (.int l1_371), .val (.int rm_381), .val (.int f2_390), .val (.int n2_406), .val (.int l2_416), .val (.ref b429), .val (.int (0 : Int32)), .val (.ref pa_437)] [(.int n1_361), (.int (6 : Int32)), (.ref pa_437)])) t
      refine XS.iload X579.here hx rfl (hb hby at_260) rfl ?_
      show Steps p.tables e below (T579.setTop (mkF m 262 #[.val (.int x0), .val (.int x1), .val (.int x2), .val (.int x3), .val (.int x4), .val (.int kk_340), .val (.int s1_351), .val (.int n1_361), .val (.int l1_371), .val (.int rm_381), .val (.int f2_390), .val (.int n2_406), .val (.int l2_416), .val (.ref b429), .val (.int (0 : Int32)), .val (.ref pa_437)] [(.int s1_351), (.int n1_361), (.int (6 : Int32)), (.ref pa_437)])) t
      refine XS.iload X579.here hx rfl (hb hby at_262) rfl ?_
      exact k)
    have q596 : 0 ≤ (6 : Int32).toInt ∧ (6 : Int32).toInt ≤ 7 ∧ 1 ≤ n1_361.toInt ∧ n1_361.toInt ≤ 4 := by
      have q597 := rng32 kk_340
      have q598 := (by decide : (0 : Int32).toInt = 0)
      have q599 := rng32 n1_361
      have q600 := rng32 s1_351
      have q601 := rng32 f2_390
      have q602 := rng32 z_437
      have q603 := (by decide : (1 : Int32).toInt = 1)
      have q604 := (by decide : (2 : Int32).toInt = 2)
      have q605 := (by decide : (3 : Int32).toInt = 3)
      have q606 := (by decide : (4 : Int32).toInt = 4)
      have q607 := (by decide : (5 : Int32).toInt = 5)
      have q608 := (by decide : (6 : Int32).toInt = 6)
      omega
    obtain ⟨_, _, ⟨T609, L609, kk609, nn609⟩, -, X609, ⟨Lc609, hQ609, l609, y609, z609⟩, st609⟩ := Jvm.LawKit.callS X579 hx (y := (⟨"com/example/omegaprobe/omegaprobe/graph/StateSetsExpandPinLaw", "ok", "([IIIII)Z"⟩ : MethodName)) hown (mvT hZ (hw _ (List.mem_of_getElem? (i := 8) rfl))) (mvT hZ (hw _ (List.mem_of_getElem? (i := 9) rfl))) (mvT hZ (hw _ (List.mem_of_getElem? (i := 10) rfl))) (mvT hZ (hw _ (List.mem_of_getElem? (i := 11) rfl))) (by decide) (backOf (W := 0) (rm2 l Z a0 hw [] pa_437 (6 : Int32) n1_361 s1_351 f2_390 z_437 f_437 h437 n0 Z444 Pc437_1 q596 hok) hZ (hw _ (List.mem_of_getElem? (i := 11) rfl)) (hw _ (List.mem_of_getElem? (i := 10) rfl)) (by decide) (by decide)) (g := (mkF m 264 #[.val (.int x0), .val (.int x1), .val (.int x2), .val (.int x3), .val (.int x4), .val (.int kk_340), .val (.int s1_351), .val (.int n1_361), .val (.int l1_371), .val (.int rm_381), .val (.int f2_390), .val (.int n2_406), .val (.int l2_416), .val (.ref b429), .val (.int (0 : Int32)), .val (.ref pa_437)] [(.int f2_390), (.int s1_351), (.int n1_361), (.int (6 : Int32)), (.ref pa_437)])) rfl (by rw [hml]; rfl) (argsL := [(.ref pa_437), (.int (6 : Int32)), (.int n1_361), (.int s1_351), (.int f2_390)]) (rest := []) (lenOf own_pd1 rfl) rfl (by show 2 * 0 + _ ≤ _; exact Nat.le_of_eq rfl) (hb hby at_264) (fun _ _ => ⟨rfl, eh579, (by decide : 2 + 0 ≤ _), (by decide : 0 + 0 ≤ _)⟩)
    dsimp only [Pt.U, Pt.locs, Pt.cells, Pt.slots] at X609 l609 y609 z609 st609 hQ609
    subst l609 y609 z609
    obtain ⟨r_609, rfl, Sp609, Nq609, eh609⟩ := hQ609
    have N610 := Fr.app N580 Nq609
    have K611 : ∀ t, Steps p.tables e below (T609.setTop (mkF m 267 #[.val (.int x0), .val (.int x1), .val (.int x2), .val (.int x3), .val (.int x4), .val (.int kk_340), .val (.int s1_351), .val (.int n1_361), .val (.int l1_371), .val (.int rm_381), .val (.int f2_390), .val (.int n2_406), .val (.int l2_416), .val (.ref b429), .val (.int (0 : Int32)), .val (.ref pa_437)] [(.int r_609)])) t → Steps p.tables e below (s₁.setTop (entryFrame m #[(.int x0), (.int x1), (.int x2), (.int x3), (.int x4)] maxLocals)) t := fun t k => K595 t (st609 _ k)
    have hc612 : ¬ (r_609 = (0 : Int32)) := by
      have q613 := rng32 kk_340
      have q614 := (by decide : (0 : Int32).toInt = 0)
      have q615 := rng32 n1_361
      have q616 := rng32 s1_351
      have q617 := rng32 f2_390
      have q618 := rng32 z_437
      have q619 := (by decide : (1 : Int32).toInt = 1)
      have q620 := (by decide : (2 : Int32).toInt = 2)
      have q621 := (by decide : (3 : Int32).toInt = 3)
      have q622 := (by decide : (4 : Int32).toInt = 4)
      have q623 := (by decide : (5 : Int32).toInt = 5)
      have q624 := (by decide : (6 : Int32).toInt = 6)
      have q625 := rng32 r_609
      intro q; have q2 := congrArg Int32.toInt q; omega
    have K626 : ∀ t, Steps p.tables e below (T609.setTop (mkF m 280 #[.val (.int x0), .val (.int x1), .val (.int x2), .val (.int x3), .val (.int x4), .val (.int kk_340), .val (.int s1_351), .val (.int n1_361), .val (.int l1_371), .val (.int rm_381), .val (.int f2_390), .val (.int n2_406), .val (.int l2_416), .val (.ref b429), .val (.int (0 : Int32)), .val (.ref pa_437)] [(.int f2_390), (.int s1_351), (.int n1_361), (.int (7 : Int32)), (.ref pa_437)])) t → Steps p.tables e below (s₁.setTop (entryFrame m #[(.int x0), (.int x1), (.int x2), (.int x3), (.int x4)] maxLocals)) t := fun t k => K611 t (by
      show Steps p.tables e below (T609.setTop (mkF m 267 #[.val (.int x0), .val (.int x1), .val (.int x2), .val (.int x3), .val (.int x4), .val (.int kk_340), .val (.int s1_351), .val (.int n1_361), .val (.int l1_371), .val (.int rm_381), .val (.int f2_390), .val (.int n2_406), .val (.int l2_416), .val (.ref b429), .val (.int (0 : Int32)), .val (.ref pa_437)] [(.int r_609)])) t
      refine XS.ifNo X609.here hx rfl (hb hby at_267) rfl ((if0 _ _).trans (feq hc612).1) ?_
      show Steps p.tables e below (T609.setTop (mkF m 270 #[.val (.int x0), .val (.int x1), .val (.int x2), .val (.int x3), .val (.int x4), .val (.int kk_340), .val (.int s1_351), .val (.int n1_361), .val (.int l1_371), .val (.int rm_381), .val (.int f2_390), .val (.int n2_406), .val (.int l2_416), .val (.ref b429), .val (.int (0 : Int32)), .val (.ref pa_437)] [])) t
      refine XS.aload X609.here hx rfl (hb hby at_270) rfl rfl ?_
      show Steps p.tables e below (T609.setTop (mkF m 272 #[.val (.int x0), .val (.int x1), .val (.int x2), .val (.int x3), .val (.int x4), .val (.int kk_340), .val (.int s1_351), .val (.int n1_361), .val (.int l1_371), .val (.int rm_381), .val (.int f2_390), .val (.int n2_406), .val (.int l2_416), .val (.ref b429), .val (.int (0 : Int32)), .val (.ref pa_437)] [(.ref pa_437)])) t
      refine XS.bipush X609.here hx rfl (hb hby at_272) ?_
      show Steps p.tables e below (T609.setTop (mkF m 274 #[.val (.int x0), .val (.int x1), .val (.int x2), .val (.int x3), .val (.int x4), .val (.int kk_340), .val (.int s1_351), .val (.int n1_361), .val (.int l1_371), .val (.int rm_381), .val (.int f2_390), .val (.int n2_406), .val (.int l2_416), .val (.ref b429), .val (.int (0 : Int32)), .val (.ref pa_437)] [(.int (7 : Int32)), (.ref pa_437)])) t
      refine XS.iload X609.here hx rfl (hb hby at_274) rfl ?_
      show Steps p.tables e below (T609.setTop (mkF m 276 #[.val (.int x0), .val (.int x1), .val (.int x2), .val (.int x3), .val (.int x4), .val (.int kk_340), .val (.int s1_351), .val (.int n1_361), .val (.int l1_371), .val (.int rm_381), .val (.int f2_390), .val (.int n2_406), .val (.int l2_416), .val (.ref b429), .val (.int (0 : Int32)), .val (.ref pa_437)] [(.int n1_361), (.int (7 : Int32)), (.ref pa_437)])) t
      refine XS.iload X609.here hx rfl (hb hby at_276) rfl ?_
      show Steps p.tables e below (T609.setTop (mkF m 278 #[.val (.int x0), .val (.int x1), .val (.int x2), .val (.int x3), .val (.int x4), .val (.int kk_340), .val (.int s1_351), .val (.int n1_361), .val (.int l1_371), .val (.int rm_381), .val (.int f2_390), .val (.int n2_406), .val (.int l2_416), .val (.ref b429), .val (.int (0 : Int32)), .val (.ref pa_437)] [(.int s1_351), (.int n1_361), (.int (7 : Int32)), (.ref pa_437)])) t
      refine XS.iload X609.here hx rfl (hb hby at_278) rfl ?_
      exact k)
    have q627 : 0 ≤ (7 : Int32).toInt ∧ (7 : Int32).toInt ≤ 7 ∧ 1 ≤ n1_361.toInt ∧ n1_361.toInt ≤ 4 := by
      have q628 := rng32 kk_340
      have q629 := (by decide : (0 : Int32).toInt = 0)
      have q630 := rng32 n1_361
      have q631 := rng32 s1_351
      have q632 := rng32 f2_390
      have q633 := rng32 z_437
      have q634 := (by decide : (1 : Int32).toInt = 1)
      have q635 := (by decide : (2 : Int32).toInt = 2)
      have q636 := (by decide : (3 : Int32).toInt = 3)
      have q637 := (by decide : (4 : Int32).toInt = 4)
      have q638 := (by decide : (5 : Int32).toInt = 5)
      have q639 := (by decide : (6 : Int32).toInt = 6)
      have q640 := (by decide : (7 : Int32).toInt = 7)
      omega
    obtain ⟨_, _, ⟨T641, L641, kk641, nn641⟩, -, X641, ⟨Lc641, hQ641, l641, y641, z641⟩, st641⟩ := Jvm.LawKit.callS X609 hx (y := (⟨"com/example/omegaprobe/omegaprobe/graph/StateSetsExpandPinLaw", "ok", "([IIIII)Z"⟩ : MethodName)) hown (mvT hZ (hw _ (List.mem_of_getElem? (i := 8) rfl))) (mvT hZ (hw _ (List.mem_of_getElem? (i := 9) rfl))) (mvT hZ (hw _ (List.mem_of_getElem? (i := 10) rfl))) (mvT hZ (hw _ (List.mem_of_getElem? (i := 11) rfl))) (by decide) (backOf (W := 0) (rm2 l Z a0 hw [] pa_437 (7 : Int32) n1_361 s1_351 f2_390 z_437 f_437 h437 n0 Z444 Pc437_1 q627 hok) hZ (hw _ (List.mem_of_getElem? (i := 11) rfl)) (hw _ (List.mem_of_getElem? (i := 10) rfl)) (by decide) (by decide)) (g := (mkF m 280 #[.val (.int x0), .val (.int x1), .val (.int x2), .val (.int x3), .val (.int x4), .val (.int kk_340), .val (.int s1_351), .val (.int n1_361), .val (.int l1_371), .val (.int rm_381), .val (.int f2_390), .val (.int n2_406), .val (.int l2_416), .val (.ref b429), .val (.int (0 : Int32)), .val (.ref pa_437)] [(.int f2_390), (.int s1_351), (.int n1_361), (.int (7 : Int32)), (.ref pa_437)])) rfl (by rw [hml]; rfl) (argsL := [(.ref pa_437), (.int (7 : Int32)), (.int n1_361), (.int s1_351), (.int f2_390)]) (rest := []) (lenOf own_pd1 rfl) rfl (by show 2 * 0 + _ ≤ _; exact Nat.le_of_eq rfl) (hb hby at_280) (fun _ _ => ⟨rfl, eh609, (by decide : 2 + 0 ≤ _), (by decide : 0 + 0 ≤ _)⟩)
    dsimp only [Pt.U, Pt.locs, Pt.cells, Pt.slots] at X641 l641 y641 z641 st641 hQ641
    subst l641 y641 z641
    obtain ⟨r_641, rfl, Sp641, Nq641, eh641⟩ := hQ641
    have N642 := Fr.app N610 Nq641
    have K643 : ∀ t, Steps p.tables e below (T641.setTop (mkF m 283 #[.val (.int x0), .val (.int x1), .val (.int x2), .val (.int x3), .val (.int x4), .val (.int kk_340), .val (.int s1_351), .val (.int n1_361), .val (.int l1_371), .val (.int rm_381), .val (.int f2_390), .val (.int n2_406), .val (.int l2_416), .val (.ref b429), .val (.int (0 : Int32)), .val (.ref pa_437)] [(.int r_641)])) t → Steps p.tables e below (s₁.setTop (entryFrame m #[(.int x0), (.int x1), (.int x2), (.int x3), (.int x4)] maxLocals)) t := fun t k => K626 t (st641 _ k)
    have hc644 : ¬ (r_641 = (0 : Int32)) := by
      have q645 := rng32 kk_340
      have q646 := (by decide : (0 : Int32).toInt = 0)
      have q647 := rng32 n1_361
      have q648 := rng32 s1_351
      have q649 := rng32 f2_390
      have q650 := rng32 z_437
      have q651 := (by decide : (1 : Int32).toInt = 1)
      have q652 := (by decide : (2 : Int32).toInt = 2)
      have q653 := (by decide : (3 : Int32).toInt = 3)
      have q654 := (by decide : (4 : Int32).toInt = 4)
      have q655 := (by decide : (5 : Int32).toInt = 5)
      have q656 := (by decide : (6 : Int32).toInt = 6)
      have q657 := (by decide : (7 : Int32).toInt = 7)
      have q658 := rng32 r_641
      intro q; have q2 := congrArg Int32.toInt q; omega
    have K659 : ∀ t, Steps p.tables e below (T641.setTop (mkF m 291 #[.val (.int x0), .val (.int x1), .val (.int x2), .val (.int x3), .val (.int x4), .val (.int kk_340), .val (.int s1_351), .val (.int n1_361), .val (.int l1_371), .val (.int rm_381), .val (.int f2_390), .val (.int n2_406), .val (.int l2_416), .val (.ref b429), .val (.int (0 : Int32)), .val (.ref pa_437)] [(.int (1 : Int32))])) t → Steps p.tables e below (s₁.setTop (entryFrame m #[(.int x0), (.int x1), (.int x2), (.int x3), (.int x4)] maxLocals)) t := fun t k => K643 t (by
      show Steps p.tables e below (T641.setTop (mkF m 283 #[.val (.int x0), .val (.int x1), .val (.int x2), .val (.int x3), .val (.int x4), .val (.int kk_340), .val (.int s1_351), .val (.int n1_361), .val (.int l1_371), .val (.int rm_381), .val (.int f2_390), .val (.int n2_406), .val (.int l2_416), .val (.ref b429), .val (.int (0 : Int32)), .val (.ref pa_437)] [(.int r_641)])) t
      refine XS.ifNo X641.here hx rfl (hb hby at_283) rfl ((if0 _ _).trans (feq hc644).1) ?_
      show Steps p.tables e below (T641.setTop (mkF m 286 #[.val (.int x0), .val (.int x1), .val (.int x2), .val (.int x3), .val (.int x4), .val (.int kk_340), .val (.int s1_351), .val (.int n1_361), .val (.int l1_371), .val (.int rm_381), .val (.int f2_390), .val (.int n2_406), .val (.int l2_416), .val (.ref b429), .val (.int (0 : Int32)), .val (.ref pa_437)] [])) t
      refine XS.iconst X641.here hx rfl (hb hby at_286) ?_
      show Steps p.tables e below (T641.setTop (mkF m 287 #[.val (.int x0), .val (.int x1), .val (.int x2), .val (.int x3), .val (.int x4), .val (.int kk_340), .val (.int s1_351), .val (.int n1_361), .val (.int l1_371), .val (.int rm_381), .val (.int f2_390), .val (.int n2_406), .val (.int l2_416), .val (.ref b429), .val (.int (0 : Int32)), .val (.ref pa_437)] [(.int (1 : Int32))])) t
      refine XS.goto X641.here hx rfl (pc0 := 287) (pc' := 291) rfl (hb hby at_287) (by decide) (by decide) ?_
      exact k)
    obtain ⟨fs, hr, hrun, hended, hW, hsame⟩ := X641.leave (v := some (.int (1 : Int32))) (fun h => by rw [Bd.returns] at h; cases h)
    refine ⟨_, _, K659 _ ?_, hrun, hended, _, _, rfl, ?_, ⟨_, rfl⟩, hW, hsame.mono (by decide) (by decide)⟩
    · exact retN X641 hx (t := .boolean) Bd.returns (by simp) (hb hby at_291) hr
    · show Q_rm0 Z x0 x1 x2 x3 x4 h0 n0 _ T641.heap _
      have q660 := rng32 kk_340
      have q661 := (by decide : (0 : Int32).toInt = 0)
      have q662 := rng32 n1_361
      have q663 := rng32 s1_351
      have q664 := rng32 f2_390
      have q665 := rng32 z_437
      have q666 := (by decide : (1 : Int32).toInt = 1)
      have q667 := (by decide : (2 : Int32).toInt = 2)
      have q668 := (by decide : (3 : Int32).toInt = 3)
      have q669 := (by decide : (4 : Int32).toInt = 4)
      have q670 := (by decide : (5 : Int32).toInt = 5)
      have q671 := (by decide : (6 : Int32).toInt = 6)
      have q672 := (by decide : (7 : Int32).toInt = 7)
      rw [eh641]
      exact ⟨rfl, (by trivial), N642, Kp443⟩
  · have q673 : ¬ kk_340.toInt = (0 : Int32).toInt := fun q => hc425 (Int32.toInt_inj.mp q)
    have K675 : ∀ t, Steps p.tables e below (s₁.setTop (mkF m 90 #[.val (.int x0), .val (.int x1), .val (.int x2), .val (.int x3), .val (.int x4), .val (.int kk_340), .val (.int s1_351), .val (.int n1_361), .val (.int l1_371), .val (.int rm_381), .val (.int f2_390), .val (.int n2_406), .val (.int l2_416), .unset, .unset, .unset] [(.int (1 : Int32)), (.int kk_340)])) t → Steps p.tables e below (s₁.setTop (entryFrame m #[(.int x0), (.int x1), (.int x2), (.int x3), (.int x4)] maxLocals)) t := fun t k => K426 t (by
      show Steps p.tables e below (s₁.setTop (mkF m 73 #[.val (.int x0), .val (.int x1), .val (.int x2), .val (.int x3), .val (.int x4), .val (.int kk_340), .val (.int s1_351), .val (.int n1_361), .val (.int l1_371), .val (.int rm_381), .val (.int f2_390), .val (.int n2_406), .val (.int l2_416), .unset, .unset, .unset] [(.int kk_340)])) t
      refine XS.ifYes X0.here hx rfl (pc0 := 73) (pc' := 87) rfl (hb hby at_73) rfl ((if0 _ _).trans (feq hc425).2) (by decide) (by decide) ?_
      show Steps p.tables e below (s₁.setTop (mkF m 87 #[.val (.int x0), .val (.int x1), .val (.int x2), .val (.int x3), .val (.int x4), .val (.int kk_340), .val (.int s1_351), .val (.int n1_361), .val (.int l1_371), .val (.int rm_381), .val (.int f2_390), .val (.int n2_406), .val (.int l2_416), .unset, .unset, .unset] [])) t
      refine XS.iload X0.here hx rfl (hb hby at_87) rfl ?_
      show Steps p.tables e below (s₁.setTop (mkF m 89 #[.val (.int x0), .val (.int x1), .val (.int x2), .val (.int x3), .val (.int x4), .val (.int kk_340), .val (.int s1_351), .val (.int n1_361), .val (.int l1_371), .val (.int rm_381), .val (.int f2_390), .val (.int n2_406), .val (.int l2_416), .unset, .unset, .unset] [(.int kk_340)])) t
      refine XS.iconst X0.here hx rfl (hb hby at_89) ?_
      exact k)
    by_cases hc674 : kk_340 = (1 : Int32)
    · have q676 : kk_340.toInt = (1 : Int32).toInt := congrArg Int32.toInt hc674
      have K677 : ∀ t, Steps p.tables e below (s₁.setTop (mkF m 94 #[.val (.int x0), .val (.int x1), .val (.int x2), .val (.int x3), .val (.int x4), .val (.int kk_340), .val (.int s1_351), .val (.int n1_361), .val (.int l1_371), .val (.int rm_381), .val (.int f2_390), .val (.int n2_406), .val (.int l2_416), .unset, .unset, .unset] [(.int (2 : Int32))])) t → Steps p.tables e below (s₁.setTop (entryFrame m #[(.int x0), (.int x1), (.int x2), (.int x3), (.int x4)] maxLocals)) t := fun t k => K675 t (by
        show Steps p.tables e below (s₁.setTop (mkF m 90 #[.val (.int x0), .val (.int x1), .val (.int x2), .val (.int x3), .val (.int x4), .val (.int kk_340), .val (.int s1_351), .val (.int n1_361), .val (.int l1_371), .val (.int rm_381), .val (.int f2_390), .val (.int n2_406), .val (.int l2_416), .unset, .unset, .unset] [(.int (1 : Int32)), (.int kk_340)])) t
        refine XS.icmpNo X0.here hx rfl (hb hby at_90) rfl (teq hc674).2 ?_
        show Steps p.tables e below (s₁.setTop (mkF m 93 #[.val (.int x0), .val (.int x1), .val (.int x2), .val (.int x3), .val (.int x4), .val (.int kk_340), .val (.int s1_351), .val (.int n1_361), .val (.int l1_371), .val (.int rm_381), .val (.int f2_390), .val (.int n2_406), .val (.int l2_416), .unset, .unset, .unset] [])) t
        refine XS.iconst X0.here hx rfl (hb hby at_93) ?_
        exact k)
      obtain ⟨T678, h678, k678, X678, e678, E678, A678, st678⟩ := newP X0 hx hZ (hw _ (List.mem_of_getElem? (i := 3) rfl)) e0 (g := (mkF m 94 #[.val (.int x0), .val (.int x1), .val (.int x2), .val (.int x3), .val (.int x4), .val (.int kk_340), .val (.int s1_351), .val (.int n1_361), .val (.int l1_371), .val (.int rm_381), .val (.int f2_390), .val (.int n2_406), .val (.int l2_416), .unset, .unset, .unset] [(.int (2 : Int32))])) rfl (hb hby at_94) rfl (by decide) (cap := 2) (by decide) (by decide) (by decide) (by decide)
      obtain ⟨b678, g678⟩ : ∃ z, z = h0.size := ⟨_, rfl⟩
      rw [← g678] at A678 st678
      have gb679 : own_Le n0 b678 := Nat.le_trans Z0 (Nat.le_of_eq g678.symm)
      have sb680 : own_Le h0.size b678 := Nat.le_trans (Keep.refl h0 []).1 (Nat.le_of_eq g678.symm)
      have Z681 : own_Le n0 h678.size := Nat.le_trans Z0 E678.1
      have Kp682 : Keep h0 h678 [] := Keep.ext (Keep.refl h0 []) E678
      have V683 : own_Arf Z h678 b678 .int (2 : Int32) (fun _ => (0 : Int32)) := own_Arf.new A678 (by decide) rfl
      have K684 : ∀ t, Steps p.tables e below (T678.setTop (mkF m 96 #[.val (.int x0), .val (.int x1), .val (.int x2), .val (.int x3), .val (.int x4), .val (.int kk_340), .val (.int s1_351), .val (.int n1_361), .val (.int l1_371), .val (.int rm_381), .val (.int f2_390), .val (.int n2_406), .val (.int l2_416), .unset, .unset, .unset] [(.ref b678)])) t → Steps p.tables e below (s₁.setTop (entryFrame m #[(.int x0), (.int x1), (.int x2), (.int x3), (.int x4)] maxLocals)) t := fun t k => K677 t (st678 _ k)
      have K685 : ∀ t, Steps p.tables e below (T678.setTop (mkF m 100 #[.val (.int x0), .val (.int x1), .val (.int x2), .val (.int x3), .val (.int x4), .val (.int kk_340), .val (.int s1_351), .val (.int n1_361), .val (.int l1_371), .val (.int rm_381), .val (.int f2_390), .val (.int n2_406), .val (.int l2_416), .unset, .unset, .unset] [(.int s1_351), (.int (0 : Int32)), (.ref b678), (.ref b678)])) t → Steps p.tables e below (s₁.setTop (entryFrame m #[(.int x0), (.int x1), (.int x2), (.int x3), (.int x4)] maxLocals)) t := fun t k => K684 t (by
        show Steps p.tables e below (T678.setTop (mkF m 96 #[.val (.int x0), .val (.int x1), .val (.int x2), .val (.int x3), .val (.int x4), .val (.int kk_340), .val (.int s1_351), .val (.int n1_361), .val (.int l1_371), .val (.int rm_381), .val (.int f2_390), .val (.int n2_406), .val (.int l2_416), .unset, .unset, .unset] [(.ref b678)])) t
        refine XS.dup X678.here hx rfl (hb hby at_96) rfl rfl ?_
        show Steps p.tables e below (T678.setTop (mkF m 97 #[.val (.int x0), .val (.int x1), .val (.int x2), .val (.int x3), .val (.int x4), .val (.int kk_340), .val (.int s1_351), .val (.int n1_361), .val (.int l1_371), .val (.int rm_381), .val (.int f2_390), .val (.int n2_406), .val (.int l2_416), .unset, .unset, .unset] [(.ref b678), (.ref b678)])) t
        refine XS.iconst X678.here hx rfl (hb hby at_97) ?_
        show Steps p.tables e below (T678.setTop (mkF m 98 #[.val (.int x0), .val (.int x1), .val (.int x2), .val (.int x3), .val (.int x4), .val (.int kk_340), .val (.int s1_351), .val (.int n1_361), .val (.int l1_371), .val (.int rm_381), .val (.int f2_390), .val (.int n2_406), .val (.int l2_416), .unset, .unset, .unset] [(.int (0 : Int32)), (.ref b678), (.ref b678)])) t
        refine XS.iload X678.here hx rfl (hb hby at_98) rfl ?_
        exact k)
      have q687 : ¬ (0 : Int32) < 0 ∧ (0 : Int32) < (2 : Int32) := by
        have q688 := rng32 kk_340
        have q689 := (by decide : (0 : Int32).toInt = 0)
        have q690 := (by decide : (1 : Int32).toInt = 1)
        have q691 := (by decide : (2 : Int32).toInt = 2)
        rw [Int32.lt_iff_toInt_lt, Int32.lt_iff_toInt_lt]; have q0 : (0 : Int32).toInt = 0 := rfl; omega
      obtain ⟨cl686, Ar686, S686, N686, Hs686⟩ := id V683
      have hin686 : ¬ ((0 : Int32) < 0 ∨ cl686.slots.size ≤ ((0 : Int32)).toNatClampNeg) := inb_of S686 q687
      obtain ⟨T686, h686, X686, e686, W686, st686⟩ := stI X678 hx hZ e678 Ar686 (j := (0 : Int32)) hin686 (g := (mkF m 100 #[.val (.int x0), .val (.int x1), .val (.int x2), .val (.int x3), .val (.int x4), .val (.int kk_340), .val (.int s1_351), .val (.int n1_361), .val (.int l1_371), .val (.int rm_381), .val (.int f2_390), .val (.int n2_406), .val (.int l2_416), .unset, .unset, .unset] [(.int s1_351), (.int (0 : Int32)), (.ref b678), (.ref b678)])) rfl rfl (hb hby at_100)
      obtain ⟨f693, hf693⟩ : ∃ fnew : Nat → Int32, fnew = fun i => if i = 0 then s1_351 else (fun _ => (0 : Int32)) i := ⟨_, rfl⟩
      have V692 : own_Arf Z h686 b678 .int (2 : Int32) f693 := own_Arf.set Ar686 S686 N686 Hs686 W686 rfl hf693
      have Kp694 : Keep h0 h686 [] := Keep.wr Kp682 W686 (Or.inr sb680)
      have Z695 : own_Le n0 h686.size := Nat.le_trans Z681 (Keep.of_wr W686).1
      have N696 := Fr.snoc X686 N0 gb679
      have K697 : ∀ t, Steps p.tables e below (T686.setTop (mkF m 101 #[.val (.int x0), .val (.int x1), .val (.int x2), .val (.int x3), .val (.int x4), .val (.int kk_340), .val (.int s1_351), .val (.int n1_361), .val (.int l1_371), .val (.int rm_381), .val (.int f2_390), .val (.int n2_406), .val (.int l2_416), .unset, .unset, .unset] [(.ref b678)])) t → Steps p.tables e below (s₁.setTop (entryFrame m #[(.int x0), (.int x1), (.int x2), (.int x3), (.int x4)] maxLocals)) t := fun t k => K685 t (st686 _ k)
      have K698 : ∀ t, Steps p.tables e below (T686.setTop (mkF m 105 #[.val (.int x0), .val (.int x1), .val (.int x2), .val (.int x3), .val (.int x4), .val (.int kk_340), .val (.int s1_351), .val (.int n1_361), .val (.int l1_371), .val (.int rm_381), .val (.int f2_390), .val (.int n2_406), .val (.int l2_416), .unset, .unset, .unset] [(.int l1_371), (.int (1 : Int32)), (.ref b678), (.ref b678)])) t → Steps p.tables e below (s₁.setTop (entryFrame m #[(.int x0), (.int x1), (.int x2), (.int x3), (.int x4)] maxLocals)) t := fun t k => K697 t (by
        show Steps p.tables e below (T686.setTop (mkF m 101 #[.val (.int x0), .val (.int x1), .val (.int x2), .val (.int x3), .val (.int x4), .val (.int kk_340), .val (.int s1_351), .val (.int n1_361), .val (.int l1_371), .val (.int rm_381), .val (.int f2_390), .val (.int n2_406), .val (.int l2_416), .unset, .unset, .unset] [(.ref b678)])) t
        refine XS.dup X686.here hx rfl (hb hby at_101) rfl rfl ?_
        show Steps p.tables e below (T686.setTop (mkF m 102 #[.val (.int x0), .val (.int x1), .val (.int x2), .val (.int x3), .val (.int x4), .val (.int kk_340), .val (.int s1_351), .val (.int n1_361), .val (.int l1_371), .val (.int rm_381), .val (.int f2_390), .val (.int n2_406), .val (.int l2_416), .unset, .unset, .unset] [(.ref b678), (.ref b678)])) t
        refine XS.iconst X686.here hx rfl (hb hby at_102) ?_
        show Steps p.tables e below (T686.setTop (mkF m 103 #[.val (.int x0), .val (.int x1), .val (.int x2), .val (.int x3), .val (.int x4), .val (.int kk_340), .val (.int s1_351), .val (.int n1_361), .val (.int l1_371), .val (.int rm_381), .val (.int f2_390), .val (.int n2_406), .val (.int l2_416), .unset, .unset, .unset] [(.int (1 : Int32)), (.ref b678), (.ref b678)])) t
        refine XS.iload X686.here hx rfl (hb hby at_103) rfl ?_
        exact k)
      have q700 : ¬ (1 : Int32) < 0 ∧ (1 : Int32) < (2 : Int32) := by
        have q701 := rng32 kk_340
        have q702 := (by decide : (0 : Int32).toInt = 0)
        have q703 := (by decide : (1 : Int32).toInt = 1)
        have q704 := (by decide : (2 : Int32).toInt = 2)
        rw [Int32.lt_iff_toInt_lt, Int32.lt_iff_toInt_lt]; have q0 : (0 : Int32).toInt = 0 := rfl; omega
      obtain ⟨cl699, Ar699, S699, N699, Hs699⟩ := id V692
      have hin699 : ¬ ((1 : Int32) < 0 ∨ cl699.slots.size ≤ ((1 : Int32)).toNatClampNeg) := inb_of S699 q700
      obtain ⟨T699, h699, X699, e699, W699, st699⟩ := stI X686 hx hZ e686 Ar699 (j := (1 : Int32)) hin699 (g := (mkF m 105 #[.val (.int x0), .val (.int x1), .val (.int x2), .val (.int x3), .val (.int x4), .val (.int kk_340), .val (.int s1_351), .val (.int n1_361), .val (.int l1_371), .val (.int rm_381), .val (.int f2_390), .val (.int n2_406), .val (.int l2_416), .unset, .unset, .unset] [(.int l1_371), (.int (1 : Int32)), (.ref b678), (.ref b678)])) rfl rfl (hb hby at_105)
      obtain ⟨f706, hf706⟩ : ∃ fnew : Nat → Int32, fnew = fun i => if i = 1 then l1_371 else f693 i := ⟨_, rfl⟩
      have V705 : own_Arf Z h699 b678 .int (2 : Int32) f706 := own_Arf.set Ar699 S699 N699 Hs699 W699 rfl hf706
      have Kp707 : Keep h0 h699 [] := Keep.wr Kp694 W699 (Or.inr sb680)
      have Z708 : own_Le n0 h699.size := Nat.le_trans Z695 (Keep.of_wr W699).1
      have N709 := Fr.snoc X699 N696 gb679
      have K710 : ∀ t, Steps p.tables e below (T699.setTop (mkF m 106 #[.val (.int x0), .val (.int x1), .val (.int x2), .val (.int x3), .val (.int x4), .val (.int kk_340), .val (.int s1_351), .val (.int n1_361), .val (.int l1_371), .val (.int rm_381), .val (.int f2_390), .val (.int n2_406), .val (.int l2_416), .unset, .unset, .unset] [(.ref b678)])) t → Steps p.tables e below (s₁.setTop (entryFrame m #[(.int x0), (.int x1), (.int x2), (.int x3), (.int x4)] maxLocals)) t := fun t k => K698 t (st699 _ k)
      have Rv0 : f706 0 = s1_351 := by simp [hf693, hf706]
      have Rv1 : f706 1 = l1_371 := by simp [hf693, hf706]
      have K711 : ∀ t, Steps p.tables e below (T699.setTop (mkF m 149 #[.val (.int x0), .val (.int x1), .val (.int x2), .val (.int x3), .val (.int x4), .val (.int kk_340), .val (.int s1_351), .val (.int n1_361), .val (.int l1_371), .val (.int rm_381), .val (.int f2_390), .val (.int n2_406), .val (.int l2_416), .val (.ref b678), .val (.int n1_361), .unset] [(.ref b678)])) t → Steps p.tables e below (s₁.setTop (entryFrame m #[(.int x0), (.int x1), (.int x2), (.int x3), (.int x4)] maxLocals)) t := fun t k => K710 t (by
        show Steps p.tables e below (T699.setTop (mkF m 106 #[.val (.int x0), .val (.int x1), .val (.int x2), .val (.int x3), .val (.int x4), .val (.int kk_340), .val (.int s1_351), .val (.int n1_361), .val (.int l1_371), .val (.int rm_381), .val (.int f2_390), .val (.int n2_406), .val (.int l2_416), .unset, .unset, .unset] [(.ref b678)])) t
        refine XS.astore X699.here hx rfl (hb hby at_106) rfl rfl (l' := #[.val (.int x0), .val (.int x1), .val (.int x2), .val (.int x3), .val (.int x4), .val (.int kk_340), .val (.int s1_351), .val (.int n1_361), .val (.int l1_371), .val (.int rm_381), .val (.int f2_390), .val (.int n2_406), .val (.int l2_416), .val (.ref b678), .unset, .unset]) rfl ?_
        show Steps p.tables e below (T699.setTop (mkF m 108 #[.val (.int x0), .val (.int x1), .val (.int x2), .val (.int x3), .val (.int x4), .val (.int kk_340), .val (.int s1_351), .val (.int n1_361), .val (.int l1_371), .val (.int rm_381), .val (.int f2_390), .val (.int n2_406), .val (.int l2_416), .val (.ref b678), .unset, .unset] [])) t
        refine XS.iload X699.here hx rfl (hb hby at_108) rfl ?_
        show Steps p.tables e below (T699.setTop (mkF m 110 #[.val (.int x0), .val (.int x1), .val (.int x2), .val (.int x3), .val (.int x4), .val (.int kk_340), .val (.int s1_351), .val (.int n1_361), .val (.int l1_371), .val (.int rm_381), .val (.int f2_390), .val (.int n2_406), .val (.int l2_416), .val (.ref b678), .unset, .unset] [(.int n1_361)])) t
        refine XS.istore X699.here hx rfl (hb hby at_110) rfl (l' := #[.val (.int x0), .val (.int x1), .val (.int x2), .val (.int x3), .val (.int x4), .val (.int kk_340), .val (.int s1_351), .val (.int n1_361), .val (.int l1_371), .val (.int rm_381), .val (.int f2_390), .val (.int n2_406), .val (.int l2_416), .val (.ref b678), .val (.int n1_361), .unset]) rfl ?_
        show Steps p.tables e below (T699.setTop (mkF m 112 #[.val (.int x0), .val (.int x1), .val (.int x2), .val (.int x3), .val (.int x4), .val (.int kk_340), .val (.int s1_351), .val (.int n1_361), .val (.int l1_371), .val (.int rm_381), .val (.int f2_390), .val (.int n2_406), .val (.int l2_416), .val (.ref b678), .val (.int n1_361), .unset] [])) t
        refine XS.goto X699.here hx rfl (pc0 := 112) (pc' := 147) rfl (hb hby at_112) (by decide) (by decide) ?_
        show Steps p.tables e below (T699.setTop (mkF m 147 #[.val (.int x0), .val (.int x1), .val (.int x2), .val (.int x3), .val (.int x4), .val (.int kk_340), .val (.int s1_351), .val (.int n1_361), .val (.int l1_371), .val (.int rm_381), .val (.int f2_390), .val (.int n2_406), .val (.int l2_416), .val (.ref b678), .val (.int n1_361), .unset] [])) t
        refine XS.aload X699.here hx rfl (hb hby at_147) rfl rfl ?_
        exact k)
      have q712 : 0 ≤ (f706 0).toInt ∧ (f706 0).toInt ≤ (f706 1).toInt ∧ (f706 1).toInt ≤ (f706 0).toInt + 3 ∧ (f706 1).toInt ≤ 2147483643 := by
        have q713 := rng32 kk_340
        have q714 := (by decide : (0 : Int32).toInt = 0)
        have q715 := (by decide : (1 : Int32).toInt = 1)
        simp only [Rv0, Rv1]; omega
      obtain ⟨_, _, ⟨T716, L716, kk716, nn716⟩, -, X716, ⟨Lc716, hQ716, l716, y716, z716⟩, st716⟩ := Jvm.LawKit.callS X699 hx (y := (⟨"com/example/omegaprobe/omegaprobe/graph/StateSets", "expand", "([I)[I"⟩ : MethodName)) hown (mvT hZ (hw _ (List.mem_of_getElem? (i := 4) rfl))) (mvT hZ (hw _ (List.mem_of_getElem? (i := 5) rfl))) (mvT hZ (hw _ (List.mem_of_getElem? (i := 6) rfl))) (mvT hZ (hw _ (List.mem_of_getElem? (i := 7) rfl))) (by decide) (backOf (W := 0) (rmE1 l Z a0 hw [] b678 f706 h699 n0 Z708 V705 q712) hZ (hw _ (List.mem_of_getElem? (i := 7) rfl)) (hw _ (List.mem_of_getElem? (i := 6) rfl)) (by decide) (by decide)) (g := (mkF m 149 #[.val (.int x0), .val (.int x1), .val (.int x2), .val (.int x3), .val (.int x4), .val (.int kk_340), .val (.int s1_351), .val (.int n1_361), .val (.int l1_371), .val (.int rm_381), .val (.int f2_390), .val (.int n2_406), .val (.int l2_416), .val (.ref b678), .val (.int n1_361), .unset] [(.ref b678)])) rfl (by rw [hml]; rfl) (argsL := [(.ref b678)]) (rest := []) (lenOf own_pd0 rfl) rfl (by show 2 * 0 + _ ≤ _; exact Nat.le_of_eq rfl) (hb hby at_149) (fun _ _ => ⟨rfl, e699, (by decide : 1 + 1 ≤ _), (by decide : 2 + 8 ≤ _)⟩)
      dsimp only [Pt.U, Pt.locs, Pt.cells, Pt.slots] at X716 l716 y716 z716 st716 hQ716
      subst l716 y716 z716
      obtain ⟨pa_716, z_716, f_716, rfl, Sp716, Nq716, Kc716, Pc716_0, Pc716_1⟩ := hQ716
      have N717 := Fr.app N709 Nq716
      obtain ⟨h716, e716⟩ : ∃ z, z = T716.heap := ⟨_, rfl⟩
      rw [← e716] at Kc716 Pc716_1
      have ne718 : own_Ne b678 pa_716 := Nat.ne_of_lt (Nat.lt_of_lt_of_le V705.lt Pc716_0)
      have sb719 : own_Le h0.size pa_716 := Nat.le_trans Kp707.1 Pc716_0
      have gb720 : own_Le n0 pa_716 := Nat.le_trans Z708 Pc716_0
      have F721 := V705.keep Kc716 nin0
      have Kp722 : Keep h0 h716 [] := Keep.trans Kp707 Kc716 all0
      have Z723 : own_Le n0 h716.size := Nat.le_trans Z708 Kc716.1
      have K724 : ∀ t, Steps p.tables e below (T716.setTop (mkF m 152 #[.val (.int x0), .val (.int x1), .val (.int x2), .val (.int x3), .val (.int x4), .val (.int kk_340), .val (.int s1_351), .val (.int n1_361), .val (.int l1_371), .val (.int rm_381), .val (.int f2_390), .val (.int n2_406), .val (.int l2_416), .val (.ref b678), .val (.int n1_361), .unset] [(.ref pa_716)])) t → Steps p.tables e below (s₁.setTop (entryFrame m #[(.int x0), (.int x1), (.int x2), (.int x3), (.int x4)] maxLocals)) t := fun t k => K711 t (st716 _ k)
      simp only [Rv0, Rv1] at Sp716
      have hok : ∀ i : Nat, (i : Int) < z_716.toInt → ((i : Int) < n1_361.toInt → (f_716 i).toInt = s1_351.toInt + (i : Int)) ∧ (n1_361.toInt ≤ (i : Int) → (f_716 i).toInt = f2_390.toInt + ((i : Int) - n1_361.toInt)) := by
        obtain ⟨hz, hA⟩ := Sp716
        intro i hi
        exact ⟨fun h => hA i (by omega), fun h => by omega⟩
      have hz := Sp716.1
      obtain ⟨cl725, Ar725, S725, N725, Hs725⟩ := id Pc716_1
      have hc726 : z_716 = n1_361 := by
        have q727 := rng32 kk_340
        have q728 := (by decide : (0 : Int32).toInt = 0)
        have q729 := (by decide : (1 : Int32).toInt = 1)
        have q730 := rng32 z_716
        have q731 := rng32 n1_361
        exact Int32.toInt_inj.mp (by omega)
      have K732 : ∀ t, Steps p.tables e below (T716.setTop (mkF m 173 #[.val (.int x0), .val (.int x1), .val (.int x2), .val (.int x3), .val (.int x4), .val (.int kk_340), .val (.int s1_351), .val (.int n1_361), .val (.int l1_371), .val (.int rm_381), .val (.int f2_390), .val (.int n2_406), .val (.int l2_416), .val (.ref b678), .val (.int n1_361), .val (.ref pa_716)] [(.int f2_390), (.int s1_351), (.int n1_361), (.int (0 : Int32)), (.ref pa_716)])) t → Steps p.tables e below (s₁.setTop (entryFrame m #[(.int x0), (.int x1), (.int x2), (.int x3), (.int x4)] maxLocals)) t := fun t k => K724 t (by
        show Steps p.tables e below (T716.setTop (mkF m 152 #[.val (.int x0), .val (.int x1), .val (.int x2), .val (.int x3), .val (.int x4), .val (.int kk_340), .val (.int s1_351), .val (.int n1_361), .val (.int l1_371), .val (.int rm_381), .val (.int f2_390), .val (.int n2_406), .val (.int l2_416), .val (.ref b678), .val (.int n1_361), .unset] [(.ref pa_716)])) t
        refine XS.astore X716.here hx rfl (hb hby at_152) rfl rfl (l' := #[.val (.int x0), .val (.int x1), .val (.int x2), .val (.int x3), .val (.int x4), .val (.int kk_340), .val (.int s1_351), .val (.int n1_361), .val (.int l1_371), .val (.int rm_381), .val (.int f2_390), .val (.int n2_406), .val (.int l2_416), .val (.ref b678), .val (.int n1_361), .val (.ref pa_716)]) rfl ?_
        show Steps p.tables e below (T716.setTop (mkF m 154 #[.val (.int x0), .val (.int x1), .val (.int x2), .val (.int x3), .val (.int x4), .val (.int kk_340), .val (.int s1_351), .val (.int n1_361), .val (.int l1_371), .val (.int rm_381), .val (.int f2_390), .val (.int n2_406), .val (.int l2_416), .val (.ref b678), .val (.int n1_361), .val (.ref pa_716)] [])) t
        refine XS.aload X716.here hx rfl (hb hby at_154) rfl rfl ?_
        show Steps p.tables e below (T716.setTop (mkF m 156 #[.val (.int x0), .val (.int x1), .val (.int x2), .val (.int x3), .val (.int x4), .val (.int kk_340), .val (.int s1_351), .val (.int n1_361), .val (.int l1_371), .val (.int rm_381), .val (.int f2_390), .val (.int n2_406), .val (.int l2_416), .val (.ref b678), .val (.int n1_361), .val (.ref pa_716)] [(.ref pa_716)])) t
        refine X716.arraylength hx (by rw [e716.symm]; exact Ar725.1) (State.isArrayOf_alike hZ.alike Ar725.2.1) (g := (mkF m 156 #[.val (.int x0), .val (.int x1), .val (.int x2), .val (.int x3), .val (.int x4), .val (.int kk_340), .val (.int s1_351), .val (.int n1_361), .val (.int l1_371), .val (.int rm_381), .val (.int f2_390), .val (.int n2_406), .val (.int l2_416), .val (.ref b678), .val (.int n1_361), .val (.ref pa_716)] [(.ref pa_716)])) rfl rfl (hb hby at_156) _ ?_
        rw [len_of S725 N725]
        show Steps p.tables e below (T716.setTop (mkF m 157 #[.val (.int x0), .val (.int x1), .val (.int x2), .val (.int x3), .val (.int x4), .val (.int kk_340), .val (.int s1_351), .val (.int n1_361), .val (.int l1_371), .val (.int rm_381), .val (.int f2_390), .val (.int n2_406), .val (.int l2_416), .val (.ref b678), .val (.int n1_361), .val (.ref pa_716)] [(.int z_716)])) t
        refine XS.iload X716.here hx rfl (hb hby at_157) rfl ?_
        show Steps p.tables e below (T716.setTop (mkF m 159 #[.val (.int x0), .val (.int x1), .val (.int x2), .val (.int x3), .val (.int x4), .val (.int kk_340), .val (.int s1_351), .val (.int n1_361), .val (.int l1_371), .val (.int rm_381), .val (.int f2_390), .val (.int n2_406), .val (.int l2_416), .val (.ref b678), .val (.int n1_361), .val (.ref pa_716)] [(.int n1_361), (.int z_716)])) t
        refine XS.icmpYes X716.here hx rfl (pc0 := 159) (pc' := 164) rfl (hb hby at_159) rfl (teq hc726).1 (by decide) (by decide) ?_
        show Steps p.tables e below (T716.setTop (mkF m 164 #[.val (.int x0), .val (.int x1), .val (.int x2), .val (.int x3), .val (.int x4), .val (.int kk_340), .val (.int s1_351), .val (.int n1_361), .val (.int l1_371), .val (.int rm_381), .val (.int f2_390), .val (.int n2_406), .val (.int l2_416), .val (.ref b678), .val (.int n1_361), .val (.ref pa_716)] [])) t
        refine XS.aload X716.here hx rfl (hb hby at_164) rfl rfl ?_
        show Steps p.tables e below (T716.setTop (mkF m 166 #[.val (.int x0), .val (.int x1), .val (.int x2), .val (.int x3), .val (.int x4), .val (.int kk_340), .val (.int s1_351), .val (.int n1_361), .val (.int l1_371), .val (.int rm_381), .val (.int f2_390), .val (.int n2_406), .val (.int l2_416), .val (.ref b678), .val (.int n1_361), .val (.ref pa_716)] [(.ref pa_716)])) t
        refine XS.iconst X716.here hx rfl (hb hby at_166) ?_
        show Steps p.tables e below (T716.setTop (mkF m 167 #[.val (.int x0), .val (.int x1), .val (.int x2), .val (.int x3), .val (.int x4), .val (.int kk_340), .val (.int s1_351), .val (.int n1_361), .val (.int l1_371), .val (.int rm_381), .val (.int f2_390), .val (.int n2_406), .val (.int l2_416), .val (.ref b678), .val (.int n1_361), .val (.ref pa_716)] [(.int (0 : Int32)), (.ref pa_716)])) t
        refine XS.iload X716.here hx rfl (hb hby at_167) rfl ?_
        show Steps p.tables e below (T716.setTop (mkF m 169 #[.val (.int x0), .val (.int x1), .val (.int x2), .val (.int x3), .val (.int x4), .val (.int kk_340), .val (.int s1_351), .val (.int n1_361), .val (.int l1_371), .val (.int rm_381), .val (.int f2_390), .val (.int n2_406), .val (.int l2_416), .val (.ref b678), .val (.int n1_361), .val (.ref pa_716)] [(.int n1_361), (.int (0 : Int32)), (.ref pa_716)])) t
        refine XS.iload X716.here hx rfl (hb hby at_169) rfl ?_
        show Steps p.tables e below (T716.setTop (mkF m 171 #[.val (.int x0), .val (.int x1), .val (.int x2), .val (.int x3), .val (.int x4), .val (.int kk_340), .val (.int s1_351), .val (.int n1_361), .val (.int l1_371), .val (.int rm_381), .val (.int f2_390), .val (.int n2_406), .val (.int l2_416), .val (.ref b678), .val (.int n1_361), .val (.ref pa_716)] [(.int s1_351), (.int n1_361), (.int (0 : Int32)), (.ref pa_716)])) t
        refine XS.iload X716.here hx rfl (hb hby at_171) rfl ?_
        exact k)
      have q733 : 0 ≤ (0 : Int32).toInt ∧ (0 : Int32).toInt ≤ 7 ∧ 1 ≤ n1_361.toInt ∧ n1_361.toInt ≤ 4 := by
        have q734 := rng32 kk_340
        have q735 := (by decide : (0 : Int32).toInt = 0)
        have q736 := (by decide : (1 : Int32).toInt = 1)
        have q737 := rng32 n1_361
        have q738 := rng32 s1_351
        have q739 := rng32 f2_390
        have q740 := rng32 z_716
        omega
      obtain ⟨_, _, ⟨T741, L741, kk741, nn741⟩, -, X741, ⟨Lc741, hQ741, l741, y741, z741⟩, st741⟩ := Jvm.LawKit.callS X716 hx (y := (⟨"com/example/omegaprobe/omegaprobe/graph/StateSetsExpandPinLaw", "ok", "([IIIII)Z"⟩ : MethodName)) hown (mvT hZ (hw _ (List.mem_of_getElem? (i := 8) rfl))) (mvT hZ (hw _ (List.mem_of_getElem? (i := 9) rfl))) (mvT hZ (hw _ (List.mem_of_getElem? (i := 10) rfl))) (mvT hZ (hw _ (List.mem_of_getElem? (i := 11) rfl))) (by decide) (backOf (W := 0) (rm2 l Z a0 hw [] pa_716 (0 : Int32) n1_361 s1_351 f2_390 z_716 f_716 h716 n0 Z723 Pc716_1 q733 hok) hZ (hw _ (List.mem_of_getElem? (i := 11) rfl)) (hw _ (List.mem_of_getElem? (i := 10) rfl)) (by decide) (by decide)) (g := (mkF m 173 #[.val (.int x0), .val (.int x1), .val (.int x2), .val (.int x3), .val (.int x4), .val (.int kk_340), .val (.int s1_351), .val (.int n1_361), .val (.int l1_371), .val (.int rm_381), .val (.int f2_390), .val (.int n2_406), .val (.int l2_416), .val (.ref b678), .val (.int n1_361), .val (.ref pa_716)] [(.int f2_390), (.int s1_351), (.int n1_361), (.int (0 : Int32)), (.ref pa_716)])) rfl (by rw [hml]; rfl) (argsL := [(.ref pa_716), (.int (0 : Int32)), (.int n1_361), (.int s1_351), (.int f2_390)]) (rest := []) (lenOf own_pd1 rfl) rfl (by show 2 * 0 + _ ≤ _; exact Nat.le_of_eq rfl) (hb hby at_173) (fun _ _ => ⟨rfl, e716.symm, (by decide : 2 + 0 ≤ _), (by decide : 10 + 0 ≤ _)⟩)
      dsimp only [Pt.U, Pt.locs, Pt.cells, Pt.slots] at X741 l741 y741 z741 st741 hQ741
      subst l741 y741 z741
      obtain ⟨r_741, rfl, Sp741, Nq741, eh741⟩ := hQ741
      have N742 := Fr.app N717 Nq741
      have K743 : ∀ t, Steps p.tables e below (T741.setTop (mkF m 176 #[.val (.int x0), .val (.int x1), .val (.int x2), .val (.int x3), .val (.int x4), .val (.int kk_340), .val (.int s1_351), .val (.int n1_361), .val (.int l1_371), .val (.int rm_381), .val (.int f2_390), .val (.int n2_406), .val (.int l2_416), .val (.ref b678), .val (.int n1_361), .val (.ref pa_716)] [(.int r_741)])) t → Steps p.tables e below (s₁.setTop (entryFrame m #[(.int x0), (.int x1), (.int x2), (.int x3), (.int x4)] maxLocals)) t := fun t k => K732 t (st741 _ k)
      have hc744 : ¬ (r_741 = (0 : Int32)) := by
        have q745 := rng32 kk_340
        have q746 := (by decide : (0 : Int32).toInt = 0)
        have q747 := (by decide : (1 : Int32).toInt = 1)
        have q748 := rng32 n1_361
        have q749 := rng32 s1_351
        have q750 := rng32 f2_390
        have q751 := rng32 z_716
        have q752 := rng32 r_741
        intro q; have q2 := congrArg Int32.toInt q; omega
      have K753 : ∀ t, Steps p.tables e below (T741.setTop (mkF m 188 #[.val (.int x0), .val (.int x1), .val (.int x2), .val (.int x3), .val (.int x4), .val (.int kk_340), .val (.int s1_351), .val (.int n1_361), .val (.int l1_371), .val (.int rm_381), .val (.int f2_390), .val (.int n2_406), .val (.int l2_416), .val (.ref b678), .val (.int n1_361), .val (.ref pa_716)] [(.int f2_390), (.int s1_351), (.int n1_361), (.int (1 : Int32)), (.ref pa_716)])) t → Steps p.tables e below (s₁.setTop (entryFrame m #[(.int x0), (.int x1), (.int x2), (.int x3), (.int x4)] maxLocals)) t := fun t k => K743 t (by
        show Steps p.tables e below (T741.setTop (mkF m 176 #[.val (.int x0), .val (.int x1), .val (.int x2), .val (.int x3), .val (.int x4), .val (.int kk_340), .val (.int s1_351), .val (.int n1_361), .val (.int l1_371), .val (.int rm_381), .val (.int f2_390), .val (.int n2_406), .val (.int l2_416), .val (.ref b678), .val (.int n1_361), .val (.ref pa_716)] [(.int r_741)])) t
        refine XS.ifNo X741.here hx rfl (hb hby at_176) rfl ((if0 _ _).trans (feq hc744).1) ?_
        show Steps p.tables e below (T741.setTop (mkF m 179 #[.val (.int x0), .val (.int x1), .val (.int x2), .val (.int x3), .val (.int x4), .val (.int kk_340), .val (.int s1_351), .val (.int n1_361), .val (.int l1_371), .val (.int rm_381), .val (.int f2_390), .val (.int n2_406), .val (.int l2_416), .val (.ref b678), .val (.int n1_361), .val (.ref pa_716)] [])) t
        refine XS.aload X741.here hx rfl (hb hby at_179) rfl rfl ?_
        show Steps p.tables e below (T741.setTop (mkF m 181 #[.val (.int x0), .val (.int x1), .val (.int x2), .val (.int x3), .val (.int x4), .val (.int kk_340), .val (.int s1_351), .val (.int n1_361), .val (.int l1_371), .val (.int rm_381), .val (.int f2_390), .val (.int n2_406), .val (.int l2_416), .val (.ref b678), .val (.int n1_361), .val (.ref pa_716)] [(.ref pa_716)])) t
        refine XS.iconst X741.here hx rfl (hb hby at_181) ?_
        show Steps p.tables e below (T741.setTop (mkF m 182 #[.val (.int x0), .val (.int x1), .val (.int x2), .val (.int x3), .val (.int x4), .val (.int kk_340), .val (.int s1_351), .val (.int n1_361), .val (.int l1_371), .val (.int rm_381), .val (.int f2_390), .val (.int n2_406), .val (.int l2_416), .val (.ref b678), .val (.int n1_361), .val (.ref pa_716)] [(.int (1 : Int32)), (.ref pa_716)])) t
        refine XS.iload X741.here hx rfl (hb hby at_182) rfl ?_
        show Steps p.tables e below (T741.setTop (mkF m 184 #[.val (.int x0), .val (.int x1), .val (.int x2), .val (.int x3), .val (.int x4), .val (.int kk_340), .val (.int s1_351), .val (.int n1_361), .val (.int l1_371), .val (.int rm_381), .val (.int f2_390), .val (.int n2_406), .val (.int l2_416), .val (.ref b678), .val (.int n1_361), .val (.ref pa_716)] [(.int n1_361), (.int (1 : Int32)), (.ref pa_716)])) t
        refine XS.iload X741.here hx rfl (hb hby at_184) rfl ?_
        show Steps p.tables e below (T741.setTop (mkF m 186 #[.val (.int x0), .val (.int x1), .val (.int x2), .val (.int x3), .val (.int x4), .val (.int kk_340), .val (.int s1_351), .val (.int n1_361), .val (.int l1_371), .val (.int rm_381), .val (.int f2_390), .val (.int n2_406), .val (.int l2_416), .val (.ref b678), .val (.int n1_361), .val (.ref pa_716)] [(.int s1_351), (.int n1_361), (.int (1 : Int32)), (.ref pa_716)])) t
        refine XS.iload X741.here hx rfl (hb hby at_186) rfl ?_
        exact k)
      have q754 : 0 ≤ (1 : Int32).toInt ∧ (1 : Int32).toInt ≤ 7 ∧ 1 ≤ n1_361.toInt ∧ n1_361.toInt ≤ 4 := by
        have q755 := rng32 kk_340
        have q756 := (by decide : (0 : Int32).toInt = 0)
        have q757 := (by decide : (1 : Int32).toInt = 1)
        have q758 := rng32 n1_361
        have q759 := rng32 s1_351
        have q760 := rng32 f2_390
        have q761 := rng32 z_716
        omega
      obtain ⟨_, _, ⟨T762, L762, kk762, nn762⟩, -, X762, ⟨Lc762, hQ762, l762, y762, z762⟩, st762⟩ := Jvm.LawKit.callS X741 hx (y := (⟨"com/example/omegaprobe/omegaprobe/graph/StateSetsExpandPinLaw", "ok", "([IIIII)Z"⟩ : MethodName)) hown (mvT hZ (hw _ (List.mem_of_getElem? (i := 8) rfl))) (mvT hZ (hw _ (List.mem_of_getElem? (i := 9) rfl))) (mvT hZ (hw _ (List.mem_of_getElem? (i := 10) rfl))) (mvT hZ (hw _ (List.mem_of_getElem? (i := 11) rfl))) (by decide) (backOf (W := 0) (rm2 l Z a0 hw [] pa_716 (1 : Int32) n1_361 s1_351 f2_390 z_716 f_716 h716 n0 Z723 Pc716_1 q754 hok) hZ (hw _ (List.mem_of_getElem? (i := 11) rfl)) (hw _ (List.mem_of_getElem? (i := 10) rfl)) (by decide) (by decide)) (g := (mkF m 188 #[.val (.int x0), .val (.int x1), .val (.int x2), .val (.int x3), .val (.int x4), .val (.int kk_340), .val (.int s1_351), .val (.int n1_361), .val (.int l1_371), .val (.int rm_381), .val (.int f2_390), .val (.int n2_406), .val (.int l2_416), .val (.ref b678), .val (.int n1_361), .val (.ref pa_716)] [(.int f2_390), (.int s1_351), (.int n1_361), (.int (1 : Int32)), (.ref pa_716)])) rfl (by rw [hml]; rfl) (argsL := [(.ref pa_716), (.int (1 : Int32)), (.int n1_361), (.int s1_351), (.int f2_390)]) (rest := []) (lenOf own_pd1 rfl) rfl (by show 2 * 0 + _ ≤ _; exact Nat.le_of_eq rfl) (hb hby at_188) (fun _ _ => ⟨rfl, eh741, (by decide : 2 + 0 ≤ _), (by decide : 10 + 0 ≤ _)⟩)
      dsimp only [Pt.U, Pt.locs, Pt.cells, Pt.slots] at X762 l762 y762 z762 st762 hQ762
      subst l762 y762 z762
      obtain ⟨r_762, rfl, Sp762, Nq762, eh762⟩ := hQ762
      have N763 := Fr.app N742 Nq762
      have K764 : ∀ t, Steps p.tables e below (T762.setTop (mkF m 191 #[.val (.int x0), .val (.int x1), .val (.int x2), .val (.int x3), .val (.int x4), .val (.int kk_340), .val (.int s1_351), .val (.int n1_361), .val (.int l1_371), .val (.int rm_381), .val (.int f2_390), .val (.int n2_406), .val (.int l2_416), .val (.ref b678), .val (.int n1_361), .val (.ref pa_716)] [(.int r_762)])) t → Steps p.tables e below (s₁.setTop (entryFrame m #[(.int x0), (.int x1), (.int x2), (.int x3), (.int x4)] maxLocals)) t := fun t k => K753 t (st762 _ k)
      have hc765 : ¬ (r_762 = (0 : Int32)) := by
        have q766 := rng32 kk_340
        have q767 := (by decide : (0 : Int32).toInt = 0)
        have q768 := (by decide : (1 : Int32).toInt = 1)
        have q769 := rng32 n1_361
        have q770 := rng32 s1_351
        have q771 := rng32 f2_390
        have q772 := rng32 z_716
        have q773 := rng32 r_762
        intro q; have q2 := congrArg Int32.toInt q; omega
      have K774 : ∀ t, Steps p.tables e below (T762.setTop (mkF m 203 #[.val (.int x0), .val (.int x1), .val (.int x2), .val (.int x3), .val (.int x4), .val (.int kk_340), .val (.int s1_351), .val (.int n1_361), .val (.int l1_371), .val (.int rm_381), .val (.int f2_390), .val (.int n2_406), .val (.int l2_416), .val (.ref b678), .val (.int n1_361), .val (.ref pa_716)] [(.int f2_390), (.int s1_351), (.int n1_361), (.int (2 : Int32)), (.ref pa_716)])) t → Steps p.tables e below (s₁.setTop (entryFrame m #[(.int x0), (.int x1), (.int x2), (.int x3), (.int x4)] maxLocals)) t := fun t k => K764 t (by
        show Steps p.tables e below (T762.setTop (mkF m 191 #[.val (.int x0), .val (.int x1), .val (.int x2), .val (.int x3), .val (.int x4), .val (.int kk_340), .val (.int s1_351), .val (.int n1_361), .val (.int l1_371), .val (.int rm_381), .val (.int f2_390), .val (.int n2_406), .val (.int l2_416), .val (.ref b678), .val (.int n1_361), .val (.ref pa_716)] [(.int r_762)])) t
        refine XS.ifNo X762.here hx rfl (hb hby at_191) rfl ((if0 _ _).trans (feq hc765).1) ?_
        show Steps p.tables e below (T762.setTop (mkF m 194 #[.val (.int x0), .val (.int x1), .val (.int x2), .val (.int x3), .val (.int x4), .val (.int kk_340), .val (.int s1_351), .val (.int n1_361), .val (.int l1_371), .val (.int rm_381), .val (.int f2_390), .val (.int n2_406), .val (.int l2_416), .val (.ref b678), .val (.int n1_361), .val (.ref pa_716)] [])) t
        refine XS.aload X762.here hx rfl (hb hby at_194) rfl rfl ?_
        show Steps p.tables e below (T762.setTop (mkF m 196 #[.val (.int x0), .val (.int x1), .val (.int x2), .val (.int x3), .val (.int x4), .val (.int kk_340), .val (.int s1_351), .val (.int n1_361), .val (.int l1_371), .val (.int rm_381), .val (.int f2_390), .val (.int n2_406), .val (.int l2_416), .val (.ref b678), .val (.int n1_361), .val (.ref pa_716)] [(.ref pa_716)])) t
        refine XS.iconst X762.here hx rfl (hb hby at_196) ?_
        show Steps p.tables e below (T762.setTop (mkF m 197 #[.val (.int x0), .val (.int x1), .val (.int x2), .val (.int x3), .val (.int x4), .val (.int kk_340), .val (.int s1_351), .val (.int n1_361), .val (.int l1_371), .val (.int rm_381), .val (.int f2_390), .val (.int n2_406), .val (.int l2_416), .val (.ref b678), .val (.int n1_361), .val (.ref pa_716)] [(.int (2 : Int32)), (.ref pa_716)])) t
        refine XS.iload X762.here hx rfl (hb hby at_197) rfl ?_
        show Steps p.tables e below (T762.setTop (mkF m 199 #[.val (.int x0), .val (.int x1), .val (.int x2), .val (.int x3), .val (.int x4), .val (.int kk_340), .val (.int s1_351), .val (.int n1_361), .val (.int l1_371), .val (.int rm_381), .val (.int f2_390), .val (.int n2_406), .val (.int l2_416), .val (.ref b678), .val (.int n1_361), .val (.ref pa_716)] [(.int n1_361), (.int (2 : Int32)), (.ref pa_716)])) t
        refine XS.iload X762.here hx rfl (hb hby at_199) rfl ?_
        show Steps p.tables e below (T762.setTop (mkF m 201 #[.val (.int x0), .val (.int x1), .val (.int x2), .val (.int x3), .val (.int x4), .val (.int kk_340), .val (.int s1_351), .val (.int n1_361), .val (.int l1_371), .val (.int rm_381), .val (.int f2_390), .val (.int n2_406), .val (.int l2_416), .val (.ref b678), .val (.int n1_361), .val (.ref pa_716)] [(.int s1_351), (.int n1_361), (.int (2 : Int32)), (.ref pa_716)])) t
        refine XS.iload X762.here hx rfl (hb hby at_201) rfl ?_
        exact k)
      have q775 : 0 ≤ (2 : Int32).toInt ∧ (2 : Int32).toInt ≤ 7 ∧ 1 ≤ n1_361.toInt ∧ n1_361.toInt ≤ 4 := by
        have q776 := rng32 kk_340
        have q777 := (by decide : (0 : Int32).toInt = 0)
        have q778 := (by decide : (1 : Int32).toInt = 1)
        have q779 := rng32 n1_361
        have q780 := rng32 s1_351
        have q781 := rng32 f2_390
        have q782 := rng32 z_716
        have q783 := (by decide : (2 : Int32).toInt = 2)
        omega
      obtain ⟨_, _, ⟨T784, L784, kk784, nn784⟩, -, X784, ⟨Lc784, hQ784, l784, y784, z784⟩, st784⟩ := Jvm.LawKit.callS X762 hx (y := (⟨"com/example/omegaprobe/omegaprobe/graph/StateSetsExpandPinLaw", "ok", "([IIIII)Z"⟩ : MethodName)) hown (mvT hZ (hw _ (List.mem_of_getElem? (i := 8) rfl))) (mvT hZ (hw _ (List.mem_of_getElem? (i := 9) rfl))) (mvT hZ (hw _ (List.mem_of_getElem? (i := 10) rfl))) (mvT hZ (hw _ (List.mem_of_getElem? (i := 11) rfl))) (by decide) (backOf (W := 0) (rm2 l Z a0 hw [] pa_716 (2 : Int32) n1_361 s1_351 f2_390 z_716 f_716 h716 n0 Z723 Pc716_1 q775 hok) hZ (hw _ (List.mem_of_getElem? (i := 11) rfl)) (hw _ (List.mem_of_getElem? (i := 10) rfl)) (by decide) (by decide)) (g := (mkF m 203 #[.val (.int x0), .val (.int x1), .val (.int x2), .val (.int x3), .val (.int x4), .val (.int kk_340), .val (.int s1_351), .val (.int n1_361), .val (.int l1_371), .val (.int rm_381), .val (.int f2_390), .val (.int n2_406), .val (.int l2_416), .val (.ref b678), .val (.int n1_361), .val (.ref pa_716)] [(.int f2_390), (.int s1_351), (.int n1_361), (.int (2 : Int32)), (.ref pa_716)])) rfl (by rw [hml]; rfl) (argsL := [(.ref pa_716), (.int (2 : Int32)), (.int n1_361), (.int s1_351), (.int f2_390)]) (rest := []) (lenOf own_pd1 rfl) rfl (by show 2 * 0 + _ ≤ _; exact Nat.le_of_eq rfl) (hb hby at_203) (fun _ _ => ⟨rfl, eh762, (by decide : 2 + 0 ≤ _), (by decide : 10 + 0 ≤ _)⟩)
      dsimp only [Pt.U, Pt.locs, Pt.cells, Pt.slots] at X784 l784 y784 z784 st784 hQ784
      subst l784 y784 z784
      obtain ⟨r_784, rfl, Sp784, Nq784, eh784⟩ := hQ784
      have N785 := Fr.app N763 Nq784
      have K786 : ∀ t, Steps p.tables e below (T784.setTop (mkF m 206 #[.val (.int x0), .val (.int x1), .val (.int x2), .val (.int x3), .val (.int x4), .val (.int kk_340), .val (.int s1_351), .val (.int n1_361), .val (.int l1_371), .val (.int rm_381), .val (.int f2_390), .val (.int n2_406), .val (.int l2_416), .val (.ref b678), .val (.int n1_361), .val (.ref pa_716)] [(.int r_784)])) t → Steps p.tables e below (s₁.setTop (entryFrame m #[(.int x0), (.int x1), (.int x2), (.int x3), (.int x4)] maxLocals)) t := fun t k => K774 t (st784 _ k)
      have hc787 : ¬ (r_784 = (0 : Int32)) := by
        have q788 := rng32 kk_340
        have q789 := (by decide : (0 : Int32).toInt = 0)
        have q790 := (by decide : (1 : Int32).toInt = 1)
        have q791 := rng32 n1_361
        have q792 := rng32 s1_351
        have q793 := rng32 f2_390
        have q794 := rng32 z_716
        have q795 := (by decide : (2 : Int32).toInt = 2)
        have q796 := rng32 r_784
        intro q; have q2 := congrArg Int32.toInt q; omega
      have K797 : ∀ t, Steps p.tables e below (T784.setTop (mkF m 218 #[.val (.int x0), .val (.int x1), .val (.int x2), .val (.int x3), .val (.int x4), .val (.int kk_340), .val (.int s1_351), .val (.int n1_361), .val (.int l1_371), .val (.int rm_381), .val (.int f2_390), .val (.int n2_406), .val (.int l2_416), .val (.ref b678), .val (.int n1_361), .val (.ref pa_716)] [(.int f2_390), (.int s1_351), (.int n1_361), (.int (3 : Int32)), (.ref pa_716)])) t → Steps p.tables e below (s₁.setTop (entryFrame m #[(.int x0), (.int x1), (.int x2), (.int x3), (.int x4)] maxLocals)) t := fun t k => K786 t (by
        show Steps p.tables e below (T784.setTop (mkF m 206 #[.val (.int x0), .val (.int x1), .val (.int x2), .val (.int x3), .val (.int x4), .val (.int kk_340), .val (.int s1_351), .val (.int n1_361), .val (.int l1_371), .val (.int rm_381), .val (.int f2_390), .val (.int n2_406), .val (.int l2_416), .val (.ref b678), .val (.int n1_361), .val (.ref pa_716)] [(.int r_784)])) t
        refine XS.ifNo X784.here hx rfl (hb hby at_206) rfl ((if0 _ _).trans (feq hc787).1) ?_
        show Steps p.tables e below (T784.setTop (mkF m 209 #[.val (.int x0), .val (.int x1), .val (.int x2), .val (.int x3), .val (.int x4), .val (.int kk_340), .val (.int s1_351), .val (.int n1_361), .val (.int l1_371), .val (.int rm_381), .val (.int f2_390), .val (.int n2_406), .val (.int l2_416), .val (.ref b678), .val (.int n1_361), .val (.ref pa_716)] [])) t
        refine XS.aload X784.here hx rfl (hb hby at_209) rfl rfl ?_
        show Steps p.tables e below (T784.setTop (mkF m 211 #[.val (.int x0), .val (.int x1), .val (.int x2), .val (.int x3), .val (.int x4), .val (.int kk_340), .val (.int s1_351), .val (.int n1_361), .val (.int l1_371), .val (.int rm_381), .val (.int f2_390), .val (.int n2_406), .val (.int l2_416), .val (.ref b678), .val (.int n1_361), .val (.ref pa_716)] [(.ref pa_716)])) t
        refine XS.iconst X784.here hx rfl (hb hby at_211) ?_
        show Steps p.tables e below (T784.setTop (mkF m 212 #[.val (.int x0), .val (.int x1), .val (.int x2), .val (.int x3), .val (.int x4), .val (.int kk_340), .val (.int s1_351), .val (.int n1_361), .val (.int l1_371), .val (.int rm_381), .val (.int f2_390), .val (.int n2_406), .val (.int l2_416), .val (.ref b678), .val (.int n1_361), .val (.ref pa_716)] [(.int (3 : Int32)), (.ref pa_716)])) t
        refine XS.iload X784.here hx rfl (hb hby at_212) rfl ?_
        show Steps p.tables e below (T784.setTop (mkF m 214 #[.val (.int x0), .val (.int x1), .val (.int x2), .val (.int x3), .val (.int x4), .val (.int kk_340), .val (.int s1_351), .val (.int n1_361), .val (.int l1_371), .val (.int rm_381), .val (.int f2_390), .val (.int n2_406), .val (.int l2_416), .val (.ref b678), .val (.int n1_361), .val (.ref pa_716)] [(.int n1_361), (.int (3 : Int32)), (.ref pa_716)])) t
        refine XS.iload X784.here hx rfl (hb hby at_214) rfl ?_
        show Steps p.tables e below (T784.setTop (mkF m 216 #[.val (.int x0), .val (.int x1), .val (.int x2), .val (.int x3), .val (.int x4), .val (.int kk_340), .val (.int s1_351), .val (.int n1_361), .val (.int l1_371), .val (.int rm_381), .val (.int f2_390), .val (.int n2_406), .val (.int l2_416), .val (.ref b678), .val (.int n1_361), .val (.ref pa_716)] [(.int s1_351), (.int n1_361), (.int (3 : Int32)), (.ref pa_716)])) t
        refine XS.iload X784.here hx rfl (hb hby at_216) rfl ?_
        exact k)
      have q798 : 0 ≤ (3 : Int32).toInt ∧ (3 : Int32).toInt ≤ 7 ∧ 1 ≤ n1_361.toInt ∧ n1_361.toInt ≤ 4 := by
        have q799 := rng32 kk_340
        have q800 := (by decide : (0 : Int32).toInt = 0)
        have q801 := (by decide : (1 : Int32).toInt = 1)
        have q802 := rng32 n1_361
        have q803 := rng32 s1_351
        have q804 := rng32 f2_390
        have q805 := rng32 z_716
        have q806 := (by decide : (2 : Int32).toInt = 2)
        have q807 := (by decide : (3 : Int32).toInt = 3)
        omega
      obtain ⟨_, _, ⟨T808, L808, kk808, nn808⟩, -, X808, ⟨Lc808, hQ808, l808, y808, z808⟩, st808⟩ := Jvm.LawKit.callS X784 hx (y := (⟨"com/example/omegaprobe/omegaprobe/graph/StateSetsExpandPinLaw", "ok", "([IIIII)Z"⟩ : MethodName)) hown (mvT hZ (hw _ (List.mem_of_getElem? (i := 8) rfl))) (mvT hZ (hw _ (List.mem_of_getElem? (i := 9) rfl))) (mvT hZ (hw _ (List.mem_of_getElem? (i := 10) rfl))) (mvT hZ (hw _ (List.mem_of_getElem? (i := 11) rfl))) (by decide) (backOf (W := 0) (rm2 l Z a0 hw [] pa_716 (3 : Int32) n1_361 s1_351 f2_390 z_716 f_716 h716 n0 Z723 Pc716_1 q798 hok) hZ (hw _ (List.mem_of_getElem? (i := 11) rfl)) (hw _ (List.mem_of_getElem? (i := 10) rfl)) (by decide) (by decide)) (g := (mkF m 218 #[.val (.int x0), .val (.int x1), .val (.int x2), .val (.int x3), .val (.int x4), .val (.int kk_340), .val (.int s1_351), .val (.int n1_361), .val (.int l1_371), .val (.int rm_381), .val (.int f2_390), .val (.int n2_406), .val (.int l2_416), .val (.ref b678), .val (.int n1_361), .val (.ref pa_716)] [(.int f2_390), (.int s1_351), (.int n1_361), (.int (3 : Int32)), (.ref pa_716)])) rfl (by rw [hml]; rfl) (argsL := [(.ref pa_716), (.int (3 : Int32)), (.int n1_361), (.int s1_351), (.int f2_390)]) (rest := []) (lenOf own_pd1 rfl) rfl (by show 2 * 0 + _ ≤ _; exact Nat.le_of_eq rfl) (hb hby at_218) (fun _ _ => ⟨rfl, eh784, (by decide : 2 + 0 ≤ _), (by decide : 10 + 0 ≤ _)⟩)
      dsimp only [Pt.U, Pt.locs, Pt.cells, Pt.slots] at X808 l808 y808 z808 st808 hQ808
      subst l808 y808 z808
      obtain ⟨r_808, rfl, Sp808, Nq808, eh808⟩ := hQ808
      have N809 := Fr.app N785 Nq808
      have K810 : ∀ t, Steps p.tables e below (T808.setTop (mkF m 221 #[.val (.int x0), .val (.int x1), .val (.int x2), .val (.int x3), .val (.int x4), .val (.int kk_340), .val (.int s1_351), .val (.int n1_361), .val (.int l1_371), .val (.int rm_381), .val (.int f2_390), .val (.int n2_406), .val (.int l2_416), .val (.ref b678), .val (.int n1_361), .val (.ref pa_716)] [(.int r_808)])) t → Steps p.tables e below (s₁.setTop (entryFrame m #[(.int x0), (.int x1), (.int x2), (.int x3), (.int x4)] maxLocals)) t := fun t k => K797 t (st808 _ k)
      have hc811 : ¬ (r_808 = (0 : Int32)) := by
        have q812 := rng32 kk_340
        have q813 := (by decide : (0 : Int32).toInt = 0)
        have q814 := (by decide : (1 : Int32).toInt = 1)
        have q815 := rng32 n1_361
        have q816 := rng32 s1_351
        have q817 := rng32 f2_390
        have q818 := rng32 z_716
        have q819 := (by decide : (2 : Int32).toInt = 2)
        have q820 := (by decide : (3 : Int32).toInt = 3)
        have q821 := rng32 r_808
        intro q; have q2 := congrArg Int32.toInt q; omega
      have K822 : ∀ t, Steps p.tables e below (T808.setTop (mkF m 233 #[.val (.int x0), .val (.int x1), .val (.int x2), .val (.int x3), .val (.int x4), .val (.int kk_340), .val (.int s1_351), .val (.int n1_361), .val (.int l1_371), .val (.int rm_381), .val (.int f2_390), .val (.int n2_406), .val (.int l2_416), .val (.ref b678), .val (.int n1_361), .val (.ref pa_716)] [(.int f2_390), (.int s1_351), (.int n1_361), (.int (4 : Int32)), (.ref pa_716)])) t → Steps p.tables e below (s₁.setTop (entryFrame m #[(.int x0), (.int x1), (.int x2), (.int x3), (.int x4)] maxLocals)) t := fun t k => K810 t (by
        show Steps p.tables e below (T808.setTop (mkF m 221 #[.val (.int x0), .val (.int x1), .val (.int x2), .val (.int x3), .val (.int x4), .val (.int kk_340), .val (.int s1_351), .val (.int n1_361), .val (.int l1_371), .val (.int rm_381), .val (.int f2_390), .val (.int n2_406), .val (.int l2_416), .val (.ref b678), .val (.int n1_361), .val (.ref pa_716)] [(.int r_808)])) t
        refine XS.ifNo X808.here hx rfl (hb hby at_221) rfl ((if0 _ _).trans (feq hc811).1) ?_
        show Steps p.tables e below (T808.setTop (mkF m 224 #[.val (.int x0), .val (.int x1), .val (.int x2), .val (.int x3), .val (.int x4), .val (.int kk_340), .val (.int s1_351), .val (.int n1_361), .val (.int l1_371), .val (.int rm_381), .val (.int f2_390), .val (.int n2_406), .val (.int l2_416), .val (.ref b678), .val (.int n1_361), .val (.ref pa_716)] [])) t
        refine XS.aload X808.here hx rfl (hb hby at_224) rfl rfl ?_
        show Steps p.tables e below (T808.setTop (mkF m 226 #[.val (.int x0), .val (.int x1), .val (.int x2), .val (.int x3), .val (.int x4), .val (.int kk_340), .val (.int s1_351), .val (.int n1_361), .val (.int l1_371), .val (.int rm_381), .val (.int f2_390), .val (.int n2_406), .val (.int l2_416), .val (.ref b678), .val (.int n1_361), .val (.ref pa_716)] [(.ref pa_716)])) t
        refine XS.iconst X808.here hx rfl (hb hby at_226) ?_
        show Steps p.tables e below (T808.setTop (mkF m 227 #[.val (.int x0), .val (.int x1), .val (.int x2), .val (.int x3), .val (.int x4), .val (.int kk_340), .val (.int s1_351), .val (.int n1_361), .val (.int l1_371), .val (.int rm_381), .val (.int f2_390), .val (.int n2_406), .val (.int l2_416), .val (.ref b678), .val (.int n1_361), .val (.ref pa_716)] [(.int (4 : Int32)), (.ref pa_716)])) t
        refine XS.iload X808.here hx rfl (hb hby at_227) rfl ?_
        show Steps p.tables e below (T808.setTop (mkF m 229 #[.val (.int x0), .val (.int x1), .val (.int x2), .val (.int x3), .val (.int x4), .val (.int kk_340), .val (.int s1_351), .val (.int n1_361), .val (.int l1_371), .val (.int rm_381), .val (.int f2_390), .val (.int n2_406), .val (.int l2_416), .val (.ref b678), .val (.int n1_361), .val (.ref pa_716)] [(.int n1_361), (.int (4 : Int32)), (.ref pa_716)])) t
        refine XS.iload X808.here hx rfl (hb hby at_229) rfl ?_
        show Steps p.tables e below (T808.setTop (mkF m 231 #[.val (.int x0), .val (.int x1), .val (.int x2), .val (.int x3), .val (.int x4), .val (.int kk_340), .val (.int s1_351), .val (.int n1_361), .val (.int l1_371), .val (.int rm_381), .val (.int f2_390), .val (.int n2_406), .val (.int l2_416), .val (.ref b678), .val (.int n1_361), .val (.ref pa_716)] [(.int s1_351), (.int n1_361), (.int (4 : Int32)), (.ref pa_716)])) t
        refine XS.iload X808.here hx rfl (hb hby at_231) rfl ?_
        exact k)
      have q823 : 0 ≤ (4 : Int32).toInt ∧ (4 : Int32).toInt ≤ 7 ∧ 1 ≤ n1_361.toInt ∧ n1_361.toInt ≤ 4 := by
        have q824 := rng32 kk_340
        have q825 := (by decide : (0 : Int32).toInt = 0)
        have q826 := (by decide : (1 : Int32).toInt = 1)
        have q827 := rng32 n1_361
        have q828 := rng32 s1_351
        have q829 := rng32 f2_390
        have q830 := rng32 z_716
        have q831 := (by decide : (2 : Int32).toInt = 2)
        have q832 := (by decide : (3 : Int32).toInt = 3)
        have q833 := (by decide : (4 : Int32).toInt = 4)
        omega
      obtain ⟨_, _, ⟨T834, L834, kk834, nn834⟩, -, X834, ⟨Lc834, hQ834, l834, y834, z834⟩, st834⟩ := Jvm.LawKit.callS X808 hx (y := (⟨"com/example/omegaprobe/omegaprobe/graph/StateSetsExpandPinLaw", "ok", "([IIIII)Z"⟩ : MethodName)) hown (mvT hZ (hw _ (List.mem_of_getElem? (i := 8) rfl))) (mvT hZ (hw _ (List.mem_of_getElem? (i := 9) rfl))) (mvT hZ (hw _ (List.mem_of_getElem? (i := 10) rfl))) (mvT hZ (hw _ (List.mem_of_getElem? (i := 11) rfl))) (by decide) (backOf (W := 0) (rm2 l Z a0 hw [] pa_716 (4 : Int32) n1_361 s1_351 f2_390 z_716 f_716 h716 n0 Z723 Pc716_1 q823 hok) hZ (hw _ (List.mem_of_getElem? (i := 11) rfl)) (hw _ (List.mem_of_getElem? (i := 10) rfl)) (by decide) (by decide)) (g := (mkF m 233 #[.val (.int x0), .val (.int x1), .val (.int x2), .val (.int x3), .val (.int x4), .val (.int kk_340), .val (.int s1_351), .val (.int n1_361), .val (.int l1_371), .val (.int rm_381), .val (.int f2_390), .val (.int n2_406), .val (.int l2_416), .val (.ref b678), .val (.int n1_361), .val (.ref pa_716)] [(.int f2_390), (.int s1_351), (.int n1_361), (.int (4 : Int32)), (.ref pa_716)])) rfl (by rw [hml]; rfl) (argsL := [(.ref pa_716), (.int (4 : Int32)), (.int n1_361), (.int s1_351), (.int f2_390)]) (rest := []) (lenOf own_pd1 rfl) rfl (by show 2 * 0 + _ ≤ _; exact Nat.le_of_eq rfl) (hb hby at_233) (fun _ _ => ⟨rfl, eh808, (by decide : 2 + 0 ≤ _), (by decide : 10 + 0 ≤ _)⟩)
      dsimp only [Pt.U, Pt.locs, Pt.cells, Pt.slots] at X834 l834 y834 z834 st834 hQ834
      subst l834 y834 z834
      obtain ⟨r_834, rfl, Sp834, Nq834, eh834⟩ := hQ834
      have N835 := Fr.app N809 Nq834
      have K836 : ∀ t, Steps p.tables e below (T834.setTop (mkF m 236 #[.val (.int x0), .val (.int x1), .val (.int x2), .val (.int x3), .val (.int x4), .val (.int kk_340), .val (.int s1_351), .val (.int n1_361), .val (.int l1_371), .val (.int rm_381), .val (.int f2_390), .val (.int n2_406), .val (.int l2_416), .val (.ref b678), .val (.int n1_361), .val (.ref pa_716)] [(.int r_834)])) t → Steps p.tables e below (s₁.setTop (entryFrame m #[(.int x0), (.int x1), (.int x2), (.int x3), (.int x4)] maxLocals)) t := fun t k => K822 t (st834 _ k)
      have hc837 : ¬ (r_834 = (0 : Int32)) := by
        have q838 := rng32 kk_340
        have q839 := (by decide : (0 : Int32).toInt = 0)
        have q840 := (by decide : (1 : Int32).toInt = 1)
        have q841 := rng32 n1_361
        have q842 := rng32 s1_351
        have q843 := rng32 f2_390
        have q844 := rng32 z_716
        have q845 := (by decide : (2 : Int32).toInt = 2)
        have q846 := (by decide : (3 : Int32).toInt = 3)
        have q847 := (by decide : (4 : Int32).toInt = 4)
        have q848 := rng32 r_834
        intro q; have q2 := congrArg Int32.toInt q; omega
      have K849 : ∀ t, Steps p.tables e below (T834.setTop (mkF m 248 #[.val (.int x0), .val (.int x1), .val (.int x2), .val (.int x3), .val (.int x4), .val (.int kk_340), .val (.int s1_351), .val (.int n1_361), .val (.int l1_371), .val (.int rm_381), .val (.int f2_390), .val (.int n2_406), .val (.int l2_416), .val (.ref b678), .val (.int n1_361), .val (.ref pa_716)] [(.int f2_390), (.int s1_351), (.int n1_361), (.int (5 : Int32)), (.ref pa_716)])) t → Steps p.tables e below (s₁.setTop (entryFrame m #[(.int x0), (.int x1), (.int x2), (.int x3), (.int x4)] maxLocals)) t := fun t k => K836 t (by
        show Steps p.tables e below (T834.setTop (mkF m 236 #[.val (.int x0), .val (.int x1), .val (.int x2), .val (.int x3), .val (.int x4), .val (.int kk_340), .val (.int s1_351), .val (.int n1_361), .val (.int l1_371), .val (.int rm_381), .val (.int f2_390), .val (.int n2_406), .val (.int l2_416), .val (.ref b678), .val (.int n1_361), .val (.ref pa_716)] [(.int r_834)])) t
        refine XS.ifNo X834.here hx rfl (hb hby at_236) rfl ((if0 _ _).trans (feq hc837).1) ?_
        show Steps p.tables e below (T834.setTop (mkF m 239 #[.val (.int x0), .val (.int x1), .val (.int x2), .val (.int x3), .val (.int x4), .val (.int kk_340), .val (.int s1_351), .val (.int n1_361), .val (.int l1_371), .val (.int rm_381), .val (.int f2_390), .val (.int n2_406), .val (.int l2_416), .val (.ref b678), .val (.int n1_361), .val (.ref pa_716)] [])) t
        refine XS.aload X834.here hx rfl (hb hby at_239) rfl rfl ?_
        show Steps p.tables e below (T834.setTop (mkF m 241 #[.val (.int x0), .val (.int x1), .val (.int x2), .val (.int x3), .val (.int x4), .val (.int kk_340), .val (.int s1_351), .val (.int n1_361), .val (.int l1_371), .val (.int rm_381), .val (.int f2_390), .val (.int n2_406), .val (.int l2_416), .val (.ref b678), .val (.int n1_361), .val (.ref pa_716)] [(.ref pa_716)])) t
        refine XS.iconst X834.here hx rfl (hb hby at_241) ?_
        show Steps p.tables e below (T834.setTop (mkF m 242 #[.val (.int x0), .val (.int x1), .val (.int x2), .val (.int x3), .val (.int x4), .val (.int kk_340), .val (.int s1_351), .val (.int n1_361), .val (.int l1_371), .val (.int rm_381), .val (.int f2_390), .val (.int n2_406), .val (.int l2_416), .val (.ref b678), .val (.int n1_361), .val (.ref pa_716)] [(.int (5 : Int32)), (.ref pa_716)])) t
        refine XS.iload X834.here hx rfl (hb hby at_242) rfl ?_
        show Steps p.tables e below (T834.setTop (mkF m 244 #[.val (.int x0), .val (.int x1), .val (.int x2), .val (.int x3), .val (.int x4), .val (.int kk_340), .val (.int s1_351), .val (.int n1_361), .val (.int l1_371), .val (.int rm_381), .val (.int f2_390), .val (.int n2_406), .val (.int l2_416), .val (.ref b678), .val (.int n1_361), .val (.ref pa_716)] [(.int n1_361), (.int (5 : Int32)), (.ref pa_716)])) t
        refine XS.iload X834.here hx rfl (hb hby at_244) rfl ?_
        show Steps p.tables e below (T834.setTop (mkF m 246 #[.val (.int x0), .val (.int x1), .val (.int x2), .val (.int x3), .val (.int x4), .val (.int kk_340), .val (.int s1_351), .val (.int n1_361), .val (.int l1_371), .val (.int rm_381), .val (.int f2_390), .val (.int n2_406), .val (.int l2_416), .val (.ref b678), .val (.int n1_361), .val (.ref pa_716)] [(.int s1_351), (.int n1_361), (.int (5 : Int32)), (.ref pa_716)])) t
        refine XS.iload X834.here hx rfl (hb hby at_246) rfl ?_
        exact k)
      have q850 : 0 ≤ (5 : Int32).toInt ∧ (5 : Int32).toInt ≤ 7 ∧ 1 ≤ n1_361.toInt ∧ n1_361.toInt ≤ 4 := by
        have q851 := rng32 kk_340
        have q852 := (by decide : (0 : Int32).toInt = 0)
        have q853 := (by decide : (1 : Int32).toInt = 1)
        have q854 := rng32 n1_361
        have q855 := rng32 s1_351
        have q856 := rng32 f2_390
        have q857 := rng32 z_716
        have q858 := (by decide : (2 : Int32).toInt = 2)
        have q859 := (by decide : (3 : Int32).toInt = 3)
        have q860 := (by decide : (4 : Int32).toInt = 4)
        have q861 := (by decide : (5 : Int32).toInt = 5)
        omega
      obtain ⟨_, _, ⟨T862, L862, kk862, nn862⟩, -, X862, ⟨Lc862, hQ862, l862, y862, z862⟩, st862⟩ := Jvm.LawKit.callS X834 hx (y := (⟨"com/example/omegaprobe/omegaprobe/graph/StateSetsExpandPinLaw", "ok", "([IIIII)Z"⟩ : MethodName)) hown (mvT hZ (hw _ (List.mem_of_getElem? (i := 8) rfl))) (mvT hZ (hw _ (List.mem_of_getElem? (i := 9) rfl))) (mvT hZ (hw _ (List.mem_of_getElem? (i := 10) rfl))) (mvT hZ (hw _ (List.mem_of_getElem? (i := 11) rfl))) (by decide) (backOf (W := 0) (rm2 l Z a0 hw [] pa_716 (5 : Int32) n1_361 s1_351 f2_390 z_716 f_716 h716 n0 Z723 Pc716_1 q850 hok) hZ (hw _ (List.mem_of_getElem? (i := 11) rfl)) (hw _ (List.mem_of_getElem? (i := 10) rfl)) (by decide) (by decide)) (g := (mkF m 248 #[.val (.int x0), .val (.int x1), .val (.int x2), .val (.int x3), .val (.int x4), .val (.int kk_340), .val (.int s1_351), .val (.int n1_361), .val (.int l1_371), .val (.int rm_381), .val (.int f2_390), .val (.int n2_406), .val (.int l2_416), .val (.ref b678), .val (.int n1_361), .val (.ref pa_716)] [(.int f2_390), (.int s1_351), (.int n1_361), (.int (5 : Int32)), (.ref pa_716)])) rfl (by rw [hml]; rfl) (argsL := [(.ref pa_716), (.int (5 : Int32)), (.int n1_361), (.int s1_351), (.int f2_390)]) (rest := []) (lenOf own_pd1 rfl) rfl (by show 2 * 0 + _ ≤ _; exact Nat.le_of_eq rfl) (hb hby at_248) (fun _ _ => ⟨rfl, eh834, (by decide : 2 + 0 ≤ _), (by decide : 10 + 0 ≤ _)⟩)
      dsimp only [Pt.U, Pt.locs, Pt.cells, Pt.slots] at X862 l862 y862 z862 st862 hQ862
      subst l862 y862 z862
      obtain ⟨r_862, rfl, Sp862, Nq862, eh862⟩ := hQ862
      have N863 := Fr.app N835 Nq862
      have K864 : ∀ t, Steps p.tables e below (T862.setTop (mkF m 251 #[.val (.int x0), .val (.int x1), .val (.int x2), .val (.int x3), .val (.int x4), .val (.int kk_340), .val (.int s1_351), .val (.int n1_361), .val (.int l1_371), .val (.int rm_381), .val (.int f2_390), .val (.int n2_406), .val (.int l2_416), .val (.ref b678), .val (.int n1_361), .val (.ref pa_716)] [(.int r_862)])) t → Steps p.tables e below (s₁.setTop (entryFrame m #[(.int x0), (.int x1), (.int x2), (.int x3), (.int x4)] maxLocals)) t := fun t k => K849 t (st862 _ k)
      have hc865 : ¬ (r_862 = (0 : Int32)) := by
        have q866 := rng32 kk_340
        have q867 := (by decide : (0 : Int32).toInt = 0)
        have q868 := (by decide : (1 : Int32).toInt = 1)
        have q869 := rng32 n1_361
        have q870 := rng32 s1_351
        have q871 := rng32 f2_390
        have q872 := rng32 z_716
        have q873 := (by decide : (2 : Int32).toInt = 2)
        have q874 := (by decide : (3 : Int32).toInt = 3)
        have q875 := (by decide : (4 : Int32).toInt = 4)
        have q876 := (by decide : (5 : Int32).toInt = 5)
        have q877 := rng32 r_862
        intro q; have q2 := congrArg Int32.toInt q; omega
      have K878 : ∀ t, Steps p.tables e below (T862.setTop (mkF m 264 #[.val (.int x0), .val (.int x1), .val (.int x2), .val (.int x3), .val (.int x4), .val (.int kk_340), .val (.int s1_351), .val (.int n1_361), .val (.int l1_371), .val (.int rm_381), .val (.int f2_390), .val (.int n2_406), .val (.int l2_416), .val (.ref b678), .val (.int n1_361), .val (.ref pa_716)] [(.int f2_390), (.int s1_351), (.int n1_361), (.int (6 : Int32)), (.ref pa_716)])) t → Steps p.tables e below (s₁.setTop (entryFrame m #[(.int x0), (.int x1), (.int x2), (.int x3), (.int x4)] maxLocals)) t := fun t k => K864 t (by
        show Steps p.tables e below (T862.setTop (mkF m 251 #[.val (.int x0), .val (.int x1), .val (.int x2), .val (.int x3), .val (.int x4), .val (.int kk_340), .val (.int s1_351), .val (.int n1_361), .val (.int l1_371), .val (.int rm_381), .val (.int f2_390), .val (.int n2_406), .val (.int l2_416), .val (.ref b678), .val (.int n1_361), .val (.ref pa_716)] [(.int r_862)])) t
        refine XS.ifNo X862.here hx rfl (hb hby at_251) rfl ((if0 _ _).trans (feq hc865).1) ?_
        show Steps p.tables e below (T862.setTop (mkF m 254 #[.val (.int x0), .val (.int x1), .val (.int x2), .val (.int x3), .val (.int x4), .val (.int kk_340), .val (.int s1_351), .val (.int n1_361), .val (.int l1_371), .val (.int rm_381), .val (.int f2_390), .val (.int n2_406), .val (.int l2_416), .val (.ref b678), .val (.int n1_361), .val (.ref pa_716)] [])) t
        refine XS.aload X862.here hx rfl (hb hby at_254) rfl rfl ?_
        show Steps p.tables e below (T862.setTop (mkF m 256 #[.val (.int x0), .val (.int x1), .val (.int x2), .val (.int x3), .val (.int x4), .val (.int kk_340), .val (.int s1_351), .val (.int n1_361), .val (.int l1_371), .val (.int rm_381), .val (.int f2_390), .val (.int n2_406), .val (.int l2_416), .val (.ref b678), .val (.int n1_361), .val (.ref pa_716)] [(.ref pa_716)])) t
        refine XS.bipush X862.here hx rfl (hb hby at_256) ?_
        show Steps p.tables e below (T862.setTop (mkF m 258 #[.val (.int x0), .val (.int x1), .val (.int x2), .val (.int x3), .val (.int x4), .val (.int kk_340), .val (.int s1_351), .val (.int n1_361), .val (.int l1_371), .val (.int rm_381), .val (.int f2_390), .val (.int n2_406), .val (.int l2_416), .val (.ref b678), .val (.int n1_361), .val (.ref pa_716)] [(.int (6 : Int32)), (.ref pa_716)])) t
        refine XS.iload X862.here hx rfl (hb hby at_258) rfl ?_
        show Steps p.tables e below (T862.setTop (mkF m 260 #[.val (.int x0), .val (.int x1), .val (.int x2), .val (.int x3), .val (.int x4), .val (.int kk_340), .val (.int s1_351), .val (.int n1_361), .val (.int l1_371), .val (.int rm_381), .val (.int f2_390), .val (.int n2_406), .val (.int l2_416), .val (.ref b678), .val (.int n1_361), .val (.ref pa_716)] [(.int n1_361), (.int (6 : Int32)), (.ref pa_716)])) t
        refine XS.iload X862.here hx rfl (hb hby at_260) rfl ?_
        show Steps p.tables e below (T862.setTop (mkF m 262 #[.val (.int x0), .val (.int x1), .val (.int x2), .val (.int x3), .val (.int x4), .val (.int kk_340), .val (.int s1_351), .val (.int n1_361), .val (.int l1_371), .val (.int rm_381), .val (.int f2_390), .val (.int n2_406), .val (.int l2_416), .val (.ref b678), .val (.int n1_361), .val (.ref pa_716)] [(.int s1_351), (.int n1_361), (.int (6 : Int32)), (.ref pa_716)])) t
        refine XS.iload X862.here hx rfl (hb hby at_262) rfl ?_
        exact k)
      have q879 : 0 ≤ (6 : Int32).toInt ∧ (6 : Int32).toInt ≤ 7 ∧ 1 ≤ n1_361.toInt ∧ n1_361.toInt ≤ 4 := by
        have q880 := rng32 kk_340
        have q881 := (by decide : (0 : Int32).toInt = 0)
        have q882 := (by decide : (1 : Int32).toInt = 1)
        have q883 := rng32 n1_361
        have q884 := rng32 s1_351
        have q885 := rng32 f2_390
        have q886 := rng32 z_716
        have q887 := (by decide : (2 : Int32).toInt = 2)
        have q888 := (by decide : (3 : Int32).toInt = 3)
        have q889 := (by decide : (4 : Int32).toInt = 4)
        have q890 := (by decide : (5 : Int32).toInt = 5)
        have q891 := (by decide : (6 : Int32).toInt = 6)
        omega
      obtain ⟨_, _, ⟨T892, L892, kk892, nn892⟩, -, X892, ⟨Lc892, hQ892, l892, y892, z892⟩, st892⟩ := Jvm.LawKit.callS X862 hx (y := (⟨"com/example/omegaprobe/omegaprobe/graph/StateSetsExpandPinLaw", "ok", "([IIIII)Z"⟩ : MethodName)) hown (mvT hZ (hw _ (List.mem_of_getElem? (i := 8) rfl))) (mvT hZ (hw _ (List.mem_of_getElem? (i := 9) rfl))) (mvT hZ (hw _ (List.mem_of_getElem? (i := 10) rfl))) (mvT hZ (hw _ (List.mem_of_getElem? (i := 11) rfl))) (by decide) (backOf (W := 0) (rm2 l Z a0 hw [] pa_716 (6 : Int32) n1_361 s1_351 f2_390 z_716 f_716 h716 n0 Z723 Pc716_1 q879 hok) hZ (hw _ (List.mem_of_getElem? (i := 11) rfl)) (hw _ (List.mem_of_getElem? (i := 10) rfl)) (by decide) (by decide)) (g := (mkF m 264 #[.val (.int x0), .val (.int x1), .val (.int x2), .val (.int x3), .val (.int x4), .val (.int kk_340), .val (.int s1_351), .val (.int n1_361), .val (.int l1_371), .val (.int rm_381), .val (.int f2_390), .val (.int n2_406), .val (.int l2_416), .val (.ref b678), .val (.int n1_361), .val (.ref pa_716)] [(.int f2_390), (.int s1_351), (.int n1_361), (.int (6 : Int32)), (.ref pa_716)])) rfl (by rw [hml]; rfl) (argsL := [(.ref pa_716), (.int (6 : Int32)), (.int n1_361), (.int s1_351), (.int f2_390)]) (rest := []) (lenOf own_pd1 rfl) rfl (by show 2 * 0 + _ ≤ _; exact Nat.le_of_eq rfl) (hb hby at_264) (fun _ _ => ⟨rfl, eh862, (by decide : 2 + 0 ≤ _), (by decide : 10 + 0 ≤ _)⟩)
      dsimp only [Pt.U, Pt.locs, Pt.cells, Pt.slots] at X892 l892 y892 z892 st892 hQ892
      subst l892 y892 z892
      obtain ⟨r_892, rfl, Sp892, Nq892, eh892⟩ := hQ892
      have N893 := Fr.app N863 Nq892
      have K894 : ∀ t, Steps p.tables e below (T892.setTop (mkF m 267 #[.val (.int x0), .val (.int x1), .val (.int x2), .val (.int x3), .val (.int x4), .val (.int kk_340), .val (.int s1_351), .val (.int n1_361), .val (.int l1_371), .val (.int rm_381), .val (.int f2_390), .val (.int n2_406), .val (.int l2_416), .val (.ref b678), .val (.int n1_361), .val (.ref pa_716)] [(.int r_892)])) t → Steps p.tables e below (s₁.setTop (entryFrame m #[(.int x0), (.int x1), (.int x2), (.int x3), (.int x4)] maxLocals)) t := fun t k => K878 t (st892 _ k)
      have hc895 : ¬ (r_892 = (0 : Int32)) := by
        have q896 := rng32 kk_340
        have q897 := (by decide : (0 : Int32).toInt = 0)
        have q898 := (by decide : (1 : Int32).toInt = 1)
        have q899 := rng32 n1_361
        have q900 := rng32 s1_351
        have q901 := rng32 f2_390
        have q902 := rng32 z_716
        have q903 := (by decide : (2 : Int32).toInt = 2)
        have q904 := (by decide : (3 : Int32).toInt = 3)
        have q905 := (by decide : (4 : Int32).toInt = 4)
        have q906 := (by decide : (5 : Int32).toInt = 5)
        have q907 := (by decide : (6 : Int32).toInt = 6)
        have q908 := rng32 r_892
        intro q; have q2 := congrArg Int32.toInt q; omega
      have K909 : ∀ t, Steps p.tables e below (T892.setTop (mkF m 280 #[.val (.int x0), .val (.int x1), .val (.int x2), .val (.int x3), .val (.int x4), .val (.int kk_340), .val (.int s1_351), .val (.int n1_361), .val (.int l1_371), .val (.int rm_381), .val (.int f2_390), .val (.int n2_406), .val (.int l2_416), .val (.ref b678), .val (.int n1_361), .val (.ref pa_716)] [(.int f2_390), (.int s1_351), (.int n1_361), (.int (7 : Int32)), (.ref pa_716)])) t → Steps p.tables e below (s₁.setTop (entryFrame m #[(.int x0), (.int x1), (.int x2), (.int x3), (.int x4)] maxLocals)) t := fun t k => K894 t (by
        show Steps p.tables e below (T892.setTop (mkF m 267 #[.val (.int x0), .val (.int x1), .val (.int x2), .val (.int x3), .val (.int x4), .val (.int kk_340), .val (.int s1_351), .val (.int n1_361), .val (.int l1_371), .val (.int rm_381), .val (.int f2_390), .val (.int n2_406), .val (.int l2_416), .val (.ref b678), .val (.int n1_361), .val (.ref pa_716)] [(.int r_892)])) t
        refine XS.ifNo X892.here hx rfl (hb hby at_267) rfl ((if0 _ _).trans (feq hc895).1) ?_
        show Steps p.tables e below (T892.setTop (mkF m 270 #[.val (.int x0), .val (.int x1), .val (.int x2), .val (.int x3), .val (.int x4), .val (.int kk_340), .val (.int s1_351), .val (.int n1_361), .val (.int l1_371), .val (.int rm_381), .val (.int f2_390), .val (.int n2_406), .val (.int l2_416), .val (.ref b678), .val (.int n1_361), .val (.ref pa_716)] [])) t
        refine XS.aload X892.here hx rfl (hb hby at_270) rfl rfl ?_
        show Steps p.tables e below (T892.setTop (mkF m 272 #[.val (.int x0), .val (.int x1), .val (.int x2), .val (.int x3), .val (.int x4), .val (.int kk_340), .val (.int s1_351), .val (.int n1_361), .val (.int l1_371), .val (.int rm_381), .val (.int f2_390), .val (.int n2_406), .val (.int l2_416), .val (.ref b678), .val (.int n1_361), .val (.ref pa_716)] [(.ref pa_716)])) t
        refine XS.bipush X892.here hx rfl (hb hby at_272) ?_
        show Steps p.tables e below (T892.setTop (mkF m 274 #[.val (.int x0), .val (.int x1), .val (.int x2), .val (.int x3), .val (.int x4), .val (.int kk_340), .val (.int s1_351), .val (.int n1_361), .val (.int l1_371), .val (.int rm_381), .val (.int f2_390), .val (.int n2_406), .val (.int l2_416), .val (.ref b678), .val (.int n1_361), .val (.ref pa_716)] [(.int (7 : Int32)), (.ref pa_716)])) t
        refine XS.iload X892.here hx rfl (hb hby at_274) rfl ?_
        show Steps p.tables e below (T892.setTop (mkF m 276 #[.val (.int x0), .val (.int x1), .val (.int x2), .val (.int x3), .val (.int x4), .val (.int kk_340), .val (.int s1_351), .val (.int n1_361), .val (.int l1_371), .val (.int rm_381), .val (.int f2_390), .val (.int n2_406), .val (.int l2_416), .val (.ref b678), .val (.int n1_361), .val (.ref pa_716)] [(.int n1_361), (.int (7 : Int32)), (.ref pa_716)])) t
        refine XS.iload X892.here hx rfl (hb hby at_276) rfl ?_
        show Steps p.tables e below (T892.setTop (mkF m 278 #[.val (.int x0), .val (.int x1), .val (.int x2), .val (.int x3), .val (.int x4), .val (.int kk_340), .val (.int s1_351), .val (.int n1_361), .val (.int l1_371), .val (.int rm_381), .val (.int f2_390), .val (.int n2_406), .val (.int l2_416), .val (.ref b678), .val (.int n1_361), .val (.ref pa_716)] [(.int s1_351), (.int n1_361), (.int (7 : Int32)), (.ref pa_716)])) t
        refine XS.iload X892.here hx rfl (hb hby at_278) rfl ?_
        exact k)
      have q910 : 0 ≤ (7 : Int32).toInt ∧ (7 : Int32).toInt ≤ 7 ∧ 1 ≤ n1_361.toInt ∧ n1_361.toInt ≤ 4 := by
        have q911 := rng32 kk_340
        have q912 := (by decide : (0 : Int32).toInt = 0)
        have q913 := (by decide : (1 : Int32).toInt = 1)
        have q914 := rng32 n1_361
        have q915 := rng32 s1_351
        have q916 := rng32 f2_390
        have q917 := rng32 z_716
        have q918 := (by decide : (2 : Int32).toInt = 2)
        have q919 := (by decide : (3 : Int32).toInt = 3)
        have q920 := (by decide : (4 : Int32).toInt = 4)
        have q921 := (by decide : (5 : Int32).toInt = 5)
        have q922 := (by decide : (6 : Int32).toInt = 6)
        have q923 := (by decide : (7 : Int32).toInt = 7)
        omega
      obtain ⟨_, _, ⟨T924, L924, kk924, nn924⟩, -, X924, ⟨Lc924, hQ924, l924, y924, z924⟩, st924⟩ := Jvm.LawKit.callS X892 hx (y := (⟨"com/example/omegaprobe/omegaprobe/graph/StateSetsExpandPinLaw", "ok", "([IIIII)Z"⟩ : MethodName)) hown (mvT hZ (hw _ (List.mem_of_getElem? (i := 8) rfl))) (mvT hZ (hw _ (List.mem_of_getElem? (i := 9) rfl))) (mvT hZ (hw _ (List.mem_of_getElem? (i := 10) rfl))) (mvT hZ (hw _ (List.mem_of_getElem? (i := 11) rfl))) (by decide) (backOf (W := 0) (rm2 l Z a0 hw [] pa_716 (7 : Int32) n1_361 s1_351 f2_390 z_716 f_716 h716 n0 Z723 Pc716_1 q910 hok) hZ (hw _ (List.mem_of_getElem? (i := 11) rfl)) (hw _ (List.mem_of_getElem? (i := 10) rfl)) (by decide) (by decide)) (g := (mkF m 280 #[.val (.int x0), .val (.int x1), .val (.int x2), .val (.int x3), .val (.int x4), .val (.int kk_340), .val (.int s1_351), .val (.int n1_361), .val (.int l1_371), .val (.int rm_381), .val (.int f2_390), .val (.int n2_406), .val (.int l2_416), .val (.ref b678), .val (.int n1_361), .val (.ref pa_716)] [(.int f2_390), (.int s1_351), (.int n1_361), (.int (7 : Int32)), (.ref pa_716)])) rfl (by rw [hml]; rfl) (argsL := [(.ref pa_716), (.int (7 : Int32)), (.int n1_361), (.int s1_351), (.int f2_390)]) (rest := []) (lenOf own_pd1 rfl) rfl (by show 2 * 0 + _ ≤ _; exact Nat.le_of_eq rfl) (hb hby at_280) (fun _ _ => ⟨rfl, eh892, (by decide : 2 + 0 ≤ _), (by decide : 10 + 0 ≤ _)⟩)
      dsimp only [Pt.U, Pt.locs, Pt.cells, Pt.slots] at X924 l924 y924 z924 st924 hQ924
      subst l924 y924 z924
      obtain ⟨r_924, rfl, Sp924, Nq924, eh924⟩ := hQ924
      have N925 := Fr.app N893 Nq924
      have K926 : ∀ t, Steps p.tables e below (T924.setTop (mkF m 283 #[.val (.int x0), .val (.int x1), .val (.int x2), .val (.int x3), .val (.int x4), .val (.int kk_340), .val (.int s1_351), .val (.int n1_361), .val (.int l1_371), .val (.int rm_381), .val (.int f2_390), .val (.int n2_406), .val (.int l2_416), .val (.ref b678), .val (.int n1_361), .val (.ref pa_716)] [(.int r_924)])) t → Steps p.tables e below (s₁.setTop (entryFrame m #[(.int x0), (.int x1), (.int x2), (.int x3), (.int x4)] maxLocals)) t := fun t k => K909 t (st924 _ k)
      have hc927 : ¬ (r_924 = (0 : Int32)) := by
        have q928 := rng32 kk_340
        have q929 := (by decide : (0 : Int32).toInt = 0)
        have q930 := (by decide : (1 : Int32).toInt = 1)
        have q931 := rng32 n1_361
        have q932 := rng32 s1_351
        have q933 := rng32 f2_390
        have q934 := rng32 z_716
        have q935 := (by decide : (2 : Int32).toInt = 2)
        have q936 := (by decide : (3 : Int32).toInt = 3)
        have q937 := (by decide : (4 : Int32).toInt = 4)
        have q938 := (by decide : (5 : Int32).toInt = 5)
        have q939 := (by decide : (6 : Int32).toInt = 6)
        have q940 := (by decide : (7 : Int32).toInt = 7)
        have q941 := rng32 r_924
        intro q; have q2 := congrArg Int32.toInt q; omega
      have K942 : ∀ t, Steps p.tables e below (T924.setTop (mkF m 291 #[.val (.int x0), .val (.int x1), .val (.int x2), .val (.int x3), .val (.int x4), .val (.int kk_340), .val (.int s1_351), .val (.int n1_361), .val (.int l1_371), .val (.int rm_381), .val (.int f2_390), .val (.int n2_406), .val (.int l2_416), .val (.ref b678), .val (.int n1_361), .val (.ref pa_716)] [(.int (1 : Int32))])) t → Steps p.tables e below (s₁.setTop (entryFrame m #[(.int x0), (.int x1), (.int x2), (.int x3), (.int x4)] maxLocals)) t := fun t k => K926 t (by
        show Steps p.tables e below (T924.setTop (mkF m 283 #[.val (.int x0), .val (.int x1), .val (.int x2), .val (.int x3), .val (.int x4), .val (.int kk_340), .val (.int s1_351), .val (.int n1_361), .val (.int l1_371), .val (.int rm_381), .val (.int f2_390), .val (.int n2_406), .val (.int l2_416), .val (.ref b678), .val (.int n1_361), .val (.ref pa_716)] [(.int r_924)])) t
        refine XS.ifNo X924.here hx rfl (hb hby at_283) rfl ((if0 _ _).trans (feq hc927).1) ?_
        show Steps p.tables e below (T924.setTop (mkF m 286 #[.val (.int x0), .val (.int x1), .val (.int x2), .val (.int x3), .val (.int x4), .val (.int kk_340), .val (.int s1_351), .val (.int n1_361), .val (.int l1_371), .val (.int rm_381), .val (.int f2_390), .val (.int n2_406), .val (.int l2_416), .val (.ref b678), .val (.int n1_361), .val (.ref pa_716)] [])) t
        refine XS.iconst X924.here hx rfl (hb hby at_286) ?_
        show Steps p.tables e below (T924.setTop (mkF m 287 #[.val (.int x0), .val (.int x1), .val (.int x2), .val (.int x3), .val (.int x4), .val (.int kk_340), .val (.int s1_351), .val (.int n1_361), .val (.int l1_371), .val (.int rm_381), .val (.int f2_390), .val (.int n2_406), .val (.int l2_416), .val (.ref b678), .val (.int n1_361), .val (.ref pa_716)] [(.int (1 : Int32))])) t
        refine XS.goto X924.here hx rfl (pc0 := 287) (pc' := 291) rfl (hb hby at_287) (by decide) (by decide) ?_
        exact k)
      obtain ⟨fs, hr, hrun, hended, hW, hsame⟩ := X924.leave (v := some (.int (1 : Int32))) (fun h => by rw [Bd.returns] at h; cases h)
      refine ⟨_, _, K942 _ ?_, hrun, hended, _, _, rfl, ?_, ⟨_, rfl⟩, hW, hsame.mono (by decide) (by decide)⟩
      · exact retN X924 hx (t := .boolean) Bd.returns (by simp) (hb hby at_291) hr
      · show Q_rm0 Z x0 x1 x2 x3 x4 h0 n0 _ T924.heap _
        have q943 := rng32 kk_340
        have q944 := (by decide : (0 : Int32).toInt = 0)
        have q945 := (by decide : (1 : Int32).toInt = 1)
        have q946 := rng32 n1_361
        have q947 := rng32 s1_351
        have q948 := rng32 f2_390
        have q949 := rng32 z_716
        have q950 := (by decide : (2 : Int32).toInt = 2)
        have q951 := (by decide : (3 : Int32).toInt = 3)
        have q952 := (by decide : (4 : Int32).toInt = 4)
        have q953 := (by decide : (5 : Int32).toInt = 5)
        have q954 := (by decide : (6 : Int32).toInt = 6)
        have q955 := (by decide : (7 : Int32).toInt = 7)
        rw [eh924]
        exact ⟨rfl, (by trivial), N925, Kp722⟩
    · have q956 : ¬ kk_340.toInt = (1 : Int32).toInt := fun q => hc674 (Int32.toInt_inj.mp q)
      have K957 : ∀ t, Steps p.tables e below (s₁.setTop (mkF m 116 #[.val (.int x0), .val (.int x1), .val (.int x2), .val (.int x3), .val (.int x4), .val (.int kk_340), .val (.int s1_351), .val (.int n1_361), .val (.int l1_371), .val (.int rm_381), .val (.int f2_390), .val (.int n2_406), .val (.int l2_416), .unset, .unset, .unset] [(.int (4 : Int32))])) t → Steps p.tables e below (s₁.setTop (entryFrame m #[(.int x0), (.int x1), (.int x2), (.int x3), (.int x4)] maxLocals)) t := fun t k => K675 t (by
        show Steps p.tables e below (s₁.setTop (mkF m 90 #[.val (.int x0), .val (.int x1), .val (.int x2), .val (.int x3), .val (.int x4), .val (.int kk_340), .val (.int s1_351), .val (.int n1_361), .val (.int l1_371), .val (.int rm_381), .val (.int f2_390), .val (.int n2_406), .val (.int l2_416), .unset, .unset, .unset] [(.int (1 : Int32)), (.int kk_340)])) t
        refine XS.icmpYes X0.here hx rfl (pc0 := 90) (pc' := 115) rfl (hb hby at_90) rfl (feq hc674).2 (by decide) (by decide) ?_
        show Steps p.tables e below (s₁.setTop (mkF m 115 #[.val (.int x0), .val (.int x1), .val (.int x2), .val (.int x3), .val (.int x4), .val (.int kk_340), .val (.int s1_351), .val (.int n1_361), .val (.int l1_371), .val (.int rm_381), .val (.int f2_390), .val (.int n2_406), .val (.int l2_416), .unset, .unset, .unset] [])) t
        refine XS.iconst X0.here hx rfl (hb hby at_115) ?_
        exact k)
      obtain ⟨T958, h958, k958, X958, e958, E958, A958, st958⟩ := newP X0 hx hZ (hw _ (List.mem_of_getElem? (i := 3) rfl)) e0 (g := (mkF m 116 #[.val (.int x0), .val (.int x1), .val (.int x2), .val (.int x3), .val (.int x4), .val (.int kk_340), .val (.int s1_351), .val (.int n1_361), .val (.int l1_371), .val (.int rm_381), .val (.int f2_390), .val (.int n2_406), .val (.int l2_416), .unset, .unset, .unset] [(.int (4 : Int32))])) rfl (hb hby at_116) rfl (by decide) (cap := 4) (by decide) (by decide) (by decide) (by decide)
      obtain ⟨b958, g958⟩ : ∃ z, z = h0.size := ⟨_, rfl⟩
      rw [← g958] at A958 st958
      have gb959 : own_Le n0 b958 := Nat.le_trans Z0 (Nat.le_of_eq g958.symm)
      have sb960 : own_Le h0.size b958 := Nat.le_trans (Keep.refl h0 []).1 (Nat.le_of_eq g958.symm)
      have Z961 : own_Le n0 h958.size := Nat.le_trans Z0 E958.1
      have Kp962 : Keep h0 h958 [] := Keep.ext (Keep.refl h0 []) E958
      have V963 : own_Arf Z h958 b958 .int (4 : Int32) (fun _ => (0 : Int32)) := own_Arf.new A958 (by decide) rfl
      have K964 : ∀ t, Steps p.tables e below (T958.setTop (mkF m 118 #[.val (.int x0), .val (.int x1), .val (.int x2), .val (.int x3), .val (.int x4), .val (.int kk_340), .val (.int s1_351), .val (.int n1_361), .val (.int l1_371), .val (.int rm_381), .val (.int f2_390), .val (.int n2_406), .val (.int l2_416), .unset, .unset, .unset] [(.ref b958)])) t → Steps p.tables e below (s₁.setTop (entryFrame m #[(.int x0), (.int x1), (.int x2), (.int x3), (.int x4)] maxLocals)) t := fun t k => K957 t (st958 _ k)
      have K965 : ∀ t, Steps p.tables e below (T958.setTop (mkF m 122 #[.val (.int x0), .val (.int x1), .val (.int x2), .val (.int x3), .val (.int x4), .val (.int kk_340), .val (.int s1_351), .val (.int n1_361), .val (.int l1_371), .val (.int rm_381), .val (.int f2_390), .val (.int n2_406), .val (.int l2_416), .unset, .unset, .unset] [(.int s1_351), (.int (0 : Int32)), (.ref b958), (.ref b958)])) t → Steps p.tables e below (s₁.setTop (entryFrame m #[(.int x0), (.int x1), (.int x2), (.int x3), (.int x4)] maxLocals)) t := fun t k => K964 t (by
        show Steps p.tables e below (T958.setTop (mkF m 118 #[.val (.int x0), .val (.int x1), .val (.int x2), .val (.int x3), .val (.int x4), .val (.int kk_340), .val (.int s1_351), .val (.int n1_361), .val (.int l1_371), .val (.int rm_381), .val (.int f2_390), .val (.int n2_406), .val (.int l2_416), .unset, .unset, .unset] [(.ref b958)])) t
        refine XS.dup X958.here hx rfl (hb hby at_118) rfl rfl ?_
        show Steps p.tables e below (T958.setTop (mkF m 119 #[.val (.int x0), .val (.int x1), .val (.int x2), .val (.int x3), .val (.int x4), .val (.int kk_340), .val (.int s1_351), .val (.int n1_361), .val (.int l1_371), .val (.int rm_381), .val (.int f2_390), .val (.int n2_406), .val (.int l2_416), .unset, .unset, .unset] [(.ref b958), (.ref b958)])) t
        refine XS.iconst X958.here hx rfl (hb hby at_119) ?_
        show Steps p.tables e below (T958.setTop (mkF m 120 #[.val (.int x0), .val (.int x1), .val (.int x2), .val (.int x3), .val (.int x4), .val (.int kk_340), .val (.int s1_351), .val (.int n1_361), .val (.int l1_371), .val (.int rm_381), .val (.int f2_390), .val (.int n2_406), .val (.int l2_416), .unset, .unset, .unset] [(.int (0 : Int32)), (.ref b958), (.ref b958)])) t
        refine XS.iload X958.here hx rfl (hb hby at_120) rfl ?_
        exact k)
      have q967 : ¬ (0 : Int32) < 0 ∧ (0 : Int32) < (4 : Int32) := by
        have q968 := rng32 kk_340
        have q969 := (by decide : (0 : Int32).toInt = 0)
        have q970 := (by decide : (1 : Int32).toInt = 1)
        have q971 := (by decide : (4 : Int32).toInt = 4)
        rw [Int32.lt_iff_toInt_lt, Int32.lt_iff_toInt_lt]; have q0 : (0 : Int32).toInt = 0 := rfl; omega
      obtain ⟨cl966, Ar966, S966, N966, Hs966⟩ := id V963
      have hin966 : ¬ ((0 : Int32) < 0 ∨ cl966.slots.size ≤ ((0 : Int32)).toNatClampNeg) := inb_of S966 q967
      obtain ⟨T966, h966, X966, e966, W966, st966⟩ := stI X958 hx hZ e958 Ar966 (j := (0 : Int32)) hin966 (g := (mkF m 122 #[.val (.int x0), .val (.int x1), .val (.int x2), .val (.int x3), .val (.int x4), .val (.int kk_340), .val (.int s1_351), .val (.int n1_361), .val (.int l1_371), .val (.int rm_381), .val (.int f2_390), .val (.int n2_406), .val (.int l2_416), .unset, .unset, .unset] [(.int s1_351), (.int (0 : Int32)), (.ref b958), (.ref b958)])) rfl rfl (hb hby at_122)
      obtain ⟨f973, hf973⟩ : ∃ fnew : Nat → Int32, fnew = fun i => if i = 0 then s1_351 else (fun _ => (0 : Int32)) i := ⟨_, rfl⟩
      have V972 : own_Arf Z h966 b958 .int (4 : Int32) f973 := own_Arf.set Ar966 S966 N966 Hs966 W966 rfl hf973
      have Kp974 : Keep h0 h966 [] := Keep.wr Kp962 W966 (Or.inr sb960)
      have Z975 : own_Le n0 h966.size := Nat.le_trans Z961 (Keep.of_wr W966).1
      have N976 := Fr.snoc X966 N0 gb959
      have K977 : ∀ t, Steps p.tables e below (T966.setTop (mkF m 123 #[.val (.int x0), .val (.int x1), .val (.int x2), .val (.int x3), .val (.int x4), .val (.int kk_340), .val (.int s1_351), .val (.int n1_361), .val (.int l1_371), .val (.int rm_381), .val (.int f2_390), .val (.int n2_406), .val (.int l2_416), .unset, .unset, .unset] [(.ref b958)])) t → Steps p.tables e below (s₁.setTop (entryFrame m #[(.int x0), (.int x1), (.int x2), (.int x3), (.int x4)] maxLocals)) t := fun t k => K965 t (st966 _ k)
      have K978 : ∀ t, Steps p.tables e below (T966.setTop (mkF m 127 #[.val (.int x0), .val (.int x1), .val (.int x2), .val (.int x3), .val (.int x4), .val (.int kk_340), .val (.int s1_351), .val (.int n1_361), .val (.int l1_371), .val (.int rm_381), .val (.int f2_390), .val (.int n2_406), .val (.int l2_416), .unset, .unset, .unset] [(.int l1_371), (.int (1 : Int32)), (.ref b958), (.ref b958)])) t → Steps p.tables e below (s₁.setTop (entryFrame m #[(.int x0), (.int x1), (.int x2), (.int x3), (.int x4)] maxLocals)) t := fun t k => K977 t (by
        show Steps p.tables e below (T966.setTop (mkF m 123 #[.val (.int x0), .val (.int x1), .val (.int x2), .val (.int x3), .val (.int x4), .val (.int kk_340), .val (.int s1_351), .val (.int n1_361), .val (.int l1_371), .val (.int rm_381), .val (.int f2_390), .val (.int n2_406), .val (.int l2_416), .unset, .unset, .unset] [(.ref b958)])) t
        refine XS.dup X966.here hx rfl (hb hby at_123) rfl rfl ?_
        show Steps p.tables e below (T966.setTop (mkF m 124 #[.val (.int x0), .val (.int x1), .val (.int x2), .val (.int x3), .val (.int x4), .val (.int kk_340), .val (.int s1_351), .val (.int n1_361), .val (.int l1_371), .val (.int rm_381), .val (.int f2_390), .val (.int n2_406), .val (.int l2_416), .unset, .unset, .unset] [(.ref b958), (.ref b958)])) t
        refine XS.iconst X966.here hx rfl (hb hby at_124) ?_
        show Steps p.tables e below (T966.setTop (mkF m 125 #[.val (.int x0), .val (.int x1), .val (.int x2), .val (.int x3), .val (.int x4), .val (.int kk_340), .val (.int s1_351), .val (.int n1_361), .val (.int l1_371), .val (.int rm_381), .val (.int f2_390), .val (.int n2_406), .val (.int l2_416), .unset, .unset, .unset] [(.int (1 : Int32)), (.ref b958), (.ref b958)])) t
        refine XS.iload X966.here hx rfl (hb hby at_125) rfl ?_
        exact k)
      have q980 : ¬ (1 : Int32) < 0 ∧ (1 : Int32) < (4 : Int32) := by
        have q981 := rng32 kk_340
        have q982 := (by decide : (0 : Int32).toInt = 0)
        have q983 := (by decide : (1 : Int32).toInt = 1)
        have q984 := (by decide : (4 : Int32).toInt = 4)
        rw [Int32.lt_iff_toInt_lt, Int32.lt_iff_toInt_lt]; have q0 : (0 : Int32).toInt = 0 := rfl; omega
      obtain ⟨cl979, Ar979, S979, N979, Hs979⟩ := id V972
      have hin979 : ¬ ((1 : Int32) < 0 ∨ cl979.slots.size ≤ ((1 : Int32)).toNatClampNeg) := inb_of S979 q980
      obtain ⟨T979, h979, X979, e979, W979, st979⟩ := stI X966 hx hZ e966 Ar979 (j := (1 : Int32)) hin979 (g := (mkF m 127 #[.val (.int x0), .val (.int x1), .val (.int x2), .val (.int x3), .val (.int x4), .val (.int kk_340), .val (.int s1_351), .val (.int n1_361), .val (.int l1_371), .val (.int rm_381), .val (.int f2_390), .val (.int n2_406), .val (.int l2_416), .unset, .unset, .unset] [(.int l1_371), (.int (1 : Int32)), (.ref b958), (.ref b958)])) rfl rfl (hb hby at_127)
      obtain ⟨f986, hf986⟩ : ∃ fnew : Nat → Int32, fnew = fun i => if i = 1 then l1_371 else f973 i := ⟨_, rfl⟩
      have V985 : own_Arf Z h979 b958 .int (4 : Int32) f986 := own_Arf.set Ar979 S979 N979 Hs979 W979 rfl hf986
      have Kp987 : Keep h0 h979 [] := Keep.wr Kp974 W979 (Or.inr sb960)
      have Z988 : own_Le n0 h979.size := Nat.le_trans Z975 (Keep.of_wr W979).1
      have N989 := Fr.snoc X979 N976 gb959
      have K990 : ∀ t, Steps p.tables e below (T979.setTop (mkF m 128 #[.val (.int x0), .val (.int x1), .val (.int x2), .val (.int x3), .val (.int x4), .val (.int kk_340), .val (.int s1_351), .val (.int n1_361), .val (.int l1_371), .val (.int rm_381), .val (.int f2_390), .val (.int n2_406), .val (.int l2_416), .unset, .unset, .unset] [(.ref b958)])) t → Steps p.tables e below (s₁.setTop (entryFrame m #[(.int x0), (.int x1), (.int x2), (.int x3), (.int x4)] maxLocals)) t := fun t k => K978 t (st979 _ k)
      have K991 : ∀ t, Steps p.tables e below (T979.setTop (mkF m 132 #[.val (.int x0), .val (.int x1), .val (.int x2), .val (.int x3), .val (.int x4), .val (.int kk_340), .val (.int s1_351), .val (.int n1_361), .val (.int l1_371), .val (.int rm_381), .val (.int f2_390), .val (.int n2_406), .val (.int l2_416), .unset, .unset, .unset] [(.int f2_390), (.int (2 : Int32)), (.ref b958), (.ref b958)])) t → Steps p.tables e below (s₁.setTop (entryFrame m #[(.int x0), (.int x1), (.int x2), (.int x3), (.int x4)] maxLocals)) t := fun t k => K990 t (by
        show Steps p.tables e below (T979.setTop (mkF m 128 #[.val (.int x0), .val (.int x1), .val (.int x2), .val (.int x3), .val (.int x4), .val (.int kk_340), .val (.int s1_351), .val (.int n1_361), .val (.int l1_371), .val (.int rm_381), .val (.int f2_390), .val (.int n2_406), .val (.int l2_416), .unset, .unset, .unset] [(.ref b958)])) t
        refine XS.dup X979.here hx rfl (hb hby at_128) rfl rfl ?_
        show Steps p.tables e below (T979.setTop (mkF m 129 #[.val (.int x0), .val (.int x1), .val (.int x2), .val (.int x3), .val (.int x4), .val (.int kk_340), .val (.int s1_351), .val (.int n1_361), .val (.int l1_371), .val (.int rm_381), .val (.int f2_390), .val (.int n2_406), .val (.int l2_416), .unset, .unset, .unset] [(.ref b958), (.ref b958)])) t
        refine XS.iconst X979.here hx rfl (hb hby at_129) ?_
        show Steps p.tables e below (T979.setTop (mkF m 130 #[.val (.int x0), .val (.int x1), .val (.int x2), .val (.int x3), .val (.int x4), .val (.int kk_340), .val (.int s1_351), .val (.int n1_361), .val (.int l1_371), .val (.int rm_381), .val (.int f2_390), .val (.int n2_406), .val (.int l2_416), .unset, .unset, .unset] [(.int (2 : Int32)), (.ref b958), (.ref b958)])) t
        refine XS.iload X979.here hx rfl (hb hby at_130) rfl ?_
        exact k)
      have q993 : ¬ (2 : Int32) < 0 ∧ (2 : Int32) < (4 : Int32) := by
        have q994 := rng32 kk_340
        have q995 := (by decide : (0 : Int32).toInt = 0)
        have q996 := (by decide : (1 : Int32).toInt = 1)
        have q997 := (by decide : (2 : Int32).toInt = 2)
        have q998 := (by decide : (4 : Int32).toInt = 4)
        rw [Int32.lt_iff_toInt_lt, Int32.lt_iff_toInt_lt]; have q0 : (0 : Int32).toInt = 0 := rfl; omega
      obtain ⟨cl992, Ar992, S992, N992, Hs992⟩ := id V985
      have hin992 : ¬ ((2 : Int32) < 0 ∨ cl992.slots.size ≤ ((2 : Int32)).toNatClampNeg) := inb_of S992 q993
      obtain ⟨T992, h992, X992, e992, W992, st992⟩ := stI X979 hx hZ e979 Ar992 (j := (2 : Int32)) hin992 (g := (mkF m 132 #[.val (.int x0), .val (.int x1), .val (.int x2), .val (.int x3), .val (.int x4), .val (.int kk_340), .val (.int s1_351), .val (.int n1_361), .val (.int l1_371), .val (.int rm_381), .val (.int f2_390), .val (.int n2_406), .val (.int l2_416), .unset, .unset, .unset] [(.int f2_390), (.int (2 : Int32)), (.ref b958), (.ref b958)])) rfl rfl (hb hby at_132)
      obtain ⟨f1000, hf1000⟩ : ∃ fnew : Nat → Int32, fnew = fun i => if i = 2 then f2_390 else f986 i := ⟨_, rfl⟩
      have V999 : own_Arf Z h992 b958 .int (4 : Int32) f1000 := own_Arf.set Ar992 S992 N992 Hs992 W992 rfl hf1000
      have Kp1001 : Keep h0 h992 [] := Keep.wr Kp987 W992 (Or.inr sb960)
      have Z1002 : own_Le n0 h992.size := Nat.le_trans Z988 (Keep.of_wr W992).1
      have N1003 := Fr.snoc X992 N989 gb959
      have K1004 : ∀ t, Steps p.tables e below (T992.setTop (mkF m 133 #[.val (.int x0), .val (.int x1), .val (.int x2), .val (.int x3), .val (.int x4), .val (.int kk_340), .val (.int s1_351), .val (.int n1_361), .val (.int l1_371), .val (.int rm_381), .val (.int f2_390), .val (.int n2_406), .val (.int l2_416), .unset, .unset, .unset] [(.ref b958)])) t → Steps p.tables e below (s₁.setTop (entryFrame m #[(.int x0), (.int x1), (.int x2), (.int x3), (.int x4)] maxLocals)) t := fun t k => K991 t (st992 _ k)
      have K1005 : ∀ t, Steps p.tables e below (T992.setTop (mkF m 137 #[.val (.int x0), .val (.int x1), .val (.int x2), .val (.int x3), .val (.int x4), .val (.int kk_340), .val (.int s1_351), .val (.int n1_361), .val (.int l1_371), .val (.int rm_381), .val (.int f2_390), .val (.int n2_406), .val (.int l2_416), .unset, .unset, .unset] [(.int l2_416), (.int (3 : Int32)), (.ref b958), (.ref b958)])) t → Steps p.tables e below (s₁.setTop (entryFrame m #[(.int x0), (.int x1), (.int x2), (.int x3), (.int x4)] maxLocals)) t := fun t k => K1004 t (by
        show Steps p.tables e below (T992.setTop (mkF m 133 #[.val (.int x0), .val (.int x1), .val (.int x2), .val (.int x3), .val (.int x4), .val (.int kk_340), .val (.int s1_351), .val (.int n1_361), .val (.int l1_371), .val (.int rm_381), .val (.int f2_390), .val (.int n2_406), .val (.int l2_416), .unset, .unset, .unset] [(.ref b958)])) t
        refine XS.dup X992.here hx rfl (hb hby at_133) rfl rfl ?_
        show Steps p.tables e below (T992.setTop (mkF m 134 #[.val (.int x0), .val (.int x1), .val (.int x2), .val (.int x3), .val (.int x4), .val (.int kk_340), .val (.int s1_351), .val (.int n1_361), .val (.int l1_371), .val (.int rm_381), .val (.int f2_390), .val (.int n2_406), .val (.int l2_416), .unset, .unset, .unset] [(.ref b958), (.ref b958)])) t
        refine XS.iconst X992.here hx rfl (hb hby at_134) ?_
        show Steps p.tables e below (T992.setTop (mkF m 135 #[.val (.int x0), .val (.int x1), .val (.int x2), .val (.int x3), .val (.int x4), .val (.int kk_340), .val (.int s1_351), .val (.int n1_361), .val (.int l1_371), .val (.int rm_381), .val (.int f2_390), .val (.int n2_406), .val (.int l2_416), .unset, .unset, .unset] [(.int (3 : Int32)), (.ref b958), (.ref b958)])) t
        refine XS.iload X992.here hx rfl (hb hby at_135) rfl ?_
        exact k)
      have q1007 : ¬ (3 : Int32) < 0 ∧ (3 : Int32) < (4 : Int32) := by
        have q1008 := rng32 kk_340
        have q1009 := (by decide : (0 : Int32).toInt = 0)
        have q1010 := (by decide : (1 : Int32).toInt = 1)
        have q1011 := (by decide : (3 : Int32).toInt = 3)
        have q1012 := (by decide : (4 : Int32).toInt = 4)
        rw [Int32.lt_iff_toInt_lt, Int32.lt_iff_toInt_lt]; have q0 : (0 : Int32).toInt = 0 := rfl; omega
      obtain ⟨cl1006, Ar1006, S1006, N1006, Hs1006⟩ := id V999
      have hin1006 : ¬ ((3 : Int32) < 0 ∨ cl1006.slots.size ≤ ((3 : Int32)).toNatClampNeg) := inb_of S1006 q1007
      obtain ⟨T1006, h1006, X1006, e1006, W1006, st1006⟩ := stI X992 hx hZ e992 Ar1006 (j := (3 : Int32)) hin1006 (g := (mkF m 137 #[.val (.int x0), .val (.int x1), .val (.int x2), .val (.int x3), .val (.int x4), .val (.int kk_340), .val (.int s1_351), .val (.int n1_361), .val (.int l1_371), .val (.int rm_381), .val (.int f2_390), .val (.int n2_406), .val (.int l2_416), .unset, .unset, .unset] [(.int l2_416), (.int (3 : Int32)), (.ref b958), (.ref b958)])) rfl rfl (hb hby at_137)
      obtain ⟨f1014, hf1014⟩ : ∃ fnew : Nat → Int32, fnew = fun i => if i = 3 then l2_416 else f1000 i := ⟨_, rfl⟩
      have V1013 : own_Arf Z h1006 b958 .int (4 : Int32) f1014 := own_Arf.set Ar1006 S1006 N1006 Hs1006 W1006 rfl hf1014
      have Kp1015 : Keep h0 h1006 [] := Keep.wr Kp1001 W1006 (Or.inr sb960)
      have Z1016 : own_Le n0 h1006.size := Nat.le_trans Z1002 (Keep.of_wr W1006).1
      have N1017 := Fr.snoc X1006 N1003 gb959
      have K1018 : ∀ t, Steps p.tables e below (T1006.setTop (mkF m 138 #[.val (.int x0), .val (.int x1), .val (.int x2), .val (.int x3), .val (.int x4), .val (.int kk_340), .val (.int s1_351), .val (.int n1_361), .val (.int l1_371), .val (.int rm_381), .val (.int f2_390), .val (.int n2_406), .val (.int l2_416), .unset, .unset, .unset] [(.ref b958)])) t → Steps p.tables e below (s₁.setTop (entryFrame m #[(.int x0), (.int x1), (.int x2), (.int x3), (.int x4)] maxLocals)) t := fun t k => K1005 t (st1006 _ k)
      have Rv0 : f1014 0 = s1_351 := by simp [hf973, hf986, hf1000, hf1014]
      have Rv1 : f1014 1 = l1_371 := by simp [hf973, hf986, hf1000, hf1014]
      have Rv2 : f1014 2 = f2_390 := by simp [hf973, hf986, hf1000, hf1014]
      have Rv3 : f1014 3 = l2_416 := by simp [hf973, hf986, hf1000, hf1014]
      have K1019 : ∀ t, Steps p.tables e below (T1006.setTop (mkF m 149 #[.val (.int x0), .val (.int x1), .val (.int x2), .val (.int x3), .val (.int x4), .val (.int kk_340), .val (.int s1_351), .val (.int n1_361), .val (.int l1_371), .val (.int rm_381), .val (.int f2_390), .val (.int n2_406), .val (.int l2_416), .val (.ref b958), .val (.int (n1_361 + n2_406)), .unset] [(.ref b958)])) t → Steps p.tables e below (s₁.setTop (entryFrame m #[(.int x0), (.int x1), (.int x2), (.int x3), (.int x4)] maxLocals)) t := fun t k => K1018 t (by
        show Steps p.tables e below (T1006.setTop (mkF m 138 #[.val (.int x0), .val (.int x1), .val (.int x2), .val (.int x3), .val (.int x4), .val (.int kk_340), .val (.int s1_351), .val (.int n1_361), .val (.int l1_371), .val (.int rm_381), .val (.int f2_390), .val (.int n2_406), .val (.int l2_416), .unset, .unset, .unset] [(.ref b958)])) t
        refine XS.astore X1006.here hx rfl (hb hby at_138) rfl rfl (l' := #[.val (.int x0), .val (.int x1), .val (.int x2), .val (.int x3), .val (.int x4), .val (.int kk_340), .val (.int s1_351), .val (.int n1_361), .val (.int l1_371), .val (.int rm_381), .val (.int f2_390), .val (.int n2_406), .val (.int l2_416), .val (.ref b958), .unset, .unset]) rfl ?_
        show Steps p.tables e below (T1006.setTop (mkF m 140 #[.val (.int x0), .val (.int x1), .val (.int x2), .val (.int x3), .val (.int x4), .val (.int kk_340), .val (.int s1_351), .val (.int n1_361), .val (.int l1_371), .val (.int rm_381), .val (.int f2_390), .val (.int n2_406), .val (.int l2_416), .val (.ref b958), .unset, .unset] [])) t
        refine XS.iload X1006.here hx rfl (hb hby at_140) rfl ?_
        show Steps p.tables e below (T1006.setTop (mkF m 142 #[.val (.int x0), .val (.int x1), .val (.int x2), .val (.int x3), .val (.int x4), .val (.int kk_340), .val (.int s1_351), .val (.int n1_361), .val (.int l1_371), .val (.int rm_381), .val (.int f2_390), .val (.int n2_406), .val (.int l2_416), .val (.ref b958), .unset, .unset] [(.int n1_361)])) t
        refine XS.iload X1006.here hx rfl (hb hby at_142) rfl ?_
        show Steps p.tables e below (T1006.setTop (mkF m 144 #[.val (.int x0), .val (.int x1), .val (.int x2), .val (.int x3), .val (.int x4), .val (.int kk_340), .val (.int s1_351), .val (.int n1_361), .val (.int l1_371), .val (.int rm_381), .val (.int f2_390), .val (.int n2_406), .val (.int l2_416), .val (.ref b958), .unset, .unset] [(.int n2_406), (.int n1_361)])) t
        refine XS.iadd X1006.here hx rfl (hb hby at_144) rfl ?_
        show Steps p.tables e below (T1006.setTop (mkF m 145 #[.val (.int x0), .val (.int x1), .val (.int x2), .val (.int x3), .val (.int x4), .val (.int kk_340), .val (.int s1_351), .val (.int n1_361), .val (.int l1_371), .val (.int rm_381), .val (.int f2_390), .val (.int n2_406), .val (.int l2_416), .val (.ref b958), .unset, .unset] [(.int (n1_361 + n2_406))])) t
        refine XS.istore X1006.here hx rfl (hb hby at_145) rfl (l' := #[.val (.int x0), .val (.int x1), .val (.int x2), .val (.int x3), .val (.int x4), .val (.int kk_340), .val (.int s1_351), .val (.int n1_361), .val (.int l1_371), .val (.int rm_381), .val (.int f2_390), .val (.int n2_406), .val (.int l2_416), .val (.ref b958), .val (.int (n1_361 + n2_406)), .unset]) rfl ?_
        show Steps p.tables e below (T1006.setTop (mkF m 147 #[.val (.int x0), .val (.int x1), .val (.int x2), .val (.int x3), .val (.int x4), .val (.int kk_340), .val (.int s1_351), .val (.int n1_361), .val (.int l1_371), .val (.int rm_381), .val (.int f2_390), .val (.int n2_406), .val (.int l2_416), .val (.ref b958), .val (.int (n1_361 + n2_406)), .unset] [])) t
        refine XS.aload X1006.here hx rfl (hb hby at_147) rfl rfl ?_
        exact k)
      have q1020 : 0 ≤ (f1014 0).toInt ∧ (f1014 0).toInt ≤ (f1014 1).toInt ∧ (f1014 1).toInt ≤ (f1014 0).toInt + 3 ∧ (f1014 1).toInt ≤ 2147483643 := by
        have q1021 := rng32 kk_340
        have q1022 := (by decide : (0 : Int32).toInt = 0)
        have q1023 := (by decide : (1 : Int32).toInt = 1)
        simp only [Rv0, Rv1, Rv2, Rv3]; omega
      have q1024 : 0 ≤ (f1014 2).toInt ∧ (f1014 2).toInt ≤ (f1014 3).toInt ∧ (f1014 3).toInt ≤ (f1014 2).toInt + 3 ∧ (f1014 3).toInt ≤ 2147483643 := by
        have q1025 := rng32 kk_340
        have q1026 := (by decide : (0 : Int32).toInt = 0)
        have q1027 := (by decide : (1 : Int32).toInt = 1)
        simp only [Rv0, Rv1, Rv2, Rv3]; omega
      obtain ⟨_, _, ⟨T1028, L1028, kk1028, nn1028⟩, -, X1028, ⟨Lc1028, hQ1028, l1028, y1028, z1028⟩, st1028⟩ := Jvm.LawKit.callS X1006 hx (y := (⟨"com/example/omegaprobe/omegaprobe/graph/StateSets", "expand", "([I)[I"⟩ : MethodName)) hown (mvT hZ (hw _ (List.mem_of_getElem? (i := 4) rfl))) (mvT hZ (hw _ (List.mem_of_getElem? (i := 5) rfl))) (mvT hZ (hw _ (List.mem_of_getElem? (i := 6) rfl))) (mvT hZ (hw _ (List.mem_of_getElem? (i := 7) rfl))) (by decide) (backOf (W := 0) (rmE2 l Z a0 hw [] b958 f1014 h1006 n0 Z1016 V1013 q1020 q1024) hZ (hw _ (List.mem_of_getElem? (i := 7) rfl)) (hw _ (List.mem_of_getElem? (i := 6) rfl)) (by decide) (by decide)) (g := (mkF m 149 #[.val (.int x0), .val (.int x1), .val (.int x2), .val (.int x3), .val (.int x4), .val (.int kk_340), .val (.int s1_351), .val (.int n1_361), .val (.int l1_371), .val (.int rm_381), .val (.int f2_390), .val (.int n2_406), .val (.int l2_416), .val (.ref b958), .val (.int (n1_361 + n2_406)), .unset] [(.ref b958)])) rfl (by rw [hml]; rfl) (argsL := [(.ref b958)]) (rest := []) (lenOf own_pd0 rfl) rfl (by show 2 * 0 + _ ≤ _; exact Nat.le_of_eq rfl) (hb hby at_149) (fun _ _ => ⟨rfl, e1006, (by decide : 1 + 1 ≤ _), (by decide : 4 + 8 ≤ _)⟩)
      dsimp only [Pt.U, Pt.locs, Pt.cells, Pt.slots] at X1028 l1028 y1028 z1028 st1028 hQ1028
      subst l1028 y1028 z1028
      obtain ⟨pa_1028, z_1028, f_1028, rfl, Sp1028, Nq1028, Kc1028, Pc1028_0, Pc1028_1⟩ := hQ1028
      have N1029 := Fr.app N1017 Nq1028
      obtain ⟨h1028, e1028⟩ : ∃ z, z = T1028.heap := ⟨_, rfl⟩
      rw [← e1028] at Kc1028 Pc1028_1
      have ne1030 : own_Ne b958 pa_1028 := Nat.ne_of_lt (Nat.lt_of_lt_of_le V1013.lt Pc1028_0)
      have sb1031 : own_Le h0.size pa_1028 := Nat.le_trans Kp1015.1 Pc1028_0
      have gb1032 : own_Le n0 pa_1028 := Nat.le_trans Z1016 Pc1028_0
      have F1033 := V1013.keep Kc1028 nin0
      have Kp1034 : Keep h0 h1028 [] := Keep.trans Kp1015 Kc1028 all0
      have Z1035 : own_Le n0 h1028.size := Nat.le_trans Z1016 Kc1028.1
      have K1036 : ∀ t, Steps p.tables e below (T1028.setTop (mkF m 152 #[.val (.int x0), .val (.int x1), .val (.int x2), .val (.int x3), .val (.int x4), .val (.int kk_340), .val (.int s1_351), .val (.int n1_361), .val (.int l1_371), .val (.int rm_381), .val (.int f2_390), .val (.int n2_406), .val (.int l2_416), .val (.ref b958), .val (.int (n1_361 + n2_406)), .unset] [(.ref pa_1028)])) t → Steps p.tables e below (s₁.setTop (entryFrame m #[(.int x0), (.int x1), (.int x2), (.int x3), (.int x4)] maxLocals)) t := fun t k => K1019 t (st1028 _ k)
      simp only [Rv0, Rv1, Rv2, Rv3] at Sp1028
      have hok : ∀ i : Nat, (i : Int) < z_1028.toInt → ((i : Int) < n1_361.toInt → (f_1028 i).toInt = s1_351.toInt + (i : Int)) ∧ (n1_361.toInt ≤ (i : Int) → (f_1028 i).toInt = f2_390.toInt + ((i : Int) - n1_361.toInt)) := by
        obtain ⟨hz, hA, hB⟩ := Sp1028
        intro i hi
        exact ⟨fun h => hA i (by omega), fun h => by have := hB i (by omega) (by omega); omega⟩
      have hz := Sp1028.1
      obtain ⟨cl1037, Ar1037, S1037, N1037, Hs1037⟩ := id Pc1028_1
      have hc1038 : z_1028 = (n1_361 + n2_406) := by
        have q1039 := rng32 kk_340
        have q1040 := (by decide : (0 : Int32).toInt = 0)
        have q1041 := (by decide : (1 : Int32).toInt = 1)
        have q1042 := rng32 z_1028
        have q1043 := rng32 n1_361
        have q1044 := rng32 n2_406
        have q1045 := c_iadd n1_361 n2_406
        have q1046 := rng32 (n1_361 + n2_406)
        exact Int32.toInt_inj.mp (by omega)
      have K1047 : ∀ t, Steps p.tables e below (T1028.setTop (mkF m 173 #[.val (.int x0), .val (.int x1), .val (.int x2), .val (.int x3), .val (.int x4), .val (.int kk_340), .val (.int s1_351), .val (.int n1_361), .val (.int l1_371), .val (.int rm_381), .val (.int f2_390), .val (.int n2_406), .val (.int l2_416), .val (.ref b958), .val (.int (n1_361 + n2_406)), .val (.ref pa_1028)] [(.int f2_390), (.int s1_351), (.int n1_361), (.int (0 : Int32)), (.ref pa_1028)])) t → Steps p.tables e below (s₁.setTop (entryFrame m #[(.int x0), (.int x1), (.int x2), (.int x3), (.int x4)] maxLocals)) t := fun t k => K1036 t (by
        show Steps p.tables e below (T1028.setTop (mkF m 152 #[.val (.int x0), .val (.int x1), .val (.int x2), .val (.int x3), .val (.int x4), .val (.int kk_340), .val (.int s1_351), .val (.int n1_361), .val (.int l1_371), .val (.int rm_381), .val (.int f2_390), .val (.int n2_406), .val (.int l2_416), .val (.ref b958), .val (.int (n1_361 + n2_406)), .unset] [(.ref pa_1028)])) t
        refine XS.astore X1028.here hx rfl (hb hby at_152) rfl rfl (l' := #[.val (.int x0), .val (.int x1), .val (.int x2), .val (.int x3), .val (.int x4), .val (.int kk_340), .val (.int s1_351), .val (.int n1_361), .val (.int l1_371), .val (.int rm_381), .val (.int f2_390), .val (.int n2_406), .val (.int l2_416), .val (.ref b958), .val (.int (n1_361 + n2_406)), .val (.ref pa_1028)]) rfl ?_
        show Steps p.tables e below (T1028.setTop (mkF m 154 #[.val (.int x0), .val (.int x1), .val (.int x2), .val (.int x3), .val (.int x4), .val (.int kk_340), .val (.int s1_351), .val (.int n1_361), .val (.int l1_371), .val (.int rm_381), .val (.int f2_390), .val (.int n2_406), .val (.int l2_416), .val (.ref b958), .val (.int (n1_361 + n2_406)), .val (.ref pa_1028)] [])) t
        refine XS.aload X1028.here hx rfl (hb hby at_154) rfl rfl ?_
        show Steps p.tables e below (T1028.setTop (mkF m 156 #[.val (.int x0), .val (.int x1), .val (.int x2), .val (.int x3), .val (.int x4), .val (.int kk_340), .val (.int s1_351), .val (.int n1_361), .val (.int l1_371), .val (.int rm_381), .val (.int f2_390), .val (.int n2_406), .val (.int l2_416), .val (.ref b958), .val (.int (n1_361 + n2_406)), .val (.ref pa_1028)] [(.ref pa_1028)])) t
        refine X1028.arraylength hx (by rw [e1028.symm]; exact Ar1037.1) (State.isArrayOf_alike hZ.alike Ar1037.2.1) (g := (mkF m 156 #[.val (.int x0), .val (.int x1), .val (.int x2), .val (.int x3), .val (.int x4), .val (.int kk_340), .val (.int s1_351), .val (.int n1_361), .val (.int l1_371), .val (.int rm_381), .val (.int f2_390), .val (.int n2_406), .val (.int l2_416), .val (.ref b958), .val (.int (n1_361 + n2_406)), .val (.ref pa_1028)] [(.ref pa_1028)])) rfl rfl (hb hby at_156) _ ?_
        rw [len_of S1037 N1037]
        show Steps p.tables e below (T1028.setTop (mkF m 157 #[.val (.int x0), .val (.int x1), .val (.int x2), .val (.int x3), .val (.int x4), .val (.int kk_340), .val (.int s1_351), .val (.int n1_361), .val (.int l1_371), .val (.int rm_381), .val (.int f2_390), .val (.int n2_406), .val (.int l2_416), .val (.ref b958), .val (.int (n1_361 + n2_406)), .val (.ref pa_1028)] [(.int z_1028)])) t
        refine XS.iload X1028.here hx rfl (hb hby at_157) rfl ?_
        show Steps p.tables e below (T1028.setTop (mkF m 159 #[.val (.int x0), .val (.int x1), .val (.int x2), .val (.int x3), .val (.int x4), .val (.int kk_340), .val (.int s1_351), .val (.int n1_361), .val (.int l1_371), .val (.int rm_381), .val (.int f2_390), .val (.int n2_406), .val (.int l2_416), .val (.ref b958), .val (.int (n1_361 + n2_406)), .val (.ref pa_1028)] [(.int (n1_361 + n2_406)), (.int z_1028)])) t
        refine XS.icmpYes X1028.here hx rfl (pc0 := 159) (pc' := 164) rfl (hb hby at_159) rfl (teq hc1038).1 (by decide) (by decide) ?_
        show Steps p.tables e below (T1028.setTop (mkF m 164 #[.val (.int x0), .val (.int x1), .val (.int x2), .val (.int x3), .val (.int x4), .val (.int kk_340), .val (.int s1_351), .val (.int n1_361), .val (.int l1_371), .val (.int rm_381), .val (.int f2_390), .val (.int n2_406), .val (.int l2_416), .val (.ref b958), .val (.int (n1_361 + n2_406)), .val (.ref pa_1028)] [])) t
        refine XS.aload X1028.here hx rfl (hb hby at_164) rfl rfl ?_
        show Steps p.tables e below (T1028.setTop (mkF m 166 #[.val (.int x0), .val (.int x1), .val (.int x2), .val (.int x3), .val (.int x4), .val (.int kk_340), .val (.int s1_351), .val (.int n1_361), .val (.int l1_371), .val (.int rm_381), .val (.int f2_390), .val (.int n2_406), .val (.int l2_416), .val (.ref b958), .val (.int (n1_361 + n2_406)), .val (.ref pa_1028)] [(.ref pa_1028)])) t
        refine XS.iconst X1028.here hx rfl (hb hby at_166) ?_
        show Steps p.tables e below (T1028.setTop (mkF m 167 #[.val (.int x0), .val (.int x1), .val (.int x2), .val (.int x3), .val (.int x4), .val (.int kk_340), .val (.int s1_351), .val (.int n1_361), .val (.int l1_371), .val (.int rm_381), .val (.int f2_390), .val (.int n2_406), .val (.int l2_416), .val (.ref b958), .val (.int (n1_361 + n2_406)), .val (.ref pa_1028)] [(.int (0 : Int32)), (.ref pa_1028)])) t
        refine XS.iload X1028.here hx rfl (hb hby at_167) rfl ?_
        show Steps p.tables e below (T1028.setTop (mkF m 169 #[.val (.int x0), .val (.int x1), .val (.int x2), .val (.int x3), .val (.int x4), .val (.int kk_340), .val (.int s1_351), .val (.int n1_361), .val (.int l1_371), .val (.int rm_381), .val (.int f2_390), .val (.int n2_406), .val (.int l2_416), .val (.ref b958), .val (.int (n1_361 + n2_406)), .val (.ref pa_1028)] [(.int n1_361), (.int (0 : Int32)), (.ref pa_1028)])) t
        refine XS.iload X1028.here hx rfl (hb hby at_169) rfl ?_
        show Steps p.tables e below (T1028.setTop (mkF m 171 #[.val (.int x0), .val (.int x1), .val (.int x2), .val (.int x3), .val (.int x4), .val (.int kk_340), .val (.int s1_351), .val (.int n1_361), .val (.int l1_371), .val (.int rm_381), .val (.int f2_390), .val (.int n2_406), .val (.int l2_416), .val (.ref b958), .val (.int (n1_361 + n2_406)), .val (.ref pa_1028)] [(.int s1_351), (.int n1_361), (.int (0 : Int32)), (.ref pa_1028)])) t
        refine XS.iload X1028.here hx rfl (hb hby at_171) rfl ?_
        exact k)
      have q1048 : 0 ≤ (0 : Int32).toInt ∧ (0 : Int32).toInt ≤ 7 ∧ 1 ≤ n1_361.toInt ∧ n1_361.toInt ≤ 4 := by
        have q1049 := rng32 kk_340
        have q1050 := (by decide : (0 : Int32).toInt = 0)
        have q1051 := (by decide : (1 : Int32).toInt = 1)
        have q1052 := rng32 n1_361
        have q1053 := rng32 s1_351
        have q1054 := rng32 f2_390
        have q1055 := rng32 z_1028
        omega
      obtain ⟨_, _, ⟨T1056, L1056, kk1056, nn1056⟩, -, X1056, ⟨Lc1056, hQ1056, l1056, y1056, z1056⟩, st1056⟩ := Jvm.LawKit.callS X1028 hx (y := (⟨"com/example/omegaprobe/omegaprobe/graph/StateSetsExpandPinLaw", "ok", "([IIIII)Z"⟩ : MethodName)) hown (mvT hZ (hw _ (List.mem_of_getElem? (i := 8) rfl))) (mvT hZ (hw _ (List.mem_of_getElem? (i := 9) rfl))) (mvT hZ (hw _ (List.mem_of_getElem? (i := 10) rfl))) (mvT hZ (hw _ (List.mem_of_getElem? (i := 11) rfl))) (by decide) (backOf (W := 0) (rm2 l Z a0 hw [] pa_1028 (0 : Int32) n1_361 s1_351 f2_390 z_1028 f_1028 h1028 n0 Z1035 Pc1028_1 q1048 hok) hZ (hw _ (List.mem_of_getElem? (i := 11) rfl)) (hw _ (List.mem_of_getElem? (i := 10) rfl)) (by decide) (by decide)) (g := (mkF m 173 #[.val (.int x0), .val (.int x1), .val (.int x2), .val (.int x3), .val (.int x4), .val (.int kk_340), .val (.int s1_351), .val (.int n1_361), .val (.int l1_371), .val (.int rm_381), .val (.int f2_390), .val (.int n2_406), .val (.int l2_416), .val (.ref b958), .val (.int (n1_361 + n2_406)), .val (.ref pa_1028)] [(.int f2_390), (.int s1_351), (.int n1_361), (.int (0 : Int32)), (.ref pa_1028)])) rfl (by rw [hml]; rfl) (argsL := [(.ref pa_1028), (.int (0 : Int32)), (.int n1_361), (.int s1_351), (.int f2_390)]) (rest := []) (lenOf own_pd1 rfl) rfl (by show 2 * 0 + _ ≤ _; exact Nat.le_of_eq rfl) (hb hby at_173) (fun _ _ => ⟨rfl, e1028.symm, (by decide : 2 + 0 ≤ _), (by decide : 12 + 0 ≤ _)⟩)
      dsimp only [Pt.U, Pt.locs, Pt.cells, Pt.slots] at X1056 l1056 y1056 z1056 st1056 hQ1056
      subst l1056 y1056 z1056
      obtain ⟨r_1056, rfl, Sp1056, Nq1056, eh1056⟩ := hQ1056
      have N1057 := Fr.app N1029 Nq1056
      have K1058 : ∀ t, Steps p.tables e below (T1056.setTop (mkF m 176 #[.val (.int x0), .val (.int x1), .val (.int x2), .val (.int x3), .val (.int x4), .val (.int kk_340), .val (.int s1_351), .val (.int n1_361), .val (.int l1_371), .val (.int rm_381), .val (.int f2_390), .val (.int n2_406), .val (.int l2_416), .val (.ref b958), .val (.int (n1_361 + n2_406)), .val (.ref pa_1028)] [(.int r_1056)])) t → Steps p.tables e below (s₁.setTop (entryFrame m #[(.int x0), (.int x1), (.int x2), (.int x3), (.int x4)] maxLocals)) t := fun t k => K1047 t (st1056 _ k)
      have hc1059 : ¬ (r_1056 = (0 : Int32)) := by
        have q1060 := rng32 kk_340
        have q1061 := (by decide : (0 : Int32).toInt = 0)
        have q1062 := (by decide : (1 : Int32).toInt = 1)
        have q1063 := rng32 n1_361
        have q1064 := rng32 s1_351
        have q1065 := rng32 f2_390
        have q1066 := rng32 z_1028
        have q1067 := rng32 r_1056
        intro q; have q2 := congrArg Int32.toInt q; omega
      have K1068 : ∀ t, Steps p.tables e below (T1056.setTop (mkF m 188 #[.val (.int x0), .val (.int x1), .val (.int x2), .val (.int x3), .val (.int x4), .val (.int kk_340), .val (.int s1_351), .val (.int n1_361), .val (.int l1_371), .val (.int rm_381), .val (.int f2_390), .val (.int n2_406), .val (.int l2_416), .val (.ref b958), .val (.int (n1_361 + n2_406)), .val (.ref pa_1028)] [(.int f2_390), (.int s1_351), (.int n1_361), (.int (1 : Int32)), (.ref pa_1028)])) t → Steps p.tables e below (s₁.setTop (entryFrame m #[(.int x0), (.int x1), (.int x2), (.int x3), (.int x4)] maxLocals)) t := fun t k => K1058 t (by
        show Steps p.tables e below (T1056.setTop (mkF m 176 #[.val (.int x0), .val (.int x1), .val (.int x2), .val (.int x3), .val (.int x4), .val (.int kk_340), .val (.int s1_351), .val (.int n1_361), .val (.int l1_371), .val (.int rm_381), .val (.int f2_390), .val (.int n2_406), .val (.int l2_416), .val (.ref b958), .val (.int (n1_361 + n2_406)), .val (.ref pa_1028)] [(.int r_1056)])) t
        refine XS.ifNo X1056.here hx rfl (hb hby at_176) rfl ((if0 _ _).trans (feq hc1059).1) ?_
        show Steps p.tables e below (T1056.setTop (mkF m 179 #[.val (.int x0), .val (.int x1), .val (.int x2), .val (.int x3), .val (.int x4), .val (.int kk_340), .val (.int s1_351), .val (.int n1_361), .val (.int l1_371), .val (.int rm_381), .val (.int f2_390), .val (.int n2_406), .val (.int l2_416), .val (.ref b958), .val (.int (n1_361 + n2_406)), .val (.ref pa_1028)] [])) t
        refine XS.aload X1056.here hx rfl (hb hby at_179) rfl rfl ?_
        show Steps p.tables e below (T1056.setTop (mkF m 181 #[.val (.int x0), .val (.int x1), .val (.int x2), .val (.int x3), .val (.int x4), .val (.int kk_340), .val (.int s1_351), .val (.int n1_361), .val (.int l1_371), .val (.int rm_381), .val (.int f2_390), .val (.int n2_406), .val (.int l2_416), .val (.ref b958), .val (.int (n1_361 + n2_406)), .val (.ref pa_1028)] [(.ref pa_1028)])) t
        refine XS.iconst X1056.here hx rfl (hb hby at_181) ?_
        show Steps p.tables e below (T1056.setTop (mkF m 182 #[.val (.int x0), .val (.int x1), .val (.int x2), .val (.int x3), .val (.int x4), .val (.int kk_340), .val (.int s1_351), .val (.int n1_361), .val (.int l1_371), .val (.int rm_381), .val (.int f2_390), .val (.int n2_406), .val (.int l2_416), .val (.ref b958), .val (.int (n1_361 + n2_406)), .val (.ref pa_1028)] [(.int (1 : Int32)), (.ref pa_1028)])) t
        refine XS.iload X1056.here hx rfl (hb hby at_182) rfl ?_
        show Steps p.tables e below (T1056.setTop (mkF m 184 #[.val (.int x0), .val (.int x1), .val (.int x2), .val (.int x3), .val (.int x4), .val (.int kk_340), .val (.int s1_351), .val (.int n1_361), .val (.int l1_371), .val (.int rm_381), .val (.int f2_390), .val (.int n2_406), .val (.int l2_416), .val (.ref b958), .val (.int (n1_361 + n2_406)), .val (.ref pa_1028)] [(.int n1_361), (.int (1 : Int32)), (.ref pa_1028)])) t
        refine XS.iload X1056.here hx rfl (hb hby at_184) rfl ?_
        show Steps p.tables e below (T1056.setTop (mkF m 186 #[.val (.int x0), .val (.int x1), .val (.int x2), .val (.int x3), .val (.int x4), .val (.int kk_340), .val (.int s1_351), .val (.int n1_361), .val (.int l1_371), .val (.int rm_381), .val (.int f2_390), .val (.int n2_406), .val (.int l2_416), .val (.ref b958), .val (.int (n1_361 + n2_406)), .val (.ref pa_1028)] [(.int s1_351), (.int n1_361), (.int (1 : Int32)), (.ref pa_1028)])) t
        refine XS.iload X1056.here hx rfl (hb hby at_186) rfl ?_
        exact k)
      have q1069 : 0 ≤ (1 : Int32).toInt ∧ (1 : Int32).toInt ≤ 7 ∧ 1 ≤ n1_361.toInt ∧ n1_361.toInt ≤ 4 := by
        have q1070 := rng32 kk_340
        have q1071 := (by decide : (0 : Int32).toInt = 0)
        have q1072 := (by decide : (1 : Int32).toInt = 1)
        have q1073 := rng32 n1_361
        have q1074 := rng32 s1_351
        have q1075 := rng32 f2_390
        have q1076 := rng32 z_1028
        omega
      obtain ⟨_, _, ⟨T1077, L1077, kk1077, nn1077⟩, -, X1077, ⟨Lc1077, hQ1077, l1077, y1077, z1077⟩, st1077⟩ := Jvm.LawKit.callS X1056 hx (y := (⟨"com/example/omegaprobe/omegaprobe/graph/StateSetsExpandPinLaw", "ok", "([IIIII)Z"⟩ : MethodName)) hown (mvT hZ (hw _ (List.mem_of_getElem? (i := 8) rfl))) (mvT hZ (hw _ (List.mem_of_getElem? (i := 9) rfl))) (mvT hZ (hw _ (List.mem_of_getElem? (i := 10) rfl))) (mvT hZ (hw _ (List.mem_of_getElem? (i := 11) rfl))) (by decide) (backOf (W := 0) (rm2 l Z a0 hw [] pa_1028 (1 : Int32) n1_361 s1_351 f2_390 z_1028 f_1028 h1028 n0 Z1035 Pc1028_1 q1069 hok) hZ (hw _ (List.mem_of_getElem? (i := 11) rfl)) (hw _ (List.mem_of_getElem? (i := 10) rfl)) (by decide) (by decide)) (g := (mkF m 188 #[.val (.int x0), .val (.int x1), .val (.int x2), .val (.int x3), .val (.int x4), .val (.int kk_340), .val (.int s1_351), .val (.int n1_361), .val (.int l1_371), .val (.int rm_381), .val (.int f2_390), .val (.int n2_406), .val (.int l2_416), .val (.ref b958), .val (.int (n1_361 + n2_406)), .val (.ref pa_1028)] [(.int f2_390), (.int s1_351), (.int n1_361), (.int (1 : Int32)), (.ref pa_1028)])) rfl (by rw [hml]; rfl) (argsL := [(.ref pa_1028), (.int (1 : Int32)), (.int n1_361), (.int s1_351), (.int f2_390)]) (rest := []) (lenOf own_pd1 rfl) rfl (by show 2 * 0 + _ ≤ _; exact Nat.le_of_eq rfl) (hb hby at_188) (fun _ _ => ⟨rfl, eh1056, (by decide : 2 + 0 ≤ _), (by decide : 12 + 0 ≤ _)⟩)
      dsimp only [Pt.U, Pt.locs, Pt.cells, Pt.slots] at X1077 l1077 y1077 z1077 st1077 hQ1077
      subst l1077 y1077 z1077
      obtain ⟨r_1077, rfl, Sp1077, Nq1077, eh1077⟩ := hQ1077
      have N1078 := Fr.app N1057 Nq1077
      have K1079 : ∀ t, Steps p.tables e below (T1077.setTop (mkF m 191 #[.val (.int x0), .val (.int x1), .val (.int x2), .val (.int x3), .val (.int x4), .val (.int kk_340), .val (.int s1_351), .val (.int n1_361), .val (.int l1_371), .val (.int rm_381), .val (.int f2_390), .val (.int n2_406), .val (.int l2_416), .val (.ref b958), .val (.int (n1_361 + n2_406)), .val (.ref pa_1028)] [(.int r_1077)])) t → Steps p.tables e below (s₁.setTop (entryFrame m #[(.int x0), (.int x1), (.int x2), (.int x3), (.int x4)] maxLocals)) t := fun t k => K1068 t (st1077 _ k)
      have hc1080 : ¬ (r_1077 = (0 : Int32)) := by
        have q1081 := rng32 kk_340
        have q1082 := (by decide : (0 : Int32).toInt = 0)
        have q1083 := (by decide : (1 : Int32).toInt = 1)
        have q1084 := rng32 n1_361
        have q1085 := rng32 s1_351
        have q1086 := rng32 f2_390
        have q1087 := rng32 z_1028
        have q1088 := rng32 r_1077
        intro q; have q2 := congrArg Int32.toInt q; omega
      have K1089 : ∀ t, Steps p.tables e below (T1077.setTop (mkF m 203 #[.val (.int x0), .val (.int x1), .val (.int x2), .val (.int x3), .val (.int x4), .val (.int kk_340), .val (.int s1_351), .val (.int n1_361), .val (.int l1_371), .val (.int rm_381), .val (.int f2_390), .val (.int n2_406), .val (.int l2_416), .val (.ref b958), .val (.int (n1_361 + n2_406)), .val (.ref pa_1028)] [(.int f2_390), (.int s1_351), (.int n1_361), (.int (2 : Int32)), (.ref pa_1028)])) t → Steps p.tables e below (s₁.setTop (entryFrame m #[(.int x0), (.int x1), (.int x2), (.int x3), (.int x4)] maxLocals)) t := fun t k => K1079 t (by
        show Steps p.tables e below (T1077.setTop (mkF m 191 #[.val (.int x0), .val (.int x1), .val (.int x2), .val (.int x3), .val (.int x4), .val (.int kk_340), .val (.int s1_351), .val (.int n1_361), .val (.int l1_371), .val (.int rm_381), .val (.int f2_390), .val (.int n2_406), .val (.int l2_416), .val (.ref b958), .val (.int (n1_361 + n2_406)), .val (.ref pa_1028)] [(.int r_1077)])) t
        refine XS.ifNo X1077.here hx rfl (hb hby at_191) rfl ((if0 _ _).trans (feq hc1080).1) ?_
        show Steps p.tables e below (T1077.setTop (mkF m 194 #[.val (.int x0), .val (.int x1), .val (.int x2), .val (.int x3), .val (.int x4), .val (.int kk_340), .val (.int s1_351), .val (.int n1_361), .val (.int l1_371), .val (.int rm_381), .val (.int f2_390), .val (.int n2_406), .val (.int l2_416), .val (.ref b958), .val (.int (n1_361 + n2_406)), .val (.ref pa_1028)] [])) t
        refine XS.aload X1077.here hx rfl (hb hby at_194) rfl rfl ?_
        show Steps p.tables e below (T1077.setTop (mkF m 196 #[.val (.int x0), .val (.int x1), .val (.int x2), .val (.int x3), .val (.int x4), .val (.int kk_340), .val (.int s1_351), .val (.int n1_361), .val (.int l1_371), .val (.int rm_381), .val (.int f2_390), .val (.int n2_406), .val (.int l2_416), .val (.ref b958), .val (.int (n1_361 + n2_406)), .val (.ref pa_1028)] [(.ref pa_1028)])) t
        refine XS.iconst X1077.here hx rfl (hb hby at_196) ?_
        show Steps p.tables e below (T1077.setTop (mkF m 197 #[.val (.int x0), .val (.int x1), .val (.int x2), .val (.int x3), .val (.int x4), .val (.int kk_340), .val (.int s1_351), .val (.int n1_361), .val (.int l1_371), .val (.int rm_381), .val (.int f2_390), .val (.int n2_406), .val (.int l2_416), .val (.ref b958), .val (.int (n1_361 + n2_406)), .val (.ref pa_1028)] [(.int (2 : Int32)), (.ref pa_1028)])) t
        refine XS.iload X1077.here hx rfl (hb hby at_197) rfl ?_
        show Steps p.tables e below (T1077.setTop (mkF m 199 #[.val (.int x0), .val (.int x1), .val (.int x2), .val (.int x3), .val (.int x4), .val (.int kk_340), .val (.int s1_351), .val (.int n1_361), .val (.int l1_371), .val (.int rm_381), .val (.int f2_390), .val (.int n2_406), .val (.int l2_416), .val (.ref b958), .val (.int (n1_361 + n2_406)), .val (.ref pa_1028)] [(.int n1_361), (.int (2 : Int32)), (.ref pa_1028)])) t
        refine XS.iload X1077.here hx rfl (hb hby at_199) rfl ?_
        show Steps p.tables e below (T1077.setTop (mkF m 201 #[.val (.int x0), .val (.int x1), .val (.int x2), .val (.int x3), .val (.int x4), .val (.int kk_340), .val (.int s1_351), .val (.int n1_361), .val (.int l1_371), .val (.int rm_381), .val (.int f2_390), .val (.int n2_406), .val (.int l2_416), .val (.ref b958), .val (.int (n1_361 + n2_406)), .val (.ref pa_1028)] [(.int s1_351), (.int n1_361), (.int (2 : Int32)), (.ref pa_1028)])) t
        refine XS.iload X1077.here hx rfl (hb hby at_201) rfl ?_
        exact k)
      have q1090 : 0 ≤ (2 : Int32).toInt ∧ (2 : Int32).toInt ≤ 7 ∧ 1 ≤ n1_361.toInt ∧ n1_361.toInt ≤ 4 := by
        have q1091 := rng32 kk_340
        have q1092 := (by decide : (0 : Int32).toInt = 0)
        have q1093 := (by decide : (1 : Int32).toInt = 1)
        have q1094 := rng32 n1_361
        have q1095 := rng32 s1_351
        have q1096 := rng32 f2_390
        have q1097 := rng32 z_1028
        have q1098 := (by decide : (2 : Int32).toInt = 2)
        omega
      obtain ⟨_, _, ⟨T1099, L1099, kk1099, nn1099⟩, -, X1099, ⟨Lc1099, hQ1099, l1099, y1099, z1099⟩, st1099⟩ := Jvm.LawKit.callS X1077 hx (y := (⟨"com/example/omegaprobe/omegaprobe/graph/StateSetsExpandPinLaw", "ok", "([IIIII)Z"⟩ : MethodName)) hown (mvT hZ (hw _ (List.mem_of_getElem? (i := 8) rfl))) (mvT hZ (hw _ (List.mem_of_getElem? (i := 9) rfl))) (mvT hZ (hw _ (List.mem_of_getElem? (i := 10) rfl))) (mvT hZ (hw _ (List.mem_of_getElem? (i := 11) rfl))) (by decide) (backOf (W := 0) (rm2 l Z a0 hw [] pa_1028 (2 : Int32) n1_361 s1_351 f2_390 z_1028 f_1028 h1028 n0 Z1035 Pc1028_1 q1090 hok) hZ (hw _ (List.mem_of_getElem? (i := 11) rfl)) (hw _ (List.mem_of_getElem? (i := 10) rfl)) (by decide) (by decide)) (g := (mkF m 203 #[.val (.int x0), .val (.int x1), .val (.int x2), .val (.int x3), .val (.int x4), .val (.int kk_340), .val (.int s1_351), .val (.int n1_361), .val (.int l1_371), .val (.int rm_381), .val (.int f2_390), .val (.int n2_406), .val (.int l2_416), .val (.ref b958), .val (.int (n1_361 + n2_406)), .val (.ref pa_1028)] [(.int f2_390), (.int s1_351), (.int n1_361), (.int (2 : Int32)), (.ref pa_1028)])) rfl (by rw [hml]; rfl) (argsL := [(.ref pa_1028), (.int (2 : Int32)), (.int n1_361), (.int s1_351), (.int f2_390)]) (rest := []) (lenOf own_pd1 rfl) rfl (by show 2 * 0 + _ ≤ _; exact Nat.le_of_eq rfl) (hb hby at_203) (fun _ _ => ⟨rfl, eh1077, (by decide : 2 + 0 ≤ _), (by decide : 12 + 0 ≤ _)⟩)
      dsimp only [Pt.U, Pt.locs, Pt.cells, Pt.slots] at X1099 l1099 y1099 z1099 st1099 hQ1099
      subst l1099 y1099 z1099
      obtain ⟨r_1099, rfl, Sp1099, Nq1099, eh1099⟩ := hQ1099
      have N1100 := Fr.app N1078 Nq1099
      have K1101 : ∀ t, Steps p.tables e below (T1099.setTop (mkF m 206 #[.val (.int x0), .val (.int x1), .val (.int x2), .val (.int x3), .val (.int x4), .val (.int kk_340), .val (.int s1_351), .val (.int n1_361), .val (.int l1_371), .val (.int rm_381), .val (.int f2_390), .val (.int n2_406), .val (.int l2_416), .val (.ref b958), .val (.int (n1_361 + n2_406)), .val (.ref pa_1028)] [(.int r_1099)])) t → Steps p.tables e below (s₁.setTop (entryFrame m #[(.int x0), (.int x1), (.int x2), (.int x3), (.int x4)] maxLocals)) t := fun t k => K1089 t (st1099 _ k)
      have hc1102 : ¬ (r_1099 = (0 : Int32)) := by
        have q1103 := rng32 kk_340
        have q1104 := (by decide : (0 : Int32).toInt = 0)
        have q1105 := (by decide : (1 : Int32).toInt = 1)
        have q1106 := rng32 n1_361
        have q1107 := rng32 s1_351
        have q1108 := rng32 f2_390
        have q1109 := rng32 z_1028
        have q1110 := (by decide : (2 : Int32).toInt = 2)
        have q1111 := rng32 r_1099
        intro q; have q2 := congrArg Int32.toInt q; omega
      have K1112 : ∀ t, Steps p.tables e below (T1099.setTop (mkF m 218 #[.val (.int x0), .val (.int x1), .val (.int x2), .val (.int x3), .val (.int x4), .val (.int kk_340), .val (.int s1_351), .val (.int n1_361), .val (.int l1_371), .val (.int rm_381), .val (.int f2_390), .val (.int n2_406), .val (.int l2_416), .val (.ref b958), .val (.int (n1_361 + n2_406)), .val (.ref pa_1028)] [(.int f2_390), (.int s1_351), (.int n1_361), (.int (3 : Int32)), (.ref pa_1028)])) t → Steps p.tables e below (s₁.setTop (entryFrame m #[(.int x0), (.int x1), (.int x2), (.int x3), (.int x4)] maxLocals)) t := fun t k => K1101 t (by
        show Steps p.tables e below (T1099.setTop (mkF m 206 #[.val (.int x0), .val (.int x1), .val (.int x2), .val (.int x3), .val (.int x4), .val (.int kk_340), .val (.int s1_351), .val (.int n1_361), .val (.int l1_371), .val (.int rm_381), .val (.int f2_390), .val (.int n2_406), .val (.int l2_416), .val (.ref b958), .val (.int (n1_361 + n2_406)), .val (.ref pa_1028)] [(.int r_1099)])) t
        refine XS.ifNo X1099.here hx rfl (hb hby at_206) rfl ((if0 _ _).trans (feq hc1102).1) ?_
        show Steps p.tables e below (T1099.setTop (mkF m 209 #[.val (.int x0), .val (.int x1), .val (.int x2), .val (.int x3), .val (.int x4), .val (.int kk_340), .val (.int s1_351), .val (.int n1_361), .val (.int l1_371), .val (.int rm_381), .val (.int f2_390), .val (.int n2_406), .val (.int l2_416), .val (.ref b958), .val (.int (n1_361 + n2_406)), .val (.ref pa_1028)] [])) t
        refine XS.aload X1099.here hx rfl (hb hby at_209) rfl rfl ?_
        show Steps p.tables e below (T1099.setTop (mkF m 211 #[.val (.int x0), .val (.int x1), .val (.int x2), .val (.int x3), .val (.int x4), .val (.int kk_340), .val (.int s1_351), .val (.int n1_361), .val (.int l1_371), .val (.int rm_381), .val (.int f2_390), .val (.int n2_406), .val (.int l2_416), .val (.ref b958), .val (.int (n1_361 + n2_406)), .val (.ref pa_1028)] [(.ref pa_1028)])) t
        refine XS.iconst X1099.here hx rfl (hb hby at_211) ?_
        show Steps p.tables e below (T1099.setTop (mkF m 212 #[.val (.int x0), .val (.int x1), .val (.int x2), .val (.int x3), .val (.int x4), .val (.int kk_340), .val (.int s1_351), .val (.int n1_361), .val (.int l1_371), .val (.int rm_381), .val (.int f2_390), .val (.int n2_406), .val (.int l2_416), .val (.ref b958), .val (.int (n1_361 + n2_406)), .val (.ref pa_1028)] [(.int (3 : Int32)), (.ref pa_1028)])) t
        refine XS.iload X1099.here hx rfl (hb hby at_212) rfl ?_
        show Steps p.tables e below (T1099.setTop (mkF m 214 #[.val (.int x0), .val (.int x1), .val (.int x2), .val (.int x3), .val (.int x4), .val (.int kk_340), .val (.int s1_351), .val (.int n1_361), .val (.int l1_371), .val (.int rm_381), .val (.int f2_390), .val (.int n2_406), .val (.int l2_416), .val (.ref b958), .val (.int (n1_361 + n2_406)), .val (.ref pa_1028)] [(.int n1_361), (.int (3 : Int32)), (.ref pa_1028)])) t
        refine XS.iload X1099.here hx rfl (hb hby at_214) rfl ?_
        show Steps p.tables e below (T1099.setTop (mkF m 216 #[.val (.int x0), .val (.int x1), .val (.int x2), .val (.int x3), .val (.int x4), .val (.int kk_340), .val (.int s1_351), .val (.int n1_361), .val (.int l1_371), .val (.int rm_381), .val (.int f2_390), .val (.int n2_406), .val (.int l2_416), .val (.ref b958), .val (.int (n1_361 + n2_406)), .val (.ref pa_1028)] [(.int s1_351), (.int n1_361), (.int (3 : Int32)), (.ref pa_1028)])) t
        refine XS.iload X1099.here hx rfl (hb hby at_216) rfl ?_
        exact k)
      have q1113 : 0 ≤ (3 : Int32).toInt ∧ (3 : Int32).toInt ≤ 7 ∧ 1 ≤ n1_361.toInt ∧ n1_361.toInt ≤ 4 := by
        have q1114 := rng32 kk_340
        have q1115 := (by decide : (0 : Int32).toInt = 0)
        have q1116 := (by decide : (1 : Int32).toInt = 1)
        have q1117 := rng32 n1_361
        have q1118 := rng32 s1_351
        have q1119 := rng32 f2_390
        have q1120 := rng32 z_1028
        have q1121 := (by decide : (2 : Int32).toInt = 2)
        have q1122 := (by decide : (3 : Int32).toInt = 3)
        omega
      obtain ⟨_, _, ⟨T1123, L1123, kk1123, nn1123⟩, -, X1123, ⟨Lc1123, hQ1123, l1123, y1123, z1123⟩, st1123⟩ := Jvm.LawKit.callS X1099 hx (y := (⟨"com/example/omegaprobe/omegaprobe/graph/StateSetsExpandPinLaw", "ok", "([IIIII)Z"⟩ : MethodName)) hown (mvT hZ (hw _ (List.mem_of_getElem? (i := 8) rfl))) (mvT hZ (hw _ (List.mem_of_getElem? (i := 9) rfl))) (mvT hZ (hw _ (List.mem_of_getElem? (i := 10) rfl))) (mvT hZ (hw _ (List.mem_of_getElem? (i := 11) rfl))) (by decide) (backOf (W := 0) (rm2 l Z a0 hw [] pa_1028 (3 : Int32) n1_361 s1_351 f2_390 z_1028 f_1028 h1028 n0 Z1035 Pc1028_1 q1113 hok) hZ (hw _ (List.mem_of_getElem? (i := 11) rfl)) (hw _ (List.mem_of_getElem? (i := 10) rfl)) (by decide) (by decide)) (g := (mkF m 218 #[.val (.int x0), .val (.int x1), .val (.int x2), .val (.int x3), .val (.int x4), .val (.int kk_340), .val (.int s1_351), .val (.int n1_361), .val (.int l1_371), .val (.int rm_381), .val (.int f2_390), .val (.int n2_406), .val (.int l2_416), .val (.ref b958), .val (.int (n1_361 + n2_406)), .val (.ref pa_1028)] [(.int f2_390), (.int s1_351), (.int n1_361), (.int (3 : Int32)), (.ref pa_1028)])) rfl (by rw [hml]; rfl) (argsL := [(.ref pa_1028), (.int (3 : Int32)), (.int n1_361), (.int s1_351), (.int f2_390)]) (rest := []) (lenOf own_pd1 rfl) rfl (by show 2 * 0 + _ ≤ _; exact Nat.le_of_eq rfl) (hb hby at_218) (fun _ _ => ⟨rfl, eh1099, (by decide : 2 + 0 ≤ _), (by decide : 12 + 0 ≤ _)⟩)
      dsimp only [Pt.U, Pt.locs, Pt.cells, Pt.slots] at X1123 l1123 y1123 z1123 st1123 hQ1123
      subst l1123 y1123 z1123
      obtain ⟨r_1123, rfl, Sp1123, Nq1123, eh1123⟩ := hQ1123
      have N1124 := Fr.app N1100 Nq1123
      have K1125 : ∀ t, Steps p.tables e below (T1123.setTop (mkF m 221 #[.val (.int x0), .val (.int x1), .val (.int x2), .val (.int x3), .val (.int x4), .val (.int kk_340), .val (.int s1_351), .val (.int n1_361), .val (.int l1_371), .val (.int rm_381), .val (.int f2_390), .val (.int n2_406), .val (.int l2_416), .val (.ref b958), .val (.int (n1_361 + n2_406)), .val (.ref pa_1028)] [(.int r_1123)])) t → Steps p.tables e below (s₁.setTop (entryFrame m #[(.int x0), (.int x1), (.int x2), (.int x3), (.int x4)] maxLocals)) t := fun t k => K1112 t (st1123 _ k)
      have hc1126 : ¬ (r_1123 = (0 : Int32)) := by
        have q1127 := rng32 kk_340
        have q1128 := (by decide : (0 : Int32).toInt = 0)
        have q1129 := (by decide : (1 : Int32).toInt = 1)
        have q1130 := rng32 n1_361
        have q1131 := rng32 s1_351
        have q1132 := rng32 f2_390
        have q1133 := rng32 z_1028
        have q1134 := (by decide : (2 : Int32).toInt = 2)
        have q1135 := (by decide : (3 : Int32).toInt = 3)
        have q1136 := rng32 r_1123
        intro q; have q2 := congrArg Int32.toInt q; omega
      have K1137 : ∀ t, Steps p.tables e below (T1123.setTop (mkF m 233 #[.val (.int x0), .val (.int x1), .val (.int x2), .val (.int x3), .val (.int x4), .val (.int kk_340), .val (.int s1_351), .val (.int n1_361), .val (.int l1_371), .val (.int rm_381), .val (.int f2_390), .val (.int n2_406), .val (.int l2_416), .val (.ref b958), .val (.int (n1_361 + n2_406)), .val (.ref pa_1028)] [(.int f2_390), (.int s1_351), (.int n1_361), (.int (4 : Int32)), (.ref pa_1028)])) t → Steps p.tables e below (s₁.setTop (entryFrame m #[(.int x0), (.int x1), (.int x2), (.int x3), (.int x4)] maxLocals)) t := fun t k => K1125 t (by
        show Steps p.tables e below (T1123.setTop (mkF m 221 #[.val (.int x0), .val (.int x1), .val (.int x2), .val (.int x3), .val (.int x4), .val (.int kk_340), .val (.int s1_351), .val (.int n1_361), .val (.int l1_371), .val (.int rm_381), .val (.int f2_390), .val (.int n2_406), .val (.int l2_416), .val (.ref b958), .val (.int (n1_361 + n2_406)), .val (.ref pa_1028)] [(.int r_1123)])) t
        refine XS.ifNo X1123.here hx rfl (hb hby at_221) rfl ((if0 _ _).trans (feq hc1126).1) ?_
        show Steps p.tables e below (T1123.setTop (mkF m 224 #[.val (.int x0), .val (.int x1), .val (.int x2), .val (.int x3), .val (.int x4), .val (.int kk_340), .val (.int s1_351), .val (.int n1_361), .val (.int l1_371), .val (.int rm_381), .val (.int f2_390), .val (.int n2_406), .val (.int l2_416), .val (.ref b958), .val (.int (n1_361 + n2_406)), .val (.ref pa_1028)] [])) t
        refine XS.aload X1123.here hx rfl (hb hby at_224) rfl rfl ?_
        show Steps p.tables e below (T1123.setTop (mkF m 226 #[.val (.int x0), .val (.int x1), .val (.int x2), .val (.int x3), .val (.int x4), .val (.int kk_340), .val (.int s1_351), .val (.int n1_361), .val (.int l1_371), .val (.int rm_381), .val (.int f2_390), .val (.int n2_406), .val (.int l2_416), .val (.ref b958), .val (.int (n1_361 + n2_406)), .val (.ref pa_1028)] [(.ref pa_1028)])) t
        refine XS.iconst X1123.here hx rfl (hb hby at_226) ?_
        show Steps p.tables e below (T1123.setTop (mkF m 227 #[.val (.int x0), .val (.int x1), .val (.int x2), .val (.int x3), .val (.int x4), .val (.int kk_340), .val (.int s1_351), .val (.int n1_361), .val (.int l1_371), .val (.int rm_381), .val (.int f2_390), .val (.int n2_406), .val (.int l2_416), .val (.ref b958), .val (.int (n1_361 + n2_406)), .val (.ref pa_1028)] [(.int (4 : Int32)), (.ref pa_1028)])) t
        refine XS.iload X1123.here hx rfl (hb hby at_227) rfl ?_
        show Steps p.tables e below (T1123.setTop (mkF m 229 #[.val (.int x0), .val (.int x1), .val (.int x2), .val (.int x3), .val (.int x4), .val (.int kk_340), .val (.int s1_351), .val (.int n1_361), .val (.int l1_371), .val (.int rm_381), .val (.int f2_390), .val (.int n2_406), .val (.int l2_416), .val (.ref b958), .val (.int (n1_361 + n2_406)), .val (.ref pa_1028)] [(.int n1_361), (.int (4 : Int32)), (.ref pa_1028)])) t
        refine XS.iload X1123.here hx rfl (hb hby at_229) rfl ?_
        show Steps p.tables e below (T1123.setTop (mkF m 231 #[.val (.int x0), .val (.int x1), .val (.int x2), .val (.int x3), .val (.int x4), .val (.int kk_340), .val (.int s1_351), .val (.int n1_361), .val (.int l1_371), .val (.int rm_381), .val (.int f2_390), .val (.int n2_406), .val (.int l2_416), .val (.ref b958), .val (.int (n1_361 + n2_406)), .val (.ref pa_1028)] [(.int s1_351), (.int n1_361), (.int (4 : Int32)), (.ref pa_1028)])) t
        refine XS.iload X1123.here hx rfl (hb hby at_231) rfl ?_
        exact k)
      have q1138 : 0 ≤ (4 : Int32).toInt ∧ (4 : Int32).toInt ≤ 7 ∧ 1 ≤ n1_361.toInt ∧ n1_361.toInt ≤ 4 := by
        have q1139 := rng32 kk_340
        have q1140 := (by decide : (0 : Int32).toInt = 0)
        have q1141 := (by decide : (1 : Int32).toInt = 1)
        have q1142 := rng32 n1_361
        have q1143 := rng32 s1_351
        have q1144 := rng32 f2_390
        have q1145 := rng32 z_1028
        have q1146 := (by decide : (2 : Int32).toInt = 2)
        have q1147 := (by decide : (3 : Int32).toInt = 3)
        have q1148 := (by decide : (4 : Int32).toInt = 4)
        omega
      obtain ⟨_, _, ⟨T1149, L1149, kk1149, nn1149⟩, -, X1149, ⟨Lc1149, hQ1149, l1149, y1149, z1149⟩, st1149⟩ := Jvm.LawKit.callS X1123 hx (y := (⟨"com/example/omegaprobe/omegaprobe/graph/StateSetsExpandPinLaw", "ok", "([IIIII)Z"⟩ : MethodName)) hown (mvT hZ (hw _ (List.mem_of_getElem? (i := 8) rfl))) (mvT hZ (hw _ (List.mem_of_getElem? (i := 9) rfl))) (mvT hZ (hw _ (List.mem_of_getElem? (i := 10) rfl))) (mvT hZ (hw _ (List.mem_of_getElem? (i := 11) rfl))) (by decide) (backOf (W := 0) (rm2 l Z a0 hw [] pa_1028 (4 : Int32) n1_361 s1_351 f2_390 z_1028 f_1028 h1028 n0 Z1035 Pc1028_1 q1138 hok) hZ (hw _ (List.mem_of_getElem? (i := 11) rfl)) (hw _ (List.mem_of_getElem? (i := 10) rfl)) (by decide) (by decide)) (g := (mkF m 233 #[.val (.int x0), .val (.int x1), .val (.int x2), .val (.int x3), .val (.int x4), .val (.int kk_340), .val (.int s1_351), .val (.int n1_361), .val (.int l1_371), .val (.int rm_381), .val (.int f2_390), .val (.int n2_406), .val (.int l2_416), .val (.ref b958), .val (.int (n1_361 + n2_406)), .val (.ref pa_1028)] [(.int f2_390), (.int s1_351), (.int n1_361), (.int (4 : Int32)), (.ref pa_1028)])) rfl (by rw [hml]; rfl) (argsL := [(.ref pa_1028), (.int (4 : Int32)), (.int n1_361), (.int s1_351), (.int f2_390)]) (rest := []) (lenOf own_pd1 rfl) rfl (by show 2 * 0 + _ ≤ _; exact Nat.le_of_eq rfl) (hb hby at_233) (fun _ _ => ⟨rfl, eh1123, (by decide : 2 + 0 ≤ _), (by decide : 12 + 0 ≤ _)⟩)
      dsimp only [Pt.U, Pt.locs, Pt.cells, Pt.slots] at X1149 l1149 y1149 z1149 st1149 hQ1149
      subst l1149 y1149 z1149
      obtain ⟨r_1149, rfl, Sp1149, Nq1149, eh1149⟩ := hQ1149
      have N1150 := Fr.app N1124 Nq1149
      have K1151 : ∀ t, Steps p.tables e below (T1149.setTop (mkF m 236 #[.val (.int x0), .val (.int x1), .val (.int x2), .val (.int x3), .val (.int x4), .val (.int kk_340), .val (.int s1_351), .val (.int n1_361), .val (.int l1_371), .val (.int rm_381), .val (.int f2_390), .val (.int n2_406), .val (.int l2_416), .val (.ref b958), .val (.int (n1_361 + n2_406)), .val (.ref pa_1028)] [(.int r_1149)])) t → Steps p.tables e below (s₁.setTop (entryFrame m #[(.int x0), (.int x1), (.int x2), (.int x3), (.int x4)] maxLocals)) t := fun t k => K1137 t (st1149 _ k)
      have hc1152 : ¬ (r_1149 = (0 : Int32)) := by
        have q1153 := rng32 kk_340
        have q1154 := (by decide : (0 : Int32).toInt = 0)
        have q1155 := (by decide : (1 : Int32).toInt = 1)
        have q1156 := rng32 n1_361
        have q1157 := rng32 s1_351
        have q1158 := rng32 f2_390
        have q1159 := rng32 z_1028
        have q1160 := (by decide : (2 : Int32).toInt = 2)
        have q1161 := (by decide : (3 : Int32).toInt = 3)
        have q1162 := (by decide : (4 : Int32).toInt = 4)
        have q1163 := rng32 r_1149
        intro q; have q2 := congrArg Int32.toInt q; omega
      have K1164 : ∀ t, Steps p.tables e below (T1149.setTop (mkF m 248 #[.val (.int x0), .val (.int x1), .val (.int x2), .val (.int x3), .val (.int x4), .val (.int kk_340), .val (.int s1_351), .val (.int n1_361), .val (.int l1_371), .val (.int rm_381), .val (.int f2_390), .val (.int n2_406), .val (.int l2_416), .val (.ref b958), .val (.int (n1_361 + n2_406)), .val (.ref pa_1028)] [(.int f2_390), (.int s1_351), (.int n1_361), (.int (5 : Int32)), (.ref pa_1028)])) t → Steps p.tables e below (s₁.setTop (entryFrame m #[(.int x0), (.int x1), (.int x2), (.int x3), (.int x4)] maxLocals)) t := fun t k => K1151 t (by
        show Steps p.tables e below (T1149.setTop (mkF m 236 #[.val (.int x0), .val (.int x1), .val (.int x2), .val (.int x3), .val (.int x4), .val (.int kk_340), .val (.int s1_351), .val (.int n1_361), .val (.int l1_371), .val (.int rm_381), .val (.int f2_390), .val (.int n2_406), .val (.int l2_416), .val (.ref b958), .val (.int (n1_361 + n2_406)), .val (.ref pa_1028)] [(.int r_1149)])) t
        refine XS.ifNo X1149.here hx rfl (hb hby at_236) rfl ((if0 _ _).trans (feq hc1152).1) ?_
        show Steps p.tables e below (T1149.setTop (mkF m 239 #[.val (.int x0), .val (.int x1), .val (.int x2), .val (.int x3), .val (.int x4), .val (.int kk_340), .val (.int s1_351), .val (.int n1_361), .val (.int l1_371), .val (.int rm_381), .val (.int f2_390), .val (.int n2_406), .val (.int l2_416), .val (.ref b958), .val (.int (n1_361 + n2_406)), .val (.ref pa_1028)] [])) t
        refine XS.aload X1149.here hx rfl (hb hby at_239) rfl rfl ?_
        show Steps p.tables e below (T1149.setTop (mkF m 241 #[.val (.int x0), .val (.int x1), .val (.int x2), .val (.int x3), .val (.int x4), .val (.int kk_340), .val (.int s1_351), .val (.int n1_361), .val (.int l1_371), .val (.int rm_381), .val (.int f2_390), .val (.int n2_406), .val (.int l2_416), .val (.ref b958), .val (.int (n1_361 + n2_406)), .val (.ref pa_1028)] [(.ref pa_1028)])) t
        refine XS.iconst X1149.here hx rfl (hb hby at_241) ?_
        show Steps p.tables e below (T1149.setTop (mkF m 242 #[.val (.int x0), .val (.int x1), .val (.int x2), .val (.int x3), .val (.int x4), .val (.int kk_340), .val (.int s1_351), .val (.int n1_361), .val (.int l1_371), .val (.int rm_381), .val (.int f2_390), .val (.int n2_406), .val (.int l2_416), .val (.ref b958), .val (.int (n1_361 + n2_406)), .val (.ref pa_1028)] [(.int (5 : Int32)), (.ref pa_1028)])) t
        refine XS.iload X1149.here hx rfl (hb hby at_242) rfl ?_
        show Steps p.tables e below (T1149.setTop (mkF m 244 #[.val (.int x0), .val (.int x1), .val (.int x2), .val (.int x3), .val (.int x4), .val (.int kk_340), .val (.int s1_351), .val (.int n1_361), .val (.int l1_371), .val (.int rm_381), .val (.int f2_390), .val (.int n2_406), .val (.int l2_416), .val (.ref b958), .val (.int (n1_361 + n2_406)), .val (.ref pa_1028)] [(.int n1_361), (.int (5 : Int32)), (.ref pa_1028)])) t
        refine XS.iload X1149.here hx rfl (hb hby at_244) rfl ?_
        show Steps p.tables e below (T1149.setTop (mkF m 246 #[.val (.int x0), .val (.int x1), .val (.int x2), .val (.int x3), .val (.int x4), .val (.int kk_340), .val (.int s1_351), .val (.int n1_361), .val (.int l1_371), .val (.int rm_381), .val (.int f2_390), .val (.int n2_406), .val (.int l2_416), .val (.ref b958), .val (.int (n1_361 + n2_406)), .val (.ref pa_1028)] [(.int s1_351), (.int n1_361), (.int (5 : Int32)), (.ref pa_1028)])) t
        refine XS.iload X1149.here hx rfl (hb hby at_246) rfl ?_
        exact k)
      have q1165 : 0 ≤ (5 : Int32).toInt ∧ (5 : Int32).toInt ≤ 7 ∧ 1 ≤ n1_361.toInt ∧ n1_361.toInt ≤ 4 := by
        have q1166 := rng32 kk_340
        have q1167 := (by decide : (0 : Int32).toInt = 0)
        have q1168 := (by decide : (1 : Int32).toInt = 1)
        have q1169 := rng32 n1_361
        have q1170 := rng32 s1_351
        have q1171 := rng32 f2_390
        have q1172 := rng32 z_1028
        have q1173 := (by decide : (2 : Int32).toInt = 2)
        have q1174 := (by decide : (3 : Int32).toInt = 3)
        have q1175 := (by decide : (4 : Int32).toInt = 4)
        have q1176 := (by decide : (5 : Int32).toInt = 5)
        omega
      obtain ⟨_, _, ⟨T1177, L1177, kk1177, nn1177⟩, -, X1177, ⟨Lc1177, hQ1177, l1177, y1177, z1177⟩, st1177⟩ := Jvm.LawKit.callS X1149 hx (y := (⟨"com/example/omegaprobe/omegaprobe/graph/StateSetsExpandPinLaw", "ok", "([IIIII)Z"⟩ : MethodName)) hown (mvT hZ (hw _ (List.mem_of_getElem? (i := 8) rfl))) (mvT hZ (hw _ (List.mem_of_getElem? (i := 9) rfl))) (mvT hZ (hw _ (List.mem_of_getElem? (i := 10) rfl))) (mvT hZ (hw _ (List.mem_of_getElem? (i := 11) rfl))) (by decide) (backOf (W := 0) (rm2 l Z a0 hw [] pa_1028 (5 : Int32) n1_361 s1_351 f2_390 z_1028 f_1028 h1028 n0 Z1035 Pc1028_1 q1165 hok) hZ (hw _ (List.mem_of_getElem? (i := 11) rfl)) (hw _ (List.mem_of_getElem? (i := 10) rfl)) (by decide) (by decide)) (g := (mkF m 248 #[.val (.int x0), .val (.int x1), .val (.int x2), .val (.int x3), .val (.int x4), .val (.int kk_340), .val (.int s1_351), .val (.int n1_361), .val (.int l1_371), .val (.int rm_381), .val (.int f2_390), .val (.int n2_406), .val (.int l2_416), .val (.ref b958), .val (.int (n1_361 + n2_406)), .val (.ref pa_1028)] [(.int f2_390), (.int s1_351), (.int n1_361), (.int (5 : Int32)), (.ref pa_1028)])) rfl (by rw [hml]; rfl) (argsL := [(.ref pa_1028), (.int (5 : Int32)), (.int n1_361), (.int s1_351), (.int f2_390)]) (rest := []) (lenOf own_pd1 rfl) rfl (by show 2 * 0 + _ ≤ _; exact Nat.le_of_eq rfl) (hb hby at_248) (fun _ _ => ⟨rfl, eh1149, (by decide : 2 + 0 ≤ _), (by decide : 12 + 0 ≤ _)⟩)
      dsimp only [Pt.U, Pt.locs, Pt.cells, Pt.slots] at X1177 l1177 y1177 z1177 st1177 hQ1177
      subst l1177 y1177 z1177
      obtain ⟨r_1177, rfl, Sp1177, Nq1177, eh1177⟩ := hQ1177
      have N1178 := Fr.app N1150 Nq1177
      have K1179 : ∀ t, Steps p.tables e below (T1177.setTop (mkF m 251 #[.val (.int x0), .val (.int x1), .val (.int x2), .val (.int x3), .val (.int x4), .val (.int kk_340), .val (.int s1_351), .val (.int n1_361), .val (.int l1_371), .val (.int rm_381), .val (.int f2_390), .val (.int n2_406), .val (.int l2_416), .val (.ref b958), .val (.int (n1_361 + n2_406)), .val (.ref pa_1028)] [(.int r_1177)])) t → Steps p.tables e below (s₁.setTop (entryFrame m #[(.int x0), (.int x1), (.int x2), (.int x3), (.int x4)] maxLocals)) t := fun t k => K1164 t (st1177 _ k)
      have hc1180 : ¬ (r_1177 = (0 : Int32)) := by
        have q1181 := rng32 kk_340
        have q1182 := (by decide : (0 : Int32).toInt = 0)
        have q1183 := (by decide : (1 : Int32).toInt = 1)
        have q1184 := rng32 n1_361
        have q1185 := rng32 s1_351
        have q1186 := rng32 f2_390
        have q1187 := rng32 z_1028
        have q1188 := (by decide : (2 : Int32).toInt = 2)
        have q1189 := (by decide : (3 : Int32).toInt = 3)
        have q1190 := (by decide : (4 : Int32).toInt = 4)
        have q1191 := (by decide : (5 : Int32).toInt = 5)
        have q1192 := rng32 r_1177
        intro q; have q2 := congrArg Int32.toInt q; omega
      have K1193 : ∀ t, Steps p.tables e below (T1177.setTop (mkF m 264 #[.val (.int x0), .val (.int x1), .val (.int x2), .val (.int x3), .val (.int x4), .val (.int kk_340), .val (.int s1_351), .val (.int n1_361), .val (.int l1_371), .val (.int rm_381), .val (.int f2_390), .val (.int n2_406), .val (.int l2_416), .val (.ref b958), .val (.int (n1_361 + n2_406)), .val (.ref pa_1028)] [(.int f2_390), (.int s1_351), (.int n1_361), (.int (6 : Int32)), (.ref pa_1028)])) t → Steps p.tables e below (s₁.setTop (entryFrame m #[(.int x0), (.int x1), (.int x2), (.int x3), (.int x4)] maxLocals)) t := fun t k => K1179 t (by
        show Steps p.tables e below (T1177.setTop (mkF m 251 #[.val (.int x0), .val (.int x1), .val (.int x2), .val (.int x3), .val (.int x4), .val (.int kk_340), .val (.int s1_351), .val (.int n1_361), .val (.int l1_371), .val (.int rm_381), .val (.int f2_390), .val (.int n2_406), .val (.int l2_416), .val (.ref b958), .val (.int (n1_361 + n2_406)), .val (.ref pa_1028)] [(.int r_1177)])) t
        refine XS.ifNo X1177.here hx rfl (hb hby at_251) rfl ((if0 _ _).trans (feq hc1180).1) ?_
        show Steps p.tables e below (T1177.setTop (mkF m 254 #[.val (.int x0), .val (.int x1), .val (.int x2), .val (.int x3), .val (.int x4), .val (.int kk_340), .val (.int s1_351), .val (.int n1_361), .val (.int l1_371), .val (.int rm_381), .val (.int f2_390), .val (.int n2_406), .val (.int l2_416), .val (.ref b958), .val (.int (n1_361 + n2_406)), .val (.ref pa_1028)] [])) t
        refine XS.aload X1177.here hx rfl (hb hby at_254) rfl rfl ?_
        show Steps p.tables e below (T1177.setTop (mkF m 256 #[.val (.int x0), .val (.int x1), .val (.int x2), .val (.int x3), .val (.int x4), .val (.int kk_340), .val (.int s1_351), .val (.int n1_361), .val (.int l1_371), .val (.int rm_381), .val (.int f2_390), .val (.int n2_406), .val (.int l2_416), .val (.ref b958), .val (.int (n1_361 + n2_406)), .val (.ref pa_1028)] [(.ref pa_1028)])) t
        refine XS.bipush X1177.here hx rfl (hb hby at_256) ?_
        show Steps p.tables e below (T1177.setTop (mkF m 258 #[.val (.int x0), .val (.int x1), .val (.int x2), .val (.int x3), .val (.int x4), .val (.int kk_340), .val (.int s1_351), .val (.int n1_361), .val (.int l1_371), .val (.int rm_381), .val (.int f2_390), .val (.int n2_406), .val (.int l2_416), .val (.ref b958), .val (.int (n1_361 + n2_406)), .val (.ref pa_1028)] [(.int (6 : Int32)), (.ref pa_1028)])) t
        refine XS.iload X1177.here hx rfl (hb hby at_258) rfl ?_
        show Steps p.tables e below (T1177.setTop (mkF m 260 #[.val (.int x0), .val (.int x1), .val (.int x2), .val (.int x3), .val (.int x4), .val (.int kk_340), .val (.int s1_351), .val (.int n1_361), .val (.int l1_371), .val (.int rm_381), .val (.int f2_390), .val (.int n2_406), .val (.int l2_416), .val (.ref b958), .val (.int (n1_361 + n2_406)), .val (.ref pa_1028)] [(.int n1_361), (.int (6 : Int32)), (.ref pa_1028)])) t
        refine XS.iload X1177.here hx rfl (hb hby at_260) rfl ?_
        show Steps p.tables e below (T1177.setTop (mkF m 262 #[.val (.int x0), .val (.int x1), .val (.int x2), .val (.int x3), .val (.int x4), .val (.int kk_340), .val (.int s1_351), .val (.int n1_361), .val (.int l1_371), .val (.int rm_381), .val (.int f2_390), .val (.int n2_406), .val (.int l2_416), .val (.ref b958), .val (.int (n1_361 + n2_406)), .val (.ref pa_1028)] [(.int s1_351), (.int n1_361), (.int (6 : Int32)), (.ref pa_1028)])) t
        refine XS.iload X1177.here hx rfl (hb hby at_262) rfl ?_
        exact k)
      have q1194 : 0 ≤ (6 : Int32).toInt ∧ (6 : Int32).toInt ≤ 7 ∧ 1 ≤ n1_361.toInt ∧ n1_361.toInt ≤ 4 := by
        have q1195 := rng32 kk_340
        have q1196 := (by decide : (0 : Int32).toInt = 0)
        have q1197 := (by decide : (1 : Int32).toInt = 1)
        have q1198 := rng32 n1_361
        have q1199 := rng32 s1_351
        have q1200 := rng32 f2_390
        have q1201 := rng32 z_1028
        have q1202 := (by decide : (2 : Int32).toInt = 2)
        have q1203 := (by decide : (3 : Int32).toInt = 3)
        have q1204 := (by decide : (4 : Int32).toInt = 4)
        have q1205 := (by decide : (5 : Int32).toInt = 5)
        have q1206 := (by decide : (6 : Int32).toInt = 6)
        omega
      obtain ⟨_, _, ⟨T1207, L1207, kk1207, nn1207⟩, -, X1207, ⟨Lc1207, hQ1207, l1207, y1207, z1207⟩, st1207⟩ := Jvm.LawKit.callS X1177 hx (y := (⟨"com/example/omegaprobe/omegaprobe/graph/StateSetsExpandPinLaw", "ok", "([IIIII)Z"⟩ : MethodName)) hown (mvT hZ (hw _ (List.mem_of_getElem? (i := 8) rfl))) (mvT hZ (hw _ (List.mem_of_getElem? (i := 9) rfl))) (mvT hZ (hw _ (List.mem_of_getElem? (i := 10) rfl))) (mvT hZ (hw _ (List.mem_of_getElem? (i := 11) rfl))) (by decide) (backOf (W := 0) (rm2 l Z a0 hw [] pa_1028 (6 : Int32) n1_361 s1_351 f2_390 z_1028 f_1028 h1028 n0 Z1035 Pc1028_1 q1194 hok) hZ (hw _ (List.mem_of_getElem? (i := 11) rfl)) (hw _ (List.mem_of_getElem? (i := 10) rfl)) (by decide) (by decide)) (g := (mkF m 264 #[.val (.int x0), .val (.int x1), .val (.int x2), .val (.int x3), .val (.int x4), .val (.int kk_340), .val (.int s1_351), .val (.int n1_361), .val (.int l1_371), .val (.int rm_381), .val (.int f2_390), .val (.int n2_406), .val (.int l2_416), .val (.ref b958), .val (.int (n1_361 + n2_406)), .val (.ref pa_1028)] [(.int f2_390), (.int s1_351), (.int n1_361), (.int (6 : Int32)), (.ref pa_1028)])) rfl (by rw [hml]; rfl) (argsL := [(.ref pa_1028), (.int (6 : Int32)), (.int n1_361), (.int s1_351), (.int f2_390)]) (rest := []) (lenOf own_pd1 rfl) rfl (by show 2 * 0 + _ ≤ _; exact Nat.le_of_eq rfl) (hb hby at_264) (fun _ _ => ⟨rfl, eh1177, (by decide : 2 + 0 ≤ _), (by decide : 12 + 0 ≤ _)⟩)
      dsimp only [Pt.U, Pt.locs, Pt.cells, Pt.slots] at X1207 l1207 y1207 z1207 st1207 hQ1207
      subst l1207 y1207 z1207
      obtain ⟨r_1207, rfl, Sp1207, Nq1207, eh1207⟩ := hQ1207
      have N1208 := Fr.app N1178 Nq1207
      have K1209 : ∀ t, Steps p.tables e below (T1207.setTop (mkF m 267 #[.val (.int x0), .val (.int x1), .val (.int x2), .val (.int x3), .val (.int x4), .val (.int kk_340), .val (.int s1_351), .val (.int n1_361), .val (.int l1_371), .val (.int rm_381), .val (.int f2_390), .val (.int n2_406), .val (.int l2_416), .val (.ref b958), .val (.int (n1_361 + n2_406)), .val (.ref pa_1028)] [(.int r_1207)])) t → Steps p.tables e below (s₁.setTop (entryFrame m #[(.int x0), (.int x1), (.int x2), (.int x3), (.int x4)] maxLocals)) t := fun t k => K1193 t (st1207 _ k)
      have hc1210 : ¬ (r_1207 = (0 : Int32)) := by
        have q1211 := rng32 kk_340
        have q1212 := (by decide : (0 : Int32).toInt = 0)
        have q1213 := (by decide : (1 : Int32).toInt = 1)
        have q1214 := rng32 n1_361
        have q1215 := rng32 s1_351
        have q1216 := rng32 f2_390
        have q1217 := rng32 z_1028
        have q1218 := (by decide : (2 : Int32).toInt = 2)
        have q1219 := (by decide : (3 : Int32).toInt = 3)
        have q1220 := (by decide : (4 : Int32).toInt = 4)
        have q1221 := (by decide : (5 : Int32).toInt = 5)
        have q1222 := (by decide : (6 : Int32).toInt = 6)
        have q1223 := rng32 r_1207
        intro q; have q2 := congrArg Int32.toInt q; omega
      have K1224 : ∀ t, Steps p.tables e below (T1207.setTop (mkF m 280 #[.val (.int x0), .val (.int x1), .val (.int x2), .val (.int x3), .val (.int x4), .val (.int kk_340), .val (.int s1_351), .val (.int n1_361), .val (.int l1_371), .val (.int rm_381), .val (.int f2_390), .val (.int n2_406), .val (.int l2_416), .val (.ref b958), .val (.int (n1_361 + n2_406)), .val (.ref pa_1028)] [(.int f2_390), (.int s1_351), (.int n1_361), (.int (7 : Int32)), (.ref pa_1028)])) t → Steps p.tables e below (s₁.setTop (entryFrame m #[(.int x0), (.int x1), (.int x2), (.int x3), (.int x4)] maxLocals)) t := fun t k => K1209 t (by
        show Steps p.tables e below (T1207.setTop (mkF m 267 #[.val (.int x0), .val (.int x1), .val (.int x2), .val (.int x3), .val (.int x4), .val (.int kk_340), .val (.int s1_351), .val (.int n1_361), .val (.int l1_371), .val (.int rm_381), .val (.int f2_390), .val (.int n2_406), .val (.int l2_416), .val (.ref b958), .val (.int (n1_361 + n2_406)), .val (.ref pa_1028)] [(.int r_1207)])) t
        refine XS.ifNo X1207.here hx rfl (hb hby at_267) rfl ((if0 _ _).trans (feq hc1210).1) ?_
        show Steps p.tables e below (T1207.setTop (mkF m 270 #[.val (.int x0), .val (.int x1), .val (.int x2), .val (.int x3), .val (.int x4), .val (.int kk_340), .val (.int s1_351), .val (.int n1_361), .val (.int l1_371), .val (.int rm_381), .val (.int f2_390), .val (.int n2_406), .val (.int l2_416), .val (.ref b958), .val (.int (n1_361 + n2_406)), .val (.ref pa_1028)] [])) t
        refine XS.aload X1207.here hx rfl (hb hby at_270) rfl rfl ?_
        show Steps p.tables e below (T1207.setTop (mkF m 272 #[.val (.int x0), .val (.int x1), .val (.int x2), .val (.int x3), .val (.int x4), .val (.int kk_340), .val (.int s1_351), .val (.int n1_361), .val (.int l1_371), .val (.int rm_381), .val (.int f2_390), .val (.int n2_406), .val (.int l2_416), .val (.ref b958), .val (.int (n1_361 + n2_406)), .val (.ref pa_1028)] [(.ref pa_1028)])) t
        refine XS.bipush X1207.here hx rfl (hb hby at_272) ?_
        show Steps p.tables e below (T1207.setTop (mkF m 274 #[.val (.int x0), .val (.int x1), .val (.int x2), .val (.int x3), .val (.int x4), .val (.int kk_340), .val (.int s1_351), .val (.int n1_361), .val (.int l1_371), .val (.int rm_381), .val (.int f2_390), .val (.int n2_406), .val (.int l2_416), .val (.ref b958), .val (.int (n1_361 + n2_406)), .val (.ref pa_1028)] [(.int (7 : Int32)), (.ref pa_1028)])) t
        refine XS.iload X1207.here hx rfl (hb hby at_274) rfl ?_
        show Steps p.tables e below (T1207.setTop (mkF m 276 #[.val (.int x0), .val (.int x1), .val (.int x2), .val (.int x3), .val (.int x4), .val (.int kk_340), .val (.int s1_351), .val (.int n1_361), .val (.int l1_371), .val (.int rm_381), .val (.int f2_390), .val (.int n2_406), .val (.int l2_416), .val (.ref b958), .val (.int (n1_361 + n2_406)), .val (.ref pa_1028)] [(.int n1_361), (.int (7 : Int32)), (.ref pa_1028)])) t
        refine XS.iload X1207.here hx rfl (hb hby at_276) rfl ?_
        show Steps p.tables e below (T1207.setTop (mkF m 278 #[.val (.int x0), .val (.int x1), .val (.int x2), .val (.int x3), .val (.int x4), .val (.int kk_340), .val (.int s1_351), .val (.int n1_361), .val (.int l1_371), .val (.int rm_381), .val (.int f2_390), .val (.int n2_406), .val (.int l2_416), .val (.ref b958), .val (.int (n1_361 + n2_406)), .val (.ref pa_1028)] [(.int s1_351), (.int n1_361), (.int (7 : Int32)), (.ref pa_1028)])) t
        refine XS.iload X1207.here hx rfl (hb hby at_278) rfl ?_
        exact k)
      have q1225 : 0 ≤ (7 : Int32).toInt ∧ (7 : Int32).toInt ≤ 7 ∧ 1 ≤ n1_361.toInt ∧ n1_361.toInt ≤ 4 := by
        have q1226 := rng32 kk_340
        have q1227 := (by decide : (0 : Int32).toInt = 0)
        have q1228 := (by decide : (1 : Int32).toInt = 1)
        have q1229 := rng32 n1_361
        have q1230 := rng32 s1_351
        have q1231 := rng32 f2_390
        have q1232 := rng32 z_1028
        have q1233 := (by decide : (2 : Int32).toInt = 2)
        have q1234 := (by decide : (3 : Int32).toInt = 3)
        have q1235 := (by decide : (4 : Int32).toInt = 4)
        have q1236 := (by decide : (5 : Int32).toInt = 5)
        have q1237 := (by decide : (6 : Int32).toInt = 6)
        have q1238 := (by decide : (7 : Int32).toInt = 7)
        omega
      obtain ⟨_, _, ⟨T1239, L1239, kk1239, nn1239⟩, -, X1239, ⟨Lc1239, hQ1239, l1239, y1239, z1239⟩, st1239⟩ := Jvm.LawKit.callS X1207 hx (y := (⟨"com/example/omegaprobe/omegaprobe/graph/StateSetsExpandPinLaw", "ok", "([IIIII)Z"⟩ : MethodName)) hown (mvT hZ (hw _ (List.mem_of_getElem? (i := 8) rfl))) (mvT hZ (hw _ (List.mem_of_getElem? (i := 9) rfl))) (mvT hZ (hw _ (List.mem_of_getElem? (i := 10) rfl))) (mvT hZ (hw _ (List.mem_of_getElem? (i := 11) rfl))) (by decide) (backOf (W := 0) (rm2 l Z a0 hw [] pa_1028 (7 : Int32) n1_361 s1_351 f2_390 z_1028 f_1028 h1028 n0 Z1035 Pc1028_1 q1225 hok) hZ (hw _ (List.mem_of_getElem? (i := 11) rfl)) (hw _ (List.mem_of_getElem? (i := 10) rfl)) (by decide) (by decide)) (g := (mkF m 280 #[.val (.int x0), .val (.int x1), .val (.int x2), .val (.int x3), .val (.int x4), .val (.int kk_340), .val (.int s1_351), .val (.int n1_361), .val (.int l1_371), .val (.int rm_381), .val (.int f2_390), .val (.int n2_406), .val (.int l2_416), .val (.ref b958), .val (.int (n1_361 + n2_406)), .val (.ref pa_1028)] [(.int f2_390), (.int s1_351), (.int n1_361), (.int (7 : Int32)), (.ref pa_1028)])) rfl (by rw [hml]; rfl) (argsL := [(.ref pa_1028), (.int (7 : Int32)), (.int n1_361), (.int s1_351), (.int f2_390)]) (rest := []) (lenOf own_pd1 rfl) rfl (by show 2 * 0 + _ ≤ _; exact Nat.le_of_eq rfl) (hb hby at_280) (fun _ _ => ⟨rfl, eh1207, (by decide : 2 + 0 ≤ _), (by decide : 12 + 0 ≤ _)⟩)
      dsimp only [Pt.U, Pt.locs, Pt.cells, Pt.slots] at X1239 l1239 y1239 z1239 st1239 hQ1239
      subst l1239 y1239 z1239
      obtain ⟨r_1239, rfl, Sp1239, Nq1239, eh1239⟩ := hQ1239
      have N1240 := Fr.app N1208 Nq1239
      have K1241 : ∀ t, Steps p.tables e below (T1239.setTop (mkF m 283 #[.val (.int x0), .val (.int x1), .val (.int x2), .val (.int x3), .val (.int x4), .val (.int kk_340), .val (.int s1_351), .val (.int n1_361), .val (.int l1_371), .val (.int rm_381), .val (.int f2_390), .val (.int n2_406), .val (.int l2_416), .val (.ref b958), .val (.int (n1_361 + n2_406)), .val (.ref pa_1028)] [(.int r_1239)])) t → Steps p.tables e below (s₁.setTop (entryFrame m #[(.int x0), (.int x1), (.int x2), (.int x3), (.int x4)] maxLocals)) t := fun t k => K1224 t (st1239 _ k)
      have hc1242 : ¬ (r_1239 = (0 : Int32)) := by
        have q1243 := rng32 kk_340
        have q1244 := (by decide : (0 : Int32).toInt = 0)
        have q1245 := (by decide : (1 : Int32).toInt = 1)
        have q1246 := rng32 n1_361
        have q1247 := rng32 s1_351
        have q1248 := rng32 f2_390
        have q1249 := rng32 z_1028
        have q1250 := (by decide : (2 : Int32).toInt = 2)
        have q1251 := (by decide : (3 : Int32).toInt = 3)
        have q1252 := (by decide : (4 : Int32).toInt = 4)
        have q1253 := (by decide : (5 : Int32).toInt = 5)
        have q1254 := (by decide : (6 : Int32).toInt = 6)
        have q1255 := (by decide : (7 : Int32).toInt = 7)
        have q1256 := rng32 r_1239
        intro q; have q2 := congrArg Int32.toInt q; omega
      have K1257 : ∀ t, Steps p.tables e below (T1239.setTop (mkF m 291 #[.val (.int x0), .val (.int x1), .val (.int x2), .val (.int x3), .val (.int x4), .val (.int kk_340), .val (.int s1_351), .val (.int n1_361), .val (.int l1_371), .val (.int rm_381), .val (.int f2_390), .val (.int n2_406), .val (.int l2_416), .val (.ref b958), .val (.int (n1_361 + n2_406)), .val (.ref pa_1028)] [(.int (1 : Int32))])) t → Steps p.tables e below (s₁.setTop (entryFrame m #[(.int x0), (.int x1), (.int x2), (.int x3), (.int x4)] maxLocals)) t := fun t k => K1241 t (by
        show Steps p.tables e below (T1239.setTop (mkF m 283 #[.val (.int x0), .val (.int x1), .val (.int x2), .val (.int x3), .val (.int x4), .val (.int kk_340), .val (.int s1_351), .val (.int n1_361), .val (.int l1_371), .val (.int rm_381), .val (.int f2_390), .val (.int n2_406), .val (.int l2_416), .val (.ref b958), .val (.int (n1_361 + n2_406)), .val (.ref pa_1028)] [(.int r_1239)])) t
        refine XS.ifNo X1239.here hx rfl (hb hby at_283) rfl ((if0 _ _).trans (feq hc1242).1) ?_
        show Steps p.tables e below (T1239.setTop (mkF m 286 #[.val (.int x0), .val (.int x1), .val (.int x2), .val (.int x3), .val (.int x4), .val (.int kk_340), .val (.int s1_351), .val (.int n1_361), .val (.int l1_371), .val (.int rm_381), .val (.int f2_390), .val (.int n2_406), .val (.int l2_416), .val (.ref b958), .val (.int (n1_361 + n2_406)), .val (.ref pa_1028)] [])) t
        refine XS.iconst X1239.here hx rfl (hb hby at_286) ?_
        show Steps p.tables e below (T1239.setTop (mkF m 287 #[.val (.int x0), .val (.int x1), .val (.int x2), .val (.int x3), .val (.int x4), .val (.int kk_340), .val (.int s1_351), .val (.int n1_361), .val (.int l1_371), .val (.int rm_381), .val (.int f2_390), .val (.int n2_406), .val (.int l2_416), .val (.ref b958), .val (.int (n1_361 + n2_406)), .val (.ref pa_1028)] [(.int (1 : Int32))])) t
        refine XS.goto X1239.here hx rfl (pc0 := 287) (pc' := 291) rfl (hb hby at_287) (by decide) (by decide) ?_
        exact k)
      obtain ⟨fs, hr, hrun, hended, hW, hsame⟩ := X1239.leave (v := some (.int (1 : Int32))) (fun h => by rw [Bd.returns] at h; cases h)
      refine ⟨_, _, K1257 _ ?_, hrun, hended, _, _, rfl, ?_, ⟨_, rfl⟩, hW, hsame.mono (by decide) (by decide)⟩
      · exact retN X1239 hx (t := .boolean) Bd.returns (by simp) (hb hby at_291) hr
      · show Q_rm0 Z x0 x1 x2 x3 x4 h0 n0 _ T1239.heap _
        have q1258 := rng32 kk_340
        have q1259 := (by decide : (0 : Int32).toInt = 0)
        have q1260 := (by decide : (1 : Int32).toInt = 1)
        have q1261 := rng32 n1_361
        have q1262 := rng32 s1_351
        have q1263 := rng32 f2_390
        have q1264 := rng32 z_1028
        have q1265 := (by decide : (2 : Int32).toInt = 2)
        have q1266 := (by decide : (3 : Int32).toInt = 3)
        have q1267 := (by decide : (4 : Int32).toInt = 4)
        have q1268 := (by decide : (5 : Int32).toInt = 5)
        have q1269 := (by decide : (6 : Int32).toInt = 6)
        have q1270 := (by decide : (7 : Int32).toInt = 7)
        rw [eh1239]
        exact ⟨rfl, (by trivial), N1240, Kp1034⟩
set_option maxRecDepth 65536 in
set_option maxHeartbeats 40000000 in
theorem comes_1 {Post : Tables → Env → Array Value → State → Outcome → State → Prop} (hpost : ∀ tb e args s v u, (limb_1_1.after args s (.returned v) u = true ∧ limb_1_2.after args s (.returned v) u = true ∧ True) → FrameEnd s (.returned v) u (Jvm.fieldLocs frame_1_writes args s ++ Jvm.arrayLocs frame_1_arrays args s ++ Jvm.staticLocs frame_1_statics s) 16 128 → Post tb e args s (.returned v) u) :
    ArmFor flags0 classFile x code maxLocals ret World_1 tables_1 room_1 Calls_1 rest_1 Pre_1 Post := by
  intro l hfl _ _ p e ha hc hk s m args below hf hA hF happ hP
  obtain ⟨hcalls, hrest, hpre⟩ := hP
  obtain ⟨-, -, -, hnamed, -, -, -, hat⟩ := (Spec.applies_iff hf).mp happ
  obtain ⟨hg, hn⟩ := and_e (Cond.before_iff.mp (show (Jvm.Cond.and given_1 narrow_1).before args s = true from hpre))
  obtain ⟨gg1, gg2⟩ := and_e hg
  obtain ⟨gg3, gg4⟩ := and_e gg2
  obtain ⟨gg5, gg6⟩ := and_e gg4
  obtain ⟨gg7, gg8⟩ := and_e gg6
  obtain ⟨gg9, gg10⟩ := and_e gg8
  obtain ⟨w0, w1, w2, w3, w4, rfl⟩ : ∃ w0 w1 w2 w3 w4 : Value, args = #[w0, w1, w2, w3, w4] := by
    have hs : args.size = 5 := by simpa [Cond.value, given_1] using gg1
    obtain ⟨L⟩ := args
    match L, hs with
    | [w0, w1, w2, w3, w4], _ => exact ⟨w0, w1, w2, w3, w4, rfl⟩
  have hw := fun d (hd : d ∈ tables_1) => atoms_spec (ws := Jvm.Cond.code x code maxLocals ret :: tables_1) hat d (List.mem_cons_of_mem _ hd)
  obtain ⟨i0, ei0⟩ := is_v gg3
  obtain rfl : w0 = (.int i0) := Option.some.inj ei0
  obtain ⟨i1, ei1⟩ := is_v gg5
  obtain rfl : w1 = (.int i1) := Option.some.inj ei1
  obtain ⟨i2, ei2⟩ := is_v gg7
  obtain rfl : w2 = (.int i2) := Option.some.inj ei2
  obtain ⟨i3, ei3⟩ := is_v gg9
  obtain rfl : w3 = (.int i3) := Option.some.inj ei3
  obtain ⟨i4, ei4⟩ := is_v gg10
  obtain rfl : w4 = (.int i4) := Option.some.inj ei4
  obtain ⟨n, o, h1, h2, h3, _, L, rfl, ⟨rfl, -, N, -⟩, hq⟩ := rm0 l s _ hw tables_1 i0 i1 i2 i3 i4 s.heap s.heap.size (Nat.le_refl _) p e ha hc hk s m _ below hf ((Spec.applies_iff_loose hf).mp happ).1 ⟨rfl, State.Warmed39.refl s, rfl⟩ trivial
  refine ⟨n, _, h1, h2, h3, hpost _ _ _ _ _ _ ⟨Cond.after_iff.mpr rfl, Cond.after_iff.mpr (eq_i res_at (Term.int_eval (1)) rfl), trivial⟩ ⟨hq.1, hq.2.1, (hq.2.2.sift fun y hy => Or.inr (N y hy)).mono (by decide) (by decide)⟩⟩
theorem main_1_1 : Claimed_1_1 := comes_1 fun _ _ _ _ _ _ h hF => ⟨h.1, hF⟩
theorem main_1_2 : Claimed_1_2 := comes_1 fun _ _ _ _ _ _ h hF => ⟨h.2.1, hF⟩
end Jvm.Pilot.@@N@@
namespace Jvm.Pilot.@@N@@
open Jvm Jvm.ClassFile Sem Op Lib Jvm.Free Jvm.Stand Jvm.Pilot.@@N@@.Jvm.D
/-! MADE BY PROGRAM (witnessworld.py) out of the Statement's table words and the real class files: 9 classes; the members and pool entries that the words name. The judged class is class 1, her method 1. -/
namespace start1
open Jvm.ClassFile
def u (s : String) : CpInfo := .utf8 (stringToUtf16 s)
/-- a pool by its gaps: so many unusable entries, then the entry; so many at the end -/
def gap : Nat → List CpInfo → List CpInfo
  | 0, r => r
  | n + 1, r => .unusable :: gap n r
def poolList (es : List (Nat × CpInfo)) (last : Nat) : List CpInfo := es.foldr (fun e r => gap e.1 (e.2 :: r)) (gap last [])
def pool (es : List (Nat × CpInfo)) (last : Nat) : Array CpInfo := ⟨poolList es last⟩
def fileOf (pool : Array CpInfo) (this : Nat) (attrs : Array Attribute := #[]) (ms : Array MethodInfo := #[]) (fl : Nat := 33) (sup : Nat := 0) (ifs : Array Nat := #[]) (fds : Array FieldInfo := #[]) : ClassFile where
  minorVersion := 0
  majorVersion := 65
  constantPool := pool
  accessFlags := fl
  thisClass := this
  superClass := sup
  interfaces := ifs
  fields := fds
  methods := ms
  attributes := attrs
def plain (name : String) (sup : Option ClassId) : Class where
  name := name
  kind := .ordinary
  loader := none
  accessFlags := 33
  super := sup
  interfaces := #[]
  cf := none
  fields := #[]
  methods := #[]
  instanceTypes := #[]
  staticTypes := #[]
  resolved := #[]
  callSites := []
  init := .initialized
  statics := none
  mirror := none

def pool0 : Array CpInfo := pool [(5, u "<init>"), (0, u "()V"), (1, .class_ 10), (1, u "java/lang/Object")] 113

def k0m0 : Method := { name := "<init>", desc := "()V", sig := { parameters := [], returnType := none }, accessFlags := 1, code := none }
/-- java/lang/Object -/
def k0 : Class := { plain "java/lang/Object" none with
  accessFlags := 33
  interfaces := #[]
  cf := some (fileOf pool0 8 #[] #[{ accessFlags := 1, nameIndex := 5, descriptorIndex := 6, attributes := #[] }] 33 0 #[] #[])
  fields := #[]
  methods := #[k0m0]
  instanceTypes := #[]
  staticTypes := #[]
  resolved := Array.replicate 124 none
  statics := none }

def pool1 : Array CpInfo := pool [(2, .class_ 4), (1, u "java/lang/Object"), (0, u "<init>"), (0, u "()V"), (0, .integer 2147483647), (2, .integer 2147483627), (0, .integer 2147483639), (0, .methodref 13 14), (0, .class_ 15), (0, .nameAndType 16 17), (0, u "com/example/omegaprobe/omegaprobe/graph/StateSets"), (0, u "expand"), (0, u "([I)[I"), (0, .methodref 19 20), (0, .class_ 21), (0, .nameAndType 22 23), (0, u "com/example/omegaprobe/omegaprobe/graph/StateSetsExpandPinLaw"), (0, u "ok"), (0, u "([IIIII)Z"), (2, u "law"), (0, u "(IIIII)Z")] 5

def k1m0 : Method := { name := "<init>", desc := "()V", sig := { parameters := [], returnType := none }, accessFlags := 1, code := none }
def k1c1 : Code := { maxStack := 5, maxLocals := 16, code := code, exceptionTable := #[], attributes := #[] }
def k1m1 : Method := { name := "law", desc := "(IIIII)Z", sig := { parameters := [.int, .int, .int, .int, .int], returnType := some .boolean }, accessFlags := 9, code := some k1c1 }
def k1c2 : Code := { maxStack := 3, maxLocals := 6, code := method_3_code, exceptionTable := #[], attributes := #[] }
def k1m2 : Method := { name := "ok", desc := "([IIIII)Z", sig := { parameters := [(.array .int), .int, .int, .int, .int], returnType := some .boolean }, accessFlags := 10, code := some k1c2 }
/-- com/example/omegaprobe/omegaprobe/graph/StateSetsExpandPinLaw -/
def k1 : Class := { plain "com/example/omegaprobe/omegaprobe/graph/StateSetsExpandPinLaw" (some 0) with
  accessFlags := 49
  interfaces := #[]
  cf := some (fileOf pool1 19 #[] #[{ accessFlags := 1, nameIndex := 5, descriptorIndex := 6, attributes := #[] }, { accessFlags := 9, nameIndex := 26, descriptorIndex := 27, attributes := #[] }, { accessFlags := 10, nameIndex := 22, descriptorIndex := 23, attributes := #[] }] 49 2 #[] #[])
  fields := #[]
  methods := #[k1m0, k1m1, k1m2]
  instanceTypes := #[]
  staticTypes := #[]
  resolved := Array.replicate 33 none
  statics := none }

def pool2 : Array CpInfo := pool [(3, .class_ 4), (0, u "com/example/omegaprobe/omegaprobe/graph/StateSets"), (1, .class_ 8), (1, u "java/lang/Object"), (0, u "<init>"), (0, u "()V"), (1, u "[B"), (2, u "blocks"), (0, u "[[B"), (2, u "ends"), (0, u "[J"), (2, u "slots"), (0, u "[I"), (2, u "code"), (16, .class_ 45), (0, u "com/example/omegaprobe/omegaprobe/graph/StateSets$Reader"), (18, u "I"), (23, u "read"), (0, u "J"), (2, u "length"), (5, u "filled"), (89, u "size"), (20, u "MAX_SIZE"), (1, u "MAX_ARRAY"), (1, u "BLOCK_BITS"), (1, u "BLOCK"), (0, u "MAX_NUMBER_BYTES"), (1, u "MAX_RUNS"), (20, u "expand"), (0, u "([I)[I")] 5

def k2m0 : Method := { name := "<init>", desc := "()V", sig := { parameters := [], returnType := none }, accessFlags := 1, code := none }
def k2c1 : Code := { maxStack := 4, maxLocals := 6, code := prog_176_method_10_code, exceptionTable := #[], attributes := #[] }
def k2m1 : Method := { name := "expand", desc := "([I)[I", sig := { parameters := [(.array .int)], returnType := some (.array .int) }, accessFlags := 9, code := some k2c1 }
/-- com/example/omegaprobe/omegaprobe/graph/StateSets -/
def k2 : Class := { plain "com/example/omegaprobe/omegaprobe/graph/StateSets" (some 0) with
  accessFlags := 49
  interfaces := #[]
  cf := some (fileOf pool2 3 #[.nestMembers #[44]] #[{ accessFlags := 1, nameIndex := 9, descriptorIndex := 10, attributes := #[] }, { accessFlags := 9, nameIndex := 239, descriptorIndex := 240, attributes := #[] }] 49 6 #[] #[{ accessFlags := 26, nameIndex := 209, descriptorIndex := 64, attributes := #[] }, { accessFlags := 26, nameIndex := 211, descriptorIndex := 64, attributes := #[] }, { accessFlags := 26, nameIndex := 213, descriptorIndex := 64, attributes := #[] }, { accessFlags := 26, nameIndex := 215, descriptorIndex := 64, attributes := #[] }, { accessFlags := 26, nameIndex := 216, descriptorIndex := 64, attributes := #[] }, { accessFlags := 26, nameIndex := 218, descriptorIndex := 64, attributes := #[] }, { accessFlags := 2, nameIndex := 15, descriptorIndex := 16, attributes := #[] }, { accessFlags := 2, nameIndex := 98, descriptorIndex := 89, attributes := #[] }, { accessFlags := 2, nameIndex := 19, descriptorIndex := 20, attributes := #[] }, { accessFlags := 2, nameIndex := 188, descriptorIndex := 64, attributes := #[] }, { accessFlags := 2, nameIndex := 23, descriptorIndex := 24, attributes := #[] }, { accessFlags := 2, nameIndex := 27, descriptorIndex := 12, attributes := #[] }, { accessFlags := 2, nameIndex := 92, descriptorIndex := 64, attributes := #[] }, { accessFlags := 2, nameIndex := 88, descriptorIndex := 89, attributes := #[] }])
  fields := #[{ name := "MAX_SIZE", type := .int, accessFlags := 26, slot := 0, constantValue := 0 }, { name := "MAX_ARRAY", type := .int, accessFlags := 26, slot := 1, constantValue := 0 }, { name := "BLOCK_BITS", type := .int, accessFlags := 26, slot := 2, constantValue := 0 }, { name := "BLOCK", type := .int, accessFlags := 26, slot := 3, constantValue := 0 }, { name := "MAX_NUMBER_BYTES", type := .int, accessFlags := 26, slot := 4, constantValue := 0 }, { name := "MAX_RUNS", type := .int, accessFlags := 26, slot := 5, constantValue := 0 }, { name := "blocks", type := (.array (.array .byte)), accessFlags := 2, slot := 0, constantValue := 0 }, { name := "filled", type := .long, accessFlags := 2, slot := 1, constantValue := 0 }, { name := "ends", type := (.array .long), accessFlags := 2, slot := 2, constantValue := 0 }, { name := "size", type := .int, accessFlags := 2, slot := 3, constantValue := 0 }, { name := "slots", type := (.array .int), accessFlags := 2, slot := 4, constantValue := 0 }, { name := "code", type := (.array .byte), accessFlags := 2, slot := 5, constantValue := 0 }, { name := "length", type := .int, accessFlags := 2, slot := 6, constantValue := 0 }, { name := "read", type := .long, accessFlags := 2, slot := 7, constantValue := 0 }]
  methods := #[k2m0, k2m1]
  instanceTypes := #[(.array (.array .byte)), .long, (.array .long), .int, (.array .int), (.array .byte), .int, .long]
  staticTypes := #[.int, .int, .int, .int, .int, .int]
  resolved := Array.replicate 246 none
  statics := none }

def pool3 : Array CpInfo := pool [(1, u "java/lang/Cloneable"), (0, .class_ 1), (0, u "java/lang/Object"), (0, .class_ 3)] 3

/-- java/lang/Cloneable -/
def k3 : Class := { plain "java/lang/Cloneable" (some 0) with
  accessFlags := 1537
  interfaces := #[]
  cf := some (fileOf pool3 2 #[] #[] 1537 4 #[] #[])
  fields := #[]
  methods := #[]
  instanceTypes := #[]
  staticTypes := #[]
  resolved := Array.replicate 8 none
  statics := none }

def pool4 : Array CpInfo := pool [(1, u "java/io/Serializable"), (0, .class_ 1), (0, u "java/lang/Object"), (0, .class_ 3)] 3

/-- java/io/Serializable -/
def k4 : Class := { plain "java/io/Serializable" (some 0) with
  accessFlags := 1537
  interfaces := #[]
  cf := some (fileOf pool4 2 #[] #[] 1537 4 #[] #[])
  fields := #[]
  methods := #[]
  instanceTypes := #[]
  staticTypes := #[]
  resolved := Array.replicate 8 none
  statics := none }

/-- the primitive byte -/
def k5 : Class := { plain "byte" none with kind := .primitive 'B', accessFlags := 0x411 }
/-- [B -/
def k6 : Class := { plain "[B" (some 0) with kind := .array 5 .byte, interfaces := #[3, 4], accessFlags := 1041 }

/-- the primitive int -/
def k7 : Class := { plain "int" none with kind := .primitive 'I', accessFlags := 0x411 }
/-- [I -/
def k8 : Class := { plain "[I" (some 0) with kind := .array 7 .int, interfaces := #[3, 4], accessFlags := 1041 }

def heap : Heap := #[]
def classes : Array Class := #[k0, k1, k2, k3, k4, k5, k6, k7, k8]
def interned : List (Array UInt16 × Addr) := []
def slotsUsed : Nat := 0
def theMethod : MethodId := ⟨1, 1⟩
def args0 : Array Value := #[.int 5, .int 7, .int 9, .int 3, .int 2]
def aboutOver (below : List Frame) : State where
  vm := { classes := classes, interned := interned.toArray }
  heap := heap
  slotsUsed := slotsUsed
  threads := #[{ frames := .invoking theMethod args0 :: below }]
def below0 : List Frame := [.native { method := ⟨0, 0⟩, args := #[] }]
def about1 : State := aboutOver below0
def p0 : Program := .bare "" "" ""
def e0 : Env := launch0.env 0 0 0
theorem w_frames : about1.frames = Frame.invoking theMethod args0 :: below0 := rfl
set_option maxRecDepth 65536 in
theorem w_args : argsFit about1.vm theMethod args0 = true := by decide +kernel
set_option maxRecDepth 65536 in
theorem w_heap : heapFits about1 = true := by decide +kernel
set_option maxRecDepth 65536 in
theorem w_runnable : about1.curStatus? = some .runnable := by decide +kernel
set_option maxRecDepth 65536 in
theorem w_alone : about1.alone = true := by decide +kernel
set_option maxRecDepth 65536 in
theorem w_named : about1.methodNamed? x = some theMethod := by decide +kernel
set_option maxRecDepth 65536 in
theorem w_hears : about1.hears theMethod below0 = true := by decide +kernel
set_option maxRecDepth 65536 in
theorem w_ripe : about1.ripe theMethod args0 below0 = true := by decide +kernel
theorem w_running : about1.status = .running := rfl
set_option maxRecDepth 65536 in
theorem w_room : about1.hasRoom e0.platform room_1 = true :=
  launch0.hasRoom_least _ room_1 (by decide +kernel) (by decide +kernel) (by decide +kernel) (by decide +kernel) (by decide +kernel) (by decide +kernel)
theorem allAtoms_all (ts : List Jvm.Cond) (a : Array Jvm.Value) (st : Jvm.State) : (allAtoms ts).before a st = ts.all (fun c => c.before a st) := by
  induction ts with
  | nil => rfl
  | cons c t ih =>
    show (Jvm.Cond.and c (allAtoms t)).before a st = _
    rw [Jvm.Cond.before_and, ih, List.all_cons]
def words1 : List Jvm.Cond := Jvm.Cond.code x code maxLocals ret :: tables_1
/-- a 'code' word, met by the world's own term for the bytes: nothing is compared byte by byte -/
theorem code_word {y : MethodName} {bytes : ByteArray} {mx : Nat} {rt : Option FieldType} {a : Array Value} {s : State} {m : MethodId} {meth : Method} {c : Code} (h1 : s.methodNamed? y = some m) (h2 : s.vm.method? m = some meth) (h3 : meth.code = some c) (h4 : c.code = bytes)
    (h5 : (c.maxLocals == mx && c.exceptionTable.isEmpty && decide (c.maxStack ≤ mostOperands) && decide (meth.sig.returnType = rt) && !meth.locks && decide (parseMethodDescriptor y.desc = some meth.sig)) = true) : (Jvm.Cond.code y bytes mx rt).before a s = true := by
  simp only [Bool.and_eq_true, beq_iff_eq, Bool.not_eq_true', decide_eq_true_eq] at h5
  obtain ⟨⟨⟨⟨⟨g1, g2⟩, g3⟩, g4⟩, g5⟩, g6⟩ := h5
  simp [Cond.before, Cond.holds, Cond.value, h1, h2, h3, h4, g1, g2, g3, g4, g5, g6]
def isCode : Jvm.Cond → Bool
  | .code _ _ _ _ => true
  | _ => false
theorem all_split {L : List Jvm.Cond} {P : Jvm.Cond → Bool} (h1 : L.all (fun c => isCode c || P c) = true) (h2 : ∀ c ∈ L.filter isCode, P c = true) : L.all P = true := by
  refine List.all_eq_true.mpr fun c hc => ?_
  have h := List.all_eq_true.mp h1 c hc
  rcases Bool.eq_false_or_eq_true (isCode c) with hi | hi
  · exact h2 c (List.mem_filter.mpr ⟨hc, hi⟩)
  · simpa [hi] using h
set_option maxRecDepth 65536 in
theorem w_c0 : (Jvm.Cond.code x code maxLocals ret).before args0 about1 = true := code_word (m := ⟨1, 1⟩) (meth := k1m1) (c := k1c1) (by decide +kernel) rfl rfl rfl (by decide +kernel)
set_option maxRecDepth 65536 in
theorem w_c1 : (Jvm.Cond.code ({ cls := "com/example/omegaprobe/omegaprobe/graph/StateSets", name := "expand", desc := "([I)[I" } : Jvm.MethodName) prog_176_method_10_code (6 : Nat) (Option.some (Jvm.ClassFile.FieldType.array Jvm.ClassFile.FieldType.int))).before args0 about1 = true := code_word (m := ⟨2, 1⟩) (meth := k2m1) (c := k2c1) (by decide +kernel) rfl rfl rfl (by decide +kernel)
set_option maxRecDepth 65536 in
theorem w_c2 : (Jvm.Cond.code ({ cls := "com/example/omegaprobe/omegaprobe/graph/StateSetsExpandPinLaw", name := "ok", desc := "([IIIII)Z" } : Jvm.MethodName) method_3_code (6 : Nat) (Option.some Jvm.ClassFile.FieldType.boolean)).before args0 about1 = true := code_word (m := ⟨1, 2⟩) (meth := k1m2) (c := k1c2) (by decide +kernel) rfl rfl rfl (by decide +kernel)
def codes1 : List Jvm.Cond := [Jvm.Cond.code x code maxLocals ret, Jvm.Cond.code ({ cls := "com/example/omegaprobe/omegaprobe/graph/StateSets", name := "expand", desc := "([I)[I" } : Jvm.MethodName) prog_176_method_10_code (6 : Nat) (Option.some (Jvm.ClassFile.FieldType.array Jvm.ClassFile.FieldType.int)), Jvm.Cond.code ({ cls := "com/example/omegaprobe/omegaprobe/graph/StateSetsExpandPinLaw", name := "ok", desc := "([IIIII)Z" } : Jvm.MethodName) method_3_code (6 : Nat) (Option.some Jvm.ClassFile.FieldType.boolean)]
set_option maxRecDepth 65536 in
theorem codes_eq : words1.filter isCode = codes1 := rfl
theorem w_codes : ∀ c ∈ words1.filter isCode, c.before args0 about1 = true := by
  rw [codes_eq]
  intro c hc
  simp only [codes1, List.mem_cons, List.not_mem_nil, or_false] at hc
  rcases hc with rfl | rfl | rfl
  · exact w_c0
  · exact w_c1
  · exact w_c2
set_option maxRecDepth 65536 in
theorem w_t1 : words1.all (fun c => isCode c || c.before args0 about1) = true := by decide +kernel
theorem w_tables : (allAtoms (Jvm.Cond.code x code maxLocals ret :: tables_1)).before args0 about1 = true := by
  rw [allAtoms_all]
  show words1.all (fun c => c.before args0 about1) = true
  refine all_split ?_ w_codes
  rw [w_t1]
set_option maxRecDepth 65536 in
theorem w_case : (Jvm.Cond.and given_1 narrow_1).before args0 about1 = true := by decide +kernel
theorem w_applies : (headSpec (Jvm.Cond.code x code maxLocals ret :: tables_1) room_1).applies x e0.platform about1 = true :=
  (Spec.applies_iff w_frames).mpr ⟨w_running, w_runnable, w_alone, w_named, w_hears, w_ripe, w_room, w_tables⟩
theorem atStart : AtStart classFile x code maxLocals ret World_1 tables_1 room_1 Calls_1 rest_1 Pre_1 launch0 p0 e0 about1 theMethod args0 below0 :=
  ⟨lists_1, trivial, launch0.admits_env _ _ _, launch0.least_env, fairChoices_fair.cas, fairChoices_fair.clock, w_frames, w_args, w_heap, w_applies, trivial, trivial, w_case⟩
end start1
theorem witness_1 : WitnessClaimed_1 := ⟨start1.p0, start1.e0, start1.about1, start1.theMethod, start1.args0, start1.below0, start1.atStart⟩
end Jvm.Pilot.@@N@@
