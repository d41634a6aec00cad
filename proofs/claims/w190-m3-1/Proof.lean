import JvmDerived
import JvmDerived.Pilot.@@N@@Statement
import JvmDerived.Pilot.@@N@@Code
set_option linter.unusedVariables false
set_option linter.unusedSimpArgs false
namespace Jvm.RoadKit
open Sem ClassFile Op Lib Jvm.Stand Jvm.Free Jvm.LawKit
section New
variable {p : Program} {l : Launch} {e : Env} {R : Room} {s : State} {m : MethodId} {args : Array Value} {below : List Frame} {meth : Method} {c : Code} {T : State} {locs : List Loc} {cells slots : Nat}
theorem retI (X : Stand p l e R s m args below meth c T locs cells slots) (hx : p.tables.exec = Jvm.exec) {pc : Nat} {Ls : Array Slot} {z : Int32} {rest : List Value} (hret : meth.sig.returnType = some .int) (hd : decode c.code pc = .ok (.ireturn, 1)) {fs : List Frame}
    (hl : ∀ (f : JFrame) (acts : List Action), f.method = m → f.locked = none → f.entered = [] → (doReturn e (T.setTop f) acts (some (.int z))).1 = T.setFrames fs) : Steps p.tables e below (T.setTop (mkF m pc Ls (.int z :: rest))) (T.setFrames fs) := by
  have hm' : T.vm.method? m = some meth := X.method'
  have hn : narrow .int (.int z) = .int z := rfl
  show Steps p.tables e below (T.setTop { method := m, pc := pc, locals := Ls, stack := _ :: rest, locked := none }) _
  jvm_step X.here [X.here.top, hx, hd, hm', hret, hn]
  first | (intro acts; rw [hl _ acts rfl rfl rfl]) | rw [hl _ _ rfl rfl rfl]
  exact Steps.refl _
end New
end Jvm.RoadKit
namespace Jvm.Pilot.@@N@@
open Jvm Jvm.ClassFile Sem Op Lib Jvm.Free Jvm.Stand Jvm.LawKit Jvm.RoadKit Bundle Jvm.Pilot.@@N@@.Jvm.D
/-- two addresses are unlike; a number isn't above another: names of their own, so that 'omega' doesn't look at them -/
def own_Ne (a b : Nat) : Prop := a ≠ b
def own_Le (a b : Nat) : Prop := a ≤ b
theorem own_Ne.symm {a b : Nat} (h : own_Ne a b) : own_Ne b a := Ne.symm h
theorem own_Le.tr {a b c : Nat} (h : own_Le a b) (k : b ≤ c) : own_Le a c := Nat.le_trans h k
theorem own_addL {x y : Int64} (h1 : -9223372036854775808 ≤ x.toInt + y.toInt) (h2 : x.toInt + y.toInt < 9223372036854775808) : (x + y).toInt = x.toInt + y.toInt := by
  have := c_ladd x y; have := rng64 (x + y); omega
theorem own_subL {x y : Int64} (h1 : -9223372036854775808 ≤ x.toInt - y.toInt) (h2 : x.toInt - y.toInt < 9223372036854775808) : (x - y).toInt = x.toInt - y.toInt := by
  have := c_lsub x y; have := rng64 (x - y); omega
theorem own_addI {x y : Int32} (h1 : -2147483648 ≤ x.toInt + y.toInt) (h2 : x.toInt + y.toInt < 2147483648) : (x + y).toInt = x.toInt + y.toInt := by
  have := c_iadd x y; have := rng32 (x + y); omega
theorem own_subI {x y : Int32} (h1 : -2147483648 ≤ x.toInt - y.toInt) (h2 : x.toInt - y.toInt < 2147483648) : (x - y).toInt = x.toInt - y.toInt := by
  have := c_isub x y; have := rng32 (x - y); omega
/-- an array of ints (bytes) of which the length is known -/
def own_Arl (Z : State) (h : Heap) (a : Addr) (ty : FieldType) (z : Int32) : Prop := ∃ c : Cell, Arr Z h a c ty ∧ c.slots.size = z.toNatClampNeg ∧ ¬ z < 0
/-- an array of ints (bytes) that holds f -/
def own_Arf (Z : State) (h : Heap) (a : Addr) (ty : FieldType) (z : Int32) (f : Nat → Int32) : Prop := ∃ c : Cell, Arr Z h a c ty ∧ c.slots.size = z.toNatClampNeg ∧ ¬ z < 0 ∧ ∀ i, i < z.toNatClampNeg → c.slots[i]? = some (.int (f i))
section Arrs
variable {Z : State} {h h' : Heap} {a b : Addr} {ty : FieldType} {z j x : Int32} {f g : Nat → Int32} {sl : Nat} {v : Value} {ws : List Addr} {k : ClassId} {vs : List Value} {dv : Value} {c : Cell}
theorem own_Arl.lt (F : own_Arl Z h a ty z) : a < h.size := by obtain ⟨c, A, -⟩ := F; exact A.lt
theorem own_Arl.ext (F : own_Arl Z h a ty z) (E : Ext h h') : own_Arl Z h' a ty z := by obtain ⟨c, A, r⟩ := F; exact ⟨c, A.ext E, r⟩
theorem own_Arl.other (F : own_Arl Z h b ty z) (W : Wr h h' a sl v) (q : b ≠ a) : own_Arl Z h' b ty z := by obtain ⟨c, A, r⟩ := F; exact ⟨c, A.other W q, r⟩
theorem own_Arl.keep (F : own_Arl Z h a ty z) (K : Keep h h' ws) (q : a ∉ ws) : own_Arl Z h' a ty z := by obtain ⟨c, A, r⟩ := F; exact ⟨c, ⟨K.2.1 a c A.1 q, A.2⟩, r⟩
theorem own_Arl.new (A : Arr Z h a (newA k ty z) ty) (q : ¬ z < 0) : own_Arl Z h a ty z := ⟨_, A, sz_new _ _ _, q⟩
theorem own_Arl.same (A : Arr Z h a c ty) (S : c.slots.size = z.toNatClampNeg) (q : ¬ z < 0) (W : Wr h h' a sl v) : own_Arl Z h' a ty z := ⟨_, A.same W, (sz_set _ _ _).trans S, q⟩
theorem own_Arl.ofV (F : Arv Z h a k ty z vs dv) : own_Arl Z h a ty z := by obtain ⟨c, A, -, S, N, -⟩ := F; exact ⟨c, A, S, N⟩
theorem own_Arl.ofA (F : own_Arf Z h a ty z f) : own_Arl Z h a ty z := by obtain ⟨c, A, S, N, -⟩ := F; exact ⟨c, A, S, N⟩
theorem own_Arf.lt (F : own_Arf Z h a ty z f) : a < h.size := by obtain ⟨c, A, -⟩ := F; exact A.lt
theorem own_Arf.ext (F : own_Arf Z h a ty z f) (E : Ext h h') : own_Arf Z h' a ty z f := by obtain ⟨c, A, r⟩ := F; exact ⟨c, A.ext E, r⟩
theorem own_Arf.other (F : own_Arf Z h b ty z f) (W : Wr h h' a sl v) (q : b ≠ a) : own_Arf Z h' b ty z f := by obtain ⟨c, A, r⟩ := F; exact ⟨c, A.other W q, r⟩
theorem own_Arf.keep (F : own_Arf Z h a ty z f) (K : Keep h h' ws) (q : a ∉ ws) : own_Arf Z h' a ty z f := by obtain ⟨c, A, r⟩ := F; exact ⟨c, ⟨K.2.1 a c A.1 q, A.2⟩, r⟩
theorem own_Arf.new (A : Arr Z h a (newA k ty z) ty) (q : ¬ z < 0) (hd : defaultValue ty = .int 0) : own_Arf Z h a ty z (fun _ => 0) := ⟨_, A, sz_new _ _ _, q, fun i hi => by simp [newA, hi, hd]⟩
theorem own_Arf.set (A : Arr Z h a c ty) (S : c.slots.size = z.toNatClampNeg) (q : ¬ z < 0) (H : ∀ i, i < z.toNatClampNeg → c.slots[i]? = some (.int (f i))) (W : Wr h h' a sl (.int x)) (e : sl = j.toNatClampNeg) (hg : g = fun i => if i = j.toNatClampNeg then x else f i) : own_Arf Z h' a ty z g := by
  subst e hg
  refine ⟨_, A.same W, (sz_set _ _ _).trans S, q, fun i hi => ?_⟩
  by_cases hij : i = j.toNatClampNeg
  · subst hij
    have hs : j.toNatClampNeg < c.slots.size := by rw [S]; exact hi
    simp [Cell.setSlot, hs]
  · rw [show (c.setSlot j.toNatClampNeg (.int x)).slots[i]? = c.slots[i]? from Array.getElem?_setIfInBounds_ne (Ne.symm hij), H i hi]
    simp [hij]
theorem own_Arf.ofV (F : Arv Z h a k ty z vs dv) (e : ∀ i, i < z.toNatClampNeg → vs.getD i dv = .int (f i)) : own_Arf Z h a ty z f := by
  obtain ⟨c, A, -, S, N, H, -⟩ := F
  exact ⟨c, A, S, N, fun i hi => by rw [H i (by rw [S]; exact hi), e i hi]⟩
theorem own_Arf.congr (F : own_Arf Z h a ty z f) (e : ∀ i, i < z.toNatClampNeg → f i = g i) : own_Arf Z h a ty z g := by obtain ⟨c, A, S, N, H⟩ := F; exact ⟨c, A, S, N, fun i hi => by rw [← e i hi]; exact H i hi⟩
theorem own_sta_keep {C n d : String} (F : Sta Z h C n d v) (K : Keep h h' []) : Sta Z h' C n d v := by
  obtain ⟨cf, i, k, f, st, cell, h1, h2, h3, h4, h5, r⟩ := F
  exact ⟨cf, i, k, f, st, cell, h1, h2, h3, h4, K.2.1 _ _ h5 nin0, r⟩
theorem own_at (H : ∀ i, i < z.toNatClampNeg → c.slots[i]? = some (.int (f i))) (S : c.slots.size = z.toNatClampNeg) (q : ¬ (j < 0 ∨ c.slots.size ≤ j.toNatClampNeg)) (e : f j.toNatClampNeg = x) : c.slots[j.toNatClampNeg]? = some (.int x) := by
  rw [← e]; exact H _ (by rw [← S]; exact Nat.lt_of_not_le fun y => q (Or.inr y))
end Arrs
theorem own_nn {j : Int32} (h : 0 ≤ j.toInt) : ¬ j < 0 := by rw [Int32.lt_iff_toInt_lt]; have q0 : (0 : Int32).toInt = 0 := rfl; omega
theorem own_clamp {j : Int32} (h : 0 ≤ j.toInt) : (j.toNatClampNeg : Int) = j.toInt := (nat_of (own_nn h)).symm
theorem own_plus {i j : Int32} {k : Nat} (h : 0 ≤ i.toInt) (e : j.toInt = i.toInt + k) : j.toNatClampNeg = i.toNatClampNeg + k := by
  have h1 := own_clamp h
  have h2 := own_clamp (j := j) (by omega)
  omega
theorem own_d3_0 : decode jdk_65_method_103_code 0 = .ok (.iconst 0, 1) := by decide +kernel
theorem own_d3_1 : decode jdk_65_method_103_code 1 = .ok (.istore_n 2, 1) := by decide +kernel
theorem own_d3_2 : decode jdk_65_method_103_code 2 = .ok (.aload_n 0, 1) := by decide +kernel
theorem own_d3_3 : decode jdk_65_method_103_code 3 = .ok (.arraylength, 1) := by decide +kernel
theorem own_d3_4 : decode jdk_65_method_103_code 4 = .ok (.istore_n 3, 1) := by decide +kernel
theorem own_d3_5 : decode jdk_65_method_103_code 5 = .ok (.iload_n 2, 1) := by decide +kernel
theorem own_d3_6 : decode jdk_65_method_103_code 6 = .ok (.iload_n 3, 1) := by decide +kernel
theorem own_d3_7 : decode jdk_65_method_103_code 7 = .ok (.if_icmp .ge 13, 3) := by decide +kernel
theorem own_d3_10 : decode jdk_65_method_103_code 10 = .ok (.aload_n 0, 1) := by decide +kernel
theorem own_d3_11 : decode jdk_65_method_103_code 11 = .ok (.iload_n 2, 1) := by decide +kernel
theorem own_d3_12 : decode jdk_65_method_103_code 12 = .ok (.iload_n 1, 1) := by decide +kernel
theorem own_d3_13 : decode jdk_65_method_103_code 13 = .ok (.iastore, 1) := by decide +kernel
theorem own_d3_14 : decode jdk_65_method_103_code 14 = .ok (.iinc 2 1, 3) := by decide +kernel
theorem own_d3_17 : decode jdk_65_method_103_code 17 = .ok (.goto (-12), 3) := by decide +kernel
theorem own_d3_20 : decode jdk_65_method_103_code 20 = .ok (.return_, 1) := by decide +kernel
theorem own_pn0 : plainName "java/util/Arrays" = true := by first | (simp [plainName, overriddenIn]; done) | decide +kernel
def Q_rm3 (Z : State) (ar : Addr) (pv : Int32) (h0 : Heap) (n0 : Nat) (v : Option Value) (h : Heap) (L : List Loc) : Prop := v = none ∧ (True) ∧ Fr n0 L ∧ Keep h0 h [ar]
theorem own_ef_rm3 (m : MethodId) (ar : Addr) (pv : Int32) : entryFrame m #[(.ref ar), (.int pv)] 4 = mkF m 0 #[.val (.ref ar), .val (.int pv), .unset, .unset] [] := by first | (simp [entryFrame, mkF, argsToLocals, Value.category]; done) | rfl
set_option maxRecDepth 65536 in
set_option maxHeartbeats 40000000 in
theorem rm3 (l : Launch) (Z : State) (a0 : Array Value) (hw : ∀ d ∈ tables_1, d.before a0 Z = true) (ws : List Jvm.Cond) (ar : Addr) (pv : Int32) (h0 : Heap) (n0 : Nat) (Z0 : own_Le n0 h0.size) (P_0 : own_Arl Z h0 ar .int (4 : Int32)) (P_1 : own_Le n0 ar) :
    MetFree l (⟨"java/util/Arrays", "fill", "([II)V"⟩ : MethodName) (head1 (Jvm.Cond.code (⟨"java/util/Arrays", "fill", "([II)V"⟩ : MethodName) jdk_65_method_103_code 4 none :: ws) ({ frames := 0, cells := 0, slots := 0, locals := 0 } : Room)) (fun a U => a = #[(.ref ar), (.int pv)] ∧ Z.Warmed39 U.vm ∧ U.heap = h0) (fun _ _ _ _ _ => True) (fun _ U o U' => ∃ v L, o = .returned v ∧ Q_rm3 Z ar pv h0 n0 v U'.heap L ∧ FrameEnd U o U' L ({ frames := 0, cells := 0, slots := 0, locals := 0 } : Room).cells ({ frames := 0, cells := 0, slots := 0, locals := 0 } : Room).slots) := by
  refine MetFree.of_bodySF (plainFor_of_name own_pn0) hisR ?_
  intro p e s m args below meth c s₁ Bd hml0 hP hK
  obtain ⟨rfl, hZ, hh⟩ := hP
  have hx := Bd.exec
  have hby := Bd.bytes
  have hml : c.maxLocals = 4 := hml0
  have hown : s.vm.findClass "java/util/Arrays" = some m.cls := findClass_of_methodNamed Bd.named
  have hnm := (name_of_methodNamed Bd.named Bd.method).1
  have X0 : Stand p l e ({ frames := 0, cells := 0, slots := 0, locals := 0 } : Room) s m #[(.ref ar), (.int pv)] below meth c s₁ [] 0 0 := Stand.of_body Bd
  have e0 : s₁.heap = h0 := by rw [← hh, Bd.state]; rfl
  have N0 := Fr.nil n0
  have pre0 : ∀ t, Steps p.tables e below (s₁.setTop (mkF m 0 #[.val (.ref ar), .val (.int pv), .unset, .unset] [])) t → Steps p.tables e below (s₁.setTop (entryFrame m #[(.ref ar), (.int pv)] 4)) t := fun t k => castTop (own_ef_rm3 m ar pv) k
  obtain ⟨cl1, Ar1, S1, N1⟩ := id P_0
  have hc2 : (0 : Int32) < (4 : Int32) := by
    have q3 := (by decide : (0 : Int32).toInt = 0)
    have q4 := (by decide : (4 : Int32).toInt = 4)
    rw [Int32.lt_iff_toInt_lt]; omega
  have K5 : ∀ t, Steps p.tables e below (s₁.setTop (mkF m 13 #[.val (.ref ar), .val (.int pv), .val (.int (0 : Int32)), .val (.int (4 : Int32))] [(.int pv), (.int (0 : Int32)), (.ref ar)])) t → Steps p.tables e below (s₁.setTop (entryFrame m #[(.ref ar), (.int pv)] 4)) t := fun t k => pre0 t (by
    show Steps p.tables e below (s₁.setTop (mkF m 0 #[.val (.ref ar), .val (.int pv), .unset, .unset] [])) t
    refine XS.iconst X0.here hx rfl (hb hby own_d3_0) ?_
    show Steps p.tables e below (s₁.setTop (mkF m 1 #[.val (.ref ar), .val (.int pv), .unset, .unset] [(.int (0 : Int32))])) t
    refine XS.istoreN X0.here hx rfl (hb hby own_d3_1) rfl (l' := #[.val (.ref ar), .val (.int pv), .val (.int (0 : Int32)), .unset]) rfl ?_
    show Steps p.tables e below (s₁.setTop (mkF m 2 #[.val (.ref ar), .val (.int pv), .val (.int (0 : Int32)), .unset] [])) t
    refine XS.aloadN X0.here hx rfl (hb hby own_d3_2) rfl rfl ?_
    show Steps p.tables e below (s₁.setTop (mkF m 3 #[.val (.ref ar), .val (.int pv), .val (.int (0 : Int32)), .unset] [(.ref ar)])) t
    refine X0.arraylength hx (by rw [e0]; exact Ar1.1) (State.isArrayOf_alike hZ.alike Ar1.2.1) (g := (mkF m 3 #[.val (.ref ar), .val (.int pv), .val (.int (0 : Int32)), .unset] [(.ref ar)])) rfl rfl (hb hby own_d3_3) _ ?_
    rw [len_of S1 N1]
    show Steps p.tables e below (s₁.setTop (mkF m 4 #[.val (.ref ar), .val (.int pv), .val (.int (0 : Int32)), .unset] [(.int (4 : Int32))])) t
    refine XS.istoreN X0.here hx rfl (hb hby own_d3_4) rfl (l' := #[.val (.ref ar), .val (.int pv), .val (.int (0 : Int32)), .val (.int (4 : Int32))]) rfl ?_
    show Steps p.tables e below (s₁.setTop (mkF m 5 #[.val (.ref ar), .val (.int pv), .val (.int (0 : Int32)), .val (.int (4 : Int32))] [])) t
    refine XS.iloadN X0.here hx rfl (hb hby own_d3_5) rfl ?_
    show Steps p.tables e below (s₁.setTop (mkF m 6 #[.val (.ref ar), .val (.int pv), .val (.int (0 : Int32)), .val (.int (4 : Int32))] [(.int (0 : Int32))])) t
    refine XS.iloadN X0.here hx rfl (hb hby own_d3_6) rfl ?_
    show Steps p.tables e below (s₁.setTop (mkF m 7 #[.val (.ref ar), .val (.int pv), .val (.int (0 : Int32)), .val (.int (4 : Int32))] [(.int (4 : Int32)), (.int (0 : Int32))])) t
    refine XS.icmpNo X0.here hx rfl (hb hby own_d3_7) rfl (tlt hc2).2.1 ?_
    show Steps p.tables e below (s₁.setTop (mkF m 10 #[.val (.ref ar), .val (.int pv), .val (.int (0 : Int32)), .val (.int (4 : Int32))] [])) t
    refine XS.aloadN X0.here hx rfl (hb hby own_d3_10) rfl rfl ?_
    show Steps p.tables e below (s₁.setTop (mkF m 11 #[.val (.ref ar), .val (.int pv), .val (.int (0 : Int32)), .val (.int (4 : Int32))] [(.ref ar)])) t
    refine XS.iloadN X0.here hx rfl (hb hby own_d3_11) rfl ?_
    show Steps p.tables e below (s₁.setTop (mkF m 12 #[.val (.ref ar), .val (.int pv), .val (.int (0 : Int32)), .val (.int (4 : Int32))] [(.int (0 : Int32)), (.ref ar)])) t
    refine XS.iloadN X0.here hx rfl (hb hby own_d3_12) rfl ?_
    exact k)
  have q7 : ¬ (0 : Int32) < 0 ∧ (0 : Int32) < (4 : Int32) := by
    have q8 := (by decide : (0 : Int32).toInt = 0)
    have q9 := (by decide : (4 : Int32).toInt = 4)
    rw [Int32.lt_iff_toInt_lt, Int32.lt_iff_toInt_lt]; have q0 : (0 : Int32).toInt = 0 := rfl; omega
  obtain ⟨cl6, Ar6, S6, N6⟩ := id P_0
  have hin6 : ¬ ((0 : Int32) < 0 ∨ cl6.slots.size ≤ ((0 : Int32)).toNatClampNeg) := inb_of S6 q7
  obtain ⟨T6, h6, X6, e6, W6, st6⟩ := stI X0 hx hZ e0 Ar6 (j := (0 : Int32)) hin6 (g := (mkF m 13 #[.val (.ref ar), .val (.int pv), .val (.int (0 : Int32)), .val (.int (4 : Int32))] [(.int pv), (.int (0 : Int32)), (.ref ar)])) rfl rfl (hb hby own_d3_13)
  have V10 : own_Arl Z h6 ar .int (4 : Int32) := own_Arl.same Ar6 S6 N6 W6
  have Kp11 : Keep h0 h6 [ar] := Keep.wr (Keep.refl h0 [ar]) W6 (Or.inl (List.mem_of_getElem? (i := 0) rfl))
  have Z12 : own_Le n0 h6.size := Nat.le_trans Z0 (Keep.of_wr W6).1
  have N13 := Fr.snoc X6 N0 P_1
  have K14 : ∀ t, Steps p.tables e below (T6.setTop (mkF m 14 #[.val (.ref ar), .val (.int pv), .val (.int (0 : Int32)), .val (.int (4 : Int32))] [])) t → Steps p.tables e below (s₁.setTop (entryFrame m #[(.ref ar), (.int pv)] 4)) t := fun t k => K5 t (st6 _ k)
  have hc15 : (1 : Int32) < (4 : Int32) := by
    have q16 := (by decide : (1 : Int32).toInt = 1)
    have q17 := (by decide : (4 : Int32).toInt = 4)
    rw [Int32.lt_iff_toInt_lt]; omega
  have K18 : ∀ t, Steps p.tables e below (T6.setTop (mkF m 13 #[.val (.ref ar), .val (.int pv), .val (.int (1 : Int32)), .val (.int (4 : Int32))] [(.int pv), (.int (1 : Int32)), (.ref ar)])) t → Steps p.tables e below (s₁.setTop (entryFrame m #[(.ref ar), (.int pv)] 4)) t := fun t k => K14 t (by
    show Steps p.tables e below (T6.setTop (mkF m 14 #[.val (.ref ar), .val (.int pv), .val (.int (0 : Int32)), .val (.int (4 : Int32))] [])) t
    refine XS.iinc X6.here hx rfl (hb hby own_d3_14) rfl (l' := #[.val (.ref ar), .val (.int pv), .val (.int (1 : Int32)), .val (.int (4 : Int32))]) rfl ?_
    show Steps p.tables e below (T6.setTop (mkF m 17 #[.val (.ref ar), .val (.int pv), .val (.int (1 : Int32)), .val (.int (4 : Int32))] [])) t
    refine XS.goto X6.here hx rfl (pc0 := 17) (pc' := 5) rfl (hb hby own_d3_17) (by decide) (by decide) ?_
    show Steps p.tables e below (T6.setTop (mkF m 5 #[.val (.ref ar), .val (.int pv), .val (.int (1 : Int32)), .val (.int (4 : Int32))] [])) t
    refine XS.iloadN X6.here hx rfl (hb hby own_d3_5) rfl ?_
    show Steps p.tables e below (T6.setTop (mkF m 6 #[.val (.ref ar), .val (.int pv), .val (.int (1 : Int32)), .val (.int (4 : Int32))] [(.int (1 : Int32))])) t
    refine XS.iloadN X6.here hx rfl (hb hby own_d3_6) rfl ?_
    show Steps p.tables e below (T6.setTop (mkF m 7 #[.val (.ref ar), .val (.int pv), .val (.int (1 : Int32)), .val (.int (4 : Int32))] [(.int (4 : Int32)), (.int (1 : Int32))])) t
    refine XS.icmpNo X6.here hx rfl (hb hby own_d3_7) rfl (tlt hc15).2.1 ?_
    show Steps p.tables e below (T6.setTop (mkF m 10 #[.val (.ref ar), .val (.int pv), .val (.int (1 : Int32)), .val (.int (4 : Int32))] [])) t
    refine XS.aloadN X6.here hx rfl (hb hby own_d3_10) rfl rfl ?_
    show Steps p.tables e below (T6.setTop (mkF m 11 #[.val (.ref ar), .val (.int pv), .val (.int (1 : Int32)), .val (.int (4 : Int32))] [(.ref ar)])) t
    refine XS.iloadN X6.here hx rfl (hb hby own_d3_11) rfl ?_
    show Steps p.tables e below (T6.setTop (mkF m 12 #[.val (.ref ar), .val (.int pv), .val (.int (1 : Int32)), .val (.int (4 : Int32))] [(.int (1 : Int32)), (.ref ar)])) t
    refine XS.iloadN X6.here hx rfl (hb hby own_d3_12) rfl ?_
    exact k)
  have q20 : ¬ (1 : Int32) < 0 ∧ (1 : Int32) < (4 : Int32) := by
    have q21 := (by decide : (1 : Int32).toInt = 1)
    have q22 := (by decide : (4 : Int32).toInt = 4)
    rw [Int32.lt_iff_toInt_lt, Int32.lt_iff_toInt_lt]; have q0 : (0 : Int32).toInt = 0 := rfl; omega
  obtain ⟨cl19, Ar19, S19, N19⟩ := id V10
  have hin19 : ¬ ((1 : Int32) < 0 ∨ cl19.slots.size ≤ ((1 : Int32)).toNatClampNeg) := inb_of S19 q20
  obtain ⟨T19, h19, X19, e19, W19, st19⟩ := stI X6 hx hZ e6 Ar19 (j := (1 : Int32)) hin19 (g := (mkF m 13 #[.val (.ref ar), .val (.int pv), .val (.int (1 : Int32)), .val (.int (4 : Int32))] [(.int pv), (.int (1 : Int32)), (.ref ar)])) rfl rfl (hb hby own_d3_13)
  have V23 : own_Arl Z h19 ar .int (4 : Int32) := own_Arl.same Ar19 S19 N19 W19
  have Kp24 : Keep h0 h19 [ar] := Keep.wr Kp11 W19 (Or.inl (List.mem_of_getElem? (i := 0) rfl))
  have Z25 : own_Le n0 h19.size := Nat.le_trans Z12 (Keep.of_wr W19).1
  have N26 := Fr.snoc X19 N13 P_1
  have K27 : ∀ t, Steps p.tables e below (T19.setTop (mkF m 14 #[.val (.ref ar), .val (.int pv), .val (.int (1 : Int32)), .val (.int (4 : Int32))] [])) t → Steps p.tables e below (s₁.setTop (entryFrame m #[(.ref ar), (.int pv)] 4)) t := fun t k => K18 t (st19 _ k)
  have hc28 : (2 : Int32) < (4 : Int32) := by
    have q29 := (by decide : (2 : Int32).toInt = 2)
    have q30 := (by decide : (4 : Int32).toInt = 4)
    rw [Int32.lt_iff_toInt_lt]; omega
  have K31 : ∀ t, Steps p.tables e below (T19.setTop (mkF m 13 #[.val (.ref ar), .val (.int pv), .val (.int (2 : Int32)), .val (.int (4 : Int32))] [(.int pv), (.int (2 : Int32)), (.ref ar)])) t → Steps p.tables e below (s₁.setTop (entryFrame m #[(.ref ar), (.int pv)] 4)) t := fun t k => K27 t (by
    show Steps p.tables e below (T19.setTop (mkF m 14 #[.val (.ref ar), .val (.int pv), .val (.int (1 : Int32)), .val (.int (4 : Int32))] [])) t
    refine XS.iinc X19.here hx rfl (hb hby own_d3_14) rfl (l' := #[.val (.ref ar), .val (.int pv), .val (.int (2 : Int32)), .val (.int (4 : Int32))]) rfl ?_
    show Steps p.tables e below (T19.setTop (mkF m 17 #[.val (.ref ar), .val (.int pv), .val (.int (2 : Int32)), .val (.int (4 : Int32))] [])) t
    refine XS.goto X19.here hx rfl (pc0 := 17) (pc' := 5) rfl (hb hby own_d3_17) (by decide) (by decide) ?_
    show Steps p.tables e below (T19.setTop (mkF m 5 #[.val (.ref ar), .val (.int pv), .val (.int (2 : Int32)), .val (.int (4 : Int32))] [])) t
    refine XS.iloadN X19.here hx rfl (hb hby own_d3_5) rfl ?_
    show Steps p.tables e below (T19.setTop (mkF m 6 #[.val (.ref ar), .val (.int pv), .val (.int (2 : Int32)), .val (.int (4 : Int32))] [(.int (2 : Int32))])) t
    refine XS.iloadN X19.here hx rfl (hb hby own_d3_6) rfl ?_
    show Steps p.tables e below (T19.setTop (mkF m 7 #[.val (.ref ar), .val (.int pv), .val (.int (2 : Int32)), .val (.int (4 : Int32))] [(.int (4 : Int32)), (.int (2 : Int32))])) t
    refine XS.icmpNo X19.here hx rfl (hb hby own_d3_7) rfl (tlt hc28).2.1 ?_
    show Steps p.tables e below (T19.setTop (mkF m 10 #[.val (.ref ar), .val (.int pv), .val (.int (2 : Int32)), .val (.int (4 : Int32))] [])) t
    refine XS.aloadN X19.here hx rfl (hb hby own_d3_10) rfl rfl ?_
    show Steps p.tables e below (T19.setTop (mkF m 11 #[.val (.ref ar), .val (.int pv), .val (.int (2 : Int32)), .val (.int (4 : Int32))] [(.ref ar)])) t
    refine XS.iloadN X19.here hx rfl (hb hby own_d3_11) rfl ?_
    show Steps p.tables e below (T19.setTop (mkF m 12 #[.val (.ref ar), .val (.int pv), .val (.int (2 : Int32)), .val (.int (4 : Int32))] [(.int (2 : Int32)), (.ref ar)])) t
    refine XS.iloadN X19.here hx rfl (hb hby own_d3_12) rfl ?_
    exact k)
  have q33 : ¬ (2 : Int32) < 0 ∧ (2 : Int32) < (4 : Int32) := by
    have q34 := (by decide : (2 : Int32).toInt = 2)
    have q35 := (by decide : (4 : Int32).toInt = 4)
    rw [Int32.lt_iff_toInt_lt, Int32.lt_iff_toInt_lt]; have q0 : (0 : Int32).toInt = 0 := rfl; omega
  obtain ⟨cl32, Ar32, S32, N32⟩ := id V23
  have hin32 : ¬ ((2 : Int32) < 0 ∨ cl32.slots.size ≤ ((2 : Int32)).toNatClampNeg) := inb_of S32 q33
  obtain ⟨T32, h32, X32, e32, W32, st32⟩ := stI X19 hx hZ e19 Ar32 (j := (2 : Int32)) hin32 (g := (mkF m 13 #[.val (.ref ar), .val (.int pv), .val (.int (2 : Int32)), .val (.int (4 : Int32))] [(.int pv), (.int (2 : Int32)), (.ref ar)])) rfl rfl (hb hby own_d3_13)
  have V36 : own_Arl Z h32 ar .int (4 : Int32) := own_Arl.same Ar32 S32 N32 W32
  have Kp37 : Keep h0 h32 [ar] := Keep.wr Kp24 W32 (Or.inl (List.mem_of_getElem? (i := 0) rfl))
  have Z38 : own_Le n0 h32.size := Nat.le_trans Z25 (Keep.of_wr W32).1
  have N39 := Fr.snoc X32 N26 P_1
  have K40 : ∀ t, Steps p.tables e below (T32.setTop (mkF m 14 #[.val (.ref ar), .val (.int pv), .val (.int (2 : Int32)), .val (.int (4 : Int32))] [])) t → Steps p.tables e below (s₁.setTop (entryFrame m #[(.ref ar), (.int pv)] 4)) t := fun t k => K31 t (st32 _ k)
  have hc41 : (3 : Int32) < (4 : Int32) := by
    have q42 := (by decide : (3 : Int32).toInt = 3)
    have q43 := (by decide : (4 : Int32).toInt = 4)
    rw [Int32.lt_iff_toInt_lt]; omega
  have K44 : ∀ t, Steps p.tables e below (T32.setTop (mkF m 13 #[.val (.ref ar), .val (.int pv), .val (.int (3 : Int32)), .val (.int (4 : Int32))] [(.int pv), (.int (3 : Int32)), (.ref ar)])) t → Steps p.tables e below (s₁.setTop (entryFrame m #[(.ref ar), (.int pv)] 4)) t := fun t k => K40 t (by
    show Steps p.tables e below (T32.setTop (mkF m 14 #[.val (.ref ar), .val (.int pv), .val (.int (2 : Int32)), .val (.int (4 : Int32))] [])) t
    refine XS.iinc X32.here hx rfl (hb hby own_d3_14) rfl (l' := #[.val (.ref ar), .val (.int pv), .val (.int (3 : Int32)), .val (.int (4 : Int32))]) rfl ?_
    show Steps p.tables e below (T32.setTop (mkF m 17 #[.val (.ref ar), .val (.int pv), .val (.int (3 : Int32)), .val (.int (4 : Int32))] [])) t
    refine XS.goto X32.here hx rfl (pc0 := 17) (pc' := 5) rfl (hb hby own_d3_17) (by decide) (by decide) ?_
    show Steps p.tables e below (T32.setTop (mkF m 5 #[.val (.ref ar), .val (.int pv), .val (.int (3 : Int32)), .val (.int (4 : Int32))] [])) t
    refine XS.iloadN X32.here hx rfl (hb hby own_d3_5) rfl ?_
    show Steps p.tables e below (T32.setTop (mkF m 6 #[.val (.ref ar), .val (.int pv), .val (.int (3 : Int32)), .val (.int (4 : Int32))] [(.int (3 : Int32))])) t
    refine XS.iloadN X32.here hx rfl (hb hby own_d3_6) rfl ?_
    show Steps p.tables e below (T32.setTop (mkF m 7 #[.val (.ref ar), .val (.int pv), .val (.int (3 : Int32)), .val (.int (4 : Int32))] [(.int (4 : Int32)), (.int (3 : Int32))])) t
    refine XS.icmpNo X32.here hx rfl (hb hby own_d3_7) rfl (tlt hc41).2.1 ?_
    show Steps p.tables e below (T32.setTop (mkF m 10 #[.val (.ref ar), .val (.int pv), .val (.int (3 : Int32)), .val (.int (4 : Int32))] [])) t
    refine XS.aloadN X32.here hx rfl (hb hby own_d3_10) rfl rfl ?_
    show Steps p.tables e below (T32.setTop (mkF m 11 #[.val (.ref ar), .val (.int pv), .val (.int (3 : Int32)), .val (.int (4 : Int32))] [(.ref ar)])) t
    refine XS.iloadN X32.here hx rfl (hb hby own_d3_11) rfl ?_
    show Steps p.tables e below (T32.setTop (mkF m 12 #[.val (.ref ar), .val (.int pv), .val (.int (3 : Int32)), .val (.int (4 : Int32))] [(.int (3 : Int32)), (.ref ar)])) t
    refine XS.iloadN X32.here hx rfl (hb hby own_d3_12) rfl ?_
    exact k)
  have q46 : ¬ (3 : Int32) < 0 ∧ (3 : Int32) < (4 : Int32) := by
    have q47 := (by decide : (3 : Int32).toInt = 3)
    have q48 := (by decide : (4 : Int32).toInt = 4)
    rw [Int32.lt_iff_toInt_lt, Int32.lt_iff_toInt_lt]; have q0 : (0 : Int32).toInt = 0 := rfl; omega
  obtain ⟨cl45, Ar45, S45, N45⟩ := id V36
  have hin45 : ¬ ((3 : Int32) < 0 ∨ cl45.slots.size ≤ ((3 : Int32)).toNatClampNeg) := inb_of S45 q46
  obtain ⟨T45, h45, X45, e45, W45, st45⟩ := stI X32 hx hZ e32 Ar45 (j := (3 : Int32)) hin45 (g := (mkF m 13 #[.val (.ref ar), .val (.int pv), .val (.int (3 : Int32)), .val (.int (4 : Int32))] [(.int pv), (.int (3 : Int32)), (.ref ar)])) rfl rfl (hb hby own_d3_13)
  have V49 : own_Arl Z h45 ar .int (4 : Int32) := own_Arl.same Ar45 S45 N45 W45
  have Kp50 : Keep h0 h45 [ar] := Keep.wr Kp37 W45 (Or.inl (List.mem_of_getElem? (i := 0) rfl))
  have Z51 : own_Le n0 h45.size := Nat.le_trans Z38 (Keep.of_wr W45).1
  have N52 := Fr.snoc X45 N39 P_1
  have K53 : ∀ t, Steps p.tables e below (T45.setTop (mkF m 14 #[.val (.ref ar), .val (.int pv), .val (.int (3 : Int32)), .val (.int (4 : Int32))] [])) t → Steps p.tables e below (s₁.setTop (entryFrame m #[(.ref ar), (.int pv)] 4)) t := fun t k => K44 t (st45 _ k)
  have hc54 : ¬ ((4 : Int32) < (4 : Int32)) := by
    have q55 := (by decide : (4 : Int32).toInt = 4)
    rw [Int32.lt_iff_toInt_lt]; omega
  have K56 : ∀ t, Steps p.tables e below (T45.setTop (mkF m 20 #[.val (.ref ar), .val (.int pv), .val (.int (4 : Int32)), .val (.int (4 : Int32))] [])) t → Steps p.tables e below (s₁.setTop (entryFrame m #[(.ref ar), (.int pv)] 4)) t := fun t k => K53 t (by
    show Steps p.tables e below (T45.setTop (mkF m 14 #[.val (.ref ar), .val (.int pv), .val (.int (3 : Int32)), .val (.int (4 : Int32))] [])) t
    refine XS.iinc X45.here hx rfl (hb hby own_d3_14) rfl (l' := #[.val (.ref ar), .val (.int pv), .val (.int (4 : Int32)), .val (.int (4 : Int32))]) rfl ?_
    show Steps p.tables e below (T45.setTop (mkF m 17 #[.val (.ref ar), .val (.int pv), .val (.int (4 : Int32)), .val (.int (4 : Int32))] [])) t
    refine XS.goto X45.here hx rfl (pc0 := 17) (pc' := 5) rfl (hb hby own_d3_17) (by decide) (by decide) ?_
    show Steps p.tables e below (T45.setTop (mkF m 5 #[.val (.ref ar), .val (.int pv), .val (.int (4 : Int32)), .val (.int (4 : Int32))] [])) t
    refine XS.iloadN X45.here hx rfl (hb hby own_d3_5) rfl ?_
    show Steps p.tables e below (T45.setTop (mkF m 6 #[.val (.ref ar), .val (.int pv), .val (.int (4 : Int32)), .val (.int (4 : Int32))] [(.int (4 : Int32))])) t
    refine XS.iloadN X45.here hx rfl (hb hby own_d3_6) rfl ?_
    show Steps p.tables e below (T45.setTop (mkF m 7 #[.val (.ref ar), .val (.int pv), .val (.int (4 : Int32)), .val (.int (4 : Int32))] [(.int (4 : Int32)), (.int (4 : Int32))])) t
    refine XS.icmpYes X45.here hx rfl (pc0 := 7) (pc' := 20) rfl (hb hby own_d3_7) rfl (flt hc54).2.1 (by decide) (by decide) ?_
    exact k)
  obtain ⟨fs, hr, hrun, hended, hW, hsame⟩ := X45.leave (v := none) (fun _ => rfl)
  refine ⟨_, _, K56 _ ?_, hrun, hended, _, _, rfl, ?_, ⟨_, rfl⟩, hW, hsame.mono (by decide) (by decide)⟩
  · exact X45.returnOut hx Bd.returns (hb hby own_d3_20) hr
  · show Q_rm3 Z ar pv h0 n0 _ T45.heap _
    rw [e45]
    exact ⟨rfl, (by trivial), N52, Kp50⟩
theorem own_d1_0 : decode prog_174_method_2_code 0 = .ok (.aload_n 0, 1) := by decide +kernel
theorem own_d1_1 : decode prog_174_method_2_code 1 = .ok (.invokespecial 14, 3) := by decide +kernel
theorem own_d1_4 : decode prog_174_method_2_code 4 = .ok (.aload_n 1, 1) := by decide +kernel
theorem own_d1_5 : decode prog_174_method_2_code 5 = .ok (.arraylength, 1) := by decide +kernel
theorem own_d1_6 : decode prog_174_method_2_code 6 = .ok (.iconst 1, 1) := by decide +kernel
theorem own_d1_7 : decode prog_174_method_2_code 7 = .ok (.isub, 1) := by decide +kernel
theorem own_d1_8 : decode prog_174_method_2_code 8 = .ok (.istore_n 3, 1) := by decide +kernel
theorem own_d1_9 : decode prog_174_method_2_code 9 = .ok (.aload_n 0, 1) := by decide +kernel
theorem own_d1_10 : decode prog_174_method_2_code 10 = .ok (.aload_n 1, 1) := by decide +kernel
theorem own_d1_11 : decode prog_174_method_2_code 11 = .ok (.putfield 19, 3) := by decide +kernel
theorem own_d1_14 : decode prog_174_method_2_code 14 = .ok (.aload_n 0, 1) := by decide +kernel
theorem own_d1_15 : decode prog_174_method_2_code 15 = .ok (.aload_n 2, 1) := by decide +kernel
theorem own_d1_16 : decode prog_174_method_2_code 16 = .ok (.putfield 23, 3) := by decide +kernel
theorem own_d1_19 : decode prog_174_method_2_code 19 = .ok (.aload_n 0, 1) := by decide +kernel
theorem own_d1_20 : decode prog_174_method_2_code 20 = .ok (.iload_n 3, 1) := by decide +kernel
theorem own_d1_21 : decode prog_174_method_2_code 21 = .ok (.newarray .int, 2) := by decide +kernel
theorem own_d1_23 : decode prog_174_method_2_code 23 = .ok (.putfield 25, 3) := by decide +kernel
theorem own_d1_26 : decode prog_174_method_2_code 26 = .ok (.aload_n 0, 1) := by decide +kernel
theorem own_d1_27 : decode prog_174_method_2_code 27 = .ok (.iload_n 3, 1) := by decide +kernel
theorem own_d1_28 : decode prog_174_method_2_code 28 = .ok (.newarray .int, 2) := by decide +kernel
theorem own_d1_30 : decode prog_174_method_2_code 30 = .ok (.putfield 28, 3) := by decide +kernel
theorem own_d1_33 : decode prog_174_method_2_code 33 = .ok (.aload_n 0, 1) := by decide +kernel
theorem own_d1_34 : decode prog_174_method_2_code 34 = .ok (.iload_n 3, 1) := by decide +kernel
theorem own_d1_35 : decode prog_174_method_2_code 35 = .ok (.newarray .int, 2) := by decide +kernel
theorem own_d1_37 : decode prog_174_method_2_code 37 = .ok (.putfield 31, 3) := by decide +kernel
theorem own_d1_40 : decode prog_174_method_2_code 40 = .ok (.aload_n 0, 1) := by decide +kernel
theorem own_d1_41 : decode prog_174_method_2_code 41 = .ok (.iload_n 3, 1) := by decide +kernel
theorem own_d1_42 : decode prog_174_method_2_code 42 = .ok (.newarray .boolean, 2) := by decide +kernel
theorem own_d1_44 : decode prog_174_method_2_code 44 = .ok (.putfield 34, 3) := by decide +kernel
theorem own_d1_47 : decode prog_174_method_2_code 47 = .ok (.aload_n 0, 1) := by decide +kernel
theorem own_d1_48 : decode prog_174_method_2_code 48 = .ok (.iload_n 3, 1) := by decide +kernel
theorem own_d1_49 : decode prog_174_method_2_code 49 = .ok (.newarray .int, 2) := by decide +kernel
theorem own_d1_51 : decode prog_174_method_2_code 51 = .ok (.putfield 38, 3) := by decide +kernel
theorem own_d1_54 : decode prog_174_method_2_code 54 = .ok (.aload_n 0, 1) := by decide +kernel
theorem own_d1_55 : decode prog_174_method_2_code 55 = .ok (.iload_n 3, 1) := by decide +kernel
theorem own_d1_56 : decode prog_174_method_2_code 56 = .ok (.newarray .int, 2) := by decide +kernel
theorem own_d1_58 : decode prog_174_method_2_code 58 = .ok (.putfield 41, 3) := by decide +kernel
theorem own_d1_61 : decode prog_174_method_2_code 61 = .ok (.aload_n 0, 1) := by decide +kernel
theorem own_d1_62 : decode prog_174_method_2_code 62 = .ok (.getfield 25, 3) := by decide +kernel
theorem own_d1_65 : decode prog_174_method_2_code 65 = .ok (.iconst (-1), 1) := by decide +kernel
theorem own_d1_66 : decode prog_174_method_2_code 66 = .ok (.invokestatic 44, 3) := by decide +kernel
theorem own_d1_69 : decode prog_174_method_2_code 69 = .ok (.return_, 1) := by decide +kernel
theorem own_pn1 : plainName "com/example/omegaprobe/omegaprobe/graph/Components" = true := by first | (simp [plainName, overriddenIn]; done) | decide +kernel
theorem own_pd0 : parseMethodDescriptor "([II)V" = some ⟨[(.array .int), .int], none⟩ := by decide +kernel
def Q_rm1 (Z : State) (co : Addr) (fa : Addr) (ta : Addr) (h0 : Heap) (n0 : Nat) (v : Option Value) (h : Heap) (L : List Loc) : Prop := v = none ∧ (True) ∧ Fr n0 L ∧ Keep h0 h [co] ∧ Exa Z h co "com/example/omegaprobe/omegaprobe/graph/Components" ∧ Fld Z h co "com/example/omegaprobe/omegaprobe/graph/Components" "first" "[I" (.ref fa) ∧ Fld Z h co "com/example/omegaprobe/omegaprobe/graph/Components" "targets" "[I" (.ref ta)
theorem own_ef_rm1 (m : MethodId) (co : Addr) (fa : Addr) (ta : Addr) : entryFrame m #[(.ref co), (.ref fa), (.ref ta)] 4 = mkF m 0 #[.val (.ref co), .val (.ref fa), .val (.ref ta), .unset] [] := by first | (simp [entryFrame, mkF, argsToLocals, Value.category]; done) | rfl
set_option maxRecDepth 65536 in
set_option maxHeartbeats 40000000 in
theorem rm1 (l : Launch) (Z : State) (a0 : Array Value) (hw : ∀ d ∈ tables_1, d.before a0 Z = true) (ws : List Jvm.Cond) (co : Addr) (fa : Addr) (ta : Addr) (h0 : Heap) (n0 : Nat) (Z0 : own_Le n0 h0.size) (P_0 : Exa Z h0 co "com/example/omegaprobe/omegaprobe/graph/Components") (P_1 : Fld Z h0 co "com/example/omegaprobe/omegaprobe/graph/Components" "first" "[I" .null) (P_2 : Fld Z h0 co "com/example/omegaprobe/omegaprobe/graph/Components" "targets" "[I" .null) (P_3 : Fld Z h0 co "com/example/omegaprobe/omegaprobe/graph/Components" "index" "[I" .null) (P_4 : Fld Z h0 co "com/example/omegaprobe/omegaprobe/graph/Components" "low" "[I" .null) (P_5 : Fld Z h0 co "com/example/omegaprobe/omegaprobe/graph/Components" "stack" "[I" .null) (P_6 : Fld Z h0 co "com/example/omegaprobe/omegaprobe/graph/Components" "onStack" "[Z" .null) (P_7 : Fld Z h0 co "com/example/omegaprobe/omegaprobe/graph/Components" "path" "[I" .null) (P_8 : Fld Z h0 co "com/example/omegaprobe/omegaprobe/graph/Components" "nextEdge" "[I" .null) (P_9 : own_Le n0 co) (P_10 : own_Arl Z h0 fa .int (5 : Int32)) :
    MetFree l (⟨"com/example/omegaprobe/omegaprobe/graph/Components", "<init>", "([I[I)V"⟩ : MethodName) (head1 (Jvm.Cond.code (⟨"com/example/omegaprobe/omegaprobe/graph/Components", "<init>", "([I[I)V"⟩ : MethodName) prog_174_method_2_code 4 none :: ws) ({ frames := 1, cells := 6, slots := 24, locals := 15 } : Room)) (fun a U => a = #[(.ref co), (.ref fa), (.ref ta)] ∧ Z.Warmed39 U.vm ∧ U.heap = h0) (fun _ _ _ _ _ => True) (fun _ U o U' => ∃ v L, o = .returned v ∧ Q_rm1 Z co fa ta h0 n0 v U'.heap L ∧ FrameEnd U o U' L ({ frames := 1, cells := 6, slots := 24, locals := 15 } : Room).cells ({ frames := 1, cells := 6, slots := 24, locals := 15 } : Room).slots) := by
  refine MetFree.of_bodySF (plainFor_of_name own_pn1) hisR ?_
  intro p e s m args below meth c s₁ Bd hml0 hP hK
  obtain ⟨rfl, hZ, hh⟩ := hP
  have hx := Bd.exec
  have hby := Bd.bytes
  have hml : c.maxLocals = 4 := hml0
  have hown : s.vm.findClass "com/example/omegaprobe/omegaprobe/graph/Components" = some m.cls := findClass_of_methodNamed Bd.named
  have hnm := (name_of_methodNamed Bd.named Bd.method).1
  have X0 : Stand p l e ({ frames := 1, cells := 6, slots := 24, locals := 15 } : Room) s m #[(.ref co), (.ref fa), (.ref ta)] below meth c s₁ [] 0 0 := Stand.of_body Bd
  have e0 : s₁.heap = h0 := by rw [← hh, Bd.state]; rfl
  have N0 := Fr.nil n0
  have pre0 : ∀ t, Steps p.tables e below (s₁.setTop (mkF m 0 #[.val (.ref co), .val (.ref fa), .val (.ref ta), .unset] [])) t → Steps p.tables e below (s₁.setTop (entryFrame m #[(.ref co), (.ref fa), (.ref ta)] 4)) t := fun t k => castTop (own_ef_rm1 m co fa ta) k
  have K57 : ∀ t, Steps p.tables e below (s₁.setTop (mkF m 1 #[.val (.ref co), .val (.ref fa), .val (.ref ta), .unset] [(.ref co)])) t → Steps p.tables e below (s₁.setTop (entryFrame m #[(.ref co), (.ref fa), (.ref ta)] 4)) t := fun t k => pre0 t (by
    show Steps p.tables e below (s₁.setTop (mkF m 0 #[.val (.ref co), .val (.ref fa), .val (.ref ta), .unset] [])) t
    refine XS.aloadN X0.here hx rfl (hb hby own_d1_0) rfl rfl ?_
    exact k)
  obtain ⟨T58, X58, e58, st58⟩ := initO X0 hx hZ hown (hw _ (List.mem_of_getElem? (i := 7) rfl)) (hw _ (List.mem_of_getElem? (i := 8) rfl)) (hw _ (List.mem_of_getElem? (i := 9) rfl)) e0 (g := (mkF m 1 #[.val (.ref co), .val (.ref fa), .val (.ref ta), .unset] [(.ref co)])) rfl (by rw [hml]; rfl) rfl (hb hby own_d1_1) (by decide) (W := 0) (by show 2 * 0 + _ ≤ _; exact Nat.le_of_eq rfl) (by decide)
  have K59 : ∀ t, Steps p.tables e below (T58.setTop (mkF m 4 #[.val (.ref co), .val (.ref fa), .val (.ref ta), .unset] [])) t → Steps p.tables e below (s₁.setTop (entryFrame m #[(.ref co), (.ref fa), (.ref ta)] 4)) t := fun t k => K57 t (st58 _ k)
  obtain ⟨cl60, Ar60, S60, N60⟩ := id P_10
  have K61 : ∀ t, Steps p.tables e below (T58.setTop (mkF m 11 #[.val (.ref co), .val (.ref fa), .val (.ref ta), .val (.int (4 : Int32))] [(.ref fa), (.ref co)])) t → Steps p.tables e below (s₁.setTop (entryFrame m #[(.ref co), (.ref fa), (.ref ta)] 4)) t := fun t k => K59 t (by
    show Steps p.tables e below (T58.setTop (mkF m 4 #[.val (.ref co), .val (.ref fa), .val (.ref ta), .unset] [])) t
    refine XS.aloadN X58.here hx rfl (hb hby own_d1_4) rfl rfl ?_
    show Steps p.tables e below (T58.setTop (mkF m 5 #[.val (.ref co), .val (.ref fa), .val (.ref ta), .unset] [(.ref fa)])) t
    refine X58.arraylength hx (by rw [e58]; exact Ar60.1) (State.isArrayOf_alike hZ.alike Ar60.2.1) (g := (mkF m 5 #[.val (.ref co), .val (.ref fa), .val (.ref ta), .unset] [(.ref fa)])) rfl rfl (hb hby own_d1_5) _ ?_
    rw [len_of S60 N60]
    show Steps p.tables e below (T58.setTop (mkF m 6 #[.val (.ref co), .val (.ref fa), .val (.ref ta), .unset] [(.int (5 : Int32))])) t
    refine XS.iconst X58.here hx rfl (hb hby own_d1_6) ?_
    show Steps p.tables e below (T58.setTop (mkF m 7 #[.val (.ref co), .val (.ref fa), .val (.ref ta), .unset] [(.int (1 : Int32)), (.int (5 : Int32))])) t
    refine XS.isub X58.here hx rfl (hb hby own_d1_7) rfl ?_
    show Steps p.tables e below (T58.setTop (mkF m 8 #[.val (.ref co), .val (.ref fa), .val (.ref ta), .unset] [(.int (4 : Int32))])) t
    refine XS.istoreN X58.here hx rfl (hb hby own_d1_8) rfl (l' := #[.val (.ref co), .val (.ref fa), .val (.ref ta), .val (.int (4 : Int32))]) rfl ?_
    show Steps p.tables e below (T58.setTop (mkF m 9 #[.val (.ref co), .val (.ref fa), .val (.ref ta), .val (.int (4 : Int32))] [])) t
    refine XS.aloadN X58.here hx rfl (hb hby own_d1_9) rfl rfl ?_
    show Steps p.tables e below (T58.setTop (mkF m 10 #[.val (.ref co), .val (.ref fa), .val (.ref ta), .val (.int (4 : Int32))] [(.ref co)])) t
    refine XS.aloadN X58.here hx rfl (hb hby own_d1_10) rfl rfl ?_
    exact k)
  obtain ⟨T62, h62, X62, e62, W62, st62⟩ := putF X58 hx hZ hown (host := "") (Or.inl (hw _ (List.mem_of_getElem? (i := 10) rfl))) Via.refl e58 P_1 P_0 (Or.inr ⟨(hw _ (List.mem_of_getElem? (i := 11) rfl)), rfl, hnm⟩) (hw _ (List.mem_of_getElem? (i := 2) rfl)) (ty := (.array .int)) (by decide) rfl rfl (g := (mkF m 11 #[.val (.ref co), .val (.ref fa), .val (.ref ta), .val (.int (4 : Int32))] [(.ref fa), (.ref co)])) rfl rfl (hb hby own_d1_11)
  have F63 := P_1.same W62
  have Kp64 : Keep h0 h62 [co] := Keep.wr (Keep.refl h0 [co]) W62 (Or.inl (List.mem_of_getElem? (i := 0) rfl))
  have Z65 : own_Le n0 h62.size := Nat.le_trans Z0 (Keep.of_wr W62).1
  have N66 := Fr.snoc X62 N0 P_9
  have F67 := P_0.wr W62
  have F68 := P_2.other W62 (Or.inr (slot_ne (Or.inr (hw _ (List.mem_of_getElem? (i := 13) rfl))) (Or.inr (hw _ (List.mem_of_getElem? (i := 11) rfl))) (by decide) (t := (.array .int)) (t' := (.array .int)) (by decide) (by decide)))
  have F69 := P_3.other W62 (Or.inr (slot_ne (Or.inr (hw _ (List.mem_of_getElem? (i := 15) rfl))) (Or.inr (hw _ (List.mem_of_getElem? (i := 11) rfl))) (by decide) (t := (.array .int)) (t' := (.array .int)) (by decide) (by decide)))
  have F70 := P_4.other W62 (Or.inr (slot_ne (Or.inr (hw _ (List.mem_of_getElem? (i := 17) rfl))) (Or.inr (hw _ (List.mem_of_getElem? (i := 11) rfl))) (by decide) (t := (.array .int)) (t' := (.array .int)) (by decide) (by decide)))
  have F71 := P_5.other W62 (Or.inr (slot_ne (Or.inr (hw _ (List.mem_of_getElem? (i := 19) rfl))) (Or.inr (hw _ (List.mem_of_getElem? (i := 11) rfl))) (by decide) (t := (.array .int)) (t' := (.array .int)) (by decide) (by decide)))
  have F72 := P_6.other W62 (Or.inr (slot_ne (Or.inr (hw _ (List.mem_of_getElem? (i := 22) rfl))) (Or.inr (hw _ (List.mem_of_getElem? (i := 11) rfl))) (by decide) (t := (.array .boolean)) (t' := (.array .int)) (by decide) (by decide)))
  have F73 := P_7.other W62 (Or.inr (slot_ne (Or.inr (hw _ (List.mem_of_getElem? (i := 24) rfl))) (Or.inr (hw _ (List.mem_of_getElem? (i := 11) rfl))) (by decide) (t := (.array .int)) (t' := (.array .int)) (by decide) (by decide)))
  have F74 := P_8.other W62 (Or.inr (slot_ne (Or.inr (hw _ (List.mem_of_getElem? (i := 26) rfl))) (Or.inr (hw _ (List.mem_of_getElem? (i := 11) rfl))) (by decide) (t := (.array .int)) (t' := (.array .int)) (by decide) (by decide)))
  have K75 : ∀ t, Steps p.tables e below (T62.setTop (mkF m 14 #[.val (.ref co), .val (.ref fa), .val (.ref ta), .val (.int (4 : Int32))] [])) t → Steps p.tables e below (s₁.setTop (entryFrame m #[(.ref co), (.ref fa), (.ref ta)] 4)) t := fun t k => K61 t (st62 _ k)
  have K76 : ∀ t, Steps p.tables e below (T62.setTop (mkF m 16 #[.val (.ref co), .val (.ref fa), .val (.ref ta), .val (.int (4 : Int32))] [(.ref ta), (.ref co)])) t → Steps p.tables e below (s₁.setTop (entryFrame m #[(.ref co), (.ref fa), (.ref ta)] 4)) t := fun t k => K75 t (by
    show Steps p.tables e below (T62.setTop (mkF m 14 #[.val (.ref co), .val (.ref fa), .val (.ref ta), .val (.int (4 : Int32))] [])) t
    refine XS.aloadN X62.here hx rfl (hb hby own_d1_14) rfl rfl ?_
    show Steps p.tables e below (T62.setTop (mkF m 15 #[.val (.ref co), .val (.ref fa), .val (.ref ta), .val (.int (4 : Int32))] [(.ref co)])) t
    refine XS.aloadN X62.here hx rfl (hb hby own_d1_15) rfl rfl ?_
    exact k)
  obtain ⟨T77, h77, X77, e77, W77, st77⟩ := putF X62 hx hZ hown (host := "") (Or.inl (hw _ (List.mem_of_getElem? (i := 12) rfl))) Via.refl e62 F68 F67 (Or.inr ⟨(hw _ (List.mem_of_getElem? (i := 13) rfl)), rfl, hnm⟩) (hw _ (List.mem_of_getElem? (i := 2) rfl)) (ty := (.array .int)) (by decide) rfl rfl (g := (mkF m 16 #[.val (.ref co), .val (.ref fa), .val (.ref ta), .val (.int (4 : Int32))] [(.ref ta), (.ref co)])) rfl rfl (hb hby own_d1_16)
  have F78 := F68.same W77
  have Kp79 : Keep h0 h77 [co] := Keep.wr Kp64 W77 (Or.inl (List.mem_of_getElem? (i := 0) rfl))
  have Z80 : own_Le n0 h77.size := Nat.le_trans Z65 (Keep.of_wr W77).1
  have N81 := Fr.snoc X77 N66 P_9
  have F82 := F67.wr W77
  have F83 := F69.other W77 (Or.inr (slot_ne (Or.inr (hw _ (List.mem_of_getElem? (i := 15) rfl))) (Or.inr (hw _ (List.mem_of_getElem? (i := 13) rfl))) (by decide) (t := (.array .int)) (t' := (.array .int)) (by decide) (by decide)))
  have F84 := F70.other W77 (Or.inr (slot_ne (Or.inr (hw _ (List.mem_of_getElem? (i := 17) rfl))) (Or.inr (hw _ (List.mem_of_getElem? (i := 13) rfl))) (by decide) (t := (.array .int)) (t' := (.array .int)) (by decide) (by decide)))
  have F85 := F71.other W77 (Or.inr (slot_ne (Or.inr (hw _ (List.mem_of_getElem? (i := 19) rfl))) (Or.inr (hw _ (List.mem_of_getElem? (i := 13) rfl))) (by decide) (t := (.array .int)) (t' := (.array .int)) (by decide) (by decide)))
  have F86 := F72.other W77 (Or.inr (slot_ne (Or.inr (hw _ (List.mem_of_getElem? (i := 22) rfl))) (Or.inr (hw _ (List.mem_of_getElem? (i := 13) rfl))) (by decide) (t := (.array .boolean)) (t' := (.array .int)) (by decide) (by decide)))
  have F87 := F73.other W77 (Or.inr (slot_ne (Or.inr (hw _ (List.mem_of_getElem? (i := 24) rfl))) (Or.inr (hw _ (List.mem_of_getElem? (i := 13) rfl))) (by decide) (t := (.array .int)) (t' := (.array .int)) (by decide) (by decide)))
  have F88 := F74.other W77 (Or.inr (slot_ne (Or.inr (hw _ (List.mem_of_getElem? (i := 26) rfl))) (Or.inr (hw _ (List.mem_of_getElem? (i := 13) rfl))) (by decide) (t := (.array .int)) (t' := (.array .int)) (by decide) (by decide)))
  have F89 := F63.other W77 (Or.inr (slot_ne (Or.inr (hw _ (List.mem_of_getElem? (i := 11) rfl))) (Or.inr (hw _ (List.mem_of_getElem? (i := 13) rfl))) (by decide) (t := (.array .int)) (t' := (.array .int)) (by decide) (by decide)))
  have K90 : ∀ t, Steps p.tables e below (T77.setTop (mkF m 19 #[.val (.ref co), .val (.ref fa), .val (.ref ta), .val (.int (4 : Int32))] [])) t → Steps p.tables e below (s₁.setTop (entryFrame m #[(.ref co), (.ref fa), (.ref ta)] 4)) t := fun t k => K76 t (st77 _ k)
  have K91 : ∀ t, Steps p.tables e below (T77.setTop (mkF m 21 #[.val (.ref co), .val (.ref fa), .val (.ref ta), .val (.int (4 : Int32))] [(.int (4 : Int32)), (.ref co)])) t → Steps p.tables e below (s₁.setTop (entryFrame m #[(.ref co), (.ref fa), (.ref ta)] 4)) t := fun t k => K90 t (by
    show Steps p.tables e below (T77.setTop (mkF m 19 #[.val (.ref co), .val (.ref fa), .val (.ref ta), .val (.int (4 : Int32))] [])) t
    refine XS.aloadN X77.here hx rfl (hb hby own_d1_19) rfl rfl ?_
    show Steps p.tables e below (T77.setTop (mkF m 20 #[.val (.ref co), .val (.ref fa), .val (.ref ta), .val (.int (4 : Int32))] [(.ref co)])) t
    refine XS.iloadN X77.here hx rfl (hb hby own_d1_20) rfl ?_
    exact k)
  obtain ⟨T92, h92, k92, X92, e92, E92, A92, st92⟩ := newP X77 hx hZ (hw _ (List.mem_of_getElem? (i := 0) rfl)) e77 (g := (mkF m 21 #[.val (.ref co), .val (.ref fa), .val (.ref ta), .val (.int (4 : Int32))] [(.int (4 : Int32)), (.ref co)])) rfl (hb hby own_d1_21) rfl (by decide) (cap := 4) (by decide) (by decide) (by decide) (by decide)
  obtain ⟨b92, g92⟩ : ∃ z, z = h77.size := ⟨_, rfl⟩
  rw [← g92] at A92 st92
  have ne93 : own_Ne co b92 := Nat.ne_of_lt (Nat.lt_of_lt_of_le F82.lt (Nat.le_of_eq g92.symm))
  have gb94 : own_Le n0 b92 := Nat.le_trans Z80 (Nat.le_of_eq g92.symm)
  have sb95 : own_Le h0.size b92 := Nat.le_trans Kp79.1 (Nat.le_of_eq g92.symm)
  have F96 := F82.ext E92
  have F97 := F83.ext E92
  have F98 := F84.ext E92
  have F99 := F85.ext E92
  have F100 := F86.ext E92
  have F101 := F87.ext E92
  have F102 := F88.ext E92
  have F103 := F89.ext E92
  have F104 := F78.ext E92
  have Z105 : own_Le n0 h92.size := Nat.le_trans Z80 E92.1
  have Kp106 : Keep h0 h92 [co] := Keep.ext Kp79 E92
  have V107 : own_Arl Z h92 b92 .int (4 : Int32) := own_Arl.new A92 (by decide)
  have K108 : ∀ t, Steps p.tables e below (T92.setTop (mkF m 23 #[.val (.ref co), .val (.ref fa), .val (.ref ta), .val (.int (4 : Int32))] [(.ref b92), (.ref co)])) t → Steps p.tables e below (s₁.setTop (entryFrame m #[(.ref co), (.ref fa), (.ref ta)] 4)) t := fun t k => K91 t (st92 _ k)
  obtain ⟨T109, h109, X109, e109, W109, st109⟩ := putF X92 hx hZ hown (host := "") (Or.inl (hw _ (List.mem_of_getElem? (i := 14) rfl))) Via.refl e92 F97 F96 (Or.inr ⟨(hw _ (List.mem_of_getElem? (i := 15) rfl)), rfl, hnm⟩) (hw _ (List.mem_of_getElem? (i := 2) rfl)) (ty := (.array .int)) (by decide) rfl rfl (g := (mkF m 23 #[.val (.ref co), .val (.ref fa), .val (.ref ta), .val (.int (4 : Int32))] [(.ref b92), (.ref co)])) rfl rfl (hb hby own_d1_23)
  have F110 := F97.same W109
  have Kp111 : Keep h0 h109 [co] := Keep.wr Kp106 W109 (Or.inl (List.mem_of_getElem? (i := 0) rfl))
  have Z112 : own_Le n0 h109.size := Nat.le_trans Z105 (Keep.of_wr W109).1
  have N113 := Fr.snoc X109 N81 P_9
  have F114 := F96.wr W109
  have F115 := F98.other W109 (Or.inr (slot_ne (Or.inr (hw _ (List.mem_of_getElem? (i := 17) rfl))) (Or.inr (hw _ (List.mem_of_getElem? (i := 15) rfl))) (by decide) (t := (.array .int)) (t' := (.array .int)) (by decide) (by decide)))
  have F116 := F99.other W109 (Or.inr (slot_ne (Or.inr (hw _ (List.mem_of_getElem? (i := 19) rfl))) (Or.inr (hw _ (List.mem_of_getElem? (i := 15) rfl))) (by decide) (t := (.array .int)) (t' := (.array .int)) (by decide) (by decide)))
  have F117 := F100.other W109 (Or.inr (slot_ne (Or.inr (hw _ (List.mem_of_getElem? (i := 22) rfl))) (Or.inr (hw _ (List.mem_of_getElem? (i := 15) rfl))) (by decide) (t := (.array .boolean)) (t' := (.array .int)) (by decide) (by decide)))
  have F118 := F101.other W109 (Or.inr (slot_ne (Or.inr (hw _ (List.mem_of_getElem? (i := 24) rfl))) (Or.inr (hw _ (List.mem_of_getElem? (i := 15) rfl))) (by decide) (t := (.array .int)) (t' := (.array .int)) (by decide) (by decide)))
  have F119 := F102.other W109 (Or.inr (slot_ne (Or.inr (hw _ (List.mem_of_getElem? (i := 26) rfl))) (Or.inr (hw _ (List.mem_of_getElem? (i := 15) rfl))) (by decide) (t := (.array .int)) (t' := (.array .int)) (by decide) (by decide)))
  have F120 := F103.other W109 (Or.inr (slot_ne (Or.inr (hw _ (List.mem_of_getElem? (i := 11) rfl))) (Or.inr (hw _ (List.mem_of_getElem? (i := 15) rfl))) (by decide) (t := (.array .int)) (t' := (.array .int)) (by decide) (by decide)))
  have F121 := F104.other W109 (Or.inr (slot_ne (Or.inr (hw _ (List.mem_of_getElem? (i := 13) rfl))) (Or.inr (hw _ (List.mem_of_getElem? (i := 15) rfl))) (by decide) (t := (.array .int)) (t' := (.array .int)) (by decide) (by decide)))
  have F122 := V107.other W109 (own_Ne.symm ne93)
  have K123 : ∀ t, Steps p.tables e below (T109.setTop (mkF m 26 #[.val (.ref co), .val (.ref fa), .val (.ref ta), .val (.int (4 : Int32))] [])) t → Steps p.tables e below (s₁.setTop (entryFrame m #[(.ref co), (.ref fa), (.ref ta)] 4)) t := fun t k => K108 t (st109 _ k)
  have K124 : ∀ t, Steps p.tables e below (T109.setTop (mkF m 28 #[.val (.ref co), .val (.ref fa), .val (.ref ta), .val (.int (4 : Int32))] [(.int (4 : Int32)), (.ref co)])) t → Steps p.tables e below (s₁.setTop (entryFrame m #[(.ref co), (.ref fa), (.ref ta)] 4)) t := fun t k => K123 t (by
    show Steps p.tables e below (T109.setTop (mkF m 26 #[.val (.ref co), .val (.ref fa), .val (.ref ta), .val (.int (4 : Int32))] [])) t
    refine XS.aloadN X109.here hx rfl (hb hby own_d1_26) rfl rfl ?_
    show Steps p.tables e below (T109.setTop (mkF m 27 #[.val (.ref co), .val (.ref fa), .val (.ref ta), .val (.int (4 : Int32))] [(.ref co)])) t
    refine XS.iloadN X109.here hx rfl (hb hby own_d1_27) rfl ?_
    exact k)
  obtain ⟨T125, h125, k125, X125, e125, E125, A125, st125⟩ := newP X109 hx hZ (hw _ (List.mem_of_getElem? (i := 0) rfl)) e109 (g := (mkF m 28 #[.val (.ref co), .val (.ref fa), .val (.ref ta), .val (.int (4 : Int32))] [(.int (4 : Int32)), (.ref co)])) rfl (hb hby own_d1_28) rfl (by decide) (cap := 4) (by decide) (by decide) (by decide) (by decide)
  obtain ⟨b125, g125⟩ : ∃ z, z = h109.size := ⟨_, rfl⟩
  rw [← g125] at A125 st125
  have ne126 : own_Ne co b125 := Nat.ne_of_lt (Nat.lt_of_lt_of_le F114.lt (Nat.le_of_eq g125.symm))
  have ne127 : own_Ne b92 b125 := Nat.ne_of_lt (Nat.lt_of_lt_of_le F122.lt (Nat.le_of_eq g125.symm))
  have gb128 : own_Le n0 b125 := Nat.le_trans Z112 (Nat.le_of_eq g125.symm)
  have sb129 : own_Le h0.size b125 := Nat.le_trans Kp111.1 (Nat.le_of_eq g125.symm)
  have F130 := F114.ext E125
  have F131 := F115.ext E125
  have F132 := F116.ext E125
  have F133 := F117.ext E125
  have F134 := F118.ext E125
  have F135 := F119.ext E125
  have F136 := F120.ext E125
  have F137 := F121.ext E125
  have F138 := F122.ext E125
  have F139 := F110.ext E125
  have Z140 : own_Le n0 h125.size := Nat.le_trans Z112 E125.1
  have Kp141 : Keep h0 h125 [co] := Keep.ext Kp111 E125
  have V142 : own_Arl Z h125 b125 .int (4 : Int32) := own_Arl.new A125 (by decide)
  have K143 : ∀ t, Steps p.tables e below (T125.setTop (mkF m 30 #[.val (.ref co), .val (.ref fa), .val (.ref ta), .val (.int (4 : Int32))] [(.ref b125), (.ref co)])) t → Steps p.tables e below (s₁.setTop (entryFrame m #[(.ref co), (.ref fa), (.ref ta)] 4)) t := fun t k => K124 t (st125 _ k)
  obtain ⟨T144, h144, X144, e144, W144, st144⟩ := putF X125 hx hZ hown (host := "") (Or.inl (hw _ (List.mem_of_getElem? (i := 16) rfl))) Via.refl e125 F131 F130 (Or.inr ⟨(hw _ (List.mem_of_getElem? (i := 17) rfl)), rfl, hnm⟩) (hw _ (List.mem_of_getElem? (i := 2) rfl)) (ty := (.array .int)) (by decide) rfl rfl (g := (mkF m 30 #[.val (.ref co), .val (.ref fa), .val (.ref ta), .val (.int (4 : Int32))] [(.ref b125), (.ref co)])) rfl rfl (hb hby own_d1_30)
  have F145 := F131.same W144
  have Kp146 : Keep h0 h144 [co] := Keep.wr Kp141 W144 (Or.inl (List.mem_of_getElem? (i := 0) rfl))
  have Z147 : own_Le n0 h144.size := Nat.le_trans Z140 (Keep.of_wr W144).1
  have N148 := Fr.snoc X144 N113 P_9
  have F149 := F130.wr W144
  have F150 := F132.other W144 (Or.inr (slot_ne (Or.inr (hw _ (List.mem_of_getElem? (i := 19) rfl))) (Or.inr (hw _ (List.mem_of_getElem? (i := 17) rfl))) (by decide) (t := (.array .int)) (t' := (.array .int)) (by decide) (by decide)))
  have F151 := F133.other W144 (Or.inr (slot_ne (Or.inr (hw _ (List.mem_of_getElem? (i := 22) rfl))) (Or.inr (hw _ (List.mem_of_getElem? (i := 17) rfl))) (by decide) (t := (.array .boolean)) (t' := (.array .int)) (by decide) (by decide)))
  have F152 := F134.other W144 (Or.inr (slot_ne (Or.inr (hw _ (List.mem_of_getElem? (i := 24) rfl))) (Or.inr (hw _ (List.mem_of_getElem? (i := 17) rfl))) (by decide) (t := (.array .int)) (t' := (.array .int)) (by decide) (by decide)))
  have F153 := F135.other W144 (Or.inr (slot_ne (Or.inr (hw _ (List.mem_of_getElem? (i := 26) rfl))) (Or.inr (hw _ (List.mem_of_getElem? (i := 17) rfl))) (by decide) (t := (.array .int)) (t' := (.array .int)) (by decide) (by decide)))
  have F154 := F136.other W144 (Or.inr (slot_ne (Or.inr (hw _ (List.mem_of_getElem? (i := 11) rfl))) (Or.inr (hw _ (List.mem_of_getElem? (i := 17) rfl))) (by decide) (t := (.array .int)) (t' := (.array .int)) (by decide) (by decide)))
  have F155 := F137.other W144 (Or.inr (slot_ne (Or.inr (hw _ (List.mem_of_getElem? (i := 13) rfl))) (Or.inr (hw _ (List.mem_of_getElem? (i := 17) rfl))) (by decide) (t := (.array .int)) (t' := (.array .int)) (by decide) (by decide)))
  have F156 := F138.other W144 (own_Ne.symm ne93)
  have F157 := F139.other W144 (Or.inr (slot_ne (Or.inr (hw _ (List.mem_of_getElem? (i := 15) rfl))) (Or.inr (hw _ (List.mem_of_getElem? (i := 17) rfl))) (by decide) (t := (.array .int)) (t' := (.array .int)) (by decide) (by decide)))
  have F158 := V142.other W144 (own_Ne.symm ne126)
  have K159 : ∀ t, Steps p.tables e below (T144.setTop (mkF m 33 #[.val (.ref co), .val (.ref fa), .val (.ref ta), .val (.int (4 : Int32))] [])) t → Steps p.tables e below (s₁.setTop (entryFrame m #[(.ref co), (.ref fa), (.ref ta)] 4)) t := fun t k => K143 t (st144 _ k)
  have K160 : ∀ t, Steps p.tables e below (T144.setTop (mkF m 35 #[.val (.ref co), .val (.ref fa), .val (.ref ta), .val (.int (4 : Int32))] [(.int (4 : Int32)), (.ref co)])) t → Steps p.tables e below (s₁.setTop (entryFrame m #[(.ref co), (.ref fa), (.ref ta)] 4)) t := fun t k => K159 t (by
    show Steps p.tables e below (T144.setTop (mkF m 33 #[.val (.ref co), .val (.ref fa), .val (.ref ta), .val (.int (4 : Int32))] [])) t
    refine XS.aloadN X144.here hx rfl (hb hby own_d1_33) rfl rfl ?_
    show Steps p.tables e below (T144.setTop (mkF m 34 #[.val (.ref co), .val (.ref fa), .val (.ref ta), .val (.int (4 : Int32))] [(.ref co)])) t
    refine XS.iloadN X144.here hx rfl (hb hby own_d1_34) rfl ?_
    exact k)
  obtain ⟨T161, h161, k161, X161, e161, E161, A161, st161⟩ := newP X144 hx hZ (hw _ (List.mem_of_getElem? (i := 0) rfl)) e144 (g := (mkF m 35 #[.val (.ref co), .val (.ref fa), .val (.ref ta), .val (.int (4 : Int32))] [(.int (4 : Int32)), (.ref co)])) rfl (hb hby own_d1_35) rfl (by decide) (cap := 4) (by decide) (by decide) (by decide) (by decide)
  obtain ⟨b161, g161⟩ : ∃ z, z = h144.size := ⟨_, rfl⟩
  rw [← g161] at A161 st161
  have ne162 : own_Ne co b161 := Nat.ne_of_lt (Nat.lt_of_lt_of_le F149.lt (Nat.le_of_eq g161.symm))
  have ne163 : own_Ne b92 b161 := Nat.ne_of_lt (Nat.lt_of_lt_of_le F156.lt (Nat.le_of_eq g161.symm))
  have ne164 : own_Ne b125 b161 := Nat.ne_of_lt (Nat.lt_of_lt_of_le F158.lt (Nat.le_of_eq g161.symm))
  have gb165 : own_Le n0 b161 := Nat.le_trans Z147 (Nat.le_of_eq g161.symm)
  have sb166 : own_Le h0.size b161 := Nat.le_trans Kp146.1 (Nat.le_of_eq g161.symm)
  have F167 := F149.ext E161
  have F168 := F150.ext E161
  have F169 := F151.ext E161
  have F170 := F152.ext E161
  have F171 := F153.ext E161
  have F172 := F154.ext E161
  have F173 := F155.ext E161
  have F174 := F156.ext E161
  have F175 := F157.ext E161
  have F176 := F158.ext E161
  have F177 := F145.ext E161
  have Z178 : own_Le n0 h161.size := Nat.le_trans Z147 E161.1
  have Kp179 : Keep h0 h161 [co] := Keep.ext Kp146 E161
  have V180 : own_Arl Z h161 b161 .int (4 : Int32) := own_Arl.new A161 (by decide)
  have K181 : ∀ t, Steps p.tables e below (T161.setTop (mkF m 37 #[.val (.ref co), .val (.ref fa), .val (.ref ta), .val (.int (4 : Int32))] [(.ref b161), (.ref co)])) t → Steps p.tables e below (s₁.setTop (entryFrame m #[(.ref co), (.ref fa), (.ref ta)] 4)) t := fun t k => K160 t (st161 _ k)
  obtain ⟨T182, h182, X182, e182, W182, st182⟩ := putF X161 hx hZ hown (host := "") (Or.inl (hw _ (List.mem_of_getElem? (i := 18) rfl))) Via.refl e161 F168 F167 (Or.inr ⟨(hw _ (List.mem_of_getElem? (i := 19) rfl)), rfl, hnm⟩) (hw _ (List.mem_of_getElem? (i := 2) rfl)) (ty := (.array .int)) (by decide) rfl rfl (g := (mkF m 37 #[.val (.ref co), .val (.ref fa), .val (.ref ta), .val (.int (4 : Int32))] [(.ref b161), (.ref co)])) rfl rfl (hb hby own_d1_37)
  have F183 := F168.same W182
  have Kp184 : Keep h0 h182 [co] := Keep.wr Kp179 W182 (Or.inl (List.mem_of_getElem? (i := 0) rfl))
  have Z185 : own_Le n0 h182.size := Nat.le_trans Z178 (Keep.of_wr W182).1
  have N186 := Fr.snoc X182 N148 P_9
  have F187 := F167.wr W182
  have F188 := F169.other W182 (Or.inr (slot_ne (Or.inr (hw _ (List.mem_of_getElem? (i := 22) rfl))) (Or.inr (hw _ (List.mem_of_getElem? (i := 19) rfl))) (by decide) (t := (.array .boolean)) (t' := (.array .int)) (by decide) (by decide)))
  have F189 := F170.other W182 (Or.inr (slot_ne (Or.inr (hw _ (List.mem_of_getElem? (i := 24) rfl))) (Or.inr (hw _ (List.mem_of_getElem? (i := 19) rfl))) (by decide) (t := (.array .int)) (t' := (.array .int)) (by decide) (by decide)))
  have F190 := F171.other W182 (Or.inr (slot_ne (Or.inr (hw _ (List.mem_of_getElem? (i := 26) rfl))) (Or.inr (hw _ (List.mem_of_getElem? (i := 19) rfl))) (by decide) (t := (.array .int)) (t' := (.array .int)) (by decide) (by decide)))
  have F191 := F172.other W182 (Or.inr (slot_ne (Or.inr (hw _ (List.mem_of_getElem? (i := 11) rfl))) (Or.inr (hw _ (List.mem_of_getElem? (i := 19) rfl))) (by decide) (t := (.array .int)) (t' := (.array .int)) (by decide) (by decide)))
  have F192 := F173.other W182 (Or.inr (slot_ne (Or.inr (hw _ (List.mem_of_getElem? (i := 13) rfl))) (Or.inr (hw _ (List.mem_of_getElem? (i := 19) rfl))) (by decide) (t := (.array .int)) (t' := (.array .int)) (by decide) (by decide)))
  have F193 := F174.other W182 (own_Ne.symm ne93)
  have F194 := F175.other W182 (Or.inr (slot_ne (Or.inr (hw _ (List.mem_of_getElem? (i := 15) rfl))) (Or.inr (hw _ (List.mem_of_getElem? (i := 19) rfl))) (by decide) (t := (.array .int)) (t' := (.array .int)) (by decide) (by decide)))
  have F195 := F176.other W182 (own_Ne.symm ne126)
  have F196 := F177.other W182 (Or.inr (slot_ne (Or.inr (hw _ (List.mem_of_getElem? (i := 17) rfl))) (Or.inr (hw _ (List.mem_of_getElem? (i := 19) rfl))) (by decide) (t := (.array .int)) (t' := (.array .int)) (by decide) (by decide)))
  have F197 := V180.other W182 (own_Ne.symm ne162)
  have K198 : ∀ t, Steps p.tables e below (T182.setTop (mkF m 40 #[.val (.ref co), .val (.ref fa), .val (.ref ta), .val (.int (4 : Int32))] [])) t → Steps p.tables e below (s₁.setTop (entryFrame m #[(.ref co), (.ref fa), (.ref ta)] 4)) t := fun t k => K181 t (st182 _ k)
  have K199 : ∀ t, Steps p.tables e below (T182.setTop (mkF m 42 #[.val (.ref co), .val (.ref fa), .val (.ref ta), .val (.int (4 : Int32))] [(.int (4 : Int32)), (.ref co)])) t → Steps p.tables e below (s₁.setTop (entryFrame m #[(.ref co), (.ref fa), (.ref ta)] 4)) t := fun t k => K198 t (by
    show Steps p.tables e below (T182.setTop (mkF m 40 #[.val (.ref co), .val (.ref fa), .val (.ref ta), .val (.int (4 : Int32))] [])) t
    refine XS.aloadN X182.here hx rfl (hb hby own_d1_40) rfl rfl ?_
    show Steps p.tables e below (T182.setTop (mkF m 41 #[.val (.ref co), .val (.ref fa), .val (.ref ta), .val (.int (4 : Int32))] [(.ref co)])) t
    refine XS.iloadN X182.here hx rfl (hb hby own_d1_41) rfl ?_
    exact k)
  obtain ⟨T200, h200, k200, X200, e200, E200, A200, st200⟩ := newP X182 hx hZ (hw _ (List.mem_of_getElem? (i := 20) rfl)) e182 (g := (mkF m 42 #[.val (.ref co), .val (.ref fa), .val (.ref ta), .val (.int (4 : Int32))] [(.int (4 : Int32)), (.ref co)])) rfl (hb hby own_d1_42) rfl (by decide) (cap := 4) (by decide) (by decide) (by decide) (by decide)
  obtain ⟨b200, g200⟩ : ∃ z, z = h182.size := ⟨_, rfl⟩
  rw [← g200] at A200 st200
  have ne201 : own_Ne co b200 := Nat.ne_of_lt (Nat.lt_of_lt_of_le F187.lt (Nat.le_of_eq g200.symm))
  have ne202 : own_Ne b92 b200 := Nat.ne_of_lt (Nat.lt_of_lt_of_le F193.lt (Nat.le_of_eq g200.symm))
  have ne203 : own_Ne b125 b200 := Nat.ne_of_lt (Nat.lt_of_lt_of_le F195.lt (Nat.le_of_eq g200.symm))
  have ne204 : own_Ne b161 b200 := Nat.ne_of_lt (Nat.lt_of_lt_of_le F197.lt (Nat.le_of_eq g200.symm))
  have gb205 : own_Le n0 b200 := Nat.le_trans Z185 (Nat.le_of_eq g200.symm)
  have sb206 : own_Le h0.size b200 := Nat.le_trans Kp184.1 (Nat.le_of_eq g200.symm)
  have F207 := F187.ext E200
  have F208 := F188.ext E200
  have F209 := F189.ext E200
  have F210 := F190.ext E200
  have F211 := F191.ext E200
  have F212 := F192.ext E200
  have F213 := F193.ext E200
  have F214 := F194.ext E200
  have F215 := F195.ext E200
  have F216 := F196.ext E200
  have F217 := F197.ext E200
  have F218 := F183.ext E200
  have Z219 : own_Le n0 h200.size := Nat.le_trans Z185 E200.1
  have Kp220 : Keep h0 h200 [co] := Keep.ext Kp184 E200
  have V221 : own_Arl Z h200 b200 .boolean (4 : Int32) := own_Arl.new A200 (by decide)
  have K222 : ∀ t, Steps p.tables e below (T200.setTop (mkF m 44 #[.val (.ref co), .val (.ref fa), .val (.ref ta), .val (.int (4 : Int32))] [(.ref b200), (.ref co)])) t → Steps p.tables e below (s₁.setTop (entryFrame m #[(.ref co), (.ref fa), (.ref ta)] 4)) t := fun t k => K199 t (st200 _ k)
  obtain ⟨T223, h223, X223, e223, W223, st223⟩ := putF X200 hx hZ hown (host := "") (Or.inl (hw _ (List.mem_of_getElem? (i := 21) rfl))) Via.refl e200 F208 F207 (Or.inr ⟨(hw _ (List.mem_of_getElem? (i := 22) rfl)), rfl, hnm⟩) (hw _ (List.mem_of_getElem? (i := 2) rfl)) (ty := (.array .boolean)) (by decide) rfl rfl (g := (mkF m 44 #[.val (.ref co), .val (.ref fa), .val (.ref ta), .val (.int (4 : Int32))] [(.ref b200), (.ref co)])) rfl rfl (hb hby own_d1_44)
  have F224 := F208.same W223
  have Kp225 : Keep h0 h223 [co] := Keep.wr Kp220 W223 (Or.inl (List.mem_of_getElem? (i := 0) rfl))
  have Z226 : own_Le n0 h223.size := Nat.le_trans Z219 (Keep.of_wr W223).1
  have N227 := Fr.snoc X223 N186 P_9
  have F228 := F207.wr W223
  have F229 := F209.other W223 (Or.inr (slot_ne (Or.inr (hw _ (List.mem_of_getElem? (i := 24) rfl))) (Or.inr (hw _ (List.mem_of_getElem? (i := 22) rfl))) (by decide) (t := (.array .int)) (t' := (.array .boolean)) (by decide) (by decide)))
  have F230 := F210.other W223 (Or.inr (slot_ne (Or.inr (hw _ (List.mem_of_getElem? (i := 26) rfl))) (Or.inr (hw _ (List.mem_of_getElem? (i := 22) rfl))) (by decide) (t := (.array .int)) (t' := (.array .boolean)) (by decide) (by decide)))
  have F231 := F211.other W223 (Or.inr (slot_ne (Or.inr (hw _ (List.mem_of_getElem? (i := 11) rfl))) (Or.inr (hw _ (List.mem_of_getElem? (i := 22) rfl))) (by decide) (t := (.array .int)) (t' := (.array .boolean)) (by decide) (by decide)))
  have F232 := F212.other W223 (Or.inr (slot_ne (Or.inr (hw _ (List.mem_of_getElem? (i := 13) rfl))) (Or.inr (hw _ (List.mem_of_getElem? (i := 22) rfl))) (by decide) (t := (.array .int)) (t' := (.array .boolean)) (by decide) (by decide)))
  have F233 := F213.other W223 (own_Ne.symm ne93)
  have F234 := F214.other W223 (Or.inr (slot_ne (Or.inr (hw _ (List.mem_of_getElem? (i := 15) rfl))) (Or.inr (hw _ (List.mem_of_getElem? (i := 22) rfl))) (by decide) (t := (.array .int)) (t' := (.array .boolean)) (by decide) (by decide)))
  have F235 := F215.other W223 (own_Ne.symm ne126)
  have F236 := F216.other W223 (Or.inr (slot_ne (Or.inr (hw _ (List.mem_of_getElem? (i := 17) rfl))) (Or.inr (hw _ (List.mem_of_getElem? (i := 22) rfl))) (by decide) (t := (.array .int)) (t' := (.array .boolean)) (by decide) (by decide)))
  have F237 := F217.other W223 (own_Ne.symm ne162)
  have F238 := F218.other W223 (Or.inr (slot_ne (Or.inr (hw _ (List.mem_of_getElem? (i := 19) rfl))) (Or.inr (hw _ (List.mem_of_getElem? (i := 22) rfl))) (by decide) (t := (.array .int)) (t' := (.array .boolean)) (by decide) (by decide)))
  have F239 := V221.other W223 (own_Ne.symm ne201)
  have K240 : ∀ t, Steps p.tables e below (T223.setTop (mkF m 47 #[.val (.ref co), .val (.ref fa), .val (.ref ta), .val (.int (4 : Int32))] [])) t → Steps p.tables e below (s₁.setTop (entryFrame m #[(.ref co), (.ref fa), (.ref ta)] 4)) t := fun t k => K222 t (st223 _ k)
  have K241 : ∀ t, Steps p.tables e below (T223.setTop (mkF m 49 #[.val (.ref co), .val (.ref fa), .val (.ref ta), .val (.int (4 : Int32))] [(.int (4 : Int32)), (.ref co)])) t → Steps p.tables e below (s₁.setTop (entryFrame m #[(.ref co), (.ref fa), (.ref ta)] 4)) t := fun t k => K240 t (by
    show Steps p.tables e below (T223.setTop (mkF m 47 #[.val (.ref co), .val (.ref fa), .val (.ref ta), .val (.int (4 : Int32))] [])) t
    refine XS.aloadN X223.here hx rfl (hb hby own_d1_47) rfl rfl ?_
    show Steps p.tables e below (T223.setTop (mkF m 48 #[.val (.ref co), .val (.ref fa), .val (.ref ta), .val (.int (4 : Int32))] [(.ref co)])) t
    refine XS.iloadN X223.here hx rfl (hb hby own_d1_48) rfl ?_
    exact k)
  obtain ⟨T242, h242, k242, X242, e242, E242, A242, st242⟩ := newP X223 hx hZ (hw _ (List.mem_of_getElem? (i := 0) rfl)) e223 (g := (mkF m 49 #[.val (.ref co), .val (.ref fa), .val (.ref ta), .val (.int (4 : Int32))] [(.int (4 : Int32)), (.ref co)])) rfl (hb hby own_d1_49) rfl (by decide) (cap := 4) (by decide) (by decide) (by decide) (by decide)
  obtain ⟨b242, g242⟩ : ∃ z, z = h223.size := ⟨_, rfl⟩
  rw [← g242] at A242 st242
  have ne243 : own_Ne co b242 := Nat.ne_of_lt (Nat.lt_of_lt_of_le F228.lt (Nat.le_of_eq g242.symm))
  have ne244 : own_Ne b92 b242 := Nat.ne_of_lt (Nat.lt_of_lt_of_le F233.lt (Nat.le_of_eq g242.symm))
  have ne245 : own_Ne b125 b242 := Nat.ne_of_lt (Nat.lt_of_lt_of_le F235.lt (Nat.le_of_eq g242.symm))
  have ne246 : own_Ne b161 b242 := Nat.ne_of_lt (Nat.lt_of_lt_of_le F237.lt (Nat.le_of_eq g242.symm))
  have ne247 : own_Ne b200 b242 := Nat.ne_of_lt (Nat.lt_of_lt_of_le F239.lt (Nat.le_of_eq g242.symm))
  have gb248 : own_Le n0 b242 := Nat.le_trans Z226 (Nat.le_of_eq g242.symm)
  have sb249 : own_Le h0.size b242 := Nat.le_trans Kp225.1 (Nat.le_of_eq g242.symm)
  have F250 := F228.ext E242
  have F251 := F229.ext E242
  have F252 := F230.ext E242
  have F253 := F231.ext E242
  have F254 := F232.ext E242
  have F255 := F233.ext E242
  have F256 := F234.ext E242
  have F257 := F235.ext E242
  have F258 := F236.ext E242
  have F259 := F237.ext E242
  have F260 := F238.ext E242
  have F261 := F239.ext E242
  have F262 := F224.ext E242
  have Z263 : own_Le n0 h242.size := Nat.le_trans Z226 E242.1
  have Kp264 : Keep h0 h242 [co] := Keep.ext Kp225 E242
  have V265 : own_Arl Z h242 b242 .int (4 : Int32) := own_Arl.new A242 (by decide)
  have K266 : ∀ t, Steps p.tables e below (T242.setTop (mkF m 51 #[.val (.ref co), .val (.ref fa), .val (.ref ta), .val (.int (4 : Int32))] [(.ref b242), (.ref co)])) t → Steps p.tables e below (s₁.setTop (entryFrame m #[(.ref co), (.ref fa), (.ref ta)] 4)) t := fun t k => K241 t (st242 _ k)
  obtain ⟨T267, h267, X267, e267, W267, st267⟩ := putF X242 hx hZ hown (host := "") (Or.inl (hw _ (List.mem_of_getElem? (i := 23) rfl))) Via.refl e242 F251 F250 (Or.inr ⟨(hw _ (List.mem_of_getElem? (i := 24) rfl)), rfl, hnm⟩) (hw _ (List.mem_of_getElem? (i := 2) rfl)) (ty := (.array .int)) (by decide) rfl rfl (g := (mkF m 51 #[.val (.ref co), .val (.ref fa), .val (.ref ta), .val (.int (4 : Int32))] [(.ref b242), (.ref co)])) rfl rfl (hb hby own_d1_51)
  have F268 := F251.same W267
  have Kp269 : Keep h0 h267 [co] := Keep.wr Kp264 W267 (Or.inl (List.mem_of_getElem? (i := 0) rfl))
  have Z270 : own_Le n0 h267.size := Nat.le_trans Z263 (Keep.of_wr W267).1
  have N271 := Fr.snoc X267 N227 P_9
  have F272 := F250.wr W267
  have F273 := F252.other W267 (Or.inr (slot_ne (Or.inr (hw _ (List.mem_of_getElem? (i := 26) rfl))) (Or.inr (hw _ (List.mem_of_getElem? (i := 24) rfl))) (by decide) (t := (.array .int)) (t' := (.array .int)) (by decide) (by decide)))
  have F274 := F253.other W267 (Or.inr (slot_ne (Or.inr (hw _ (List.mem_of_getElem? (i := 11) rfl))) (Or.inr (hw _ (List.mem_of_getElem? (i := 24) rfl))) (by decide) (t := (.array .int)) (t' := (.array .int)) (by decide) (by decide)))
  have F275 := F254.other W267 (Or.inr (slot_ne (Or.inr (hw _ (List.mem_of_getElem? (i := 13) rfl))) (Or.inr (hw _ (List.mem_of_getElem? (i := 24) rfl))) (by decide) (t := (.array .int)) (t' := (.array .int)) (by decide) (by decide)))
  have F276 := F255.other W267 (own_Ne.symm ne93)
  have F277 := F256.other W267 (Or.inr (slot_ne (Or.inr (hw _ (List.mem_of_getElem? (i := 15) rfl))) (Or.inr (hw _ (List.mem_of_getElem? (i := 24) rfl))) (by decide) (t := (.array .int)) (t' := (.array .int)) (by decide) (by decide)))
  have F278 := F257.other W267 (own_Ne.symm ne126)
  have F279 := F258.other W267 (Or.inr (slot_ne (Or.inr (hw _ (List.mem_of_getElem? (i := 17) rfl))) (Or.inr (hw _ (List.mem_of_getElem? (i := 24) rfl))) (by decide) (t := (.array .int)) (t' := (.array .int)) (by decide) (by decide)))
  have F280 := F259.other W267 (own_Ne.symm ne162)
  have F281 := F260.other W267 (Or.inr (slot_ne (Or.inr (hw _ (List.mem_of_getElem? (i := 19) rfl))) (Or.inr (hw _ (List.mem_of_getElem? (i := 24) rfl))) (by decide) (t := (.array .int)) (t' := (.array .int)) (by decide) (by decide)))
  have F282 := F261.other W267 (own_Ne.symm ne201)
  have F283 := F262.other W267 (Or.inr (slot_ne (Or.inr (hw _ (List.mem_of_getElem? (i := 22) rfl))) (Or.inr (hw _ (List.mem_of_getElem? (i := 24) rfl))) (by decide) (t := (.array .boolean)) (t' := (.array .int)) (by decide) (by decide)))
  have F284 := V265.other W267 (own_Ne.symm ne243)
  have K285 : ∀ t, Steps p.tables e below (T267.setTop (mkF m 54 #[.val (.ref co), .val (.ref fa), .val (.ref ta), .val (.int (4 : Int32))] [])) t → Steps p.tables e below (s₁.setTop (entryFrame m #[(.ref co), (.ref fa), (.ref ta)] 4)) t := fun t k => K266 t (st267 _ k)
  have K286 : ∀ t, Steps p.tables e below (T267.setTop (mkF m 56 #[.val (.ref co), .val (.ref fa), .val (.ref ta), .val (.int (4 : Int32))] [(.int (4 : Int32)), (.ref co)])) t → Steps p.tables e below (s₁.setTop (entryFrame m #[(.ref co), (.ref fa), (.ref ta)] 4)) t := fun t k => K285 t (by
    show Steps p.tables e below (T267.setTop (mkF m 54 #[.val (.ref co), .val (.ref fa), .val (.ref ta), .val (.int (4 : Int32))] [])) t
    refine XS.aloadN X267.here hx rfl (hb hby own_d1_54) rfl rfl ?_
    show Steps p.tables e below (T267.setTop (mkF m 55 #[.val (.ref co), .val (.ref fa), .val (.ref ta), .val (.int (4 : Int32))] [(.ref co)])) t
    refine XS.iloadN X267.here hx rfl (hb hby own_d1_55) rfl ?_
    exact k)
  obtain ⟨T287, h287, k287, X287, e287, E287, A287, st287⟩ := newP X267 hx hZ (hw _ (List.mem_of_getElem? (i := 0) rfl)) e267 (g := (mkF m 56 #[.val (.ref co), .val (.ref fa), .val (.ref ta), .val (.int (4 : Int32))] [(.int (4 : Int32)), (.ref co)])) rfl (hb hby own_d1_56) rfl (by decide) (cap := 4) (by decide) (by decide) (by decide) (by decide)
  obtain ⟨b287, g287⟩ : ∃ z, z = h267.size := ⟨_, rfl⟩
  rw [← g287] at A287 st287
  have ne288 : own_Ne co b287 := Nat.ne_of_lt (Nat.lt_of_lt_of_le F272.lt (Nat.le_of_eq g287.symm))
  have ne289 : own_Ne b92 b287 := Nat.ne_of_lt (Nat.lt_of_lt_of_le F276.lt (Nat.le_of_eq g287.symm))
  have ne290 : own_Ne b125 b287 := Nat.ne_of_lt (Nat.lt_of_lt_of_le F278.lt (Nat.le_of_eq g287.symm))
  have ne291 : own_Ne b161 b287 := Nat.ne_of_lt (Nat.lt_of_lt_of_le F280.lt (Nat.le_of_eq g287.symm))
  have ne292 : own_Ne b200 b287 := Nat.ne_of_lt (Nat.lt_of_lt_of_le F282.lt (Nat.le_of_eq g287.symm))
  have ne293 : own_Ne b242 b287 := Nat.ne_of_lt (Nat.lt_of_lt_of_le F284.lt (Nat.le_of_eq g287.symm))
  have gb294 : own_Le n0 b287 := Nat.le_trans Z270 (Nat.le_of_eq g287.symm)
  have sb295 : own_Le h0.size b287 := Nat.le_trans Kp269.1 (Nat.le_of_eq g287.symm)
  have F296 := F272.ext E287
  have F297 := F273.ext E287
  have F298 := F274.ext E287
  have F299 := F275.ext E287
  have F300 := F276.ext E287
  have F301 := F277.ext E287
  have F302 := F278.ext E287
  have F303 := F279.ext E287
  have F304 := F280.ext E287
  have F305 := F281.ext E287
  have F306 := F282.ext E287
  have F307 := F283.ext E287
  have F308 := F284.ext E287
  have F309 := F268.ext E287
  have Z310 : own_Le n0 h287.size := Nat.le_trans Z270 E287.1
  have Kp311 : Keep h0 h287 [co] := Keep.ext Kp269 E287
  have V312 : own_Arl Z h287 b287 .int (4 : Int32) := own_Arl.new A287 (by decide)
  have K313 : ∀ t, Steps p.tables e below (T287.setTop (mkF m 58 #[.val (.ref co), .val (.ref fa), .val (.ref ta), .val (.int (4 : Int32))] [(.ref b287), (.ref co)])) t → Steps p.tables e below (s₁.setTop (entryFrame m #[(.ref co), (.ref fa), (.ref ta)] 4)) t := fun t k => K286 t (st287 _ k)
  obtain ⟨T314, h314, X314, e314, W314, st314⟩ := putF X287 hx hZ hown (host := "") (Or.inl (hw _ (List.mem_of_getElem? (i := 25) rfl))) Via.refl e287 F297 F296 (Or.inr ⟨(hw _ (List.mem_of_getElem? (i := 26) rfl)), rfl, hnm⟩) (hw _ (List.mem_of_getElem? (i := 2) rfl)) (ty := (.array .int)) (by decide) rfl rfl (g := (mkF m 58 #[.val (.ref co), .val (.ref fa), .val (.ref ta), .val (.int (4 : Int32))] [(.ref b287), (.ref co)])) rfl rfl (hb hby own_d1_58)
  have F315 := F297.same W314
  have Kp316 : Keep h0 h314 [co] := Keep.wr Kp311 W314 (Or.inl (List.mem_of_getElem? (i := 0) rfl))
  have Z317 : own_Le n0 h314.size := Nat.le_trans Z310 (Keep.of_wr W314).1
  have N318 := Fr.snoc X314 N271 P_9
  have F319 := F296.wr W314
  have F320 := F298.other W314 (Or.inr (slot_ne (Or.inr (hw _ (List.mem_of_getElem? (i := 11) rfl))) (Or.inr (hw _ (List.mem_of_getElem? (i := 26) rfl))) (by decide) (t := (.array .int)) (t' := (.array .int)) (by decide) (by decide)))
  have F321 := F299.other W314 (Or.inr (slot_ne (Or.inr (hw _ (List.mem_of_getElem? (i := 13) rfl))) (Or.inr (hw _ (List.mem_of_getElem? (i := 26) rfl))) (by decide) (t := (.array .int)) (t' := (.array .int)) (by decide) (by decide)))
  have F322 := F300.other W314 (own_Ne.symm ne93)
  have F323 := F301.other W314 (Or.inr (slot_ne (Or.inr (hw _ (List.mem_of_getElem? (i := 15) rfl))) (Or.inr (hw _ (List.mem_of_getElem? (i := 26) rfl))) (by decide) (t := (.array .int)) (t' := (.array .int)) (by decide) (by decide)))
  have F324 := F302.other W314 (own_Ne.symm ne126)
  have F325 := F303.other W314 (Or.inr (slot_ne (Or.inr (hw _ (List.mem_of_getElem? (i := 17) rfl))) (Or.inr (hw _ (List.mem_of_getElem? (i := 26) rfl))) (by decide) (t := (.array .int)) (t' := (.array .int)) (by decide) (by decide)))
  have F326 := F304.other W314 (own_Ne.symm ne162)
  have F327 := F305.other W314 (Or.inr (slot_ne (Or.inr (hw _ (List.mem_of_getElem? (i := 19) rfl))) (Or.inr (hw _ (List.mem_of_getElem? (i := 26) rfl))) (by decide) (t := (.array .int)) (t' := (.array .int)) (by decide) (by decide)))
  have F328 := F306.other W314 (own_Ne.symm ne201)
  have F329 := F307.other W314 (Or.inr (slot_ne (Or.inr (hw _ (List.mem_of_getElem? (i := 22) rfl))) (Or.inr (hw _ (List.mem_of_getElem? (i := 26) rfl))) (by decide) (t := (.array .boolean)) (t' := (.array .int)) (by decide) (by decide)))
  have F330 := F308.other W314 (own_Ne.symm ne243)
  have F331 := F309.other W314 (Or.inr (slot_ne (Or.inr (hw _ (List.mem_of_getElem? (i := 24) rfl))) (Or.inr (hw _ (List.mem_of_getElem? (i := 26) rfl))) (by decide) (t := (.array .int)) (t' := (.array .int)) (by decide) (by decide)))
  have F332 := V312.other W314 (own_Ne.symm ne288)
  have K333 : ∀ t, Steps p.tables e below (T314.setTop (mkF m 61 #[.val (.ref co), .val (.ref fa), .val (.ref ta), .val (.int (4 : Int32))] [])) t → Steps p.tables e below (s₁.setTop (entryFrame m #[(.ref co), (.ref fa), (.ref ta)] 4)) t := fun t k => K313 t (st314 _ k)
  have K334 : ∀ t, Steps p.tables e below (T314.setTop (mkF m 62 #[.val (.ref co), .val (.ref fa), .val (.ref ta), .val (.int (4 : Int32))] [(.ref co)])) t → Steps p.tables e below (s₁.setTop (entryFrame m #[(.ref co), (.ref fa), (.ref ta)] 4)) t := fun t k => K333 t (by
    show Steps p.tables e below (T314.setTop (mkF m 61 #[.val (.ref co), .val (.ref fa), .val (.ref ta), .val (.int (4 : Int32))] [])) t
    refine XS.aloadN X314.here hx rfl (hb hby own_d1_61) rfl rfl ?_
    exact k)
  obtain ⟨T335, X335, e335, st335⟩ := getF X314 hx hZ hown (host := "") (Or.inl (hw _ (List.mem_of_getElem? (i := 14) rfl))) Via.refl e314 F323 (g := (mkF m 62 #[.val (.ref co), .val (.ref fa), .val (.ref ta), .val (.int (4 : Int32))] [(.ref co)])) rfl rfl (hb hby own_d1_62)
  have K336 : ∀ t, Steps p.tables e below (T335.setTop (mkF m 65 #[.val (.ref co), .val (.ref fa), .val (.ref ta), .val (.int (4 : Int32))] [(.ref b92)])) t → Steps p.tables e below (s₁.setTop (entryFrame m #[(.ref co), (.ref fa), (.ref ta)] 4)) t := fun t k => K334 t (st335 _ k)
  have K337 : ∀ t, Steps p.tables e below (T335.setTop (mkF m 66 #[.val (.ref co), .val (.ref fa), .val (.ref ta), .val (.int (4 : Int32))] [(.int (-1 : Int32)), (.ref b92)])) t → Steps p.tables e below (s₁.setTop (entryFrame m #[(.ref co), (.ref fa), (.ref ta)] 4)) t := fun t k => K336 t (by
    show Steps p.tables e below (T335.setTop (mkF m 65 #[.val (.ref co), .val (.ref fa), .val (.ref ta), .val (.int (4 : Int32))] [(.ref b92)])) t
    refine XS.iconst X335.here hx rfl (hb hby own_d1_65) ?_
    exact k)
  obtain ⟨_, _, ⟨T338, L338, kk338, nn338⟩, -, X338, ⟨Lc338, hQ338, l338, y338, z338⟩, st338⟩ := Jvm.LawKit.callS X335 hx (y := (⟨"java/util/Arrays", "fill", "([II)V"⟩ : MethodName)) hown (mvT hZ (hw _ (List.mem_of_getElem? (i := 27) rfl))) (mvT hZ (hw _ (List.mem_of_getElem? (i := 28) rfl))) (mvT hZ (hw _ (List.mem_of_getElem? (i := 29) rfl))) (mvT hZ (hw _ (List.mem_of_getElem? (i := 30) rfl))) (by decide) (backOf (W := 0) (rm3 l Z a0 hw [] b92 (-1 : Int32) h314 n0 Z317 F322 gb94) hZ (hw _ (List.mem_of_getElem? (i := 30) rfl)) (hw _ (List.mem_of_getElem? (i := 29) rfl)) (by decide) (by decide)) (g := (mkF m 66 #[.val (.ref co), .val (.ref fa), .val (.ref ta), .val (.int (4 : Int32))] [(.int (-1 : Int32)), (.ref b92)])) rfl (by rw [hml]; rfl) (argsL := [(.ref b92), (.int (-1 : Int32))]) (rest := []) (lenOf own_pd0 rfl) rfl (by show 2 * 0 + _ ≤ _; exact Nat.le_of_eq rfl) (hb hby own_d1_66) (fun _ _ => ⟨rfl, e335, (by decide : 6 + 0 ≤ _), (by decide : 24 + 0 ≤ _)⟩)
  dsimp only [Pt.U, Pt.locs, Pt.cells, Pt.slots] at X338 l338 y338 z338 st338 hQ338
  subst l338 y338 z338
  obtain ⟨rfl, Sp338, Nq338, Kc338⟩ := hQ338
  have N339 := Fr.app N318 Nq338
  obtain ⟨h338, e338⟩ : ∃ z, z = T338.heap := ⟨_, rfl⟩
  rw [← e338] at Kc338
  have F340 := F319.keep Kc338
  have F341 := F320.keep Kc338 (ninS ne93 nin0)
  have F342 := F321.keep Kc338 (ninS ne93 nin0)
  have F343 := F323.keep Kc338 (ninS ne93 nin0)
  have F344 := F324.keep Kc338 (ninS (own_Ne.symm ne127) nin0)
  have F345 := F325.keep Kc338 (ninS ne93 nin0)
  have F346 := F326.keep Kc338 (ninS (own_Ne.symm ne163) nin0)
  have F347 := F327.keep Kc338 (ninS ne93 nin0)
  have F348 := F328.keep Kc338 (ninS (own_Ne.symm ne202) nin0)
  have F349 := F329.keep Kc338 (ninS ne93 nin0)
  have F350 := F330.keep Kc338 (ninS (own_Ne.symm ne244) nin0)
  have F351 := F331.keep Kc338 (ninS ne93 nin0)
  have F352 := F332.keep Kc338 (ninS (own_Ne.symm ne289) nin0)
  have F353 := F315.keep Kc338 (ninS ne93 nin0)
  have Kp354 : Keep h0 h338 [co] := Keep.trans Kp316 Kc338 (allS (Or.inr sb95) all0)
  have Z355 : own_Le n0 h338.size := Nat.le_trans Z317 Kc338.1
  have K356 : ∀ t, Steps p.tables e below (T338.setTop (mkF m 69 #[.val (.ref co), .val (.ref fa), .val (.ref ta), .val (.int (4 : Int32))] [])) t → Steps p.tables e below (s₁.setTop (entryFrame m #[(.ref co), (.ref fa), (.ref ta)] 4)) t := fun t k => K337 t (st338 _ k)
  obtain ⟨fs, hr, hrun, hended, hW, hsame⟩ := X338.leave (v := none) (fun _ => rfl)
  refine ⟨_, _, K356 _ ?_, hrun, hended, _, _, rfl, ?_, ⟨_, rfl⟩, hW, hsame.mono (by decide) (by decide)⟩
  · exact X338.returnOut hx Bd.returns (hb hby own_d1_69) hr
  · show Q_rm1 Z co fa ta h0 n0 _ T338.heap _
    have q357 := (by decide : (-1 : Int32).toInt = -1)
    rw [e338.symm]
    exact ⟨rfl, (by trivial), N339, Kp354, F340, F341, F342⟩
theorem own_d4_0 : decode prog_174_method_6_code 0 = .ok (.aload_n 1, 1) := by decide +kernel
theorem own_d4_1 : decode prog_174_method_6_code 1 = .ok (.arraylength, 1) := by decide +kernel
theorem own_d4_2 : decode prog_174_method_6_code 2 = .ok (.iconst 1, 1) := by decide +kernel
theorem own_d4_3 : decode prog_174_method_6_code 3 = .ok (.if_icmp .le 5, 3) := by decide +kernel
theorem own_d4_6 : decode prog_174_method_6_code 6 = .ok (.iconst 1, 1) := by decide +kernel
theorem own_d4_7 : decode prog_174_method_6_code 7 = .ok (.ireturn, 1) := by decide +kernel
theorem own_d4_8 : decode prog_174_method_6_code 8 = .ok (.aload_n 1, 1) := by decide +kernel
theorem own_d4_9 : decode prog_174_method_6_code 9 = .ok (.iconst 0, 1) := by decide +kernel
theorem own_d4_10 : decode prog_174_method_6_code 10 = .ok (.iaload, 1) := by decide +kernel
theorem own_d4_11 : decode prog_174_method_6_code 11 = .ok (.istore_n 2, 1) := by decide +kernel
theorem own_d4_12 : decode prog_174_method_6_code 12 = .ok (.aload_n 0, 1) := by decide +kernel
theorem own_d4_13 : decode prog_174_method_6_code 13 = .ok (.getfield 19, 3) := by decide +kernel
theorem own_d4_16 : decode prog_174_method_6_code 16 = .ok (.iload_n 2, 1) := by decide +kernel
theorem own_d4_17 : decode prog_174_method_6_code 17 = .ok (.iaload, 1) := by decide +kernel
theorem own_d4_18 : decode prog_174_method_6_code 18 = .ok (.istore_n 3, 1) := by decide +kernel
theorem own_d4_19 : decode prog_174_method_6_code 19 = .ok (.iload_n 3, 1) := by decide +kernel
theorem own_d4_20 : decode prog_174_method_6_code 20 = .ok (.aload_n 0, 1) := by decide +kernel
theorem own_d4_21 : decode prog_174_method_6_code 21 = .ok (.getfield 19, 3) := by decide +kernel
theorem own_d4_24 : decode prog_174_method_6_code 24 = .ok (.iload_n 2, 1) := by decide +kernel
theorem own_d4_25 : decode prog_174_method_6_code 25 = .ok (.iconst 1, 1) := by decide +kernel
theorem own_d4_26 : decode prog_174_method_6_code 26 = .ok (.iadd, 1) := by decide +kernel
theorem own_d4_27 : decode prog_174_method_6_code 27 = .ok (.iaload, 1) := by decide +kernel
theorem own_d4_28 : decode prog_174_method_6_code 28 = .ok (.if_icmp .ge 21, 3) := by decide +kernel
theorem own_d4_31 : decode prog_174_method_6_code 31 = .ok (.aload_n 0, 1) := by decide +kernel
theorem own_d4_32 : decode prog_174_method_6_code 32 = .ok (.getfield 23, 3) := by decide +kernel
theorem own_d4_35 : decode prog_174_method_6_code 35 = .ok (.iload_n 3, 1) := by decide +kernel
theorem own_d4_36 : decode prog_174_method_6_code 36 = .ok (.iaload, 1) := by decide +kernel
theorem own_d4_37 : decode prog_174_method_6_code 37 = .ok (.iload_n 2, 1) := by decide +kernel
theorem own_d4_38 : decode prog_174_method_6_code 38 = .ok (.if_icmp .ne 5, 3) := by decide +kernel
theorem own_d4_41 : decode prog_174_method_6_code 41 = .ok (.iconst 1, 1) := by decide +kernel
theorem own_d4_42 : decode prog_174_method_6_code 42 = .ok (.ireturn, 1) := by decide +kernel
theorem own_d4_43 : decode prog_174_method_6_code 43 = .ok (.iinc 3 1, 3) := by decide +kernel
theorem own_d4_46 : decode prog_174_method_6_code 46 = .ok (.goto (-27), 3) := by decide +kernel
theorem own_d4_49 : decode prog_174_method_6_code 49 = .ok (.iconst 0, 1) := by decide +kernel
theorem own_d4_50 : decode prog_174_method_6_code 50 = .ok (.ireturn, 1) := by decide +kernel
def Q_rmMany (Z : State) (co : Addr) (ca : Addr) (zc : Int32) (h0 : Heap) (n0 : Nat) (v : Option Value) (h : Heap) (L : List Loc) : Prop := ∃ (r : Int32), v = some (.int r) ∧ (r.toInt = 1) ∧ Fr n0 L ∧ h = h0
theorem own_ef_rmMany (m : MethodId) (co : Addr) (ca : Addr) : entryFrame m #[(.ref co), (.ref ca)] 4 = mkF m 0 #[.val (.ref co), .val (.ref ca), .unset, .unset] [] := by first | (simp [entryFrame, mkF, argsToLocals, Value.category]; done) | rfl
set_option maxRecDepth 65536 in
set_option maxHeartbeats 40000000 in
theorem rmMany (l : Launch) (Z : State) (a0 : Array Value) (hw : ∀ d ∈ tables_1, d.before a0 Z = true) (ws : List Jvm.Cond) (co : Addr) (ca : Addr) (zc : Int32) (h0 : Heap) (n0 : Nat) (Z0 : own_Le n0 h0.size) (P_0 : own_Arl Z h0 ca .int zc) (P_1 : 1 < zc.toInt) :
    MetFree l (⟨"com/example/omegaprobe/omegaprobe/graph/Components", "cyclic", "([I)Z"⟩ : MethodName) (head1 (Jvm.Cond.code (⟨"com/example/omegaprobe/omegaprobe/graph/Components", "cyclic", "([I)Z"⟩ : MethodName) prog_174_method_6_code 4 (some .boolean) :: ws) ({ frames := 0, cells := 0, slots := 0, locals := 0 } : Room)) (fun a U => a = #[(.ref co), (.ref ca)] ∧ Z.Warmed39 U.vm ∧ U.heap = h0) (fun _ _ _ _ _ => True) (fun _ U o U' => ∃ v L, o = .returned v ∧ Q_rmMany Z co ca zc h0 n0 v U'.heap L ∧ FrameEnd U o U' L ({ frames := 0, cells := 0, slots := 0, locals := 0 } : Room).cells ({ frames := 0, cells := 0, slots := 0, locals := 0 } : Room).slots) := by
  refine MetFree.of_bodySF (plainFor_of_name own_pn1) hisR ?_
  intro p e s m args below meth c s₁ Bd hml0 hP hK
  obtain ⟨rfl, hZ, hh⟩ := hP
  have hx := Bd.exec
  have hby := Bd.bytes
  have hml : c.maxLocals = 4 := hml0
  have hown : s.vm.findClass "com/example/omegaprobe/omegaprobe/graph/Components" = some m.cls := findClass_of_methodNamed Bd.named
  have hnm := (name_of_methodNamed Bd.named Bd.method).1
  have X0 : Stand p l e ({ frames := 0, cells := 0, slots := 0, locals := 0 } : Room) s m #[(.ref co), (.ref ca)] below meth c s₁ [] 0 0 := Stand.of_body Bd
  have e0 : s₁.heap = h0 := by rw [← hh, Bd.state]; rfl
  have N0 := Fr.nil n0
  have pre0 : ∀ t, Steps p.tables e below (s₁.setTop (mkF m 0 #[.val (.ref co), .val (.ref ca), .unset, .unset] [])) t → Steps p.tables e below (s₁.setTop (entryFrame m #[(.ref co), (.ref ca)] 4)) t := fun t k => castTop (own_ef_rmMany m co ca) k
  obtain ⟨cl358, Ar358, S358, N358⟩ := id P_0
  have hc359 : (1 : Int32) < zc := by
    have q360 := (by decide : (1 : Int32).toInt = 1)
    have q361 := rng32 zc
    rw [Int32.lt_iff_toInt_lt]; omega
  have K362 : ∀ t, Steps p.tables e below (s₁.setTop (mkF m 7 #[.val (.ref co), .val (.ref ca), .unset, .unset] [(.int (1 : Int32))])) t → Steps p.tables e below (s₁.setTop (entryFrame m #[(.ref co), (.ref ca)] 4)) t := fun t k => pre0 t (by
    show Steps p.tables e below (s₁.setTop (mkF m 0 #[.val (.ref co), .val (.ref ca), .unset, .unset] [])) t
    refine XS.aloadN X0.here hx rfl (hb hby own_d4_0) rfl rfl ?_
    show Steps p.tables e below (s₁.setTop (mkF m 1 #[.val (.ref co), .val (.ref ca), .unset, .unset] [(.ref ca)])) t
    refine X0.arraylength hx (by rw [e0]; exact Ar358.1) (State.isArrayOf_alike hZ.alike Ar358.2.1) (g := (mkF m 1 #[.val (.ref co), .val (.ref ca), .unset, .unset] [(.ref ca)])) rfl rfl (hb hby own_d4_1) _ ?_
    rw [len_of S358 N358]
    show Steps p.tables e below (s₁.setTop (mkF m 2 #[.val (.ref co), .val (.ref ca), .unset, .unset] [(.int zc)])) t
    refine XS.iconst X0.here hx rfl (hb hby own_d4_2) ?_
    show Steps p.tables e below (s₁.setTop (mkF m 3 #[.val (.ref co), .val (.ref ca), .unset, .unset] [(.int (1 : Int32)), (.int zc)])) t
    refine XS.icmpNo X0.here hx rfl (hb hby own_d4_3) rfl (tlt hc359).2.2.2 ?_
    show Steps p.tables e below (s₁.setTop (mkF m 6 #[.val (.ref co), .val (.ref ca), .unset, .unset] [])) t
    refine XS.iconst X0.here hx rfl (hb hby own_d4_6) ?_
    exact k)
  obtain ⟨fs, hr, hrun, hended, hW, hsame⟩ := X0.leave (v := some (.int (1 : Int32))) (fun h => by rw [Bd.returns] at h; cases h)
  refine ⟨_, _, K362 _ ?_, hrun, hended, _, _, rfl, ?_, ⟨_, rfl⟩, hW, hsame.mono (by decide) (by decide)⟩
  · exact retN X0 hx (t := .boolean) Bd.returns (by simp) (hb hby own_d4_7) hr
  · show Q_rmMany Z co ca zc h0 n0 _ s₁.heap _
    have q363 := (by decide : (1 : Int32).toInt = 1)
    rw [e0]
    exact ⟨(1 : Int32), rfl, (by omega), N0, rfl⟩
def Q_rmOne (Z : State) (co : Addr) (ca : Addr) (gc : Nat → Int32) (fa : Addr) (ff : Nat → Int32) (ta : Addr) (tf : Nat → Int32) (h0 : Heap) (n0 : Nat) (v : Option Value) (h : Heap) (L : List Loc) : Prop := ∃ (r : Int32), v = some (.int r) ∧ ((r.toInt = 1 ∧ (∃ k : Nat, (ff (gc 0).toNatClampNeg).toInt ≤ (k : Int) ∧ (k : Int) < (ff ((gc 0) + (1 : Int32)).toNatClampNeg).toInt ∧ tf k = (gc 0))) ∨ (r.toInt = 0 ∧ ¬ (∃ k : Nat, (ff (gc 0).toNatClampNeg).toInt ≤ (k : Int) ∧ (k : Int) < (ff ((gc 0) + (1 : Int32)).toNatClampNeg).toInt ∧ tf k = (gc 0)))) ∧ Fr n0 L ∧ h = h0
theorem own_ef_rmOne (m : MethodId) (co : Addr) (ca : Addr) : entryFrame m #[(.ref co), (.ref ca)] 4 = mkF m 0 #[.val (.ref co), .val (.ref ca), .unset, .unset] [] := by first | (simp [entryFrame, mkF, argsToLocals, Value.category]; done) | rfl
set_option maxRecDepth 65536 in
set_option maxHeartbeats 40000000 in
theorem rmOne (l : Launch) (Z : State) (a0 : Array Value) (hw : ∀ d ∈ tables_1, d.before a0 Z = true) (ws : List Jvm.Cond) (co : Addr) (ca : Addr) (gc : Nat → Int32) (fa : Addr) (ff : Nat → Int32) (ta : Addr) (tf : Nat → Int32) (h0 : Heap) (n0 : Nat) (Z0 : own_Le n0 h0.size) (P_0 : own_Arf Z h0 ca .int (1 : Int32) gc) (P_1 : Fld Z h0 co "com/example/omegaprobe/omegaprobe/graph/Components" "first" "[I" (.ref fa)) (P_2 : own_Arf Z h0 fa .int (5 : Int32) ff) (P_3 : Fld Z h0 co "com/example/omegaprobe/omegaprobe/graph/Components" "targets" "[I" (.ref ta)) (P_4 : own_Arf Z h0 ta .int (12 : Int32) tf) (P_5 : 0 ≤ (gc 0).toInt ∧ (gc 0).toInt < 4) (P_6 : 0 ≤ (ff (gc 0).toNatClampNeg).toInt ∧ (ff (gc 0).toNatClampNeg).toInt ≤ (ff ((gc 0) + (1 : Int32)).toNatClampNeg).toInt ∧ (ff ((gc 0) + (1 : Int32)).toNatClampNeg).toInt ≤ 12) :
    MetFree l (⟨"com/example/omegaprobe/omegaprobe/graph/Components", "cyclic", "([I)Z"⟩ : MethodName) (head1 (Jvm.Cond.code (⟨"com/example/omegaprobe/omegaprobe/graph/Components", "cyclic", "([I)Z"⟩ : MethodName) prog_174_method_6_code 4 (some .boolean) :: ws) ({ frames := 0, cells := 0, slots := 0, locals := 0 } : Room)) (fun a U => a = #[(.ref co), (.ref ca)] ∧ Z.Warmed39 U.vm ∧ U.heap = h0) (fun _ _ _ _ _ => True) (fun _ U o U' => ∃ v L, o = .returned v ∧ Q_rmOne Z co ca gc fa ff ta tf h0 n0 v U'.heap L ∧ FrameEnd U o U' L ({ frames := 0, cells := 0, slots := 0, locals := 0 } : Room).cells ({ frames := 0, cells := 0, slots := 0, locals := 0 } : Room).slots) := by
  refine MetFree.of_bodySF (plainFor_of_name own_pn1) hisR ?_
  intro p e s m args below meth c s₁ Bd hml0 hP hK
  obtain ⟨rfl, hZ, hh⟩ := hP
  have hx := Bd.exec
  have hby := Bd.bytes
  have hml : c.maxLocals = 4 := hml0
  have hown : s.vm.findClass "com/example/omegaprobe/omegaprobe/graph/Components" = some m.cls := findClass_of_methodNamed Bd.named
  have hnm := (name_of_methodNamed Bd.named Bd.method).1
  have X0 : Stand p l e ({ frames := 0, cells := 0, slots := 0, locals := 0 } : Room) s m #[(.ref co), (.ref ca)] below meth c s₁ [] 0 0 := Stand.of_body Bd
  have e0 : s₁.heap = h0 := by rw [← hh, Bd.state]; rfl
  have N0 := Fr.nil n0
  have pre0 : ∀ t, Steps p.tables e below (s₁.setTop (mkF m 0 #[.val (.ref co), .val (.ref ca), .unset, .unset] [])) t → Steps p.tables e below (s₁.setTop (entryFrame m #[(.ref co), (.ref ca)] 4)) t := fun t k => castTop (own_ef_rmOne m co ca) k
  obtain ⟨cl364, Ar364, S364, N364, Hs364⟩ := id P_0
  have hc365 : ¬ ((1 : Int32) < (1 : Int32)) := by
    have q366 := (by decide : (1 : Int32).toInt = 1)
    rw [Int32.lt_iff_toInt_lt]; omega
  have q368 : ¬ (0 : Int32) < 0 ∧ (0 : Int32) < (1 : Int32) := by
    have q369 := (by decide : (0 : Int32).toInt = 0)
    have q370 := (by decide : (1 : Int32).toInt = 1)
    rw [Int32.lt_iff_toInt_lt, Int32.lt_iff_toInt_lt]; have q0 : (0 : Int32).toInt = 0 := rfl; omega
  obtain ⟨cl367, Ar367, S367, N367, Hs367⟩ := id P_0
  have hin367 : ¬ ((0 : Int32) < 0 ∨ cl367.slots.size ≤ ((0 : Int32)).toNatClampNeg) := inb_of S367 q368
  have hat367 : cl367.slots[((0 : Int32)).toNatClampNeg]? = some (.int (gc 0)) := own_at Hs367 S367 hin367 (rfl)
  have K371 : ∀ t, Steps p.tables e below (s₁.setTop (mkF m 13 #[.val (.ref co), .val (.ref ca), .val (.int (gc 0)), .unset] [(.ref co)])) t → Steps p.tables e below (s₁.setTop (entryFrame m #[(.ref co), (.ref ca)] 4)) t := fun t k => pre0 t (by
    show Steps p.tables e below (s₁.setTop (mkF m 0 #[.val (.ref co), .val (.ref ca), .unset, .unset] [])) t
    refine XS.aloadN X0.here hx rfl (hb hby own_d4_0) rfl rfl ?_
    show Steps p.tables e below (s₁.setTop (mkF m 1 #[.val (.ref co), .val (.ref ca), .unset, .unset] [(.ref ca)])) t
    refine X0.arraylength hx (by rw [e0]; exact Ar364.1) (State.isArrayOf_alike hZ.alike Ar364.2.1) (g := (mkF m 1 #[.val (.ref co), .val (.ref ca), .unset, .unset] [(.ref ca)])) rfl rfl (hb hby own_d4_1) _ ?_
    rw [len_of S364 N364]
    show Steps p.tables e below (s₁.setTop (mkF m 2 #[.val (.ref co), .val (.ref ca), .unset, .unset] [(.int (1 : Int32))])) t
    refine XS.iconst X0.here hx rfl (hb hby own_d4_2) ?_
    show Steps p.tables e below (s₁.setTop (mkF m 3 #[.val (.ref co), .val (.ref ca), .unset, .unset] [(.int (1 : Int32)), (.int (1 : Int32))])) t
    refine XS.icmpYes X0.here hx rfl (pc0 := 3) (pc' := 8) rfl (hb hby own_d4_3) rfl (flt hc365).2.2.2 (by decide) (by decide) ?_
    show Steps p.tables e below (s₁.setTop (mkF m 8 #[.val (.ref co), .val (.ref ca), .unset, .unset] [])) t
    refine XS.aloadN X0.here hx rfl (hb hby own_d4_8) rfl rfl ?_
    show Steps p.tables e below (s₁.setTop (mkF m 9 #[.val (.ref co), .val (.ref ca), .unset, .unset] [(.ref ca)])) t
    refine XS.iconst X0.here hx rfl (hb hby own_d4_9) ?_
    show Steps p.tables e below (s₁.setTop (mkF m 10 #[.val (.ref co), .val (.ref ca), .unset, .unset] [(.int (0 : Int32)), (.ref ca)])) t
    refine X0.iaload hx (j := (0 : Int32)) (v := (.int (gc 0))) (by rw [e0]; exact Ar367.1) (State.isArrayOf_alike hZ.alike Ar367.2.1) Ar367.2.2 hin367 hat367 (g := (mkF m 10 #[.val (.ref co), .val (.ref ca), .unset, .unset] [(.int (0 : Int32)), (.ref ca)])) rfl rfl (hb hby own_d4_10) _ ?_
    show Steps p.tables e below (s₁.setTop (mkF m 11 #[.val (.ref co), .val (.ref ca), .unset, .unset] [(.int (gc 0))])) t
    refine XS.istoreN X0.here hx rfl (hb hby own_d4_11) rfl (l' := #[.val (.ref co), .val (.ref ca), .val (.int (gc 0)), .unset]) rfl ?_
    show Steps p.tables e below (s₁.setTop (mkF m 12 #[.val (.ref co), .val (.ref ca), .val (.int (gc 0)), .unset] [])) t
    refine XS.aloadN X0.here hx rfl (hb hby own_d4_12) rfl rfl ?_
    exact k)
  obtain ⟨T372, X372, e372, st372⟩ := getF X0 hx hZ hown (host := "") (Or.inl (hw _ (List.mem_of_getElem? (i := 10) rfl))) Via.refl e0 P_1 (g := (mkF m 13 #[.val (.ref co), .val (.ref ca), .val (.int (gc 0)), .unset] [(.ref co)])) rfl rfl (hb hby own_d4_13)
  have K373 : ∀ t, Steps p.tables e below (T372.setTop (mkF m 16 #[.val (.ref co), .val (.ref ca), .val (.int (gc 0)), .unset] [(.ref fa)])) t → Steps p.tables e below (s₁.setTop (entryFrame m #[(.ref co), (.ref ca)] 4)) t := fun t k => K371 t (st372 _ k)
  have q375 : ¬ (gc 0) < 0 ∧ (gc 0) < (5 : Int32) := by
    have q376 := rng32 (gc 0)
    have q377 := (by decide : (5 : Int32).toInt = 5)
    rw [Int32.lt_iff_toInt_lt, Int32.lt_iff_toInt_lt]; have q0 : (0 : Int32).toInt = 0 := rfl; omega
  obtain ⟨cl374, Ar374, S374, N374, Hs374⟩ := id P_2
  have hin374 : ¬ ((gc 0) < 0 ∨ cl374.slots.size ≤ ((gc 0)).toNatClampNeg) := inb_of S374 q375
  have hat374 : cl374.slots[((gc 0)).toNatClampNeg]? = some (.int (ff (gc 0).toNatClampNeg)) := own_at Hs374 S374 hin374 (rfl)
  obtain ⟨P_6a, P_6b, P_6c⟩ := P_6
  have K378 : ∀ t, Steps p.tables e below (T372.setTop (mkF m 19 #[.val (.ref co), .val (.ref ca), .val (.int (gc 0)), .val (.int (ff (gc 0).toNatClampNeg))] [])) t → Steps p.tables e below (s₁.setTop (entryFrame m #[(.ref co), (.ref ca)] 4)) t := fun t k => K373 t (by
    show Steps p.tables e below (T372.setTop (mkF m 16 #[.val (.ref co), .val (.ref ca), .val (.int (gc 0)), .unset] [(.ref fa)])) t
    refine XS.iloadN X372.here hx rfl (hb hby own_d4_16) rfl ?_
    show Steps p.tables e below (T372.setTop (mkF m 17 #[.val (.ref co), .val (.ref ca), .val (.int (gc 0)), .unset] [(.int (gc 0)), (.ref fa)])) t
    refine X372.iaload hx (j := (gc 0)) (v := (.int (ff (gc 0).toNatClampNeg))) (by rw [e372]; exact Ar374.1) (State.isArrayOf_alike hZ.alike Ar374.2.1) Ar374.2.2 hin374 hat374 (g := (mkF m 17 #[.val (.ref co), .val (.ref ca), .val (.int (gc 0)), .unset] [(.int (gc 0)), (.ref fa)])) rfl rfl (hb hby own_d4_17) _ ?_
    show Steps p.tables e below (T372.setTop (mkF m 18 #[.val (.ref co), .val (.ref ca), .val (.int (gc 0)), .unset] [(.int (ff (gc 0).toNatClampNeg))])) t
    refine XS.istoreN X372.here hx rfl (hb hby own_d4_18) rfl (l' := #[.val (.ref co), .val (.ref ca), .val (.int (gc 0)), .val (.int (ff (gc 0).toNatClampNeg))]) rfl ?_
    exact k)
  have loop379 : ∀ (d : Nat) (T : State) (Lc : List Loc) (ee : Int32), Stand p l e ({ frames := 0, cells := 0, slots := 0, locals := 0 } : Room) s m #[(.ref co), (.ref ca)] below meth c T Lc 0 0 → T.heap = h0 → Fr n0 Lc → ((ff (gc 0).toNatClampNeg).toInt ≤ ee.toInt ∧ ee.toInt + ((d : Nat) : Int) = (ff ((gc 0) + (1 : Int32)).toNatClampNeg).toInt ∧ ∀ k : Nat, (ff (gc 0).toNatClampNeg).toInt ≤ (k : Int) → (k : Int) < ee.toInt → ¬ tf k = (gc 0)) → ∃ (T' : State) (Lc' : List Loc) (ee' : Int32) (pcx : Nat), Stand p l e ({ frames := 0, cells := 0, slots := 0, locals := 0 } : Room) s m #[(.ref co), (.ref ca)] below meth c T' Lc' 0 0 ∧ T'.heap = h0 ∧ Fr n0 Lc' ∧ ((pcx = 49 ∧ ∀ k : Nat, (ff (gc 0).toNatClampNeg).toInt ≤ (k : Int) → (k : Int) < (ff ((gc 0) + (1 : Int32)).toNatClampNeg).toInt → ¬ tf k = (gc 0)) ∨ (pcx = 41 ∧ (∃ k : Nat, (ff (gc 0).toNatClampNeg).toInt ≤ (k : Int) ∧ (k : Int) < (ff ((gc 0) + (1 : Int32)).toNatClampNeg).toInt ∧ tf k = (gc 0)))) ∧ ∀ t, Steps p.tables e below (T'.setTop (mkF m pcx #[.val (.ref co), .val (.ref ca), .val (.int (gc 0)), .val (.int ee')] [])) t → Steps p.tables e below (T.setTop (mkF m 19 #[.val (.ref co), .val (.ref ca), .val (.int (gc 0)), .val (.int ee)] [])) t := by
    intro d
    induction d with
    | zero =>
      intro T Lc ee Xl el Nl hI
      have idK : ∀ t, Steps p.tables e below (T.setTop (mkF m 19 #[.val (.ref co), .val (.ref ca), .val (.int (gc 0)), .val (.int ee)] [])) t → Steps p.tables e below (T.setTop (mkF m 19 #[.val (.ref co), .val (.ref ca), .val (.int (gc 0)), .val (.int ee)] [])) t := fun _ k => k
      obtain ⟨hI1, hI2, hI3⟩ := hI
      have K380 : ∀ t, Steps p.tables e below (T.setTop (mkF m 21 #[.val (.ref co), .val (.ref ca), .val (.int (gc 0)), .val (.int ee)] [(.ref co), (.int ee)])) t → Steps p.tables e below (T.setTop (mkF m 19 #[.val (.ref co), .val (.ref ca), .val (.int (gc 0)), .val (.int ee)] [])) t := fun t k => idK t (by
        show Steps p.tables e below (T.setTop (mkF m 19 #[.val (.ref co), .val (.ref ca), .val (.int (gc 0)), .val (.int ee)] [])) t
        refine XS.iloadN Xl.here hx rfl (hb hby own_d4_19) rfl ?_
        show Steps p.tables e below (T.setTop (mkF m 20 #[.val (.ref co), .val (.ref ca), .val (.int (gc 0)), .val (.int ee)] [(.int ee)])) t
        refine XS.aloadN Xl.here hx rfl (hb hby own_d4_20) rfl rfl ?_
        exact k)
      obtain ⟨T381, X381, e381, st381⟩ := getF Xl hx hZ hown (host := "") (Or.inl (hw _ (List.mem_of_getElem? (i := 10) rfl))) Via.refl el P_1 (g := (mkF m 21 #[.val (.ref co), .val (.ref ca), .val (.int (gc 0)), .val (.int ee)] [(.ref co), (.int ee)])) rfl rfl (hb hby own_d4_21)
      have K382 : ∀ t, Steps p.tables e below (T381.setTop (mkF m 24 #[.val (.ref co), .val (.ref ca), .val (.int (gc 0)), .val (.int ee)] [(.ref fa), (.int ee)])) t → Steps p.tables e below (T.setTop (mkF m 19 #[.val (.ref co), .val (.ref ca), .val (.int (gc 0)), .val (.int ee)] [])) t := fun t k => K380 t (st381 _ k)
      have q384 : ¬ ((gc 0) + (1 : Int32)) < 0 ∧ ((gc 0) + (1 : Int32)) < (5 : Int32) := by
        have q385 := rng32 ee
        have q386 := rng32 (gc 0)
        have q387 := (by decide : (1 : Int32).toInt = 1)
        have q388 := c_iadd (gc 0) (1 : Int32)
        have q389 := rng32 ((gc 0) + (1 : Int32))
        have q390 := (by decide : (5 : Int32).toInt = 5)
        rw [Int32.lt_iff_toInt_lt, Int32.lt_iff_toInt_lt]; have q0 : (0 : Int32).toInt = 0 := rfl; omega
      obtain ⟨cl383, Ar383, S383, N383, Hs383⟩ := id P_2
      have hin383 : ¬ (((gc 0) + (1 : Int32)) < 0 ∨ cl383.slots.size ≤ (((gc 0) + (1 : Int32))).toNatClampNeg) := inb_of S383 q384
      have hat383 : cl383.slots[(((gc 0) + (1 : Int32))).toNatClampNeg]? = some (.int (ff ((gc 0) + (1 : Int32)).toNatClampNeg)) := own_at Hs383 S383 hin383 (rfl)
      have hc391 : ¬ (ee < (ff ((gc 0) + (1 : Int32)).toNatClampNeg)) := by
        have q392 := rng32 ee
        have q393 := rng32 (ff ((gc 0) + (1 : Int32)).toNatClampNeg)
        rw [Int32.lt_iff_toInt_lt]; omega
      have K394 : ∀ t, Steps p.tables e below (T381.setTop (mkF m 49 #[.val (.ref co), .val (.ref ca), .val (.int (gc 0)), .val (.int ee)] [])) t → Steps p.tables e below (T.setTop (mkF m 19 #[.val (.ref co), .val (.ref ca), .val (.int (gc 0)), .val (.int ee)] [])) t := fun t k => K382 t (by
        show Steps p.tables e below (T381.setTop (mkF m 24 #[.val (.ref co), .val (.ref ca), .val (.int (gc 0)), .val (.int ee)] [(.ref fa), (.int ee)])) t
        refine XS.iloadN X381.here hx rfl (hb hby own_d4_24) rfl ?_
        show Steps p.tables e below (T381.setTop (mkF m 25 #[.val (.ref co), .val (.ref ca), .val (.int (gc 0)), .val (.int ee)] [(.int (gc 0)), (.ref fa), (.int ee)])) t
        refine XS.iconst X381.here hx rfl (hb hby own_d4_25) ?_
        show Steps p.tables e below (T381.setTop (mkF m 26 #[.val (.ref co), .val (.ref ca), .val (.int (gc 0)), .val (.int ee)] [(.int (1 : Int32)), (.int (gc 0)), (.ref fa), (.int ee)])) t
        refine XS.iadd X381.here hx rfl (hb hby own_d4_26) rfl ?_
        show Steps p.tables e below (T381.setTop (mkF m 27 #[.val (.ref co), .val (.ref ca), .val (.int (gc 0)), .val (.int ee)] [(.int ((gc 0) + (1 : Int32))), (.ref fa), (.int ee)])) t
        refine X381.iaload hx (j := ((gc 0) + (1 : Int32))) (v := (.int (ff ((gc 0) + (1 : Int32)).toNatClampNeg))) (by rw [e381]; exact Ar383.1) (State.isArrayOf_alike hZ.alike Ar383.2.1) Ar383.2.2 hin383 hat383 (g := (mkF m 27 #[.val (.ref co), .val (.ref ca), .val (.int (gc 0)), .val (.int ee)] [(.int ((gc 0) + (1 : Int32))), (.ref fa), (.int ee)])) rfl rfl (hb hby own_d4_27) _ ?_
        show Steps p.tables e below (T381.setTop (mkF m 28 #[.val (.ref co), .val (.ref ca), .val (.int (gc 0)), .val (.int ee)] [(.int (ff ((gc 0) + (1 : Int32)).toNatClampNeg)), (.int ee)])) t
        refine XS.icmpYes X381.here hx rfl (pc0 := 28) (pc' := 49) rfl (hb hby own_d4_28) rfl (flt hc391).2.1 (by decide) (by decide) ?_
        exact k)
      have q395 := rng32 ee
      exact ⟨T381, _, ee, 49, X381, e381, Nl, (by 
        refine Or.inl ⟨rfl, fun k h1 h2 => ?_⟩
        exact hI3 k h1 (by omega)), K394⟩
    | succ d ih =>
      intro T Lc ee Xl el Nl hI
      have idK : ∀ t, Steps p.tables e below (T.setTop (mkF m 19 #[.val (.ref co), .val (.ref ca), .val (.int (gc 0)), .val (.int ee)] [])) t → Steps p.tables e below (T.setTop (mkF m 19 #[.val (.ref co), .val (.ref ca), .val (.int (gc 0)), .val (.int ee)] [])) t := fun _ k => k
      obtain ⟨hI1, hI2, hI3⟩ := hI
      have K396 : ∀ t, Steps p.tables e below (T.setTop (mkF m 21 #[.val (.ref co), .val (.ref ca), .val (.int (gc 0)), .val (.int ee)] [(.ref co), (.int ee)])) t → Steps p.tables e below (T.setTop (mkF m 19 #[.val (.ref co), .val (.ref ca), .val (.int (gc 0)), .val (.int ee)] [])) t := fun t k => idK t (by
        show Steps p.tables e below (T.setTop (mkF m 19 #[.val (.ref co), .val (.ref ca), .val (.int (gc 0)), .val (.int ee)] [])) t
        refine XS.iloadN Xl.here hx rfl (hb hby own_d4_19) rfl ?_
        show Steps p.tables e below (T.setTop (mkF m 20 #[.val (.ref co), .val (.ref ca), .val (.int (gc 0)), .val (.int ee)] [(.int ee)])) t
        refine XS.aloadN Xl.here hx rfl (hb hby own_d4_20) rfl rfl ?_
        exact k)
      obtain ⟨T397, X397, e397, st397⟩ := getF Xl hx hZ hown (host := "") (Or.inl (hw _ (List.mem_of_getElem? (i := 10) rfl))) Via.refl el P_1 (g := (mkF m 21 #[.val (.ref co), .val (.ref ca), .val (.int (gc 0)), .val (.int ee)] [(.ref co), (.int ee)])) rfl rfl (hb hby own_d4_21)
      have K398 : ∀ t, Steps p.tables e below (T397.setTop (mkF m 24 #[.val (.ref co), .val (.ref ca), .val (.int (gc 0)), .val (.int ee)] [(.ref fa), (.int ee)])) t → Steps p.tables e below (T.setTop (mkF m 19 #[.val (.ref co), .val (.ref ca), .val (.int (gc 0)), .val (.int ee)] [])) t := fun t k => K396 t (st397 _ k)
      have q400 : ¬ ((gc 0) + (1 : Int32)) < 0 ∧ ((gc 0) + (1 : Int32)) < (5 : Int32) := by
        have q401 := rng32 ee
        have q402 := rng32 (gc 0)
        have q403 := (by decide : (1 : Int32).toInt = 1)
        have q404 := c_iadd (gc 0) (1 : Int32)
        have q405 := rng32 ((gc 0) + (1 : Int32))
        have q406 := (by decide : (5 : Int32).toInt = 5)
        rw [Int32.lt_iff_toInt_lt, Int32.lt_iff_toInt_lt]; have q0 : (0 : Int32).toInt = 0 := rfl; omega
      obtain ⟨cl399, Ar399, S399, N399, Hs399⟩ := id P_2
      have hin399 : ¬ (((gc 0) + (1 : Int32)) < 0 ∨ cl399.slots.size ≤ (((gc 0) + (1 : Int32))).toNatClampNeg) := inb_of S399 q400
      have hat399 : cl399.slots[(((gc 0) + (1 : Int32))).toNatClampNeg]? = some (.int (ff ((gc 0) + (1 : Int32)).toNatClampNeg)) := own_at Hs399 S399 hin399 (rfl)
      have hc407 : ee < (ff ((gc 0) + (1 : Int32)).toNatClampNeg) := by
        have q408 := rng32 ee
        have q409 := rng32 (ff ((gc 0) + (1 : Int32)).toNatClampNeg)
        rw [Int32.lt_iff_toInt_lt]; omega
      have K410 : ∀ t, Steps p.tables e below (T397.setTop (mkF m 32 #[.val (.ref co), .val (.ref ca), .val (.int (gc 0)), .val (.int ee)] [(.ref co)])) t → Steps p.tables e below (T.setTop (mkF m 19 #[.val (.ref co), .val (.ref ca), .val (.int (gc 0)), .val (.int ee)] [])) t := fun t k => K398 t (by
        show Steps p.tables e below (T397.setTop (mkF m 24 #[.val (.ref co), .val (.ref ca), .val (.int (gc 0)), .val (.int ee)] [(.ref fa), (.int ee)])) t
        refine XS.iloadN X397.here hx rfl (hb hby own_d4_24) rfl ?_
        show Steps p.tables e below (T397.setTop (mkF m 25 #[.val (.ref co), .val (.ref ca), .val (.int (gc 0)), .val (.int ee)] [(.int (gc 0)), (.ref fa), (.int ee)])) t
        refine XS.iconst X397.here hx rfl (hb hby own_d4_25) ?_
        show Steps p.tables e below (T397.setTop (mkF m 26 #[.val (.ref co), .val (.ref ca), .val (.int (gc 0)), .val (.int ee)] [(.int (1 : Int32)), (.int (gc 0)), (.ref fa), (.int ee)])) t
        refine XS.iadd X397.here hx rfl (hb hby own_d4_26) rfl ?_
        show Steps p.tables e below (T397.setTop (mkF m 27 #[.val (.ref co), .val (.ref ca), .val (.int (gc 0)), .val (.int ee)] [(.int ((gc 0) + (1 : Int32))), (.ref fa), (.int ee)])) t
        refine X397.iaload hx (j := ((gc 0) + (1 : Int32))) (v := (.int (ff ((gc 0) + (1 : Int32)).toNatClampNeg))) (by rw [e397]; exact Ar399.1) (State.isArrayOf_alike hZ.alike Ar399.2.1) Ar399.2.2 hin399 hat399 (g := (mkF m 27 #[.val (.ref co), .val (.ref ca), .val (.int (gc 0)), .val (.int ee)] [(.int ((gc 0) + (1 : Int32))), (.ref fa), (.int ee)])) rfl rfl (hb hby own_d4_27) _ ?_
        show Steps p.tables e below (T397.setTop (mkF m 28 #[.val (.ref co), .val (.ref ca), .val (.int (gc 0)), .val (.int ee)] [(.int (ff ((gc 0) + (1 : Int32)).toNatClampNeg)), (.int ee)])) t
        refine XS.icmpNo X397.here hx rfl (hb hby own_d4_28) rfl (tlt hc407).2.1 ?_
        show Steps p.tables e below (T397.setTop (mkF m 31 #[.val (.ref co), .val (.ref ca), .val (.int (gc 0)), .val (.int ee)] [])) t
        refine XS.aloadN X397.here hx rfl (hb hby own_d4_31) rfl rfl ?_
        exact k)
      obtain ⟨T411, X411, e411, st411⟩ := getF X397 hx hZ hown (host := "") (Or.inl (hw _ (List.mem_of_getElem? (i := 12) rfl))) Via.refl e397 P_3 (g := (mkF m 32 #[.val (.ref co), .val (.ref ca), .val (.int (gc 0)), .val (.int ee)] [(.ref co)])) rfl rfl (hb hby own_d4_32)
      have K412 : ∀ t, Steps p.tables e below (T411.setTop (mkF m 35 #[.val (.ref co), .val (.ref ca), .val (.int (gc 0)), .val (.int ee)] [(.ref ta)])) t → Steps p.tables e below (T.setTop (mkF m 19 #[.val (.ref co), .val (.ref ca), .val (.int (gc 0)), .val (.int ee)] [])) t := fun t k => K410 t (st411 _ k)
      have q414 : ¬ ee < 0 ∧ ee < (12 : Int32) := by
        have q415 := rng32 ee
        have q416 := (by decide : (12 : Int32).toInt = 12)
        rw [Int32.lt_iff_toInt_lt, Int32.lt_iff_toInt_lt]; have q0 : (0 : Int32).toInt = 0 := rfl; omega
      obtain ⟨cl413, Ar413, S413, N413, Hs413⟩ := id P_4
      have hin413 : ¬ (ee < 0 ∨ cl413.slots.size ≤ (ee).toNatClampNeg) := inb_of S413 q414
      have hat413 : cl413.slots[(ee).toNatClampNeg]? = some (.int (tf ee.toNatClampNeg)) := own_at Hs413 S413 hin413 (rfl)
      have K418 : ∀ t, Steps p.tables e below (T411.setTop (mkF m 38 #[.val (.ref co), .val (.ref ca), .val (.int (gc 0)), .val (.int ee)] [(.int (gc 0)), (.int (tf ee.toNatClampNeg))])) t → Steps p.tables e below (T.setTop (mkF m 19 #[.val (.ref co), .val (.ref ca), .val (.int (gc 0)), .val (.int ee)] [])) t := fun t k => K412 t (by
        show Steps p.tables e below (T411.setTop (mkF m 35 #[.val (.ref co), .val (.ref ca), .val (.int (gc 0)), .val (.int ee)] [(.ref ta)])) t
        refine XS.iloadN X411.here hx rfl (hb hby own_d4_35) rfl ?_
        show Steps p.tables e below (T411.setTop (mkF m 36 #[.val (.ref co), .val (.ref ca), .val (.int (gc 0)), .val (.int ee)] [(.int ee), (.ref ta)])) t
        refine X411.iaload hx (j := ee) (v := (.int (tf ee.toNatClampNeg))) (by rw [e411]; exact Ar413.1) (State.isArrayOf_alike hZ.alike Ar413.2.1) Ar413.2.2 hin413 hat413 (g := (mkF m 36 #[.val (.ref co), .val (.ref ca), .val (.int (gc 0)), .val (.int ee)] [(.int ee), (.ref ta)])) rfl rfl (hb hby own_d4_36) _ ?_
        show Steps p.tables e below (T411.setTop (mkF m 37 #[.val (.ref co), .val (.ref ca), .val (.int (gc 0)), .val (.int ee)] [(.int (tf ee.toNatClampNeg))])) t
        refine XS.iloadN X411.here hx rfl (hb hby own_d4_37) rfl ?_
        exact k)
      by_cases hc417 : (tf ee.toNatClampNeg) = (gc 0)
      · have q419 : (tf ee.toNatClampNeg).toInt = (gc 0).toInt := congrArg Int32.toInt hc417
        have K420 : ∀ t, Steps p.tables e below (T411.setTop (mkF m 41 #[.val (.ref co), .val (.ref ca), .val (.int (gc 0)), .val (.int ee)] [])) t → Steps p.tables e below (T.setTop (mkF m 19 #[.val (.ref co), .val (.ref ca), .val (.int (gc 0)), .val (.int ee)] [])) t := fun t k => K418 t (by
          show Steps p.tables e below (T411.setTop (mkF m 38 #[.val (.ref co), .val (.ref ca), .val (.int (gc 0)), .val (.int ee)] [(.int (gc 0)), (.int (tf ee.toNatClampNeg))])) t
          refine XS.icmpNo X411.here hx rfl (hb hby own_d4_38) rfl (teq hc417).2 ?_
          exact k)
        have q421 := rng32 ee
        have q422 := rng32 (tf ee.toNatClampNeg)
        have q423 := rng32 (gc 0)
        exact ⟨T411, _, ee, 41, X411, e411, Nl, (by exact Or.inr ⟨rfl, ee.toNatClampNeg, by have := own_clamp (j := ee) (by omega); omega, by have := own_clamp (j := ee) (by omega); omega, hc417⟩), K420⟩
      · have q424 : ¬ (tf ee.toNatClampNeg).toInt = (gc 0).toInt := fun q => hc417 (Int32.toInt_inj.mp q)
        have K425 : ∀ t, Steps p.tables e below (T411.setTop (mkF m 19 #[.val (.ref co), .val (.ref ca), .val (.int (gc 0)), .val (.int (ee + (1 : Int32)))] [])) t → Steps p.tables e below (T.setTop (mkF m 19 #[.val (.ref co), .val (.ref ca), .val (.int (gc 0)), .val (.int ee)] [])) t := fun t k => K418 t (by
          show Steps p.tables e below (T411.setTop (mkF m 38 #[.val (.ref co), .val (.ref ca), .val (.int (gc 0)), .val (.int ee)] [(.int (gc 0)), (.int (tf ee.toNatClampNeg))])) t
          refine XS.icmpYes X411.here hx rfl (pc0 := 38) (pc' := 43) rfl (hb hby own_d4_38) rfl (feq hc417).2 (by decide) (by decide) ?_
          show Steps p.tables e below (T411.setTop (mkF m 43 #[.val (.ref co), .val (.ref ca), .val (.int (gc 0)), .val (.int ee)] [])) t
          refine XS.iinc X411.here hx rfl (hb hby own_d4_43) rfl (l' := #[.val (.ref co), .val (.ref ca), .val (.int (gc 0)), .val (.int (ee + (1 : Int32)))]) rfl ?_
          show Steps p.tables e below (T411.setTop (mkF m 46 #[.val (.ref co), .val (.ref ca), .val (.int (gc 0)), .val (.int (ee + (1 : Int32)))] [])) t
          refine XS.goto X411.here hx rfl (pc0 := 46) (pc' := 19) rfl (hb hby own_d4_46) (by decide) (by decide) ?_
          exact k)
        have q426 := rng32 ee
        have q427 := rng32 (tf ee.toNatClampNeg)
        have q428 := rng32 (gc 0)
        have q429 := (by decide : (1 : Int32).toInt = 1)
        have q430 := c_iadd ee (1 : Int32)
        have q431 := rng32 (ee + (1 : Int32))
        have hI2 : ((ff (gc 0).toNatClampNeg).toInt ≤ (ee + (1 : Int32)).toInt ∧ (ee + (1 : Int32)).toInt + ((d : Nat) : Int) = (ff ((gc 0) + (1 : Int32)).toNatClampNeg).toInt ∧ ∀ k : Nat, (ff (gc 0).toNatClampNeg).toInt ≤ (k : Int) → (k : Int) < (ee + (1 : Int32)).toInt → ¬ tf k = (gc 0)) := by 
          refine ⟨by omega, by omega, fun k h1 h2 => ?_⟩
          have h3 := own_clamp (j := ee) (by omega)
          by_cases hk : (k : Int) < ee.toInt
          · exact hI3 k h1 hk
          · have h4 : k = ee.toNatClampNeg := by omega
            rw [h4]; exact hc417
        obtain ⟨T2, Lc2, ee_2, pcx2, X2', e2', N2', hF, kk⟩ := ih T411 _ (ee + (1 : Int32)) X411 e411 Nl hI2
        exact ⟨T2, Lc2, ee_2, pcx2, X2', e2', N2', hF, fun t k => K425 t (kk t k)⟩
  have hI432 : ((ff (gc 0).toNatClampNeg).toInt ≤ (ff (gc 0).toNatClampNeg).toInt ∧ (ff (gc 0).toNatClampNeg).toInt + (((((ff ((gc 0) + (1 : Int32)).toNatClampNeg).toInt - (ff (gc 0).toNatClampNeg).toInt).toNat) : Nat) : Int) = (ff ((gc 0) + (1 : Int32)).toNatClampNeg).toInt ∧ ∀ k : Nat, (ff (gc 0).toNatClampNeg).toInt ≤ (k : Int) → (k : Int) < (ff (gc 0).toNatClampNeg).toInt → ¬ tf k = (gc 0)) := by
    have q433 := rng32 (ff (gc 0).toNatClampNeg)
    exact ⟨Int.le_refl _, by omega, fun k h1 h2 => by omega⟩
  obtain ⟨T432, Lc432, ee_432, pcx432, X432, e432, N432, hF432, kl432⟩ := loop379 (((ff ((gc 0) + (1 : Int32)).toNatClampNeg).toInt - (ff (gc 0).toNatClampNeg).toInt).toNat) T372 _ (ff (gc 0).toNatClampNeg) X372 e372 N0 hI432
  rcases hF432 with ⟨rfl, hno⟩ | ⟨rfl, hyes⟩
  · have K435 : ∀ t, Steps p.tables e below (T432.setTop (mkF m 49 #[.val (.ref co), .val (.ref ca), .val (.int (gc 0)), .val (.int ee_432)] [])) t → Steps p.tables e below (s₁.setTop (entryFrame m #[(.ref co), (.ref ca)] 4)) t := fun t k => K378 t (kl432 t k)
    have K436 : ∀ t, Steps p.tables e below (T432.setTop (mkF m 50 #[.val (.ref co), .val (.ref ca), .val (.int (gc 0)), .val (.int ee_432)] [(.int (0 : Int32))])) t → Steps p.tables e below (s₁.setTop (entryFrame m #[(.ref co), (.ref ca)] 4)) t := fun t k => K435 t (by
      show Steps p.tables e below (T432.setTop (mkF m 49 #[.val (.ref co), .val (.ref ca), .val (.int (gc 0)), .val (.int ee_432)] [])) t
      refine XS.iconst X432.here hx rfl (hb hby own_d4_49) ?_
      exact k)
    obtain ⟨fs, hr, hrun, hended, hW, hsame⟩ := X432.leave (v := some (.int (0 : Int32))) (fun h => by rw [Bd.returns] at h; cases h)
    refine ⟨_, _, K436 _ ?_, hrun, hended, _, _, rfl, ?_, ⟨_, rfl⟩, hW, hsame.mono (by decide) (by decide)⟩
    · exact retN X432 hx (t := .boolean) Bd.returns (by simp) (hb hby own_d4_50) hr
    · show Q_rmOne Z co ca gc fa ff ta tf h0 n0 _ T432.heap _
      have q437 := (by decide : (0 : Int32).toInt = 0)
      rw [e432]
      exact ⟨(0 : Int32), rfl, (Or.inr ⟨by decide, fun ⟨k, h1, h2, h3⟩ => hno k h1 h2 h3⟩), N432, rfl⟩
  · have K438 : ∀ t, Steps p.tables e below (T432.setTop (mkF m 41 #[.val (.ref co), .val (.ref ca), .val (.int (gc 0)), .val (.int ee_432)] [])) t → Steps p.tables e below (s₁.setTop (entryFrame m #[(.ref co), (.ref ca)] 4)) t := fun t k => K378 t (kl432 t k)
    have K439 : ∀ t, Steps p.tables e below (T432.setTop (mkF m 42 #[.val (.ref co), .val (.ref ca), .val (.int (gc 0)), .val (.int ee_432)] [(.int (1 : Int32))])) t → Steps p.tables e below (s₁.setTop (entryFrame m #[(.ref co), (.ref ca)] 4)) t := fun t k => K438 t (by
      show Steps p.tables e below (T432.setTop (mkF m 41 #[.val (.ref co), .val (.ref ca), .val (.int (gc 0)), .val (.int ee_432)] [])) t
      refine XS.iconst X432.here hx rfl (hb hby own_d4_41) ?_
      exact k)
    obtain ⟨fs, hr, hrun, hended, hW, hsame⟩ := X432.leave (v := some (.int (1 : Int32))) (fun h => by rw [Bd.returns] at h; cases h)
    refine ⟨_, _, K439 _ ?_, hrun, hended, _, _, rfl, ?_, ⟨_, rfl⟩, hW, hsame.mono (by decide) (by decide)⟩
    · exact retN X432 hx (t := .boolean) Bd.returns (by simp) (hb hby own_d4_42) hr
    · show Q_rmOne Z co ca gc fa ff ta tf h0 n0 _ T432.heap _
      have q440 := (by decide : (1 : Int32).toInt = 1)
      rw [e432]
      exact ⟨(1 : Int32), rfl, (Or.inl ⟨by decide, hyes⟩), N432, rfl⟩
theorem own_pn2 : plainName "com/example/omegaprobe/omegaprobe/graph/ComponentsCyclicPinLaw" = true := by first | (simp [plainName, overriddenIn]; done) | decide +kernel
theorem own_pd1 : parseMethodDescriptor "([I[I)V" = some ⟨[(.array .int), (.array .int)], none⟩ := by decide +kernel
theorem own_pd2 : parseMethodDescriptor "([I)Z" = some ⟨[(.array .int)], some .boolean⟩ := by decide +kernel
def Q_rm0 (Z : State) (x0 : Int32) (x1 : Int32) (x2 : Int32) (h0 : Heap) (n0 : Nat) (v : Option Value) (h : Heap) (L : List Loc) : Prop := v = some (.int (1 : Int32)) ∧ (True) ∧ Fr n0 L ∧ Keep h0 h []
theorem own_ef_rm0 (m : MethodId) (x0 : Int32) (x1 : Int32) (x2 : Int32) : entryFrame m #[(.int x0), (.int x1), (.int x2)] maxLocals = mkF m 0 #[.val (.int x0), .val (.int x1), .val (.int x2), .unset, .unset, .unset, .unset, .unset, .unset, .unset, .unset, .unset, .unset, .unset, .unset, .unset, .unset] [] := by first | (simp [entryFrame, mkF, argsToLocals, Value.category, maxLocals]; done) | rfl
set_option maxRecDepth 65536 in
set_option maxHeartbeats 40000000 in
theorem rm0 (l : Launch) (Z : State) (a0 : Array Value) (hw : ∀ d ∈ tables_1, d.before a0 Z = true) (ws : List Jvm.Cond) (x0 : Int32) (x1 : Int32) (x2 : Int32) (h0 : Heap) (n0 : Nat) (Z0 : own_Le n0 h0.size) :
    MetFree l x (head1 (Jvm.Cond.code x code maxLocals ret :: ws) room_1) (fun a U => a = #[(.int x0), (.int x1), (.int x2)] ∧ Z.Warmed39 U.vm ∧ U.heap = h0) (fun _ _ _ _ _ => True) (fun _ U o U' => ∃ v L, o = .returned v ∧ Q_rm0 Z x0 x1 x2 h0 n0 v U'.heap L ∧ FrameEnd U o U' L room_1.cells room_1.slots) := by
  refine MetFree.of_bodySF (plainFor_of_name own_pn2) hisR ?_
  intro p e s m args below meth c s₁ Bd hml0 hP hK
  obtain ⟨rfl, hZ, hh⟩ := hP
  have hx := Bd.exec
  have hby := Bd.bytes
  have hml : c.maxLocals = 17 := hml0
  have hown : s.vm.findClass "com/example/omegaprobe/omegaprobe/graph/ComponentsCyclicPinLaw" = some m.cls := findClass_of_methodNamed Bd.named
  have hnm := (name_of_methodNamed Bd.named Bd.method).1
  have X0 : Stand p l e room_1 s m #[(.int x0), (.int x1), (.int x2)] below meth c s₁ [] 0 0 := Stand.of_body Bd
  have e0 : s₁.heap = h0 := by rw [← hh, Bd.state]; rfl
  have N0 := Fr.nil n0
  have pre0 : ∀ t, Steps p.tables e below (s₁.setTop (mkF m 0 #[.val (.int x0), .val (.int x1), .val (.int x2), .unset, .unset, .unset, .unset, .unset, .unset, .unset, .unset, .unset, .unset, .unset, .unset, .unset, .unset] [])) t → Steps p.tables e below (s₁.setTop (entryFrame m #[(.int x0), (.int x1), (.int x2)] maxLocals)) t := fun t k => castTop (own_ef_rm0 m x0 x1 x2) k
  have K441 : ∀ t, Steps p.tables e below (s₁.setTop (mkF m 26 #[.val (.int x0), .val (.int x1), .val (.int x2), .val (.int (x0 &&& (3 : Int32))), .val (.int (((x0.toUInt32 >>> ((2 : Int32) &&& 31).toUInt32).toInt32) &&& (3 : Int32))), .val (.int (((x0.toUInt32 >>> ((4 : Int32) &&& 31).toUInt32).toInt32) &&& (3 : Int32))), .val (.int (((x0.toUInt32 >>> ((6 : Int32) &&& 31).toUInt32).toInt32) &&& (3 : Int32))), .unset, .unset, .unset, .unset, .unset, .unset, .unset, .unset, .unset, .unset] [])) t → Steps p.tables e below (s₁.setTop (entryFrame m #[(.int x0), (.int x1), (.int x2)] maxLocals)) t := fun t k => pre0 t (by
    show Steps p.tables e below (s₁.setTop (mkF m 0 #[.val (.int x0), .val (.int x1), .val (.int x2), .unset, .unset, .unset, .unset, .unset, .unset, .unset, .unset, .unset, .unset, .unset, .unset, .unset, .unset] [])) t
    refine XS.iloadN X0.here hx rfl (hb hby at_0) rfl ?_
    show Steps p.tables e below (s₁.setTop (mkF m 1 #[.val (.int x0), .val (.int x1), .val (.int x2), .unset, .unset, .unset, .unset, .unset, .unset, .unset, .unset, .unset, .unset, .unset, .unset, .unset, .unset] [(.int x0)])) t
    refine XS.iconst X0.here hx rfl (hb hby at_1) ?_
    show Steps p.tables e below (s₁.setTop (mkF m 2 #[.val (.int x0), .val (.int x1), .val (.int x2), .unset, .unset, .unset, .unset, .unset, .unset, .unset, .unset, .unset, .unset, .unset, .unset, .unset, .unset] [(.int (3 : Int32)), (.int x0)])) t
    refine XS.iand X0.here hx rfl (hb hby at_2) rfl ?_
    show Steps p.tables e below (s₁.setTop (mkF m 3 #[.val (.int x0), .val (.int x1), .val (.int x2), .unset, .unset, .unset, .unset, .unset, .unset, .unset, .unset, .unset, .unset, .unset, .unset, .unset, .unset] [(.int (x0 &&& (3 : Int32)))])) t
    refine XS.istoreN X0.here hx rfl (hb hby at_3) rfl (l' := #[.val (.int x0), .val (.int x1), .val (.int x2), .val (.int (x0 &&& (3 : Int32))), .unset, .unset, .unset, .unset, .unset, .unset, .unset, .unset, .unset, .unset, .unset, .unset, .unset]) rfl ?_
    show Steps p.tables e below (s₁.setTop (mkF m 4 #[.val (.int x0), .val (.int x1), .val (.int x2), .val (.int (x0 &&& (3 : Int32))), .unset, .unset, .unset, .unset, .unset, .unset, .unset, .unset, .unset, .unset, .unset, .unset, .unset] [])) t
    refine XS.iloadN X0.here hx rfl (hb hby at_4) rfl ?_
    show Steps p.tables e below (s₁.setTop (mkF m 5 #[.val (.int x0), .val (.int x1), .val (.int x2), .val (.int (x0 &&& (3 : Int32))), .unset, .unset, .unset, .unset, .unset, .unset, .unset, .unset, .unset, .unset, .unset, .unset, .unset] [(.int x0)])) t
    refine XS.iconst X0.here hx rfl (hb hby at_5) ?_
    show Steps p.tables e below (s₁.setTop (mkF m 6 #[.val (.int x0), .val (.int x1), .val (.int x2), .val (.int (x0 &&& (3 : Int32))), .unset, .unset, .unset, .unset, .unset, .unset, .unset, .unset, .unset, .unset, .unset, .unset, .unset] [(.int (2 : Int32)), (.int x0)])) t
    refine XS.iushr X0.here hx rfl (hb hby at_6) rfl ?_
    show Steps p.tables e below (s₁.setTop (mkF m 7 #[.val (.int x0), .val (.int x1), .val (.int x2), .val (.int (x0 &&& (3 : Int32))), .unset, .unset, .unset, .unset, .unset, .unset, .unset, .unset, .unset, .unset, .unset, .unset, .unset] [(.int ((x0.toUInt32 >>> ((2 : Int32) &&& 31).toUInt32).toInt32))])) t
    refine XS.iconst X0.here hx rfl (hb hby at_7) ?_
    show Steps p.tables e below (s₁.setTop (mkF m 8 #[.val (.int x0), .val (.int x1), .val (.int x2), .val (.int (x0 &&& (3 : Int32))), .unset, .unset, .unset, .unset, .unset, .unset, .unset, .unset, .unset, .unset, .unset, .unset, .unset] [(.int (3 : Int32)), (.int ((x0.toUInt32 >>> ((2 : Int32) &&& 31).toUInt32).toInt32))])) t
    refine XS.iand X0.here hx rfl (hb hby at_8) rfl ?_
    show Steps p.tables e below (s₁.setTop (mkF m 9 #[.val (.int x0), .val (.int x1), .val (.int x2), .val (.int (x0 &&& (3 : Int32))), .unset, .unset, .unset, .unset, .unset, .unset, .unset, .unset, .unset, .unset, .unset, .unset, .unset] [(.int (((x0.toUInt32 >>> ((2 : Int32) &&& 31).toUInt32).toInt32) &&& (3 : Int32)))])) t
    refine XS.istore X0.here hx rfl (hb hby at_9) rfl (l' := #[.val (.int x0), .val (.int x1), .val (.int x2), .val (.int (x0 &&& (3 : Int32))), .val (.int (((x0.toUInt32 >>> ((2 : Int32) &&& 31).toUInt32).toInt32) &&& (3 : Int32))), .unset, .unset, .unset, .unset, .unset, .unset, .unset, .unset, .unset, .unset, .unset, .unset]) rfl ?_
    show Steps p.tables e below (s₁.setTop (mkF m 11 #[.val (.int x0), .val (.int x1), .val (.int x2), .val (.int (x0 &&& (3 : Int32))), .val (.int (((x0.toUInt32 >>> ((2 : Int32) &&& 31).toUInt32).toInt32) &&& (3 : Int32))), .unset, .unset, .unset, .unset, .unset, .unset, .unset, .unset, .unset, .unset, .unset, .unset] [])) t
    refine XS.iloadN X0.here hx rfl (hb hby at_11) rfl ?_
    show Steps p.tables e below (s₁.setTop (mkF m 12 #[.val (.int x0), .val (.int x1), .val (.int x2), .val (.int (x0 &&& (3 : Int32))), .val (.int (((x0.toUInt32 >>> ((2 : Int32) &&& 31).toUInt32).toInt32) &&& (3 : Int32))), .unset, .unset, .unset, .unset, .unset, .unset, .unset, .unset, .unset, .unset, .unset, .unset] [(.int x0)])) t
    refine XS.iconst X0.here hx rfl (hb hby at_12) ?_
    show Steps p.tables e below (s₁.setTop (mkF m 13 #[.val (.int x0), .val (.int x1), .val (.int x2), .val (.int (x0 &&& (3 : Int32))), .val (.int (((x0.toUInt32 >>> ((2 : Int32) &&& 31).toUInt32).toInt32) &&& (3 : Int32))), .unset, .unset, .unset, .unset, .unset, .unset, .unset, .unset, .unset, .unset, .unset, .unset] [(.int (4 : Int32)), (.int x0)])) t
    refine XS.iushr X0.here hx rfl (hb hby at_13) rfl ?_
    show Steps p.tables e below (s₁.setTop (mkF m 14 #[.val (.int x0), .val (.int x1), .val (.int x2), .val (.int (x0 &&& (3 : Int32))), .val (.int (((x0.toUInt32 >>> ((2 : Int32) &&& 31).toUInt32).toInt32) &&& (3 : Int32))), .unset, .unset, .unset, .unset, .unset, .unset, .unset, .unset, .unset, .unset, .unset, .unset] [(.int ((x0.toUInt32 >>> ((4 : Int32) &&& 31).toUInt32).toInt32))])) t
    refine XS.iconst X0.here hx rfl (hb hby at_14) ?_
    show Steps p.tables e below (s₁.setTop (mkF m 15 #[.val (.int x0), .val (.int x1), .val (.int x2), .val (.int (x0 &&& (3 : Int32))), .val (.int (((x0.toUInt32 >>> ((2 : Int32) &&& 31).toUInt32).toInt32) &&& (3 : Int32))), .unset, .unset, .unset, .unset, .unset, .unset, .unset, .unset, .unset, .unset, .unset, .unset] [(.int (3 : Int32)), (.int ((x0.toUInt32 >>> ((4 : Int32) &&& 31).toUInt32).toInt32))])) t
    refine XS.iand X0.here hx rfl (hb hby at_15) rfl ?_
    show Steps p.tables e below (s₁.setTop (mkF m 16 #[.val (.int x0), .val (.int x1), .val (.int x2), .val (.int (x0 &&& (3 : Int32))), .val (.int (((x0.toUInt32 >>> ((2 : Int32) &&& 31).toUInt32).toInt32) &&& (3 : Int32))), .unset, .unset, .unset, .unset, .unset, .unset, .unset, .unset, .unset, .unset, .unset, .unset] [(.int (((x0.toUInt32 >>> ((4 : Int32) &&& 31).toUInt32).toInt32) &&& (3 : Int32)))])) t
    refine XS.istore X0.here hx rfl (hb hby at_16) rfl (l' := #[.val (.int x0), .val (.int x1), .val (.int x2), .val (.int (x0 &&& (3 : Int32))), .val (.int (((x0.toUInt32 >>> ((2 : Int32) &&& 31).toUInt32).toInt32) &&& (3 : Int32))), .val (.int (((x0.toUInt32 >>> ((4 : Int32) &&& 31).toUInt32).toInt32) &&& (3 : Int32))), .unset, .unset, .unset, .unset, .unset, .unset, .unset, .unset, .unset, .unset, .unset]) rfl ?_
    show Steps p.tables e below (s₁.setTop (mkF m 18 #[.val (.int x0), .val (.int x1), .val (.int x2), .val (.int (x0 &&& (3 : Int32))), .val (.int (((x0.toUInt32 >>> ((2 : Int32) &&& 31).toUInt32).toInt32) &&& (3 : Int32))), .val (.int (((x0.toUInt32 >>> ((4 : Int32) &&& 31).toUInt32).toInt32) &&& (3 : Int32))), .unset, .unset, .unset, .unset, .unset, .unset, .unset, .unset, .unset, .unset, .unset] [])) t
    refine XS.iloadN X0.here hx rfl (hb hby at_18) rfl ?_
    show Steps p.tables e below (s₁.setTop (mkF m 19 #[.val (.int x0), .val (.int x1), .val (.int x2), .val (.int (x0 &&& (3 : Int32))), .val (.int (((x0.toUInt32 >>> ((2 : Int32) &&& 31).toUInt32).toInt32) &&& (3 : Int32))), .val (.int (((x0.toUInt32 >>> ((4 : Int32) &&& 31).toUInt32).toInt32) &&& (3 : Int32))), .unset, .unset, .unset, .unset, .unset, .unset, .unset, .unset, .unset, .unset, .unset] [(.int x0)])) t
    refine XS.bipush X0.here hx rfl (hb hby at_19) ?_
    show Steps p.tables e below (s₁.setTop (mkF m 21 #[.val (.int x0), .val (.int x1), .val (.int x2), .val (.int (x0 &&& (3 : Int32))), .val (.int (((x0.toUInt32 >>> ((2 : Int32) &&& 31).toUInt32).toInt32) &&& (3 : Int32))), .val (.int (((x0.toUInt32 >>> ((4 : Int32) &&& 31).toUInt32).toInt32) &&& (3 : Int32))), .unset, .unset, .unset, .unset, .unset, .unset, .unset, .unset, .unset, .unset, .unset] [(.int (6 : Int32)), (.int x0)])) t
    refine XS.iushr X0.here hx rfl (hb hby at_21) rfl ?_
    show Steps p.tables e below (s₁.setTop (mkF m 22 #[.val (.int x0), .val (.int x1), .val (.int x2), .val (.int (x0 &&& (3 : Int32))), .val (.int (((x0.toUInt32 >>> ((2 : Int32) &&& 31).toUInt32).toInt32) &&& (3 : Int32))), .val (.int (((x0.toUInt32 >>> ((4 : Int32) &&& 31).toUInt32).toInt32) &&& (3 : Int32))), .unset, .unset, .unset, .unset, .unset, .unset, .unset, .unset, .unset, .unset, .unset] [(.int ((x0.toUInt32 >>> ((6 : Int32) &&& 31).toUInt32).toInt32))])) t
    refine XS.iconst X0.here hx rfl (hb hby at_22) ?_
    show Steps p.tables e below (s₁.setTop (mkF m 23 #[.val (.int x0), .val (.int x1), .val (.int x2), .val (.int (x0 &&& (3 : Int32))), .val (.int (((x0.toUInt32 >>> ((2 : Int32) &&& 31).toUInt32).toInt32) &&& (3 : Int32))), .val (.int (((x0.toUInt32 >>> ((4 : Int32) &&& 31).toUInt32).toInt32) &&& (3 : Int32))), .unset, .unset, .unset, .unset, .unset, .unset, .unset, .unset, .unset, .unset, .unset] [(.int (3 : Int32)), (.int ((x0.toUInt32 >>> ((6 : Int32) &&& 31).toUInt32).toInt32))])) t
    refine XS.iand X0.here hx rfl (hb hby at_23) rfl ?_
    show Steps p.tables e below (s₁.setTop (mkF m 24 #[.val (.int x0), .val (.int x1), .val (.int x2), .val (.int (x0 &&& (3 : Int32))), .val (.int (((x0.toUInt32 >>> ((2 : Int32) &&& 31).toUInt32).toInt32) &&& (3 : Int32))), .val (.int (((x0.toUInt32 >>> ((4 : Int32) &&& 31).toUInt32).toInt32) &&& (3 : Int32))), .unset, .unset, .unset, .unset, .unset, .unset, .unset, .unset, .unset, .unset, .unset] [(.int (((x0.toUInt32 >>> ((6 : Int32) &&& 31).toUInt32).toInt32) &&& (3 : Int32)))])) t
    refine XS.istore X0.here hx rfl (hb hby at_24) rfl (l' := #[.val (.int x0), .val (.int x1), .val (.int x2), .val (.int (x0 &&& (3 : Int32))), .val (.int (((x0.toUInt32 >>> ((2 : Int32) &&& 31).toUInt32).toInt32) &&& (3 : Int32))), .val (.int (((x0.toUInt32 >>> ((4 : Int32) &&& 31).toUInt32).toInt32) &&& (3 : Int32))), .val (.int (((x0.toUInt32 >>> ((6 : Int32) &&& 31).toUInt32).toInt32) &&& (3 : Int32))), .unset, .unset, .unset, .unset, .unset, .unset, .unset, .unset, .unset, .unset]) rfl ?_
    exact k)
  obtain ⟨c0_442, c1_442, c2_442, c3_442, Sp442, K462⟩ : ∃ (c0_442 : Int32) (c1_442 : Int32) (c2_442 : Int32) (c3_442 : Int32), (0 ≤ c0_442.toInt ∧ c0_442.toInt ≤ 3 ∧ 0 ≤ c1_442.toInt ∧ c1_442.toInt ≤ 3 ∧ 0 ≤ c2_442.toInt ∧ c2_442.toInt ≤ 3 ∧ 0 ≤ c3_442.toInt ∧ c3_442.toInt ≤ 3) ∧ ∀ t, Steps p.tables e below (s₁.setTop (mkF m 26 #[.val (.int x0), .val (.int x1), .val (.int x2), .val (.int c0_442), .val (.int c1_442), .val (.int c2_442), .val (.int c3_442), .unset, .unset, .unset, .unset, .unset, .unset, .unset, .unset, .unset, .unset] [])) t → Steps p.tables e below (s₁.setTop (entryFrame m #[(.int x0), (.int x1), (.int x2)] maxLocals)) t := by
    refine ⟨(x0 &&& (3 : Int32)), (((x0.toUInt32 >>> ((2 : Int32) &&& 31).toUInt32).toInt32) &&& (3 : Int32)), (((x0.toUInt32 >>> ((4 : Int32) &&& 31).toUInt32).toInt32) &&& (3 : Int32)), (((x0.toUInt32 >>> ((6 : Int32) &&& 31).toUInt32).toInt32) &&& (3 : Int32)), ?_, K441⟩
    have q443 := rng32 x0
    have q444 := (by decide : (3 : Int32).toInt = 3)
    have q445 := (show (x0 &&& (3 : Int32)).toInt = x0.toInt % 4 from c_mask x0 (3 : Int32) 2 (by decide) (by decide))
    have q446 := rng32 (x0 &&& (3 : Int32))
    have q447 := (by decide : (2 : Int32).toInt = 2)
    have q448 := (show ((x0.toUInt32 >>> ((2 : Int32) &&& 31).toUInt32).toInt32).toInt = (x0.toInt % 4294967296) / 4 from c_iushr x0 (2 : Int32) 2 rfl (by decide))
    have q449 := rng32 ((x0.toUInt32 >>> ((2 : Int32) &&& 31).toUInt32).toInt32)
    have q450 := (show (((x0.toUInt32 >>> ((2 : Int32) &&& 31).toUInt32).toInt32) &&& (3 : Int32)).toInt = ((x0.toUInt32 >>> ((2 : Int32) &&& 31).toUInt32).toInt32).toInt % 4 from c_mask ((x0.toUInt32 >>> ((2 : Int32) &&& 31).toUInt32).toInt32) (3 : Int32) 2 (by decide) (by decide))
    have q451 := rng32 (((x0.toUInt32 >>> ((2 : Int32) &&& 31).toUInt32).toInt32) &&& (3 : Int32))
    have q452 := (by decide : (4 : Int32).toInt = 4)
    have q453 := (show ((x0.toUInt32 >>> ((4 : Int32) &&& 31).toUInt32).toInt32).toInt = (x0.toInt % 4294967296) / 16 from c_iushr x0 (4 : Int32) 4 rfl (by decide))
    have q454 := rng32 ((x0.toUInt32 >>> ((4 : Int32) &&& 31).toUInt32).toInt32)
    have q455 := (show (((x0.toUInt32 >>> ((4 : Int32) &&& 31).toUInt32).toInt32) &&& (3 : Int32)).toInt = ((x0.toUInt32 >>> ((4 : Int32) &&& 31).toUInt32).toInt32).toInt % 4 from c_mask ((x0.toUInt32 >>> ((4 : Int32) &&& 31).toUInt32).toInt32) (3 : Int32) 2 (by decide) (by decide))
    have q456 := rng32 (((x0.toUInt32 >>> ((4 : Int32) &&& 31).toUInt32).toInt32) &&& (3 : Int32))
    have q457 := (by decide : (6 : Int32).toInt = 6)
    have q458 := (show ((x0.toUInt32 >>> ((6 : Int32) &&& 31).toUInt32).toInt32).toInt = (x0.toInt % 4294967296) / 64 from c_iushr x0 (6 : Int32) 6 rfl (by decide))
    have q459 := rng32 ((x0.toUInt32 >>> ((6 : Int32) &&& 31).toUInt32).toInt32)
    have q460 := (show (((x0.toUInt32 >>> ((6 : Int32) &&& 31).toUInt32).toInt32) &&& (3 : Int32)).toInt = ((x0.toUInt32 >>> ((6 : Int32) &&& 31).toUInt32).toInt32).toInt % 4 from c_mask ((x0.toUInt32 >>> ((6 : Int32) &&& 31).toUInt32).toInt32) (3 : Int32) 2 (by decide) (by decide))
    have q461 := rng32 (((x0.toUInt32 >>> ((6 : Int32) &&& 31).toUInt32).toInt32) &&& (3 : Int32))
    omega
  have K463 : ∀ t, Steps p.tables e below (s₁.setTop (mkF m 27 #[.val (.int x0), .val (.int x1), .val (.int x2), .val (.int c0_442), .val (.int c1_442), .val (.int c2_442), .val (.int c3_442), .unset, .unset, .unset, .unset, .unset, .unset, .unset, .unset, .unset, .unset] [(.int (5 : Int32))])) t → Steps p.tables e below (s₁.setTop (entryFrame m #[(.int x0), (.int x1), (.int x2)] maxLocals)) t := fun t k => K462 t (by
    show Steps p.tables e below (s₁.setTop (mkF m 26 #[.val (.int x0), .val (.int x1), .val (.int x2), .val (.int c0_442), .val (.int c1_442), .val (.int c2_442), .val (.int c3_442), .unset, .unset, .unset, .unset, .unset, .unset, .unset, .unset, .unset, .unset] [])) t
    refine XS.iconst X0.here hx rfl (hb hby at_26) ?_
    exact k)
  obtain ⟨T464, h464, k464, X464, e464, E464, A464, st464⟩ := newP X0 hx hZ (hw _ (List.mem_of_getElem? (i := 0) rfl)) e0 (g := (mkF m 27 #[.val (.int x0), .val (.int x1), .val (.int x2), .val (.int c0_442), .val (.int c1_442), .val (.int c2_442), .val (.int c3_442), .unset, .unset, .unset, .unset, .unset, .unset, .unset, .unset, .unset, .unset] [(.int (5 : Int32))])) rfl (hb hby at_27) rfl (by decide) (cap := 5) (by decide) (by decide) (by decide) (by decide)
  obtain ⟨b464, g464⟩ : ∃ z, z = h0.size := ⟨_, rfl⟩
  rw [← g464] at A464 st464
  have gb465 : own_Le n0 b464 := Nat.le_trans Z0 (Nat.le_of_eq g464.symm)
  have sb466 : own_Le h0.size b464 := Nat.le_trans (Keep.refl h0 []).1 (Nat.le_of_eq g464.symm)
  have Z467 : own_Le n0 h464.size := Nat.le_trans Z0 E464.1
  have Kp468 : Keep h0 h464 [] := Keep.ext (Keep.refl h0 []) E464
  have V469 : own_Arf Z h464 b464 .int (5 : Int32) (fun _ => (0 : Int32)) := own_Arf.new A464 (by decide) rfl
  have K470 : ∀ t, Steps p.tables e below (T464.setTop (mkF m 29 #[.val (.int x0), .val (.int x1), .val (.int x2), .val (.int c0_442), .val (.int c1_442), .val (.int c2_442), .val (.int c3_442), .unset, .unset, .unset, .unset, .unset, .unset, .unset, .unset, .unset, .unset] [(.ref b464)])) t → Steps p.tables e below (s₁.setTop (entryFrame m #[(.int x0), (.int x1), (.int x2)] maxLocals)) t := fun t k => K463 t (st464 _ k)
  have K471 : ∀ t, Steps p.tables e below (T464.setTop (mkF m 35 #[.val (.int x0), .val (.int x1), .val (.int x2), .val (.int c0_442), .val (.int c1_442), .val (.int c2_442), .val (.int c3_442), .val (.ref b464), .unset, .unset, .unset, .unset, .unset, .unset, .unset, .unset, .unset] [(.int (0 : Int32)), (.int (0 : Int32)), (.ref b464)])) t → Steps p.tables e below (s₁.setTop (entryFrame m #[(.int x0), (.int x1), (.int x2)] maxLocals)) t := fun t k => K470 t (by
    show Steps p.tables e below (T464.setTop (mkF m 29 #[.val (.int x0), .val (.int x1), .val (.int x2), .val (.int c0_442), .val (.int c1_442), .val (.int c2_442), .val (.int c3_442), .unset, .unset, .unset, .unset, .unset, .unset, .unset, .unset, .unset, .unset] [(.ref b464)])) t
    refine XS.astore X464.here hx rfl (hb hby at_29) rfl rfl (l' := #[.val (.int x0), .val (.int x1), .val (.int x2), .val (.int c0_442), .val (.int c1_442), .val (.int c2_442), .val (.int c3_442), .val (.ref b464), .unset, .unset, .unset, .unset, .unset, .unset, .unset, .unset, .unset]) rfl ?_
    show Steps p.tables e below (T464.setTop (mkF m 31 #[.val (.int x0), .val (.int x1), .val (.int x2), .val (.int c0_442), .val (.int c1_442), .val (.int c2_442), .val (.int c3_442), .val (.ref b464), .unset, .unset, .unset, .unset, .unset, .unset, .unset, .unset, .unset] [])) t
    refine XS.aload X464.here hx rfl (hb hby at_31) rfl rfl ?_
    show Steps p.tables e below (T464.setTop (mkF m 33 #[.val (.int x0), .val (.int x1), .val (.int x2), .val (.int c0_442), .val (.int c1_442), .val (.int c2_442), .val (.int c3_442), .val (.ref b464), .unset, .unset, .unset, .unset, .unset, .unset, .unset, .unset, .unset] [(.ref b464)])) t
    refine XS.iconst X464.here hx rfl (hb hby at_33) ?_
    show Steps p.tables e below (T464.setTop (mkF m 34 #[.val (.int x0), .val (.int x1), .val (.int x2), .val (.int c0_442), .val (.int c1_442), .val (.int c2_442), .val (.int c3_442), .val (.ref b464), .unset, .unset, .unset, .unset, .unset, .unset, .unset, .unset, .unset] [(.int (0 : Int32)), (.ref b464)])) t
    refine XS.iconst X464.here hx rfl (hb hby at_34) ?_
    exact k)
  have q473 : ¬ (0 : Int32) < 0 ∧ (0 : Int32) < (5 : Int32) := by
    have q474 := (by decide : (0 : Int32).toInt = 0)
    have q475 := (by decide : (5 : Int32).toInt = 5)
    rw [Int32.lt_iff_toInt_lt, Int32.lt_iff_toInt_lt]; have q0 : (0 : Int32).toInt = 0 := rfl; omega
  obtain ⟨cl472, Ar472, S472, N472, Hs472⟩ := id V469
  have hin472 : ¬ ((0 : Int32) < 0 ∨ cl472.slots.size ≤ ((0 : Int32)).toNatClampNeg) := inb_of S472 q473
  obtain ⟨T472, h472, X472, e472, W472, st472⟩ := stI X464 hx hZ e464 Ar472 (j := (0 : Int32)) hin472 (g := (mkF m 35 #[.val (.int x0), .val (.int x1), .val (.int x2), .val (.int c0_442), .val (.int c1_442), .val (.int c2_442), .val (.int c3_442), .val (.ref b464), .unset, .unset, .unset, .unset, .unset, .unset, .unset, .unset, .unset] [(.int (0 : Int32)), (.int (0 : Int32)), (.ref b464)])) rfl rfl (hb hby at_35)
  obtain ⟨f477, hf477⟩ : ∃ fnew : Nat → Int32, fnew = fun i => if i = 0 then (0 : Int32) else (fun _ => (0 : Int32)) i := ⟨_, rfl⟩
  have V476 : own_Arf Z h472 b464 .int (5 : Int32) f477 := own_Arf.set Ar472 S472 N472 Hs472 W472 rfl hf477
  have Kp478 : Keep h0 h472 [] := Keep.wr Kp468 W472 (Or.inr sb466)
  have Z479 : own_Le n0 h472.size := Nat.le_trans Z467 (Keep.of_wr W472).1
  have N480 := Fr.snoc X472 N0 gb465
  have K481 : ∀ t, Steps p.tables e below (T472.setTop (mkF m 36 #[.val (.int x0), .val (.int x1), .val (.int x2), .val (.int c0_442), .val (.int c1_442), .val (.int c2_442), .val (.int c3_442), .val (.ref b464), .unset, .unset, .unset, .unset, .unset, .unset, .unset, .unset, .unset] [])) t → Steps p.tables e below (s₁.setTop (entryFrame m #[(.int x0), (.int x1), (.int x2)] maxLocals)) t := fun t k => K471 t (st472 _ k)
  have K482 : ∀ t, Steps p.tables e below (T472.setTop (mkF m 40 #[.val (.int x0), .val (.int x1), .val (.int x2), .val (.int c0_442), .val (.int c1_442), .val (.int c2_442), .val (.int c3_442), .val (.ref b464), .unset, .unset, .unset, .unset, .unset, .unset, .unset, .unset, .unset] [(.int c0_442), (.int (1 : Int32)), (.ref b464)])) t → Steps p.tables e below (s₁.setTop (entryFrame m #[(.int x0), (.int x1), (.int x2)] maxLocals)) t := fun t k => K481 t (by
    show Steps p.tables e below (T472.setTop (mkF m 36 #[.val (.int x0), .val (.int x1), .val (.int x2), .val (.int c0_442), .val (.int c1_442), .val (.int c2_442), .val (.int c3_442), .val (.ref b464), .unset, .unset, .unset, .unset, .unset, .unset, .unset, .unset, .unset] [])) t
    refine XS.aload X472.here hx rfl (hb hby at_36) rfl rfl ?_
    show Steps p.tables e below (T472.setTop (mkF m 38 #[.val (.int x0), .val (.int x1), .val (.int x2), .val (.int c0_442), .val (.int c1_442), .val (.int c2_442), .val (.int c3_442), .val (.ref b464), .unset, .unset, .unset, .unset, .unset, .unset, .unset, .unset, .unset] [(.ref b464)])) t
    refine XS.iconst X472.here hx rfl (hb hby at_38) ?_
    show Steps p.tables e below (T472.setTop (mkF m 39 #[.val (.int x0), .val (.int x1), .val (.int x2), .val (.int c0_442), .val (.int c1_442), .val (.int c2_442), .val (.int c3_442), .val (.ref b464), .unset, .unset, .unset, .unset, .unset, .unset, .unset, .unset, .unset] [(.int (1 : Int32)), (.ref b464)])) t
    refine XS.iloadN X472.here hx rfl (hb hby at_39) rfl ?_
    exact k)
  have q484 : ¬ (1 : Int32) < 0 ∧ (1 : Int32) < (5 : Int32) := by
    have q485 := (by decide : (1 : Int32).toInt = 1)
    have q486 := (by decide : (5 : Int32).toInt = 5)
    rw [Int32.lt_iff_toInt_lt, Int32.lt_iff_toInt_lt]; have q0 : (0 : Int32).toInt = 0 := rfl; omega
  obtain ⟨cl483, Ar483, S483, N483, Hs483⟩ := id V476
  have hin483 : ¬ ((1 : Int32) < 0 ∨ cl483.slots.size ≤ ((1 : Int32)).toNatClampNeg) := inb_of S483 q484
  obtain ⟨T483, h483, X483, e483, W483, st483⟩ := stI X472 hx hZ e472 Ar483 (j := (1 : Int32)) hin483 (g := (mkF m 40 #[.val (.int x0), .val (.int x1), .val (.int x2), .val (.int c0_442), .val (.int c1_442), .val (.int c2_442), .val (.int c3_442), .val (.ref b464), .unset, .unset, .unset, .unset, .unset, .unset, .unset, .unset, .unset] [(.int c0_442), (.int (1 : Int32)), (.ref b464)])) rfl rfl (hb hby at_40)
  obtain ⟨f488, hf488⟩ : ∃ fnew : Nat → Int32, fnew = fun i => if i = 1 then c0_442 else f477 i := ⟨_, rfl⟩
  have V487 : own_Arf Z h483 b464 .int (5 : Int32) f488 := own_Arf.set Ar483 S483 N483 Hs483 W483 rfl hf488
  have Kp489 : Keep h0 h483 [] := Keep.wr Kp478 W483 (Or.inr sb466)
  have Z490 : own_Le n0 h483.size := Nat.le_trans Z479 (Keep.of_wr W483).1
  have N491 := Fr.snoc X483 N480 gb465
  have K492 : ∀ t, Steps p.tables e below (T483.setTop (mkF m 41 #[.val (.int x0), .val (.int x1), .val (.int x2), .val (.int c0_442), .val (.int c1_442), .val (.int c2_442), .val (.int c3_442), .val (.ref b464), .unset, .unset, .unset, .unset, .unset, .unset, .unset, .unset, .unset] [])) t → Steps p.tables e below (s₁.setTop (entryFrame m #[(.int x0), (.int x1), (.int x2)] maxLocals)) t := fun t k => K482 t (st483 _ k)
  have K493 : ∀ t, Steps p.tables e below (T483.setTop (mkF m 48 #[.val (.int x0), .val (.int x1), .val (.int x2), .val (.int c0_442), .val (.int c1_442), .val (.int c2_442), .val (.int c3_442), .val (.ref b464), .unset, .unset, .unset, .unset, .unset, .unset, .unset, .unset, .unset] [(.int (c0_442 + c1_442)), (.int (2 : Int32)), (.ref b464)])) t → Steps p.tables e below (s₁.setTop (entryFrame m #[(.int x0), (.int x1), (.int x2)] maxLocals)) t := fun t k => K492 t (by
    show Steps p.tables e below (T483.setTop (mkF m 41 #[.val (.int x0), .val (.int x1), .val (.int x2), .val (.int c0_442), .val (.int c1_442), .val (.int c2_442), .val (.int c3_442), .val (.ref b464), .unset, .unset, .unset, .unset, .unset, .unset, .unset, .unset, .unset] [])) t
    refine XS.aload X483.here hx rfl (hb hby at_41) rfl rfl ?_
    show Steps p.tables e below (T483.setTop (mkF m 43 #[.val (.int x0), .val (.int x1), .val (.int x2), .val (.int c0_442), .val (.int c1_442), .val (.int c2_442), .val (.int c3_442), .val (.ref b464), .unset, .unset, .unset, .unset, .unset, .unset, .unset, .unset, .unset] [(.ref b464)])) t
    refine XS.iconst X483.here hx rfl (hb hby at_43) ?_
    show Steps p.tables e below (T483.setTop (mkF m 44 #[.val (.int x0), .val (.int x1), .val (.int x2), .val (.int c0_442), .val (.int c1_442), .val (.int c2_442), .val (.int c3_442), .val (.ref b464), .unset, .unset, .unset, .unset, .unset, .unset, .unset, .unset, .unset] [(.int (2 : Int32)), (.ref b464)])) t
    refine XS.iloadN X483.here hx rfl (hb hby at_44) rfl ?_
    show Steps p.tables e below (T483.setTop (mkF m 45 #[.val (.int x0), .val (.int x1), .val (.int x2), .val (.int c0_442), .val (.int c1_442), .val (.int c2_442), .val (.int c3_442), .val (.ref b464), .unset, .unset, .unset, .unset, .unset, .unset, .unset, .unset, .unset] [(.int c0_442), (.int (2 : Int32)), (.ref b464)])) t
    refine XS.iload X483.here hx rfl (hb hby at_45) rfl ?_
    show Steps p.tables e below (T483.setTop (mkF m 47 #[.val (.int x0), .val (.int x1), .val (.int x2), .val (.int c0_442), .val (.int c1_442), .val (.int c2_442), .val (.int c3_442), .val (.ref b464), .unset, .unset, .unset, .unset, .unset, .unset, .unset, .unset, .unset] [(.int c1_442), (.int c0_442), (.int (2 : Int32)), (.ref b464)])) t
    refine XS.iadd X483.here hx rfl (hb hby at_47) rfl ?_
    exact k)
  have q495 : ¬ (2 : Int32) < 0 ∧ (2 : Int32) < (5 : Int32) := by
    have q496 := (by decide : (2 : Int32).toInt = 2)
    have q497 := (by decide : (5 : Int32).toInt = 5)
    rw [Int32.lt_iff_toInt_lt, Int32.lt_iff_toInt_lt]; have q0 : (0 : Int32).toInt = 0 := rfl; omega
  obtain ⟨cl494, Ar494, S494, N494, Hs494⟩ := id V487
  have hin494 : ¬ ((2 : Int32) < 0 ∨ cl494.slots.size ≤ ((2 : Int32)).toNatClampNeg) := inb_of S494 q495
  obtain ⟨T494, h494, X494, e494, W494, st494⟩ := stI X483 hx hZ e483 Ar494 (j := (2 : Int32)) hin494 (g := (mkF m 48 #[.val (.int x0), .val (.int x1), .val (.int x2), .val (.int c0_442), .val (.int c1_442), .val (.int c2_442), .val (.int c3_442), .val (.ref b464), .unset, .unset, .unset, .unset, .unset, .unset, .unset, .unset, .unset] [(.int (c0_442 + c1_442)), (.int (2 : Int32)), (.ref b464)])) rfl rfl (hb hby at_48)
  obtain ⟨f499, hf499⟩ : ∃ fnew : Nat → Int32, fnew = fun i => if i = 2 then (c0_442 + c1_442) else f488 i := ⟨_, rfl⟩
  have V498 : own_Arf Z h494 b464 .int (5 : Int32) f499 := own_Arf.set Ar494 S494 N494 Hs494 W494 rfl hf499
  have Kp500 : Keep h0 h494 [] := Keep.wr Kp489 W494 (Or.inr sb466)
  have Z501 : own_Le n0 h494.size := Nat.le_trans Z490 (Keep.of_wr W494).1
  have N502 := Fr.snoc X494 N491 gb465
  have K503 : ∀ t, Steps p.tables e below (T494.setTop (mkF m 49 #[.val (.int x0), .val (.int x1), .val (.int x2), .val (.int c0_442), .val (.int c1_442), .val (.int c2_442), .val (.int c3_442), .val (.ref b464), .unset, .unset, .unset, .unset, .unset, .unset, .unset, .unset, .unset] [])) t → Steps p.tables e below (s₁.setTop (entryFrame m #[(.int x0), (.int x1), (.int x2)] maxLocals)) t := fun t k => K493 t (st494 _ k)
  have K504 : ∀ t, Steps p.tables e below (T494.setTop (mkF m 59 #[.val (.int x0), .val (.int x1), .val (.int x2), .val (.int c0_442), .val (.int c1_442), .val (.int c2_442), .val (.int c3_442), .val (.ref b464), .unset, .unset, .unset, .unset, .unset, .unset, .unset, .unset, .unset] [(.int ((c0_442 + c1_442) + c2_442)), (.int (3 : Int32)), (.ref b464)])) t → Steps p.tables e below (s₁.setTop (entryFrame m #[(.int x0), (.int x1), (.int x2)] maxLocals)) t := fun t k => K503 t (by
    show Steps p.tables e below (T494.setTop (mkF m 49 #[.val (.int x0), .val (.int x1), .val (.int x2), .val (.int c0_442), .val (.int c1_442), .val (.int c2_442), .val (.int c3_442), .val (.ref b464), .unset, .unset, .unset, .unset, .unset, .unset, .unset, .unset, .unset] [])) t
    refine XS.aload X494.here hx rfl (hb hby at_49) rfl rfl ?_
    show Steps p.tables e below (T494.setTop (mkF m 51 #[.val (.int x0), .val (.int x1), .val (.int x2), .val (.int c0_442), .val (.int c1_442), .val (.int c2_442), .val (.int c3_442), .val (.ref b464), .unset, .unset, .unset, .unset, .unset, .unset, .unset, .unset, .unset] [(.ref b464)])) t
    refine XS.iconst X494.here hx rfl (hb hby at_51) ?_
    show Steps p.tables e below (T494.setTop (mkF m 52 #[.val (.int x0), .val (.int x1), .val (.int x2), .val (.int c0_442), .val (.int c1_442), .val (.int c2_442), .val (.int c3_442), .val (.ref b464), .unset, .unset, .unset, .unset, .unset, .unset, .unset, .unset, .unset] [(.int (3 : Int32)), (.ref b464)])) t
    refine XS.iloadN X494.here hx rfl (hb hby at_52) rfl ?_
    show Steps p.tables e below (T494.setTop (mkF m 53 #[.val (.int x0), .val (.int x1), .val (.int x2), .val (.int c0_442), .val (.int c1_442), .val (.int c2_442), .val (.int c3_442), .val (.ref b464), .unset, .unset, .unset, .unset, .unset, .unset, .unset, .unset, .unset] [(.int c0_442), (.int (3 : Int32)), (.ref b464)])) t
    refine XS.iload X494.here hx rfl (hb hby at_53) rfl ?_
    show Steps p.tables e below (T494.setTop (mkF m 55 #[.val (.int x0), .val (.int x1), .val (.int x2), .val (.int c0_442), .val (.int c1_442), .val (.int c2_442), .val (.int c3_442), .val (.ref b464), .unset, .unset, .unset, .unset, .unset, .unset, .unset, .unset, .unset] [(.int c1_442), (.int c0_442), (.int (3 : Int32)), (.ref b464)])) t
    refine XS.iadd X494.here hx rfl (hb hby at_55) rfl ?_
    show Steps p.tables e below (T494.setTop (mkF m 56 #[.val (.int x0), .val (.int x1), .val (.int x2), .val (.int c0_442), .val (.int c1_442), .val (.int c2_442), .val (.int c3_442), .val (.ref b464), .unset, .unset, .unset, .unset, .unset, .unset, .unset, .unset, .unset] [(.int (c0_442 + c1_442)), (.int (3 : Int32)), (.ref b464)])) t
    refine XS.iload X494.here hx rfl (hb hby at_56) rfl ?_
    show Steps p.tables e below (T494.setTop (mkF m 58 #[.val (.int x0), .val (.int x1), .val (.int x2), .val (.int c0_442), .val (.int c1_442), .val (.int c2_442), .val (.int c3_442), .val (.ref b464), .unset, .unset, .unset, .unset, .unset, .unset, .unset, .unset, .unset] [(.int c2_442), (.int (c0_442 + c1_442)), (.int (3 : Int32)), (.ref b464)])) t
    refine XS.iadd X494.here hx rfl (hb hby at_58) rfl ?_
    exact k)
  have q506 : ¬ (3 : Int32) < 0 ∧ (3 : Int32) < (5 : Int32) := by
    have q507 := (by decide : (3 : Int32).toInt = 3)
    have q508 := (by decide : (5 : Int32).toInt = 5)
    rw [Int32.lt_iff_toInt_lt, Int32.lt_iff_toInt_lt]; have q0 : (0 : Int32).toInt = 0 := rfl; omega
  obtain ⟨cl505, Ar505, S505, N505, Hs505⟩ := id V498
  have hin505 : ¬ ((3 : Int32) < 0 ∨ cl505.slots.size ≤ ((3 : Int32)).toNatClampNeg) := inb_of S505 q506
  obtain ⟨T505, h505, X505, e505, W505, st505⟩ := stI X494 hx hZ e494 Ar505 (j := (3 : Int32)) hin505 (g := (mkF m 59 #[.val (.int x0), .val (.int x1), .val (.int x2), .val (.int c0_442), .val (.int c1_442), .val (.int c2_442), .val (.int c3_442), .val (.ref b464), .unset, .unset, .unset, .unset, .unset, .unset, .unset, .unset, .unset] [(.int ((c0_442 + c1_442) + c2_442)), (.int (3 : Int32)), (.ref b464)])) rfl rfl (hb hby at_59)
  obtain ⟨f510, hf510⟩ : ∃ fnew : Nat → Int32, fnew = fun i => if i = 3 then ((c0_442 + c1_442) + c2_442) else f499 i := ⟨_, rfl⟩
  have V509 : own_Arf Z h505 b464 .int (5 : Int32) f510 := own_Arf.set Ar505 S505 N505 Hs505 W505 rfl hf510
  have Kp511 : Keep h0 h505 [] := Keep.wr Kp500 W505 (Or.inr sb466)
  have Z512 : own_Le n0 h505.size := Nat.le_trans Z501 (Keep.of_wr W505).1
  have N513 := Fr.snoc X505 N502 gb465
  have K514 : ∀ t, Steps p.tables e below (T505.setTop (mkF m 60 #[.val (.int x0), .val (.int x1), .val (.int x2), .val (.int c0_442), .val (.int c1_442), .val (.int c2_442), .val (.int c3_442), .val (.ref b464), .unset, .unset, .unset, .unset, .unset, .unset, .unset, .unset, .unset] [])) t → Steps p.tables e below (s₁.setTop (entryFrame m #[(.int x0), (.int x1), (.int x2)] maxLocals)) t := fun t k => K504 t (st505 _ k)
  have K515 : ∀ t, Steps p.tables e below (T505.setTop (mkF m 73 #[.val (.int x0), .val (.int x1), .val (.int x2), .val (.int c0_442), .val (.int c1_442), .val (.int c2_442), .val (.int c3_442), .val (.ref b464), .unset, .unset, .unset, .unset, .unset, .unset, .unset, .unset, .unset] [(.int (((c0_442 + c1_442) + c2_442) + c3_442)), (.int (4 : Int32)), (.ref b464)])) t → Steps p.tables e below (s₁.setTop (entryFrame m #[(.int x0), (.int x1), (.int x2)] maxLocals)) t := fun t k => K514 t (by
    show Steps p.tables e below (T505.setTop (mkF m 60 #[.val (.int x0), .val (.int x1), .val (.int x2), .val (.int c0_442), .val (.int c1_442), .val (.int c2_442), .val (.int c3_442), .val (.ref b464), .unset, .unset, .unset, .unset, .unset, .unset, .unset, .unset, .unset] [])) t
    refine XS.aload X505.here hx rfl (hb hby at_60) rfl rfl ?_
    show Steps p.tables e below (T505.setTop (mkF m 62 #[.val (.int x0), .val (.int x1), .val (.int x2), .val (.int c0_442), .val (.int c1_442), .val (.int c2_442), .val (.int c3_442), .val (.ref b464), .unset, .unset, .unset, .unset, .unset, .unset, .unset, .unset, .unset] [(.ref b464)])) t
    refine XS.iconst X505.here hx rfl (hb hby at_62) ?_
    show Steps p.tables e below (T505.setTop (mkF m 63 #[.val (.int x0), .val (.int x1), .val (.int x2), .val (.int c0_442), .val (.int c1_442), .val (.int c2_442), .val (.int c3_442), .val (.ref b464), .unset, .unset, .unset, .unset, .unset, .unset, .unset, .unset, .unset] [(.int (4 : Int32)), (.ref b464)])) t
    refine XS.iloadN X505.here hx rfl (hb hby at_63) rfl ?_
    show Steps p.tables e below (T505.setTop (mkF m 64 #[.val (.int x0), .val (.int x1), .val (.int x2), .val (.int c0_442), .val (.int c1_442), .val (.int c2_442), .val (.int c3_442), .val (.ref b464), .unset, .unset, .unset, .unset, .unset, .unset, .unset, .unset, .unset] [(.int c0_442), (.int (4 : Int32)), (.ref b464)])) t
    refine XS.iload X505.here hx rfl (hb hby at_64) rfl ?_
    show Steps p.tables e below (T505.setTop (mkF m 66 #[.val (.int x0), .val (.int x1), .val (.int x2), .val (.int c0_442), .val (.int c1_442), .val (.int c2_442), .val (.int c3_442), .val (.ref b464), .unset, .unset, .unset, .unset, .unset, .unset, .unset, .unset, .unset] [(.int c1_442), (.int c0_442), (.int (4 : Int32)), (.ref b464)])) t
    refine XS.iadd X505.here hx rfl (hb hby at_66) rfl ?_
    show Steps p.tables e below (T505.setTop (mkF m 67 #[.val (.int x0), .val (.int x1), .val (.int x2), .val (.int c0_442), .val (.int c1_442), .val (.int c2_442), .val (.int c3_442), .val (.ref b464), .unset, .unset, .unset, .unset, .unset, .unset, .unset, .unset, .unset] [(.int (c0_442 + c1_442)), (.int (4 : Int32)), (.ref b464)])) t
    refine XS.iload X505.here hx rfl (hb hby at_67) rfl ?_
    show Steps p.tables e below (T505.setTop (mkF m 69 #[.val (.int x0), .val (.int x1), .val (.int x2), .val (.int c0_442), .val (.int c1_442), .val (.int c2_442), .val (.int c3_442), .val (.ref b464), .unset, .unset, .unset, .unset, .unset, .unset, .unset, .unset, .unset] [(.int c2_442), (.int (c0_442 + c1_442)), (.int (4 : Int32)), (.ref b464)])) t
    refine XS.iadd X505.here hx rfl (hb hby at_69) rfl ?_
    show Steps p.tables e below (T505.setTop (mkF m 70 #[.val (.int x0), .val (.int x1), .val (.int x2), .val (.int c0_442), .val (.int c1_442), .val (.int c2_442), .val (.int c3_442), .val (.ref b464), .unset, .unset, .unset, .unset, .unset, .unset, .unset, .unset, .unset] [(.int ((c0_442 + c1_442) + c2_442)), (.int (4 : Int32)), (.ref b464)])) t
    refine XS.iload X505.here hx rfl (hb hby at_70) rfl ?_
    show Steps p.tables e below (T505.setTop (mkF m 72 #[.val (.int x0), .val (.int x1), .val (.int x2), .val (.int c0_442), .val (.int c1_442), .val (.int c2_442), .val (.int c3_442), .val (.ref b464), .unset, .unset, .unset, .unset, .unset, .unset, .unset, .unset, .unset] [(.int c3_442), (.int ((c0_442 + c1_442) + c2_442)), (.int (4 : Int32)), (.ref b464)])) t
    refine XS.iadd X505.here hx rfl (hb hby at_72) rfl ?_
    exact k)
  have q517 : ¬ (4 : Int32) < 0 ∧ (4 : Int32) < (5 : Int32) := by
    have q518 := (by decide : (4 : Int32).toInt = 4)
    have q519 := (by decide : (5 : Int32).toInt = 5)
    rw [Int32.lt_iff_toInt_lt, Int32.lt_iff_toInt_lt]; have q0 : (0 : Int32).toInt = 0 := rfl; omega
  obtain ⟨cl516, Ar516, S516, N516, Hs516⟩ := id V509
  have hin516 : ¬ ((4 : Int32) < 0 ∨ cl516.slots.size ≤ ((4 : Int32)).toNatClampNeg) := inb_of S516 q517
  obtain ⟨T516, h516, X516, e516, W516, st516⟩ := stI X505 hx hZ e505 Ar516 (j := (4 : Int32)) hin516 (g := (mkF m 73 #[.val (.int x0), .val (.int x1), .val (.int x2), .val (.int c0_442), .val (.int c1_442), .val (.int c2_442), .val (.int c3_442), .val (.ref b464), .unset, .unset, .unset, .unset, .unset, .unset, .unset, .unset, .unset] [(.int (((c0_442 + c1_442) + c2_442) + c3_442)), (.int (4 : Int32)), (.ref b464)])) rfl rfl (hb hby at_73)
  obtain ⟨f521, hf521⟩ : ∃ fnew : Nat → Int32, fnew = fun i => if i = 4 then (((c0_442 + c1_442) + c2_442) + c3_442) else f510 i := ⟨_, rfl⟩
  have V520 : own_Arf Z h516 b464 .int (5 : Int32) f521 := own_Arf.set Ar516 S516 N516 Hs516 W516 rfl hf521
  have Kp522 : Keep h0 h516 [] := Keep.wr Kp511 W516 (Or.inr sb466)
  have Z523 : own_Le n0 h516.size := Nat.le_trans Z512 (Keep.of_wr W516).1
  have N524 := Fr.snoc X516 N513 gb465
  have K525 : ∀ t, Steps p.tables e below (T516.setTop (mkF m 74 #[.val (.int x0), .val (.int x1), .val (.int x2), .val (.int c0_442), .val (.int c1_442), .val (.int c2_442), .val (.int c3_442), .val (.ref b464), .unset, .unset, .unset, .unset, .unset, .unset, .unset, .unset, .unset] [])) t → Steps p.tables e below (s₁.setTop (entryFrame m #[(.int x0), (.int x1), (.int x2)] maxLocals)) t := fun t k => K515 t (st516 _ k)
  have K526 : ∀ t, Steps p.tables e below (T516.setTop (mkF m 76 #[.val (.int x0), .val (.int x1), .val (.int x2), .val (.int c0_442), .val (.int c1_442), .val (.int c2_442), .val (.int c3_442), .val (.ref b464), .unset, .unset, .unset, .unset, .unset, .unset, .unset, .unset, .unset] [(.int (12 : Int32))])) t → Steps p.tables e below (s₁.setTop (entryFrame m #[(.int x0), (.int x1), (.int x2)] maxLocals)) t := fun t k => K525 t (by
    show Steps p.tables e below (T516.setTop (mkF m 74 #[.val (.int x0), .val (.int x1), .val (.int x2), .val (.int c0_442), .val (.int c1_442), .val (.int c2_442), .val (.int c3_442), .val (.ref b464), .unset, .unset, .unset, .unset, .unset, .unset, .unset, .unset, .unset] [])) t
    refine XS.bipush X516.here hx rfl (hb hby at_74) ?_
    exact k)
  obtain ⟨T527, h527, k527, X527, e527, E527, A527, st527⟩ := newP X516 hx hZ (hw _ (List.mem_of_getElem? (i := 0) rfl)) e516 (g := (mkF m 76 #[.val (.int x0), .val (.int x1), .val (.int x2), .val (.int c0_442), .val (.int c1_442), .val (.int c2_442), .val (.int c3_442), .val (.ref b464), .unset, .unset, .unset, .unset, .unset, .unset, .unset, .unset, .unset] [(.int (12 : Int32))])) rfl (hb hby at_76) rfl (by decide) (cap := 12) (by decide) (by decide) (by decide) (by decide)
  obtain ⟨b527, g527⟩ : ∃ z, z = h516.size := ⟨_, rfl⟩
  rw [← g527] at A527 st527
  have ne528 : own_Ne b464 b527 := Nat.ne_of_lt (Nat.lt_of_lt_of_le V520.lt (Nat.le_of_eq g527.symm))
  have gb529 : own_Le n0 b527 := Nat.le_trans Z523 (Nat.le_of_eq g527.symm)
  have sb530 : own_Le h0.size b527 := Nat.le_trans Kp522.1 (Nat.le_of_eq g527.symm)
  have F531 := V520.ext E527
  have Z532 : own_Le n0 h527.size := Nat.le_trans Z523 E527.1
  have Kp533 : Keep h0 h527 [] := Keep.ext Kp522 E527
  have V534 : own_Arf Z h527 b527 .int (12 : Int32) (fun _ => (0 : Int32)) := own_Arf.new A527 (by decide) rfl
  have K535 : ∀ t, Steps p.tables e below (T527.setTop (mkF m 78 #[.val (.int x0), .val (.int x1), .val (.int x2), .val (.int c0_442), .val (.int c1_442), .val (.int c2_442), .val (.int c3_442), .val (.ref b464), .unset, .unset, .unset, .unset, .unset, .unset, .unset, .unset, .unset] [(.ref b527)])) t → Steps p.tables e below (s₁.setTop (entryFrame m #[(.int x0), (.int x1), (.int x2)] maxLocals)) t := fun t k => K526 t (st527 _ k)
  have K536 : ∀ t, Steps p.tables e below (T527.setTop (mkF m 86 #[.val (.int x0), .val (.int x1), .val (.int x2), .val (.int c0_442), .val (.int c1_442), .val (.int c2_442), .val (.int c3_442), .val (.ref b464), .val (.ref b527), .unset, .unset, .unset, .unset, .unset, .unset, .unset, .unset] [(.int (x1 &&& (3 : Int32))), (.int (0 : Int32)), (.ref b527)])) t → Steps p.tables e below (s₁.setTop (entryFrame m #[(.int x0), (.int x1), (.int x2)] maxLocals)) t := fun t k => K535 t (by
    show Steps p.tables e below (T527.setTop (mkF m 78 #[.val (.int x0), .val (.int x1), .val (.int x2), .val (.int c0_442), .val (.int c1_442), .val (.int c2_442), .val (.int c3_442), .val (.ref b464), .unset, .unset, .unset, .unset, .unset, .unset, .unset, .unset, .unset] [(.ref b527)])) t
    refine XS.astore X527.here hx rfl (hb hby at_78) rfl rfl (l' := #[.val (.int x0), .val (.int x1), .val (.int x2), .val (.int c0_442), .val (.int c1_442), .val (.int c2_442), .val (.int c3_442), .val (.ref b464), .val (.ref b527), .unset, .unset, .unset, .unset, .unset, .unset, .unset, .unset]) rfl ?_
    show Steps p.tables e below (T527.setTop (mkF m 80 #[.val (.int x0), .val (.int x1), .val (.int x2), .val (.int c0_442), .val (.int c1_442), .val (.int c2_442), .val (.int c3_442), .val (.ref b464), .val (.ref b527), .unset, .unset, .unset, .unset, .unset, .unset, .unset, .unset] [])) t
    refine XS.aload X527.here hx rfl (hb hby at_80) rfl rfl ?_
    show Steps p.tables e below (T527.setTop (mkF m 82 #[.val (.int x0), .val (.int x1), .val (.int x2), .val (.int c0_442), .val (.int c1_442), .val (.int c2_442), .val (.int c3_442), .val (.ref b464), .val (.ref b527), .unset, .unset, .unset, .unset, .unset, .unset, .unset, .unset] [(.ref b527)])) t
    refine XS.iconst X527.here hx rfl (hb hby at_82) ?_
    show Steps p.tables e below (T527.setTop (mkF m 83 #[.val (.int x0), .val (.int x1), .val (.int x2), .val (.int c0_442), .val (.int c1_442), .val (.int c2_442), .val (.int c3_442), .val (.ref b464), .val (.ref b527), .unset, .unset, .unset, .unset, .unset, .unset, .unset, .unset] [(.int (0 : Int32)), (.ref b527)])) t
    refine XS.iloadN X527.here hx rfl (hb hby at_83) rfl ?_
    show Steps p.tables e below (T527.setTop (mkF m 84 #[.val (.int x0), .val (.int x1), .val (.int x2), .val (.int c0_442), .val (.int c1_442), .val (.int c2_442), .val (.int c3_442), .val (.ref b464), .val (.ref b527), .unset, .unset, .unset, .unset, .unset, .unset, .unset, .unset] [(.int x1), (.int (0 : Int32)), (.ref b527)])) t
    refine XS.iconst X527.here hx rfl (hb hby at_84) ?_
    show Steps p.tables e below (T527.setTop (mkF m 85 #[.val (.int x0), .val (.int x1), .val (.int x2), .val (.int c0_442), .val (.int c1_442), .val (.int c2_442), .val (.int c3_442), .val (.ref b464), .val (.ref b527), .unset, .unset, .unset, .unset, .unset, .unset, .unset, .unset] [(.int (3 : Int32)), (.int x1), (.int (0 : Int32)), (.ref b527)])) t
    refine XS.iand X527.here hx rfl (hb hby at_85) rfl ?_
    exact k)
  have q538 : ¬ (0 : Int32) < 0 ∧ (0 : Int32) < (12 : Int32) := by
    have q539 := (by decide : (0 : Int32).toInt = 0)
    have q540 := (by decide : (12 : Int32).toInt = 12)
    rw [Int32.lt_iff_toInt_lt, Int32.lt_iff_toInt_lt]; have q0 : (0 : Int32).toInt = 0 := rfl; omega
  obtain ⟨cl537, Ar537, S537, N537, Hs537⟩ := id V534
  have hin537 : ¬ ((0 : Int32) < 0 ∨ cl537.slots.size ≤ ((0 : Int32)).toNatClampNeg) := inb_of S537 q538
  obtain ⟨T537, h537, X537, e537, W537, st537⟩ := stI X527 hx hZ e527 Ar537 (j := (0 : Int32)) hin537 (g := (mkF m 86 #[.val (.int x0), .val (.int x1), .val (.int x2), .val (.int c0_442), .val (.int c1_442), .val (.int c2_442), .val (.int c3_442), .val (.ref b464), .val (.ref b527), .unset, .unset, .unset, .unset, .unset, .unset, .unset, .unset] [(.int (x1 &&& (3 : Int32))), (.int (0 : Int32)), (.ref b527)])) rfl rfl (hb hby at_86)
  obtain ⟨f542, hf542⟩ : ∃ fnew : Nat → Int32, fnew = fun i => if i = 0 then (x1 &&& (3 : Int32)) else (fun _ => (0 : Int32)) i := ⟨_, rfl⟩
  have V541 : own_Arf Z h537 b527 .int (12 : Int32) f542 := own_Arf.set Ar537 S537 N537 Hs537 W537 rfl hf542
  have Kp543 : Keep h0 h537 [] := Keep.wr Kp533 W537 (Or.inr sb530)
  have Z544 : own_Le n0 h537.size := Nat.le_trans Z532 (Keep.of_wr W537).1
  have N545 := Fr.snoc X537 N524 gb529
  have F546 := F531.other W537 ne528
  have K547 : ∀ t, Steps p.tables e below (T537.setTop (mkF m 87 #[.val (.int x0), .val (.int x1), .val (.int x2), .val (.int c0_442), .val (.int c1_442), .val (.int c2_442), .val (.int c3_442), .val (.ref b464), .val (.ref b527), .unset, .unset, .unset, .unset, .unset, .unset, .unset, .unset] [])) t → Steps p.tables e below (s₁.setTop (entryFrame m #[(.int x0), (.int x1), (.int x2)] maxLocals)) t := fun t k => K536 t (st537 _ k)
  have K548 : ∀ t, Steps p.tables e below (T537.setTop (mkF m 95 #[.val (.int x0), .val (.int x1), .val (.int x2), .val (.int c0_442), .val (.int c1_442), .val (.int c2_442), .val (.int c3_442), .val (.ref b464), .val (.ref b527), .unset, .unset, .unset, .unset, .unset, .unset, .unset, .unset] [(.int (((x1.toUInt32 >>> ((2 : Int32) &&& 31).toUInt32).toInt32) &&& (3 : Int32))), (.int (1 : Int32)), (.ref b527)])) t → Steps p.tables e below (s₁.setTop (entryFrame m #[(.int x0), (.int x1), (.int x2)] maxLocals)) t := fun t k => K547 t (by
    show Steps p.tables e below (T537.setTop (mkF m 87 #[.val (.int x0), .val (.int x1), .val (.int x2), .val (.int c0_442), .val (.int c1_442), .val (.int c2_442), .val (.int c3_442), .val (.ref b464), .val (.ref b527), .unset, .unset, .unset, .unset, .unset, .unset, .unset, .unset] [])) t
    refine XS.aload X537.here hx rfl (hb hby at_87) rfl rfl ?_
    show Steps p.tables e below (T537.setTop (mkF m 89 #[.val (.int x0), .val (.int x1), .val (.int x2), .val (.int c0_442), .val (.int c1_442), .val (.int c2_442), .val (.int c3_442), .val (.ref b464), .val (.ref b527), .unset, .unset, .unset, .unset, .unset, .unset, .unset, .unset] [(.ref b527)])) t
    refine XS.iconst X537.here hx rfl (hb hby at_89) ?_
    show Steps p.tables e below (T537.setTop (mkF m 90 #[.val (.int x0), .val (.int x1), .val (.int x2), .val (.int c0_442), .val (.int c1_442), .val (.int c2_442), .val (.int c3_442), .val (.ref b464), .val (.ref b527), .unset, .unset, .unset, .unset, .unset, .unset, .unset, .unset] [(.int (1 : Int32)), (.ref b527)])) t
    refine XS.iloadN X537.here hx rfl (hb hby at_90) rfl ?_
    show Steps p.tables e below (T537.setTop (mkF m 91 #[.val (.int x0), .val (.int x1), .val (.int x2), .val (.int c0_442), .val (.int c1_442), .val (.int c2_442), .val (.int c3_442), .val (.ref b464), .val (.ref b527), .unset, .unset, .unset, .unset, .unset, .unset, .unset, .unset] [(.int x1), (.int (1 : Int32)), (.ref b527)])) t
    refine XS.iconst X537.here hx rfl (hb hby at_91) ?_
    show Steps p.tables e below (T537.setTop (mkF m 92 #[.val (.int x0), .val (.int x1), .val (.int x2), .val (.int c0_442), .val (.int c1_442), .val (.int c2_442), .val (.int c3_442), .val (.ref b464), .val (.ref b527), .unset, .unset, .unset, .unset, .unset, .unset, .unset, .unset] [(.int (2 : Int32)), (.int x1), (.int (1 : Int32)), (.ref b527)])) t
    refine XS.iushr X537.here hx rfl (hb hby at_92) rfl ?_
    show Steps p.tables e below (T537.setTop (mkF m 93 #[.val (.int x0), .val (.int x1), .val (.int x2), .val (.int c0_442), .val (.int c1_442), .val (.int c2_442), .val (.int c3_442), .val (.ref b464), .val (.ref b527), .unset, .unset, .unset, .unset, .unset, .unset, .unset, .unset] [(.int ((x1.toUInt32 >>> ((2 : Int32) &&& 31).toUInt32).toInt32)), (.int (1 : Int32)), (.ref b527)])) t
    refine XS.iconst X537.here hx rfl (hb hby at_93) ?_
    show Steps p.tables e below (T537.setTop (mkF m 94 #[.val (.int x0), .val (.int x1), .val (.int x2), .val (.int c0_442), .val (.int c1_442), .val (.int c2_442), .val (.int c3_442), .val (.ref b464), .val (.ref b527), .unset, .unset, .unset, .unset, .unset, .unset, .unset, .unset] [(.int (3 : Int32)), (.int ((x1.toUInt32 >>> ((2 : Int32) &&& 31).toUInt32).toInt32)), (.int (1 : Int32)), (.ref b527)])) t
    refine XS.iand X537.here hx rfl (hb hby at_94) rfl ?_
    exact k)
  have q550 : ¬ (1 : Int32) < 0 ∧ (1 : Int32) < (12 : Int32) := by
    have q551 := (by decide : (1 : Int32).toInt = 1)
    have q552 := (by decide : (12 : Int32).toInt = 12)
    rw [Int32.lt_iff_toInt_lt, Int32.lt_iff_toInt_lt]; have q0 : (0 : Int32).toInt = 0 := rfl; omega
  obtain ⟨cl549, Ar549, S549, N549, Hs549⟩ := id V541
  have hin549 : ¬ ((1 : Int32) < 0 ∨ cl549.slots.size ≤ ((1 : Int32)).toNatClampNeg) := inb_of S549 q550
  obtain ⟨T549, h549, X549, e549, W549, st549⟩ := stI X537 hx hZ e537 Ar549 (j := (1 : Int32)) hin549 (g := (mkF m 95 #[.val (.int x0), .val (.int x1), .val (.int x2), .val (.int c0_442), .val (.int c1_442), .val (.int c2_442), .val (.int c3_442), .val (.ref b464), .val (.ref b527), .unset, .unset, .unset, .unset, .unset, .unset, .unset, .unset] [(.int (((x1.toUInt32 >>> ((2 : Int32) &&& 31).toUInt32).toInt32) &&& (3 : Int32))), (.int (1 : Int32)), (.ref b527)])) rfl rfl (hb hby at_95)
  obtain ⟨f554, hf554⟩ : ∃ fnew : Nat → Int32, fnew = fun i => if i = 1 then (((x1.toUInt32 >>> ((2 : Int32) &&& 31).toUInt32).toInt32) &&& (3 : Int32)) else f542 i := ⟨_, rfl⟩
  have V553 : own_Arf Z h549 b527 .int (12 : Int32) f554 := own_Arf.set Ar549 S549 N549 Hs549 W549 rfl hf554
  have Kp555 : Keep h0 h549 [] := Keep.wr Kp543 W549 (Or.inr sb530)
  have Z556 : own_Le n0 h549.size := Nat.le_trans Z544 (Keep.of_wr W549).1
  have N557 := Fr.snoc X549 N545 gb529
  have F558 := F546.other W549 ne528
  have K559 : ∀ t, Steps p.tables e below (T549.setTop (mkF m 96 #[.val (.int x0), .val (.int x1), .val (.int x2), .val (.int c0_442), .val (.int c1_442), .val (.int c2_442), .val (.int c3_442), .val (.ref b464), .val (.ref b527), .unset, .unset, .unset, .unset, .unset, .unset, .unset, .unset] [])) t → Steps p.tables e below (s₁.setTop (entryFrame m #[(.int x0), (.int x1), (.int x2)] maxLocals)) t := fun t k => K548 t (st549 _ k)
  have K560 : ∀ t, Steps p.tables e below (T549.setTop (mkF m 104 #[.val (.int x0), .val (.int x1), .val (.int x2), .val (.int c0_442), .val (.int c1_442), .val (.int c2_442), .val (.int c3_442), .val (.ref b464), .val (.ref b527), .unset, .unset, .unset, .unset, .unset, .unset, .unset, .unset] [(.int (((x1.toUInt32 >>> ((4 : Int32) &&& 31).toUInt32).toInt32) &&& (3 : Int32))), (.int (2 : Int32)), (.ref b527)])) t → Steps p.tables e below (s₁.setTop (entryFrame m #[(.int x0), (.int x1), (.int x2)] maxLocals)) t := fun t k => K559 t (by
    show Steps p.tables e below (T549.setTop (mkF m 96 #[.val (.int x0), .val (.int x1), .val (.int x2), .val (.int c0_442), .val (.int c1_442), .val (.int c2_442), .val (.int c3_442), .val (.ref b464), .val (.ref b527), .unset, .unset, .unset, .unset, .unset, .unset, .unset, .unset] [])) t
    refine XS.aload X549.here hx rfl (hb hby at_96) rfl rfl ?_
    show Steps p.tables e below (T549.setTop (mkF m 98 #[.val (.int x0), .val (.int x1), .val (.int x2), .val (.int c0_442), .val (.int c1_442), .val (.int c2_442), .val (.int c3_442), .val (.ref b464), .val (.ref b527), .unset, .unset, .unset, .unset, .unset, .unset, .unset, .unset] [(.ref b527)])) t
    refine XS.iconst X549.here hx rfl (hb hby at_98) ?_
    show Steps p.tables e below (T549.setTop (mkF m 99 #[.val (.int x0), .val (.int x1), .val (.int x2), .val (.int c0_442), .val (.int c1_442), .val (.int c2_442), .val (.int c3_442), .val (.ref b464), .val (.ref b527), .unset, .unset, .unset, .unset, .unset, .unset, .unset, .unset] [(.int (2 : Int32)), (.ref b527)])) t
    refine XS.iloadN X549.here hx rfl (hb hby at_99) rfl ?_
    show Steps p.tables e below (T549.setTop (mkF m 100 #[.val (.int x0), .val (.int x1), .val (.int x2), .val (.int c0_442), .val (.int c1_442), .val (.int c2_442), .val (.int c3_442), .val (.ref b464), .val (.ref b527), .unset, .unset, .unset, .unset, .unset, .unset, .unset, .unset] [(.int x1), (.int (2 : Int32)), (.ref b527)])) t
    refine XS.iconst X549.here hx rfl (hb hby at_100) ?_
    show Steps p.tables e below (T549.setTop (mkF m 101 #[.val (.int x0), .val (.int x1), .val (.int x2), .val (.int c0_442), .val (.int c1_442), .val (.int c2_442), .val (.int c3_442), .val (.ref b464), .val (.ref b527), .unset, .unset, .unset, .unset, .unset, .unset, .unset, .unset] [(.int (4 : Int32)), (.int x1), (.int (2 : Int32)), (.ref b527)])) t
    refine XS.iushr X549.here hx rfl (hb hby at_101) rfl ?_
    show Steps p.tables e below (T549.setTop (mkF m 102 #[.val (.int x0), .val (.int x1), .val (.int x2), .val (.int c0_442), .val (.int c1_442), .val (.int c2_442), .val (.int c3_442), .val (.ref b464), .val (.ref b527), .unset, .unset, .unset, .unset, .unset, .unset, .unset, .unset] [(.int ((x1.toUInt32 >>> ((4 : Int32) &&& 31).toUInt32).toInt32)), (.int (2 : Int32)), (.ref b527)])) t
    refine XS.iconst X549.here hx rfl (hb hby at_102) ?_
    show Steps p.tables e below (T549.setTop (mkF m 103 #[.val (.int x0), .val (.int x1), .val (.int x2), .val (.int c0_442), .val (.int c1_442), .val (.int c2_442), .val (.int c3_442), .val (.ref b464), .val (.ref b527), .unset, .unset, .unset, .unset, .unset, .unset, .unset, .unset] [(.int (3 : Int32)), (.int ((x1.toUInt32 >>> ((4 : Int32) &&& 31).toUInt32).toInt32)), (.int (2 : Int32)), (.ref b527)])) t
    refine XS.iand X549.here hx rfl (hb hby at_103) rfl ?_
    exact k)
  have q562 : ¬ (2 : Int32) < 0 ∧ (2 : Int32) < (12 : Int32) := by
    have q563 := (by decide : (2 : Int32).toInt = 2)
    have q564 := (by decide : (12 : Int32).toInt = 12)
    rw [Int32.lt_iff_toInt_lt, Int32.lt_iff_toInt_lt]; have q0 : (0 : Int32).toInt = 0 := rfl; omega
  obtain ⟨cl561, Ar561, S561, N561, Hs561⟩ := id V553
  have hin561 : ¬ ((2 : Int32) < 0 ∨ cl561.slots.size ≤ ((2 : Int32)).toNatClampNeg) := inb_of S561 q562
  obtain ⟨T561, h561, X561, e561, W561, st561⟩ := stI X549 hx hZ e549 Ar561 (j := (2 : Int32)) hin561 (g := (mkF m 104 #[.val (.int x0), .val (.int x1), .val (.int x2), .val (.int c0_442), .val (.int c1_442), .val (.int c2_442), .val (.int c3_442), .val (.ref b464), .val (.ref b527), .unset, .unset, .unset, .unset, .unset, .unset, .unset, .unset] [(.int (((x1.toUInt32 >>> ((4 : Int32) &&& 31).toUInt32).toInt32) &&& (3 : Int32))), (.int (2 : Int32)), (.ref b527)])) rfl rfl (hb hby at_104)
  obtain ⟨f566, hf566⟩ : ∃ fnew : Nat → Int32, fnew = fun i => if i = 2 then (((x1.toUInt32 >>> ((4 : Int32) &&& 31).toUInt32).toInt32) &&& (3 : Int32)) else f554 i := ⟨_, rfl⟩
  have V565 : own_Arf Z h561 b527 .int (12 : Int32) f566 := own_Arf.set Ar561 S561 N561 Hs561 W561 rfl hf566
  have Kp567 : Keep h0 h561 [] := Keep.wr Kp555 W561 (Or.inr sb530)
  have Z568 : own_Le n0 h561.size := Nat.le_trans Z556 (Keep.of_wr W561).1
  have N569 := Fr.snoc X561 N557 gb529
  have F570 := F558.other W561 ne528
  have K571 : ∀ t, Steps p.tables e below (T561.setTop (mkF m 105 #[.val (.int x0), .val (.int x1), .val (.int x2), .val (.int c0_442), .val (.int c1_442), .val (.int c2_442), .val (.int c3_442), .val (.ref b464), .val (.ref b527), .unset, .unset, .unset, .unset, .unset, .unset, .unset, .unset] [])) t → Steps p.tables e below (s₁.setTop (entryFrame m #[(.int x0), (.int x1), (.int x2)] maxLocals)) t := fun t k => K560 t (st561 _ k)
  have K572 : ∀ t, Steps p.tables e below (T561.setTop (mkF m 114 #[.val (.int x0), .val (.int x1), .val (.int x2), .val (.int c0_442), .val (.int c1_442), .val (.int c2_442), .val (.int c3_442), .val (.ref b464), .val (.ref b527), .unset, .unset, .unset, .unset, .unset, .unset, .unset, .unset] [(.int (((x1.toUInt32 >>> ((6 : Int32) &&& 31).toUInt32).toInt32) &&& (3 : Int32))), (.int (3 : Int32)), (.ref b527)])) t → Steps p.tables e below (s₁.setTop (entryFrame m #[(.int x0), (.int x1), (.int x2)] maxLocals)) t := fun t k => K571 t (by
    show Steps p.tables e below (T561.setTop (mkF m 105 #[.val (.int x0), .val (.int x1), .val (.int x2), .val (.int c0_442), .val (.int c1_442), .val (.int c2_442), .val (.int c3_442), .val (.ref b464), .val (.ref b527), .unset, .unset, .unset, .unset, .unset, .unset, .unset, .unset] [])) t
    refine XS.aload X561.here hx rfl (hb hby at_105) rfl rfl ?_
    show Steps p.tables e below (T561.setTop (mkF m 107 #[.val (.int x0), .val (.int x1), .val (.int x2), .val (.int c0_442), .val (.int c1_442), .val (.int c2_442), .val (.int c3_442), .val (.ref b464), .val (.ref b527), .unset, .unset, .unset, .unset, .unset, .unset, .unset, .unset] [(.ref b527)])) t
    refine XS.iconst X561.here hx rfl (hb hby at_107) ?_
    show Steps p.tables e below (T561.setTop (mkF m 108 #[.val (.int x0), .val (.int x1), .val (.int x2), .val (.int c0_442), .val (.int c1_442), .val (.int c2_442), .val (.int c3_442), .val (.ref b464), .val (.ref b527), .unset, .unset, .unset, .unset, .unset, .unset, .unset, .unset] [(.int (3 : Int32)), (.ref b527)])) t
    refine XS.iloadN X561.here hx rfl (hb hby at_108) rfl ?_
    show Steps p.tables e below (T561.setTop (mkF m 109 #[.val (.int x0), .val (.int x1), .val (.int x2), .val (.int c0_442), .val (.int c1_442), .val (.int c2_442), .val (.int c3_442), .val (.ref b464), .val (.ref b527), .unset, .unset, .unset, .unset, .unset, .unset, .unset, .unset] [(.int x1), (.int (3 : Int32)), (.ref b527)])) t
    refine XS.bipush X561.here hx rfl (hb hby at_109) ?_
    show Steps p.tables e below (T561.setTop (mkF m 111 #[.val (.int x0), .val (.int x1), .val (.int x2), .val (.int c0_442), .val (.int c1_442), .val (.int c2_442), .val (.int c3_442), .val (.ref b464), .val (.ref b527), .unset, .unset, .unset, .unset, .unset, .unset, .unset, .unset] [(.int (6 : Int32)), (.int x1), (.int (3 : Int32)), (.ref b527)])) t
    refine XS.iushr X561.here hx rfl (hb hby at_111) rfl ?_
    show Steps p.tables e below (T561.setTop (mkF m 112 #[.val (.int x0), .val (.int x1), .val (.int x2), .val (.int c0_442), .val (.int c1_442), .val (.int c2_442), .val (.int c3_442), .val (.ref b464), .val (.ref b527), .unset, .unset, .unset, .unset, .unset, .unset, .unset, .unset] [(.int ((x1.toUInt32 >>> ((6 : Int32) &&& 31).toUInt32).toInt32)), (.int (3 : Int32)), (.ref b527)])) t
    refine XS.iconst X561.here hx rfl (hb hby at_112) ?_
    show Steps p.tables e below (T561.setTop (mkF m 113 #[.val (.int x0), .val (.int x1), .val (.int x2), .val (.int c0_442), .val (.int c1_442), .val (.int c2_442), .val (.int c3_442), .val (.ref b464), .val (.ref b527), .unset, .unset, .unset, .unset, .unset, .unset, .unset, .unset] [(.int (3 : Int32)), (.int ((x1.toUInt32 >>> ((6 : Int32) &&& 31).toUInt32).toInt32)), (.int (3 : Int32)), (.ref b527)])) t
    refine XS.iand X561.here hx rfl (hb hby at_113) rfl ?_
    exact k)
  have q574 : ¬ (3 : Int32) < 0 ∧ (3 : Int32) < (12 : Int32) := by
    have q575 := (by decide : (3 : Int32).toInt = 3)
    have q576 := (by decide : (12 : Int32).toInt = 12)
    rw [Int32.lt_iff_toInt_lt, Int32.lt_iff_toInt_lt]; have q0 : (0 : Int32).toInt = 0 := rfl; omega
  obtain ⟨cl573, Ar573, S573, N573, Hs573⟩ := id V565
  have hin573 : ¬ ((3 : Int32) < 0 ∨ cl573.slots.size ≤ ((3 : Int32)).toNatClampNeg) := inb_of S573 q574
  obtain ⟨T573, h573, X573, e573, W573, st573⟩ := stI X561 hx hZ e561 Ar573 (j := (3 : Int32)) hin573 (g := (mkF m 114 #[.val (.int x0), .val (.int x1), .val (.int x2), .val (.int c0_442), .val (.int c1_442), .val (.int c2_442), .val (.int c3_442), .val (.ref b464), .val (.ref b527), .unset, .unset, .unset, .unset, .unset, .unset, .unset, .unset] [(.int (((x1.toUInt32 >>> ((6 : Int32) &&& 31).toUInt32).toInt32) &&& (3 : Int32))), (.int (3 : Int32)), (.ref b527)])) rfl rfl (hb hby at_114)
  obtain ⟨f578, hf578⟩ : ∃ fnew : Nat → Int32, fnew = fun i => if i = 3 then (((x1.toUInt32 >>> ((6 : Int32) &&& 31).toUInt32).toInt32) &&& (3 : Int32)) else f566 i := ⟨_, rfl⟩
  have V577 : own_Arf Z h573 b527 .int (12 : Int32) f578 := own_Arf.set Ar573 S573 N573 Hs573 W573 rfl hf578
  have Kp579 : Keep h0 h573 [] := Keep.wr Kp567 W573 (Or.inr sb530)
  have Z580 : own_Le n0 h573.size := Nat.le_trans Z568 (Keep.of_wr W573).1
  have N581 := Fr.snoc X573 N569 gb529
  have F582 := F570.other W573 ne528
  have K583 : ∀ t, Steps p.tables e below (T573.setTop (mkF m 115 #[.val (.int x0), .val (.int x1), .val (.int x2), .val (.int c0_442), .val (.int c1_442), .val (.int c2_442), .val (.int c3_442), .val (.ref b464), .val (.ref b527), .unset, .unset, .unset, .unset, .unset, .unset, .unset, .unset] [])) t → Steps p.tables e below (s₁.setTop (entryFrame m #[(.int x0), (.int x1), (.int x2)] maxLocals)) t := fun t k => K572 t (st573 _ k)
  have K584 : ∀ t, Steps p.tables e below (T573.setTop (mkF m 124 #[.val (.int x0), .val (.int x1), .val (.int x2), .val (.int c0_442), .val (.int c1_442), .val (.int c2_442), .val (.int c3_442), .val (.ref b464), .val (.ref b527), .unset, .unset, .unset, .unset, .unset, .unset, .unset, .unset] [(.int (((x1.toUInt32 >>> ((8 : Int32) &&& 31).toUInt32).toInt32) &&& (3 : Int32))), (.int (4 : Int32)), (.ref b527)])) t → Steps p.tables e below (s₁.setTop (entryFrame m #[(.int x0), (.int x1), (.int x2)] maxLocals)) t := fun t k => K583 t (by
    show Steps p.tables e below (T573.setTop (mkF m 115 #[.val (.int x0), .val (.int x1), .val (.int x2), .val (.int c0_442), .val (.int c1_442), .val (.int c2_442), .val (.int c3_442), .val (.ref b464), .val (.ref b527), .unset, .unset, .unset, .unset, .unset, .unset, .unset, .unset] [])) t
    refine XS.aload X573.here hx rfl (hb hby at_115) rfl rfl ?_
    show Steps p.tables e below (T573.setTop (mkF m 117 #[.val (.int x0), .val (.int x1), .val (.int x2), .val (.int c0_442), .val (.int c1_442), .val (.int c2_442), .val (.int c3_442), .val (.ref b464), .val (.ref b527), .unset, .unset, .unset, .unset, .unset, .unset, .unset, .unset] [(.ref b527)])) t
    refine XS.iconst X573.here hx rfl (hb hby at_117) ?_
    show Steps p.tables e below (T573.setTop (mkF m 118 #[.val (.int x0), .val (.int x1), .val (.int x2), .val (.int c0_442), .val (.int c1_442), .val (.int c2_442), .val (.int c3_442), .val (.ref b464), .val (.ref b527), .unset, .unset, .unset, .unset, .unset, .unset, .unset, .unset] [(.int (4 : Int32)), (.ref b527)])) t
    refine XS.iloadN X573.here hx rfl (hb hby at_118) rfl ?_
    show Steps p.tables e below (T573.setTop (mkF m 119 #[.val (.int x0), .val (.int x1), .val (.int x2), .val (.int c0_442), .val (.int c1_442), .val (.int c2_442), .val (.int c3_442), .val (.ref b464), .val (.ref b527), .unset, .unset, .unset, .unset, .unset, .unset, .unset, .unset] [(.int x1), (.int (4 : Int32)), (.ref b527)])) t
    refine XS.bipush X573.here hx rfl (hb hby at_119) ?_
    show Steps p.tables e below (T573.setTop (mkF m 121 #[.val (.int x0), .val (.int x1), .val (.int x2), .val (.int c0_442), .val (.int c1_442), .val (.int c2_442), .val (.int c3_442), .val (.ref b464), .val (.ref b527), .unset, .unset, .unset, .unset, .unset, .unset, .unset, .unset] [(.int (8 : Int32)), (.int x1), (.int (4 : Int32)), (.ref b527)])) t
    refine XS.iushr X573.here hx rfl (hb hby at_121) rfl ?_
    show Steps p.tables e below (T573.setTop (mkF m 122 #[.val (.int x0), .val (.int x1), .val (.int x2), .val (.int c0_442), .val (.int c1_442), .val (.int c2_442), .val (.int c3_442), .val (.ref b464), .val (.ref b527), .unset, .unset, .unset, .unset, .unset, .unset, .unset, .unset] [(.int ((x1.toUInt32 >>> ((8 : Int32) &&& 31).toUInt32).toInt32)), (.int (4 : Int32)), (.ref b527)])) t
    refine XS.iconst X573.here hx rfl (hb hby at_122) ?_
    show Steps p.tables e below (T573.setTop (mkF m 123 #[.val (.int x0), .val (.int x1), .val (.int x2), .val (.int c0_442), .val (.int c1_442), .val (.int c2_442), .val (.int c3_442), .val (.ref b464), .val (.ref b527), .unset, .unset, .unset, .unset, .unset, .unset, .unset, .unset] [(.int (3 : Int32)), (.int ((x1.toUInt32 >>> ((8 : Int32) &&& 31).toUInt32).toInt32)), (.int (4 : Int32)), (.ref b527)])) t
    refine XS.iand X573.here hx rfl (hb hby at_123) rfl ?_
    exact k)
  have q586 : ¬ (4 : Int32) < 0 ∧ (4 : Int32) < (12 : Int32) := by
    have q587 := (by decide : (4 : Int32).toInt = 4)
    have q588 := (by decide : (12 : Int32).toInt = 12)
    rw [Int32.lt_iff_toInt_lt, Int32.lt_iff_toInt_lt]; have q0 : (0 : Int32).toInt = 0 := rfl; omega
  obtain ⟨cl585, Ar585, S585, N585, Hs585⟩ := id V577
  have hin585 : ¬ ((4 : Int32) < 0 ∨ cl585.slots.size ≤ ((4 : Int32)).toNatClampNeg) := inb_of S585 q586
  obtain ⟨T585, h585, X585, e585, W585, st585⟩ := stI X573 hx hZ e573 Ar585 (j := (4 : Int32)) hin585 (g := (mkF m 124 #[.val (.int x0), .val (.int x1), .val (.int x2), .val (.int c0_442), .val (.int c1_442), .val (.int c2_442), .val (.int c3_442), .val (.ref b464), .val (.ref b527), .unset, .unset, .unset, .unset, .unset, .unset, .unset, .unset] [(.int (((x1.toUInt32 >>> ((8 : Int32) &&& 31).toUInt32).toInt32) &&& (3 : Int32))), (.int (4 : Int32)), (.ref b527)])) rfl rfl (hb hby at_124)
  obtain ⟨f590, hf590⟩ : ∃ fnew : Nat → Int32, fnew = fun i => if i = 4 then (((x1.toUInt32 >>> ((8 : Int32) &&& 31).toUInt32).toInt32) &&& (3 : Int32)) else f578 i := ⟨_, rfl⟩
  have V589 : own_Arf Z h585 b527 .int (12 : Int32) f590 := own_Arf.set Ar585 S585 N585 Hs585 W585 rfl hf590
  have Kp591 : Keep h0 h585 [] := Keep.wr Kp579 W585 (Or.inr sb530)
  have Z592 : own_Le n0 h585.size := Nat.le_trans Z580 (Keep.of_wr W585).1
  have N593 := Fr.snoc X585 N581 gb529
  have F594 := F582.other W585 ne528
  have K595 : ∀ t, Steps p.tables e below (T585.setTop (mkF m 125 #[.val (.int x0), .val (.int x1), .val (.int x2), .val (.int c0_442), .val (.int c1_442), .val (.int c2_442), .val (.int c3_442), .val (.ref b464), .val (.ref b527), .unset, .unset, .unset, .unset, .unset, .unset, .unset, .unset] [])) t → Steps p.tables e below (s₁.setTop (entryFrame m #[(.int x0), (.int x1), (.int x2)] maxLocals)) t := fun t k => K584 t (st585 _ k)
  have K596 : ∀ t, Steps p.tables e below (T585.setTop (mkF m 134 #[.val (.int x0), .val (.int x1), .val (.int x2), .val (.int c0_442), .val (.int c1_442), .val (.int c2_442), .val (.int c3_442), .val (.ref b464), .val (.ref b527), .unset, .unset, .unset, .unset, .unset, .unset, .unset, .unset] [(.int (((x1.toUInt32 >>> ((10 : Int32) &&& 31).toUInt32).toInt32) &&& (3 : Int32))), (.int (5 : Int32)), (.ref b527)])) t → Steps p.tables e below (s₁.setTop (entryFrame m #[(.int x0), (.int x1), (.int x2)] maxLocals)) t := fun t k => K595 t (by
    show Steps p.tables e below (T585.setTop (mkF m 125 #[.val (.int x0), .val (.int x1), .val (.int x2), .val (.int c0_442), .val (.int c1_442), .val (.int c2_442), .val (.int c3_442), .val (.ref b464), .val (.ref b527), .unset, .unset, .unset, .unset, .unset, .unset, .unset, .unset] [])) t
    refine XS.aload X585.here hx rfl (hb hby at_125) rfl rfl ?_
    show Steps p.tables e below (T585.setTop (mkF m 127 #[.val (.int x0), .val (.int x1), .val (.int x2), .val (.int c0_442), .val (.int c1_442), .val (.int c2_442), .val (.int c3_442), .val (.ref b464), .val (.ref b527), .unset, .unset, .unset, .unset, .unset, .unset, .unset, .unset] [(.ref b527)])) t
    refine XS.iconst X585.here hx rfl (hb hby at_127) ?_
    show Steps p.tables e below (T585.setTop (mkF m 128 #[.val (.int x0), .val (.int x1), .val (.int x2), .val (.int c0_442), .val (.int c1_442), .val (.int c2_442), .val (.int c3_442), .val (.ref b464), .val (.ref b527), .unset, .unset, .unset, .unset, .unset, .unset, .unset, .unset] [(.int (5 : Int32)), (.ref b527)])) t
    refine XS.iloadN X585.here hx rfl (hb hby at_128) rfl ?_
    show Steps p.tables e below (T585.setTop (mkF m 129 #[.val (.int x0), .val (.int x1), .val (.int x2), .val (.int c0_442), .val (.int c1_442), .val (.int c2_442), .val (.int c3_442), .val (.ref b464), .val (.ref b527), .unset, .unset, .unset, .unset, .unset, .unset, .unset, .unset] [(.int x1), (.int (5 : Int32)), (.ref b527)])) t
    refine XS.bipush X585.here hx rfl (hb hby at_129) ?_
    show Steps p.tables e below (T585.setTop (mkF m 131 #[.val (.int x0), .val (.int x1), .val (.int x2), .val (.int c0_442), .val (.int c1_442), .val (.int c2_442), .val (.int c3_442), .val (.ref b464), .val (.ref b527), .unset, .unset, .unset, .unset, .unset, .unset, .unset, .unset] [(.int (10 : Int32)), (.int x1), (.int (5 : Int32)), (.ref b527)])) t
    refine XS.iushr X585.here hx rfl (hb hby at_131) rfl ?_
    show Steps p.tables e below (T585.setTop (mkF m 132 #[.val (.int x0), .val (.int x1), .val (.int x2), .val (.int c0_442), .val (.int c1_442), .val (.int c2_442), .val (.int c3_442), .val (.ref b464), .val (.ref b527), .unset, .unset, .unset, .unset, .unset, .unset, .unset, .unset] [(.int ((x1.toUInt32 >>> ((10 : Int32) &&& 31).toUInt32).toInt32)), (.int (5 : Int32)), (.ref b527)])) t
    refine XS.iconst X585.here hx rfl (hb hby at_132) ?_
    show Steps p.tables e below (T585.setTop (mkF m 133 #[.val (.int x0), .val (.int x1), .val (.int x2), .val (.int c0_442), .val (.int c1_442), .val (.int c2_442), .val (.int c3_442), .val (.ref b464), .val (.ref b527), .unset, .unset, .unset, .unset, .unset, .unset, .unset, .unset] [(.int (3 : Int32)), (.int ((x1.toUInt32 >>> ((10 : Int32) &&& 31).toUInt32).toInt32)), (.int (5 : Int32)), (.ref b527)])) t
    refine XS.iand X585.here hx rfl (hb hby at_133) rfl ?_
    exact k)
  have q598 : ¬ (5 : Int32) < 0 ∧ (5 : Int32) < (12 : Int32) := by
    have q599 := (by decide : (5 : Int32).toInt = 5)
    have q600 := (by decide : (12 : Int32).toInt = 12)
    rw [Int32.lt_iff_toInt_lt, Int32.lt_iff_toInt_lt]; have q0 : (0 : Int32).toInt = 0 := rfl; omega
  obtain ⟨cl597, Ar597, S597, N597, Hs597⟩ := id V589
  have hin597 : ¬ ((5 : Int32) < 0 ∨ cl597.slots.size ≤ ((5 : Int32)).toNatClampNeg) := inb_of S597 q598
  obtain ⟨T597, h597, X597, e597, W597, st597⟩ := stI X585 hx hZ e585 Ar597 (j := (5 : Int32)) hin597 (g := (mkF m 134 #[.val (.int x0), .val (.int x1), .val (.int x2), .val (.int c0_442), .val (.int c1_442), .val (.int c2_442), .val (.int c3_442), .val (.ref b464), .val (.ref b527), .unset, .unset, .unset, .unset, .unset, .unset, .unset, .unset] [(.int (((x1.toUInt32 >>> ((10 : Int32) &&& 31).toUInt32).toInt32) &&& (3 : Int32))), (.int (5 : Int32)), (.ref b527)])) rfl rfl (hb hby at_134)
  obtain ⟨f602, hf602⟩ : ∃ fnew : Nat → Int32, fnew = fun i => if i = 5 then (((x1.toUInt32 >>> ((10 : Int32) &&& 31).toUInt32).toInt32) &&& (3 : Int32)) else f590 i := ⟨_, rfl⟩
  have V601 : own_Arf Z h597 b527 .int (12 : Int32) f602 := own_Arf.set Ar597 S597 N597 Hs597 W597 rfl hf602
  have Kp603 : Keep h0 h597 [] := Keep.wr Kp591 W597 (Or.inr sb530)
  have Z604 : own_Le n0 h597.size := Nat.le_trans Z592 (Keep.of_wr W597).1
  have N605 := Fr.snoc X597 N593 gb529
  have F606 := F594.other W597 ne528
  have K607 : ∀ t, Steps p.tables e below (T597.setTop (mkF m 135 #[.val (.int x0), .val (.int x1), .val (.int x2), .val (.int c0_442), .val (.int c1_442), .val (.int c2_442), .val (.int c3_442), .val (.ref b464), .val (.ref b527), .unset, .unset, .unset, .unset, .unset, .unset, .unset, .unset] [])) t → Steps p.tables e below (s₁.setTop (entryFrame m #[(.int x0), (.int x1), (.int x2)] maxLocals)) t := fun t k => K596 t (st597 _ k)
  have K608 : ∀ t, Steps p.tables e below (T597.setTop (mkF m 145 #[.val (.int x0), .val (.int x1), .val (.int x2), .val (.int c0_442), .val (.int c1_442), .val (.int c2_442), .val (.int c3_442), .val (.ref b464), .val (.ref b527), .unset, .unset, .unset, .unset, .unset, .unset, .unset, .unset] [(.int (((x1.toUInt32 >>> ((12 : Int32) &&& 31).toUInt32).toInt32) &&& (3 : Int32))), (.int (6 : Int32)), (.ref b527)])) t → Steps p.tables e below (s₁.setTop (entryFrame m #[(.int x0), (.int x1), (.int x2)] maxLocals)) t := fun t k => K607 t (by
    show Steps p.tables e below (T597.setTop (mkF m 135 #[.val (.int x0), .val (.int x1), .val (.int x2), .val (.int c0_442), .val (.int c1_442), .val (.int c2_442), .val (.int c3_442), .val (.ref b464), .val (.ref b527), .unset, .unset, .unset, .unset, .unset, .unset, .unset, .unset] [])) t
    refine XS.aload X597.here hx rfl (hb hby at_135) rfl rfl ?_
    show Steps p.tables e below (T597.setTop (mkF m 137 #[.val (.int x0), .val (.int x1), .val (.int x2), .val (.int c0_442), .val (.int c1_442), .val (.int c2_442), .val (.int c3_442), .val (.ref b464), .val (.ref b527), .unset, .unset, .unset, .unset, .unset, .unset, .unset, .unset] [(.ref b527)])) t
    refine XS.bipush X597.here hx rfl (hb hby at_137) ?_
    show Steps p.tables e below (T597.setTop (mkF m 139 #[.val (.int x0), .val (.int x1), .val (.int x2), .val (.int c0_442), .val (.int c1_442), .val (.int c2_442), .val (.int c3_442), .val (.ref b464), .val (.ref b527), .unset, .unset, .unset, .unset, .unset, .unset, .unset, .unset] [(.int (6 : Int32)), (.ref b527)])) t
    refine XS.iloadN X597.here hx rfl (hb hby at_139) rfl ?_
    show Steps p.tables e below (T597.setTop (mkF m 140 #[.val (.int x0), .val (.int x1), .val (.int x2), .val (.int c0_442), .val (.int c1_442), .val (.int c2_442), .val (.int c3_442), .val (.ref b464), .val (.ref b527), .unset, .unset, .unset, .unset, .unset, .unset, .unset, .unset] [(.int x1), (.int (6 : Int32)), (.ref b527)])) t
    refine XS.bipush X597.here hx rfl (hb hby at_140) ?_
    show Steps p.tables e below (T597.setTop (mkF m 142 #[.val (.int x0), .val (.int x1), .val (.int x2), .val (.int c0_442), .val (.int c1_442), .val (.int c2_442), .val (.int c3_442), .val (.ref b464), .val (.ref b527), .unset, .unset, .unset, .unset, .unset, .unset, .unset, .unset] [(.int (12 : Int32)), (.int x1), (.int (6 : Int32)), (.ref b527)])) t
    refine XS.iushr X597.here hx rfl (hb hby at_142) rfl ?_
    show Steps p.tables e below (T597.setTop (mkF m 143 #[.val (.int x0), .val (.int x1), .val (.int x2), .val (.int c0_442), .val (.int c1_442), .val (.int c2_442), .val (.int c3_442), .val (.ref b464), .val (.ref b527), .unset, .unset, .unset, .unset, .unset, .unset, .unset, .unset] [(.int ((x1.toUInt32 >>> ((12 : Int32) &&& 31).toUInt32).toInt32)), (.int (6 : Int32)), (.ref b527)])) t
    refine XS.iconst X597.here hx rfl (hb hby at_143) ?_
    show Steps p.tables e below (T597.setTop (mkF m 144 #[.val (.int x0), .val (.int x1), .val (.int x2), .val (.int c0_442), .val (.int c1_442), .val (.int c2_442), .val (.int c3_442), .val (.ref b464), .val (.ref b527), .unset, .unset, .unset, .unset, .unset, .unset, .unset, .unset] [(.int (3 : Int32)), (.int ((x1.toUInt32 >>> ((12 : Int32) &&& 31).toUInt32).toInt32)), (.int (6 : Int32)), (.ref b527)])) t
    refine XS.iand X597.here hx rfl (hb hby at_144) rfl ?_
    exact k)
  have q610 : ¬ (6 : Int32) < 0 ∧ (6 : Int32) < (12 : Int32) := by
    have q611 := (by decide : (6 : Int32).toInt = 6)
    have q612 := (by decide : (12 : Int32).toInt = 12)
    rw [Int32.lt_iff_toInt_lt, Int32.lt_iff_toInt_lt]; have q0 : (0 : Int32).toInt = 0 := rfl; omega
  obtain ⟨cl609, Ar609, S609, N609, Hs609⟩ := id V601
  have hin609 : ¬ ((6 : Int32) < 0 ∨ cl609.slots.size ≤ ((6 : Int32)).toNatClampNeg) := inb_of S609 q610
  obtain ⟨T609, h609, X609, e609, W609, st609⟩ := stI X597 hx hZ e597 Ar609 (j := (6 : Int32)) hin609 (g := (mkF m 145 #[.val (.int x0), .val (.int x1), .val (.int x2), .val (.int c0_442), .val (.int c1_442), .val (.int c2_442), .val (.int c3_442), .val (.ref b464), .val (.ref b527), .unset, .unset, .unset, .unset, .unset, .unset, .unset, .unset] [(.int (((x1.toUInt32 >>> ((12 : Int32) &&& 31).toUInt32).toInt32) &&& (3 : Int32))), (.int (6 : Int32)), (.ref b527)])) rfl rfl (hb hby at_145)
  obtain ⟨f614, hf614⟩ : ∃ fnew : Nat → Int32, fnew = fun i => if i = 6 then (((x1.toUInt32 >>> ((12 : Int32) &&& 31).toUInt32).toInt32) &&& (3 : Int32)) else f602 i := ⟨_, rfl⟩
  have V613 : own_Arf Z h609 b527 .int (12 : Int32) f614 := own_Arf.set Ar609 S609 N609 Hs609 W609 rfl hf614
  have Kp615 : Keep h0 h609 [] := Keep.wr Kp603 W609 (Or.inr sb530)
  have Z616 : own_Le n0 h609.size := Nat.le_trans Z604 (Keep.of_wr W609).1
  have N617 := Fr.snoc X609 N605 gb529
  have F618 := F606.other W609 ne528
  have K619 : ∀ t, Steps p.tables e below (T609.setTop (mkF m 146 #[.val (.int x0), .val (.int x1), .val (.int x2), .val (.int c0_442), .val (.int c1_442), .val (.int c2_442), .val (.int c3_442), .val (.ref b464), .val (.ref b527), .unset, .unset, .unset, .unset, .unset, .unset, .unset, .unset] [])) t → Steps p.tables e below (s₁.setTop (entryFrame m #[(.int x0), (.int x1), (.int x2)] maxLocals)) t := fun t k => K608 t (st609 _ k)
  have K620 : ∀ t, Steps p.tables e below (T609.setTop (mkF m 156 #[.val (.int x0), .val (.int x1), .val (.int x2), .val (.int c0_442), .val (.int c1_442), .val (.int c2_442), .val (.int c3_442), .val (.ref b464), .val (.ref b527), .unset, .unset, .unset, .unset, .unset, .unset, .unset, .unset] [(.int (((x1.toUInt32 >>> ((14 : Int32) &&& 31).toUInt32).toInt32) &&& (3 : Int32))), (.int (7 : Int32)), (.ref b527)])) t → Steps p.tables e below (s₁.setTop (entryFrame m #[(.int x0), (.int x1), (.int x2)] maxLocals)) t := fun t k => K619 t (by
    show Steps p.tables e below (T609.setTop (mkF m 146 #[.val (.int x0), .val (.int x1), .val (.int x2), .val (.int c0_442), .val (.int c1_442), .val (.int c2_442), .val (.int c3_442), .val (.ref b464), .val (.ref b527), .unset, .unset, .unset, .unset, .unset, .unset, .unset, .unset] [])) t
    refine XS.aload X609.here hx rfl (hb hby at_146) rfl rfl ?_
    show Steps p.tables e below (T609.setTop (mkF m 148 #[.val (.int x0), .val (.int x1), .val (.int x2), .val (.int c0_442), .val (.int c1_442), .val (.int c2_442), .val (.int c3_442), .val (.ref b464), .val (.ref b527), .unset, .unset, .unset, .unset, .unset, .unset, .unset, .unset] [(.ref b527)])) t
    refine XS.bipush X609.here hx rfl (hb hby at_148) ?_
    show Steps p.tables e below (T609.setTop (mkF m 150 #[.val (.int x0), .val (.int x1), .val (.int x2), .val (.int c0_442), .val (.int c1_442), .val (.int c2_442), .val (.int c3_442), .val (.ref b464), .val (.ref b527), .unset, .unset, .unset, .unset, .unset, .unset, .unset, .unset] [(.int (7 : Int32)), (.ref b527)])) t
    refine XS.iloadN X609.here hx rfl (hb hby at_150) rfl ?_
    show Steps p.tables e below (T609.setTop (mkF m 151 #[.val (.int x0), .val (.int x1), .val (.int x2), .val (.int c0_442), .val (.int c1_442), .val (.int c2_442), .val (.int c3_442), .val (.ref b464), .val (.ref b527), .unset, .unset, .unset, .unset, .unset, .unset, .unset, .unset] [(.int x1), (.int (7 : Int32)), (.ref b527)])) t
    refine XS.bipush X609.here hx rfl (hb hby at_151) ?_
    show Steps p.tables e below (T609.setTop (mkF m 153 #[.val (.int x0), .val (.int x1), .val (.int x2), .val (.int c0_442), .val (.int c1_442), .val (.int c2_442), .val (.int c3_442), .val (.ref b464), .val (.ref b527), .unset, .unset, .unset, .unset, .unset, .unset, .unset, .unset] [(.int (14 : Int32)), (.int x1), (.int (7 : Int32)), (.ref b527)])) t
    refine XS.iushr X609.here hx rfl (hb hby at_153) rfl ?_
    show Steps p.tables e below (T609.setTop (mkF m 154 #[.val (.int x0), .val (.int x1), .val (.int x2), .val (.int c0_442), .val (.int c1_442), .val (.int c2_442), .val (.int c3_442), .val (.ref b464), .val (.ref b527), .unset, .unset, .unset, .unset, .unset, .unset, .unset, .unset] [(.int ((x1.toUInt32 >>> ((14 : Int32) &&& 31).toUInt32).toInt32)), (.int (7 : Int32)), (.ref b527)])) t
    refine XS.iconst X609.here hx rfl (hb hby at_154) ?_
    show Steps p.tables e below (T609.setTop (mkF m 155 #[.val (.int x0), .val (.int x1), .val (.int x2), .val (.int c0_442), .val (.int c1_442), .val (.int c2_442), .val (.int c3_442), .val (.ref b464), .val (.ref b527), .unset, .unset, .unset, .unset, .unset, .unset, .unset, .unset] [(.int (3 : Int32)), (.int ((x1.toUInt32 >>> ((14 : Int32) &&& 31).toUInt32).toInt32)), (.int (7 : Int32)), (.ref b527)])) t
    refine XS.iand X609.here hx rfl (hb hby at_155) rfl ?_
    exact k)
  have q622 : ¬ (7 : Int32) < 0 ∧ (7 : Int32) < (12 : Int32) := by
    have q623 := (by decide : (7 : Int32).toInt = 7)
    have q624 := (by decide : (12 : Int32).toInt = 12)
    rw [Int32.lt_iff_toInt_lt, Int32.lt_iff_toInt_lt]; have q0 : (0 : Int32).toInt = 0 := rfl; omega
  obtain ⟨cl621, Ar621, S621, N621, Hs621⟩ := id V613
  have hin621 : ¬ ((7 : Int32) < 0 ∨ cl621.slots.size ≤ ((7 : Int32)).toNatClampNeg) := inb_of S621 q622
  obtain ⟨T621, h621, X621, e621, W621, st621⟩ := stI X609 hx hZ e609 Ar621 (j := (7 : Int32)) hin621 (g := (mkF m 156 #[.val (.int x0), .val (.int x1), .val (.int x2), .val (.int c0_442), .val (.int c1_442), .val (.int c2_442), .val (.int c3_442), .val (.ref b464), .val (.ref b527), .unset, .unset, .unset, .unset, .unset, .unset, .unset, .unset] [(.int (((x1.toUInt32 >>> ((14 : Int32) &&& 31).toUInt32).toInt32) &&& (3 : Int32))), (.int (7 : Int32)), (.ref b527)])) rfl rfl (hb hby at_156)
  obtain ⟨f626, hf626⟩ : ∃ fnew : Nat → Int32, fnew = fun i => if i = 7 then (((x1.toUInt32 >>> ((14 : Int32) &&& 31).toUInt32).toInt32) &&& (3 : Int32)) else f614 i := ⟨_, rfl⟩
  have V625 : own_Arf Z h621 b527 .int (12 : Int32) f626 := own_Arf.set Ar621 S621 N621 Hs621 W621 rfl hf626
  have Kp627 : Keep h0 h621 [] := Keep.wr Kp615 W621 (Or.inr sb530)
  have Z628 : own_Le n0 h621.size := Nat.le_trans Z616 (Keep.of_wr W621).1
  have N629 := Fr.snoc X621 N617 gb529
  have F630 := F618.other W621 ne528
  have K631 : ∀ t, Steps p.tables e below (T621.setTop (mkF m 157 #[.val (.int x0), .val (.int x1), .val (.int x2), .val (.int c0_442), .val (.int c1_442), .val (.int c2_442), .val (.int c3_442), .val (.ref b464), .val (.ref b527), .unset, .unset, .unset, .unset, .unset, .unset, .unset, .unset] [])) t → Steps p.tables e below (s₁.setTop (entryFrame m #[(.int x0), (.int x1), (.int x2)] maxLocals)) t := fun t k => K620 t (st621 _ k)
  have K632 : ∀ t, Steps p.tables e below (T621.setTop (mkF m 167 #[.val (.int x0), .val (.int x1), .val (.int x2), .val (.int c0_442), .val (.int c1_442), .val (.int c2_442), .val (.int c3_442), .val (.ref b464), .val (.ref b527), .unset, .unset, .unset, .unset, .unset, .unset, .unset, .unset] [(.int (((x1.toUInt32 >>> ((16 : Int32) &&& 31).toUInt32).toInt32) &&& (3 : Int32))), (.int (8 : Int32)), (.ref b527)])) t → Steps p.tables e below (s₁.setTop (entryFrame m #[(.int x0), (.int x1), (.int x2)] maxLocals)) t := fun t k => K631 t (by
    show Steps p.tables e below (T621.setTop (mkF m 157 #[.val (.int x0), .val (.int x1), .val (.int x2), .val (.int c0_442), .val (.int c1_442), .val (.int c2_442), .val (.int c3_442), .val (.ref b464), .val (.ref b527), .unset, .unset, .unset, .unset, .unset, .unset, .unset, .unset] [])) t
    refine XS.aload X621.here hx rfl (hb hby at_157) rfl rfl ?_
    show Steps p.tables e below (T621.setTop (mkF m 159 #[.val (.int x0), .val (.int x1), .val (.int x2), .val (.int c0_442), .val (.int c1_442), .val (.int c2_442), .val (.int c3_442), .val (.ref b464), .val (.ref b527), .unset, .unset, .unset, .unset, .unset, .unset, .unset, .unset] [(.ref b527)])) t
    refine XS.bipush X621.here hx rfl (hb hby at_159) ?_
    show Steps p.tables e below (T621.setTop (mkF m 161 #[.val (.int x0), .val (.int x1), .val (.int x2), .val (.int c0_442), .val (.int c1_442), .val (.int c2_442), .val (.int c3_442), .val (.ref b464), .val (.ref b527), .unset, .unset, .unset, .unset, .unset, .unset, .unset, .unset] [(.int (8 : Int32)), (.ref b527)])) t
    refine XS.iloadN X621.here hx rfl (hb hby at_161) rfl ?_
    show Steps p.tables e below (T621.setTop (mkF m 162 #[.val (.int x0), .val (.int x1), .val (.int x2), .val (.int c0_442), .val (.int c1_442), .val (.int c2_442), .val (.int c3_442), .val (.ref b464), .val (.ref b527), .unset, .unset, .unset, .unset, .unset, .unset, .unset, .unset] [(.int x1), (.int (8 : Int32)), (.ref b527)])) t
    refine XS.bipush X621.here hx rfl (hb hby at_162) ?_
    show Steps p.tables e below (T621.setTop (mkF m 164 #[.val (.int x0), .val (.int x1), .val (.int x2), .val (.int c0_442), .val (.int c1_442), .val (.int c2_442), .val (.int c3_442), .val (.ref b464), .val (.ref b527), .unset, .unset, .unset, .unset, .unset, .unset, .unset, .unset] [(.int (16 : Int32)), (.int x1), (.int (8 : Int32)), (.ref b527)])) t
    refine XS.iushr X621.here hx rfl (hb hby at_164) rfl ?_
    show Steps p.tables e below (T621.setTop (mkF m 165 #[.val (.int x0), .val (.int x1), .val (.int x2), .val (.int c0_442), .val (.int c1_442), .val (.int c2_442), .val (.int c3_442), .val (.ref b464), .val (.ref b527), .unset, .unset, .unset, .unset, .unset, .unset, .unset, .unset] [(.int ((x1.toUInt32 >>> ((16 : Int32) &&& 31).toUInt32).toInt32)), (.int (8 : Int32)), (.ref b527)])) t
    refine XS.iconst X621.here hx rfl (hb hby at_165) ?_
    show Steps p.tables e below (T621.setTop (mkF m 166 #[.val (.int x0), .val (.int x1), .val (.int x2), .val (.int c0_442), .val (.int c1_442), .val (.int c2_442), .val (.int c3_442), .val (.ref b464), .val (.ref b527), .unset, .unset, .unset, .unset, .unset, .unset, .unset, .unset] [(.int (3 : Int32)), (.int ((x1.toUInt32 >>> ((16 : Int32) &&& 31).toUInt32).toInt32)), (.int (8 : Int32)), (.ref b527)])) t
    refine XS.iand X621.here hx rfl (hb hby at_166) rfl ?_
    exact k)
  have q634 : ¬ (8 : Int32) < 0 ∧ (8 : Int32) < (12 : Int32) := by
    have q635 := (by decide : (8 : Int32).toInt = 8)
    have q636 := (by decide : (12 : Int32).toInt = 12)
    rw [Int32.lt_iff_toInt_lt, Int32.lt_iff_toInt_lt]; have q0 : (0 : Int32).toInt = 0 := rfl; omega
  obtain ⟨cl633, Ar633, S633, N633, Hs633⟩ := id V625
  have hin633 : ¬ ((8 : Int32) < 0 ∨ cl633.slots.size ≤ ((8 : Int32)).toNatClampNeg) := inb_of S633 q634
  obtain ⟨T633, h633, X633, e633, W633, st633⟩ := stI X621 hx hZ e621 Ar633 (j := (8 : Int32)) hin633 (g := (mkF m 167 #[.val (.int x0), .val (.int x1), .val (.int x2), .val (.int c0_442), .val (.int c1_442), .val (.int c2_442), .val (.int c3_442), .val (.ref b464), .val (.ref b527), .unset, .unset, .unset, .unset, .unset, .unset, .unset, .unset] [(.int (((x1.toUInt32 >>> ((16 : Int32) &&& 31).toUInt32).toInt32) &&& (3 : Int32))), (.int (8 : Int32)), (.ref b527)])) rfl rfl (hb hby at_167)
  obtain ⟨f638, hf638⟩ : ∃ fnew : Nat → Int32, fnew = fun i => if i = 8 then (((x1.toUInt32 >>> ((16 : Int32) &&& 31).toUInt32).toInt32) &&& (3 : Int32)) else f626 i := ⟨_, rfl⟩
  have V637 : own_Arf Z h633 b527 .int (12 : Int32) f638 := own_Arf.set Ar633 S633 N633 Hs633 W633 rfl hf638
  have Kp639 : Keep h0 h633 [] := Keep.wr Kp627 W633 (Or.inr sb530)
  have Z640 : own_Le n0 h633.size := Nat.le_trans Z628 (Keep.of_wr W633).1
  have N641 := Fr.snoc X633 N629 gb529
  have F642 := F630.other W633 ne528
  have K643 : ∀ t, Steps p.tables e below (T633.setTop (mkF m 168 #[.val (.int x0), .val (.int x1), .val (.int x2), .val (.int c0_442), .val (.int c1_442), .val (.int c2_442), .val (.int c3_442), .val (.ref b464), .val (.ref b527), .unset, .unset, .unset, .unset, .unset, .unset, .unset, .unset] [])) t → Steps p.tables e below (s₁.setTop (entryFrame m #[(.int x0), (.int x1), (.int x2)] maxLocals)) t := fun t k => K632 t (st633 _ k)
  have K644 : ∀ t, Steps p.tables e below (T633.setTop (mkF m 178 #[.val (.int x0), .val (.int x1), .val (.int x2), .val (.int c0_442), .val (.int c1_442), .val (.int c2_442), .val (.int c3_442), .val (.ref b464), .val (.ref b527), .unset, .unset, .unset, .unset, .unset, .unset, .unset, .unset] [(.int (((x1.toUInt32 >>> ((18 : Int32) &&& 31).toUInt32).toInt32) &&& (3 : Int32))), (.int (9 : Int32)), (.ref b527)])) t → Steps p.tables e below (s₁.setTop (entryFrame m #[(.int x0), (.int x1), (.int x2)] maxLocals)) t := fun t k => K643 t (by
    show Steps p.tables e below (T633.setTop (mkF m 168 #[.val (.int x0), .val (.int x1), .val (.int x2), .val (.int c0_442), .val (.int c1_442), .val (.int c2_442), .val (.int c3_442), .val (.ref b464), .val (.ref b527), .unset, .unset, .unset, .unset, .unset, .unset, .unset, .unset] [])) t
    refine XS.aload X633.here hx rfl (hb hby at_168) rfl rfl ?_
    show Steps p.tables e below (T633.setTop (mkF m 170 #[.val (.int x0), .val (.int x1), .val (.int x2), .val (.int c0_442), .val (.int c1_442), .val (.int c2_442), .val (.int c3_442), .val (.ref b464), .val (.ref b527), .unset, .unset, .unset, .unset, .unset, .unset, .unset, .unset] [(.ref b527)])) t
    refine XS.bipush X633.here hx rfl (hb hby at_170) ?_
    show Steps p.tables e below (T633.setTop (mkF m 172 #[.val (.int x0), .val (.int x1), .val (.int x2), .val (.int c0_442), .val (.int c1_442), .val (.int c2_442), .val (.int c3_442), .val (.ref b464), .val (.ref b527), .unset, .unset, .unset, .unset, .unset, .unset, .unset, .unset] [(.int (9 : Int32)), (.ref b527)])) t
    refine XS.iloadN X633.here hx rfl (hb hby at_172) rfl ?_
    show Steps p.tables e below (T633.setTop (mkF m 173 #[.val (.int x0), .val (.int x1), .val (.int x2), .val (.int c0_442), .val (.int c1_442), .val (.int c2_442), .val (.int c3_442), .val (.ref b464), .val (.ref b527), .unset, .unset, .unset, .unset, .unset, .unset, .unset, .unset] [(.int x1), (.int (9 : Int32)), (.ref b527)])) t
    refine XS.bipush X633.here hx rfl (hb hby at_173) ?_
    show Steps p.tables e below (T633.setTop (mkF m 175 #[.val (.int x0), .val (.int x1), .val (.int x2), .val (.int c0_442), .val (.int c1_442), .val (.int c2_442), .val (.int c3_442), .val (.ref b464), .val (.ref b527), .unset, .unset, .unset, .unset, .unset, .unset, .unset, .unset] [(.int (18 : Int32)), (.int x1), (.int (9 : Int32)), (.ref b527)])) t
    refine XS.iushr X633.here hx rfl (hb hby at_175) rfl ?_
    show Steps p.tables e below (T633.setTop (mkF m 176 #[.val (.int x0), .val (.int x1), .val (.int x2), .val (.int c0_442), .val (.int c1_442), .val (.int c2_442), .val (.int c3_442), .val (.ref b464), .val (.ref b527), .unset, .unset, .unset, .unset, .unset, .unset, .unset, .unset] [(.int ((x1.toUInt32 >>> ((18 : Int32) &&& 31).toUInt32).toInt32)), (.int (9 : Int32)), (.ref b527)])) t
    refine XS.iconst X633.here hx rfl (hb hby at_176) ?_
    show Steps p.tables e below (T633.setTop (mkF m 177 #[.val (.int x0), .val (.int x1), .val (.int x2), .val (.int c0_442), .val (.int c1_442), .val (.int c2_442), .val (.int c3_442), .val (.ref b464), .val (.ref b527), .unset, .unset, .unset, .unset, .unset, .unset, .unset, .unset] [(.int (3 : Int32)), (.int ((x1.toUInt32 >>> ((18 : Int32) &&& 31).toUInt32).toInt32)), (.int (9 : Int32)), (.ref b527)])) t
    refine XS.iand X633.here hx rfl (hb hby at_177) rfl ?_
    exact k)
  have q646 : ¬ (9 : Int32) < 0 ∧ (9 : Int32) < (12 : Int32) := by
    have q647 := (by decide : (9 : Int32).toInt = 9)
    have q648 := (by decide : (12 : Int32).toInt = 12)
    rw [Int32.lt_iff_toInt_lt, Int32.lt_iff_toInt_lt]; have q0 : (0 : Int32).toInt = 0 := rfl; omega
  obtain ⟨cl645, Ar645, S645, N645, Hs645⟩ := id V637
  have hin645 : ¬ ((9 : Int32) < 0 ∨ cl645.slots.size ≤ ((9 : Int32)).toNatClampNeg) := inb_of S645 q646
  obtain ⟨T645, h645, X645, e645, W645, st645⟩ := stI X633 hx hZ e633 Ar645 (j := (9 : Int32)) hin645 (g := (mkF m 178 #[.val (.int x0), .val (.int x1), .val (.int x2), .val (.int c0_442), .val (.int c1_442), .val (.int c2_442), .val (.int c3_442), .val (.ref b464), .val (.ref b527), .unset, .unset, .unset, .unset, .unset, .unset, .unset, .unset] [(.int (((x1.toUInt32 >>> ((18 : Int32) &&& 31).toUInt32).toInt32) &&& (3 : Int32))), (.int (9 : Int32)), (.ref b527)])) rfl rfl (hb hby at_178)
  obtain ⟨f650, hf650⟩ : ∃ fnew : Nat → Int32, fnew = fun i => if i = 9 then (((x1.toUInt32 >>> ((18 : Int32) &&& 31).toUInt32).toInt32) &&& (3 : Int32)) else f638 i := ⟨_, rfl⟩
  have V649 : own_Arf Z h645 b527 .int (12 : Int32) f650 := own_Arf.set Ar645 S645 N645 Hs645 W645 rfl hf650
  have Kp651 : Keep h0 h645 [] := Keep.wr Kp639 W645 (Or.inr sb530)
  have Z652 : own_Le n0 h645.size := Nat.le_trans Z640 (Keep.of_wr W645).1
  have N653 := Fr.snoc X645 N641 gb529
  have F654 := F642.other W645 ne528
  have K655 : ∀ t, Steps p.tables e below (T645.setTop (mkF m 179 #[.val (.int x0), .val (.int x1), .val (.int x2), .val (.int c0_442), .val (.int c1_442), .val (.int c2_442), .val (.int c3_442), .val (.ref b464), .val (.ref b527), .unset, .unset, .unset, .unset, .unset, .unset, .unset, .unset] [])) t → Steps p.tables e below (s₁.setTop (entryFrame m #[(.int x0), (.int x1), (.int x2)] maxLocals)) t := fun t k => K644 t (st645 _ k)
  have K656 : ∀ t, Steps p.tables e below (T645.setTop (mkF m 189 #[.val (.int x0), .val (.int x1), .val (.int x2), .val (.int c0_442), .val (.int c1_442), .val (.int c2_442), .val (.int c3_442), .val (.ref b464), .val (.ref b527), .unset, .unset, .unset, .unset, .unset, .unset, .unset, .unset] [(.int (((x1.toUInt32 >>> ((20 : Int32) &&& 31).toUInt32).toInt32) &&& (3 : Int32))), (.int (10 : Int32)), (.ref b527)])) t → Steps p.tables e below (s₁.setTop (entryFrame m #[(.int x0), (.int x1), (.int x2)] maxLocals)) t := fun t k => K655 t (by
    show Steps p.tables e below (T645.setTop (mkF m 179 #[.val (.int x0), .val (.int x1), .val (.int x2), .val (.int c0_442), .val (.int c1_442), .val (.int c2_442), .val (.int c3_442), .val (.ref b464), .val (.ref b527), .unset, .unset, .unset, .unset, .unset, .unset, .unset, .unset] [])) t
    refine XS.aload X645.here hx rfl (hb hby at_179) rfl rfl ?_
    show Steps p.tables e below (T645.setTop (mkF m 181 #[.val (.int x0), .val (.int x1), .val (.int x2), .val (.int c0_442), .val (.int c1_442), .val (.int c2_442), .val (.int c3_442), .val (.ref b464), .val (.ref b527), .unset, .unset, .unset, .unset, .unset, .unset, .unset, .unset] [(.ref b527)])) t
    refine XS.bipush X645.here hx rfl (hb hby at_181) ?_
    show Steps p.tables e below (T645.setTop (mkF m 183 #[.val (.int x0), .val (.int x1), .val (.int x2), .val (.int c0_442), .val (.int c1_442), .val (.int c2_442), .val (.int c3_442), .val (.ref b464), .val (.ref b527), .unset, .unset, .unset, .unset, .unset, .unset, .unset, .unset] [(.int (10 : Int32)), (.ref b527)])) t
    refine XS.iloadN X645.here hx rfl (hb hby at_183) rfl ?_
    show Steps p.tables e below (T645.setTop (mkF m 184 #[.val (.int x0), .val (.int x1), .val (.int x2), .val (.int c0_442), .val (.int c1_442), .val (.int c2_442), .val (.int c3_442), .val (.ref b464), .val (.ref b527), .unset, .unset, .unset, .unset, .unset, .unset, .unset, .unset] [(.int x1), (.int (10 : Int32)), (.ref b527)])) t
    refine XS.bipush X645.here hx rfl (hb hby at_184) ?_
    show Steps p.tables e below (T645.setTop (mkF m 186 #[.val (.int x0), .val (.int x1), .val (.int x2), .val (.int c0_442), .val (.int c1_442), .val (.int c2_442), .val (.int c3_442), .val (.ref b464), .val (.ref b527), .unset, .unset, .unset, .unset, .unset, .unset, .unset, .unset] [(.int (20 : Int32)), (.int x1), (.int (10 : Int32)), (.ref b527)])) t
    refine XS.iushr X645.here hx rfl (hb hby at_186) rfl ?_
    show Steps p.tables e below (T645.setTop (mkF m 187 #[.val (.int x0), .val (.int x1), .val (.int x2), .val (.int c0_442), .val (.int c1_442), .val (.int c2_442), .val (.int c3_442), .val (.ref b464), .val (.ref b527), .unset, .unset, .unset, .unset, .unset, .unset, .unset, .unset] [(.int ((x1.toUInt32 >>> ((20 : Int32) &&& 31).toUInt32).toInt32)), (.int (10 : Int32)), (.ref b527)])) t
    refine XS.iconst X645.here hx rfl (hb hby at_187) ?_
    show Steps p.tables e below (T645.setTop (mkF m 188 #[.val (.int x0), .val (.int x1), .val (.int x2), .val (.int c0_442), .val (.int c1_442), .val (.int c2_442), .val (.int c3_442), .val (.ref b464), .val (.ref b527), .unset, .unset, .unset, .unset, .unset, .unset, .unset, .unset] [(.int (3 : Int32)), (.int ((x1.toUInt32 >>> ((20 : Int32) &&& 31).toUInt32).toInt32)), (.int (10 : Int32)), (.ref b527)])) t
    refine XS.iand X645.here hx rfl (hb hby at_188) rfl ?_
    exact k)
  have q658 : ¬ (10 : Int32) < 0 ∧ (10 : Int32) < (12 : Int32) := by
    have q659 := (by decide : (10 : Int32).toInt = 10)
    have q660 := (by decide : (12 : Int32).toInt = 12)
    rw [Int32.lt_iff_toInt_lt, Int32.lt_iff_toInt_lt]; have q0 : (0 : Int32).toInt = 0 := rfl; omega
  obtain ⟨cl657, Ar657, S657, N657, Hs657⟩ := id V649
  have hin657 : ¬ ((10 : Int32) < 0 ∨ cl657.slots.size ≤ ((10 : Int32)).toNatClampNeg) := inb_of S657 q658
  obtain ⟨T657, h657, X657, e657, W657, st657⟩ := stI X645 hx hZ e645 Ar657 (j := (10 : Int32)) hin657 (g := (mkF m 189 #[.val (.int x0), .val (.int x1), .val (.int x2), .val (.int c0_442), .val (.int c1_442), .val (.int c2_442), .val (.int c3_442), .val (.ref b464), .val (.ref b527), .unset, .unset, .unset, .unset, .unset, .unset, .unset, .unset] [(.int (((x1.toUInt32 >>> ((20 : Int32) &&& 31).toUInt32).toInt32) &&& (3 : Int32))), (.int (10 : Int32)), (.ref b527)])) rfl rfl (hb hby at_189)
  obtain ⟨f662, hf662⟩ : ∃ fnew : Nat → Int32, fnew = fun i => if i = 10 then (((x1.toUInt32 >>> ((20 : Int32) &&& 31).toUInt32).toInt32) &&& (3 : Int32)) else f650 i := ⟨_, rfl⟩
  have V661 : own_Arf Z h657 b527 .int (12 : Int32) f662 := own_Arf.set Ar657 S657 N657 Hs657 W657 rfl hf662
  have Kp663 : Keep h0 h657 [] := Keep.wr Kp651 W657 (Or.inr sb530)
  have Z664 : own_Le n0 h657.size := Nat.le_trans Z652 (Keep.of_wr W657).1
  have N665 := Fr.snoc X657 N653 gb529
  have F666 := F654.other W657 ne528
  have K667 : ∀ t, Steps p.tables e below (T657.setTop (mkF m 190 #[.val (.int x0), .val (.int x1), .val (.int x2), .val (.int c0_442), .val (.int c1_442), .val (.int c2_442), .val (.int c3_442), .val (.ref b464), .val (.ref b527), .unset, .unset, .unset, .unset, .unset, .unset, .unset, .unset] [])) t → Steps p.tables e below (s₁.setTop (entryFrame m #[(.int x0), (.int x1), (.int x2)] maxLocals)) t := fun t k => K656 t (st657 _ k)
  have K668 : ∀ t, Steps p.tables e below (T657.setTop (mkF m 200 #[.val (.int x0), .val (.int x1), .val (.int x2), .val (.int c0_442), .val (.int c1_442), .val (.int c2_442), .val (.int c3_442), .val (.ref b464), .val (.ref b527), .unset, .unset, .unset, .unset, .unset, .unset, .unset, .unset] [(.int (((x1.toUInt32 >>> ((22 : Int32) &&& 31).toUInt32).toInt32) &&& (3 : Int32))), (.int (11 : Int32)), (.ref b527)])) t → Steps p.tables e below (s₁.setTop (entryFrame m #[(.int x0), (.int x1), (.int x2)] maxLocals)) t := fun t k => K667 t (by
    show Steps p.tables e below (T657.setTop (mkF m 190 #[.val (.int x0), .val (.int x1), .val (.int x2), .val (.int c0_442), .val (.int c1_442), .val (.int c2_442), .val (.int c3_442), .val (.ref b464), .val (.ref b527), .unset, .unset, .unset, .unset, .unset, .unset, .unset, .unset] [])) t
    refine XS.aload X657.here hx rfl (hb hby at_190) rfl rfl ?_
    show Steps p.tables e below (T657.setTop (mkF m 192 #[.val (.int x0), .val (.int x1), .val (.int x2), .val (.int c0_442), .val (.int c1_442), .val (.int c2_442), .val (.int c3_442), .val (.ref b464), .val (.ref b527), .unset, .unset, .unset, .unset, .unset, .unset, .unset, .unset] [(.ref b527)])) t
    refine XS.bipush X657.here hx rfl (hb hby at_192) ?_
    show Steps p.tables e below (T657.setTop (mkF m 194 #[.val (.int x0), .val (.int x1), .val (.int x2), .val (.int c0_442), .val (.int c1_442), .val (.int c2_442), .val (.int c3_442), .val (.ref b464), .val (.ref b527), .unset, .unset, .unset, .unset, .unset, .unset, .unset, .unset] [(.int (11 : Int32)), (.ref b527)])) t
    refine XS.iloadN X657.here hx rfl (hb hby at_194) rfl ?_
    show Steps p.tables e below (T657.setTop (mkF m 195 #[.val (.int x0), .val (.int x1), .val (.int x2), .val (.int c0_442), .val (.int c1_442), .val (.int c2_442), .val (.int c3_442), .val (.ref b464), .val (.ref b527), .unset, .unset, .unset, .unset, .unset, .unset, .unset, .unset] [(.int x1), (.int (11 : Int32)), (.ref b527)])) t
    refine XS.bipush X657.here hx rfl (hb hby at_195) ?_
    show Steps p.tables e below (T657.setTop (mkF m 197 #[.val (.int x0), .val (.int x1), .val (.int x2), .val (.int c0_442), .val (.int c1_442), .val (.int c2_442), .val (.int c3_442), .val (.ref b464), .val (.ref b527), .unset, .unset, .unset, .unset, .unset, .unset, .unset, .unset] [(.int (22 : Int32)), (.int x1), (.int (11 : Int32)), (.ref b527)])) t
    refine XS.iushr X657.here hx rfl (hb hby at_197) rfl ?_
    show Steps p.tables e below (T657.setTop (mkF m 198 #[.val (.int x0), .val (.int x1), .val (.int x2), .val (.int c0_442), .val (.int c1_442), .val (.int c2_442), .val (.int c3_442), .val (.ref b464), .val (.ref b527), .unset, .unset, .unset, .unset, .unset, .unset, .unset, .unset] [(.int ((x1.toUInt32 >>> ((22 : Int32) &&& 31).toUInt32).toInt32)), (.int (11 : Int32)), (.ref b527)])) t
    refine XS.iconst X657.here hx rfl (hb hby at_198) ?_
    show Steps p.tables e below (T657.setTop (mkF m 199 #[.val (.int x0), .val (.int x1), .val (.int x2), .val (.int c0_442), .val (.int c1_442), .val (.int c2_442), .val (.int c3_442), .val (.ref b464), .val (.ref b527), .unset, .unset, .unset, .unset, .unset, .unset, .unset, .unset] [(.int (3 : Int32)), (.int ((x1.toUInt32 >>> ((22 : Int32) &&& 31).toUInt32).toInt32)), (.int (11 : Int32)), (.ref b527)])) t
    refine XS.iand X657.here hx rfl (hb hby at_199) rfl ?_
    exact k)
  have q670 : ¬ (11 : Int32) < 0 ∧ (11 : Int32) < (12 : Int32) := by
    have q671 := (by decide : (11 : Int32).toInt = 11)
    have q672 := (by decide : (12 : Int32).toInt = 12)
    rw [Int32.lt_iff_toInt_lt, Int32.lt_iff_toInt_lt]; have q0 : (0 : Int32).toInt = 0 := rfl; omega
  obtain ⟨cl669, Ar669, S669, N669, Hs669⟩ := id V661
  have hin669 : ¬ ((11 : Int32) < 0 ∨ cl669.slots.size ≤ ((11 : Int32)).toNatClampNeg) := inb_of S669 q670
  obtain ⟨T669, h669, X669, e669, W669, st669⟩ := stI X657 hx hZ e657 Ar669 (j := (11 : Int32)) hin669 (g := (mkF m 200 #[.val (.int x0), .val (.int x1), .val (.int x2), .val (.int c0_442), .val (.int c1_442), .val (.int c2_442), .val (.int c3_442), .val (.ref b464), .val (.ref b527), .unset, .unset, .unset, .unset, .unset, .unset, .unset, .unset] [(.int (((x1.toUInt32 >>> ((22 : Int32) &&& 31).toUInt32).toInt32) &&& (3 : Int32))), (.int (11 : Int32)), (.ref b527)])) rfl rfl (hb hby at_200)
  obtain ⟨f674, hf674⟩ : ∃ fnew : Nat → Int32, fnew = fun i => if i = 11 then (((x1.toUInt32 >>> ((22 : Int32) &&& 31).toUInt32).toInt32) &&& (3 : Int32)) else f662 i := ⟨_, rfl⟩
  have V673 : own_Arf Z h669 b527 .int (12 : Int32) f674 := own_Arf.set Ar669 S669 N669 Hs669 W669 rfl hf674
  have Kp675 : Keep h0 h669 [] := Keep.wr Kp663 W669 (Or.inr sb530)
  have Z676 : own_Le n0 h669.size := Nat.le_trans Z664 (Keep.of_wr W669).1
  have N677 := Fr.snoc X669 N665 gb529
  have F678 := F666.other W669 ne528
  have K679 : ∀ t, Steps p.tables e below (T669.setTop (mkF m 201 #[.val (.int x0), .val (.int x1), .val (.int x2), .val (.int c0_442), .val (.int c1_442), .val (.int c2_442), .val (.int c3_442), .val (.ref b464), .val (.ref b527), .unset, .unset, .unset, .unset, .unset, .unset, .unset, .unset] [])) t → Steps p.tables e below (s₁.setTop (entryFrame m #[(.int x0), (.int x1), (.int x2)] maxLocals)) t := fun t k => K668 t (st669 _ k)
  obtain ⟨T680, h680, X680, e680, E680, A680, D680, M680, st680⟩ := newO X669 hx hZ hown (hw _ (List.mem_of_getElem? (i := 1) rfl)) (hw _ (List.mem_of_getElem? (i := 2) rfl)) (hw _ (List.mem_of_getElem? (i := 3) rfl)) e669 (g := (mkF m 201 #[.val (.int x0), .val (.int x1), .val (.int x2), .val (.int c0_442), .val (.int c1_442), .val (.int c2_442), .val (.int c3_442), .val (.ref b464), .val (.ref b527), .unset, .unset, .unset, .unset, .unset, .unset, .unset, .unset] [])) rfl (hb hby at_201) (by decide) (by decide)
  obtain ⟨b680, g680⟩ : ∃ z, z = h669.size := ⟨_, rfl⟩
  rw [← g680] at A680 D680 M680 st680
  have ne681 : own_Ne b464 b680 := Nat.ne_of_lt (Nat.lt_of_lt_of_le F678.lt (Nat.le_of_eq g680.symm))
  have ne682 : own_Ne b527 b680 := Nat.ne_of_lt (Nat.lt_of_lt_of_le V673.lt (Nat.le_of_eq g680.symm))
  have gb683 : own_Le n0 b680 := Nat.le_trans Z676 (Nat.le_of_eq g680.symm)
  have sb684 : own_Le h0.size b680 := Nat.le_trans Kp675.1 (Nat.le_of_eq g680.symm)
  have F685 := F678.ext E680
  have F686 := V673.ext E680
  have Z687 : own_Le n0 h680.size := Nat.le_trans Z676 E680.1
  have Kp688 : Keep h0 h680 [] := Keep.ext Kp675 E680
  have F689 : Fld Z h680 b680 "com/example/omegaprobe/omegaprobe/graph/Components" "first" "[I" .null := D680 (Or.inr (hw _ (List.mem_of_getElem? (i := 11) rfl))) (ty := (.array .int)) (by decide)
  have F690 : Fld Z h680 b680 "com/example/omegaprobe/omegaprobe/graph/Components" "targets" "[I" .null := D680 (Or.inr (hw _ (List.mem_of_getElem? (i := 13) rfl))) (ty := (.array .int)) (by decide)
  have F691 : Fld Z h680 b680 "com/example/omegaprobe/omegaprobe/graph/Components" "index" "[I" .null := D680 (Or.inr (hw _ (List.mem_of_getElem? (i := 15) rfl))) (ty := (.array .int)) (by decide)
  have F692 : Fld Z h680 b680 "com/example/omegaprobe/omegaprobe/graph/Components" "low" "[I" .null := D680 (Or.inr (hw _ (List.mem_of_getElem? (i := 17) rfl))) (ty := (.array .int)) (by decide)
  have F693 : Fld Z h680 b680 "com/example/omegaprobe/omegaprobe/graph/Components" "stack" "[I" .null := D680 (Or.inr (hw _ (List.mem_of_getElem? (i := 19) rfl))) (ty := (.array .int)) (by decide)
  have F694 : Fld Z h680 b680 "com/example/omegaprobe/omegaprobe/graph/Components" "onStack" "[Z" .null := D680 (Or.inr (hw _ (List.mem_of_getElem? (i := 22) rfl))) (ty := (.array .boolean)) (by decide)
  have F695 : Fld Z h680 b680 "com/example/omegaprobe/omegaprobe/graph/Components" "path" "[I" .null := D680 (Or.inr (hw _ (List.mem_of_getElem? (i := 24) rfl))) (ty := (.array .int)) (by decide)
  have F696 : Fld Z h680 b680 "com/example/omegaprobe/omegaprobe/graph/Components" "nextEdge" "[I" .null := D680 (Or.inr (hw _ (List.mem_of_getElem? (i := 26) rfl))) (ty := (.array .int)) (by decide)
  have K697 : ∀ t, Steps p.tables e below (T680.setTop (mkF m 204 #[.val (.int x0), .val (.int x1), .val (.int x2), .val (.int c0_442), .val (.int c1_442), .val (.int c2_442), .val (.int c3_442), .val (.ref b464), .val (.ref b527), .unset, .unset, .unset, .unset, .unset, .unset, .unset, .unset] [(.ref b680)])) t → Steps p.tables e below (s₁.setTop (entryFrame m #[(.int x0), (.int x1), (.int x2)] maxLocals)) t := fun t k => K679 t (st680 _ k)
  have K698 : ∀ t, Steps p.tables e below (T680.setTop (mkF m 209 #[.val (.int x0), .val (.int x1), .val (.int x2), .val (.int c0_442), .val (.int c1_442), .val (.int c2_442), .val (.int c3_442), .val (.ref b464), .val (.ref b527), .unset, .unset, .unset, .unset, .unset, .unset, .unset, .unset] [(.ref b527), (.ref b464), (.ref b680), (.ref b680)])) t → Steps p.tables e below (s₁.setTop (entryFrame m #[(.int x0), (.int x1), (.int x2)] maxLocals)) t := fun t k => K697 t (by
    show Steps p.tables e below (T680.setTop (mkF m 204 #[.val (.int x0), .val (.int x1), .val (.int x2), .val (.int c0_442), .val (.int c1_442), .val (.int c2_442), .val (.int c3_442), .val (.ref b464), .val (.ref b527), .unset, .unset, .unset, .unset, .unset, .unset, .unset, .unset] [(.ref b680)])) t
    refine XS.dup X680.here hx rfl (hb hby at_204) rfl rfl ?_
    show Steps p.tables e below (T680.setTop (mkF m 205 #[.val (.int x0), .val (.int x1), .val (.int x2), .val (.int c0_442), .val (.int c1_442), .val (.int c2_442), .val (.int c3_442), .val (.ref b464), .val (.ref b527), .unset, .unset, .unset, .unset, .unset, .unset, .unset, .unset] [(.ref b680), (.ref b680)])) t
    refine XS.aload X680.here hx rfl (hb hby at_205) rfl rfl ?_
    show Steps p.tables e below (T680.setTop (mkF m 207 #[.val (.int x0), .val (.int x1), .val (.int x2), .val (.int c0_442), .val (.int c1_442), .val (.int c2_442), .val (.int c3_442), .val (.ref b464), .val (.ref b527), .unset, .unset, .unset, .unset, .unset, .unset, .unset, .unset] [(.ref b464), (.ref b680), (.ref b680)])) t
    refine XS.aload X680.here hx rfl (hb hby at_207) rfl rfl ?_
    exact k)
  obtain ⟨_, _, ⟨T699, L699, kk699, nn699⟩, -, X699, ⟨Lc699, hQ699, l699, y699, z699⟩, st699⟩ := X680.specialBack hx (y := (⟨"com/example/omegaprobe/omegaprobe/graph/Components", "<init>", "([I[I)V"⟩ : MethodName)) rfl hown (mvT hZ (hw _ (List.mem_of_getElem? (i := 4) rfl))) (mvT hZ (hw _ (List.mem_of_getElem? (i := 5) rfl))) (mvT hZ (hw _ (List.mem_of_getElem? (i := 6) rfl))) (by decide) (backOf (W := 1) (rm1 l Z a0 hw [] b680 b464 b527 h680 n0 Z687 A680 F689 F690 F691 F692 F693 F694 F695 F696 gb683 (own_Arl.ofA F685)) hZ (hw _ (List.mem_of_getElem? (i := 6) rfl)) (hw _ (List.mem_of_getElem? (i := 3) rfl)) (by decide) (by decide)) (g := (mkF m 209 #[.val (.int x0), .val (.int x1), .val (.int x2), .val (.int c0_442), .val (.int c1_442), .val (.int c2_442), .val (.int c3_442), .val (.ref b464), .val (.ref b527), .unset, .unset, .unset, .unset, .unset, .unset, .unset, .unset] [(.ref b527), (.ref b464), (.ref b680), (.ref b680)])) rfl (by rw [hml]; rfl) (Steps.refl _) (a := b680) (argsL := [(.ref b464), (.ref b527)]) (rest := [(.ref b680)]) (lenOf own_pd1 rfl) rfl (by show 2 * 0 + _ ≤ _; exact Nat.le_of_eq rfl) (hb hby at_209) (fun _ _ => ⟨rfl, e680, (by decide : 3 + 6 ≤ _), (by decide : 25 + 24 ≤ _)⟩)
  dsimp only [Pt.U, Pt.locs, Pt.cells, Pt.slots] at X699 l699 y699 z699 st699 hQ699
  subst l699 y699 z699
  obtain ⟨rfl, Sp699, Nq699, Kc699, Pc699_0, Pc699_1, Pc699_2⟩ := hQ699
  have N700 := Fr.app N677 Nq699
  obtain ⟨h699, e699⟩ : ∃ z, z = T699.heap := ⟨_, rfl⟩
  rw [← e699] at Kc699 Pc699_0 Pc699_1 Pc699_2
  have F701 := F685.keep Kc699 (ninS ne681 nin0)
  have F702 := F686.keep Kc699 (ninS ne682 nin0)
  have F703 := A680.keep Kc699
  have Kp704 : Keep h0 h699 [] := Keep.trans Kp688 Kc699 (allS (Or.inr sb684) all0)
  have Z705 : own_Le n0 h699.size := Nat.le_trans Z687 Kc699.1
  have K706 : ∀ t, Steps p.tables e below (T699.setTop (mkF m 212 #[.val (.int x0), .val (.int x1), .val (.int x2), .val (.int c0_442), .val (.int c1_442), .val (.int c2_442), .val (.int c3_442), .val (.ref b464), .val (.ref b527), .unset, .unset, .unset, .unset, .unset, .unset, .unset, .unset] [(.ref b680)])) t → Steps p.tables e below (s₁.setTop (entryFrame m #[(.int x0), (.int x1), (.int x2)] maxLocals)) t := fun t k => K698 t (st699.trans k)
  have K707 : ∀ t, Steps p.tables e below (T699.setTop (mkF m 226 #[.val (.int x0), .val (.int x1), .val (.int x2), .val (.int c0_442), .val (.int c1_442), .val (.int c2_442), .val (.int c3_442), .val (.ref b464), .val (.ref b527), .val (.ref b680), .val (.int (x2 &&& (3 : Int32))), .val (.int (((x2.toUInt32 >>> ((2 : Int32) &&& 31).toUInt32).toInt32) &&& (3 : Int32))), .unset, .unset, .unset, .unset, .unset] [])) t → Steps p.tables e below (s₁.setTop (entryFrame m #[(.int x0), (.int x1), (.int x2)] maxLocals)) t := fun t k => K706 t (by
    show Steps p.tables e below (T699.setTop (mkF m 212 #[.val (.int x0), .val (.int x1), .val (.int x2), .val (.int c0_442), .val (.int c1_442), .val (.int c2_442), .val (.int c3_442), .val (.ref b464), .val (.ref b527), .unset, .unset, .unset, .unset, .unset, .unset, .unset, .unset] [(.ref b680)])) t
    refine XS.astore X699.here hx rfl (hb hby at_212) rfl rfl (l' := #[.val (.int x0), .val (.int x1), .val (.int x2), .val (.int c0_442), .val (.int c1_442), .val (.int c2_442), .val (.int c3_442), .val (.ref b464), .val (.ref b527), .val (.ref b680), .unset, .unset, .unset, .unset, .unset, .unset, .unset]) rfl ?_
    show Steps p.tables e below (T699.setTop (mkF m 214 #[.val (.int x0), .val (.int x1), .val (.int x2), .val (.int c0_442), .val (.int c1_442), .val (.int c2_442), .val (.int c3_442), .val (.ref b464), .val (.ref b527), .val (.ref b680), .unset, .unset, .unset, .unset, .unset, .unset, .unset] [])) t
    refine XS.iloadN X699.here hx rfl (hb hby at_214) rfl ?_
    show Steps p.tables e below (T699.setTop (mkF m 215 #[.val (.int x0), .val (.int x1), .val (.int x2), .val (.int c0_442), .val (.int c1_442), .val (.int c2_442), .val (.int c3_442), .val (.ref b464), .val (.ref b527), .val (.ref b680), .unset, .unset, .unset, .unset, .unset, .unset, .unset] [(.int x2)])) t
    refine XS.iconst X699.here hx rfl (hb hby at_215) ?_
    show Steps p.tables e below (T699.setTop (mkF m 216 #[.val (.int x0), .val (.int x1), .val (.int x2), .val (.int c0_442), .val (.int c1_442), .val (.int c2_442), .val (.int c3_442), .val (.ref b464), .val (.ref b527), .val (.ref b680), .unset, .unset, .unset, .unset, .unset, .unset, .unset] [(.int (3 : Int32)), (.int x2)])) t
    refine XS.iand X699.here hx rfl (hb hby at_216) rfl ?_
    show Steps p.tables e below (T699.setTop (mkF m 217 #[.val (.int x0), .val (.int x1), .val (.int x2), .val (.int c0_442), .val (.int c1_442), .val (.int c2_442), .val (.int c3_442), .val (.ref b464), .val (.ref b527), .val (.ref b680), .unset, .unset, .unset, .unset, .unset, .unset, .unset] [(.int (x2 &&& (3 : Int32)))])) t
    refine XS.istore X699.here hx rfl (hb hby at_217) rfl (l' := #[.val (.int x0), .val (.int x1), .val (.int x2), .val (.int c0_442), .val (.int c1_442), .val (.int c2_442), .val (.int c3_442), .val (.ref b464), .val (.ref b527), .val (.ref b680), .val (.int (x2 &&& (3 : Int32))), .unset, .unset, .unset, .unset, .unset, .unset]) rfl ?_
    show Steps p.tables e below (T699.setTop (mkF m 219 #[.val (.int x0), .val (.int x1), .val (.int x2), .val (.int c0_442), .val (.int c1_442), .val (.int c2_442), .val (.int c3_442), .val (.ref b464), .val (.ref b527), .val (.ref b680), .val (.int (x2 &&& (3 : Int32))), .unset, .unset, .unset, .unset, .unset, .unset] [])) t
    refine XS.iloadN X699.here hx rfl (hb hby at_219) rfl ?_
    show Steps p.tables e below (T699.setTop (mkF m 220 #[.val (.int x0), .val (.int x1), .val (.int x2), .val (.int c0_442), .val (.int c1_442), .val (.int c2_442), .val (.int c3_442), .val (.ref b464), .val (.ref b527), .val (.ref b680), .val (.int (x2 &&& (3 : Int32))), .unset, .unset, .unset, .unset, .unset, .unset] [(.int x2)])) t
    refine XS.iconst X699.here hx rfl (hb hby at_220) ?_
    show Steps p.tables e below (T699.setTop (mkF m 221 #[.val (.int x0), .val (.int x1), .val (.int x2), .val (.int c0_442), .val (.int c1_442), .val (.int c2_442), .val (.int c3_442), .val (.ref b464), .val (.ref b527), .val (.ref b680), .val (.int (x2 &&& (3 : Int32))), .unset, .unset, .unset, .unset, .unset, .unset] [(.int (2 : Int32)), (.int x2)])) t
    refine XS.iushr X699.here hx rfl (hb hby at_221) rfl ?_
    show Steps p.tables e below (T699.setTop (mkF m 222 #[.val (.int x0), .val (.int x1), .val (.int x2), .val (.int c0_442), .val (.int c1_442), .val (.int c2_442), .val (.int c3_442), .val (.ref b464), .val (.ref b527), .val (.ref b680), .val (.int (x2 &&& (3 : Int32))), .unset, .unset, .unset, .unset, .unset, .unset] [(.int ((x2.toUInt32 >>> ((2 : Int32) &&& 31).toUInt32).toInt32))])) t
    refine XS.iconst X699.here hx rfl (hb hby at_222) ?_
    show Steps p.tables e below (T699.setTop (mkF m 223 #[.val (.int x0), .val (.int x1), .val (.int x2), .val (.int c0_442), .val (.int c1_442), .val (.int c2_442), .val (.int c3_442), .val (.ref b464), .val (.ref b527), .val (.ref b680), .val (.int (x2 &&& (3 : Int32))), .unset, .unset, .unset, .unset, .unset, .unset] [(.int (3 : Int32)), (.int ((x2.toUInt32 >>> ((2 : Int32) &&& 31).toUInt32).toInt32))])) t
    refine XS.iand X699.here hx rfl (hb hby at_223) rfl ?_
    show Steps p.tables e below (T699.setTop (mkF m 224 #[.val (.int x0), .val (.int x1), .val (.int x2), .val (.int c0_442), .val (.int c1_442), .val (.int c2_442), .val (.int c3_442), .val (.ref b464), .val (.ref b527), .val (.ref b680), .val (.int (x2 &&& (3 : Int32))), .unset, .unset, .unset, .unset, .unset, .unset] [(.int (((x2.toUInt32 >>> ((2 : Int32) &&& 31).toUInt32).toInt32) &&& (3 : Int32)))])) t
    refine XS.istore X699.here hx rfl (hb hby at_224) rfl (l' := #[.val (.int x0), .val (.int x1), .val (.int x2), .val (.int c0_442), .val (.int c1_442), .val (.int c2_442), .val (.int c3_442), .val (.ref b464), .val (.ref b527), .val (.ref b680), .val (.int (x2 &&& (3 : Int32))), .val (.int (((x2.toUInt32 >>> ((2 : Int32) &&& 31).toUInt32).toInt32) &&& (3 : Int32))), .unset, .unset, .unset, .unset, .unset]) rfl ?_
    exact k)
  obtain ⟨ss_708, kd_708, Sp708, K718⟩ : ∃ (ss_708 : Int32) (kd_708 : Int32), ((0 ≤ ss_708.toInt ∧ ss_708.toInt < 4) ∧ 0 ≤ kd_708.toInt ∧ kd_708.toInt ≤ 3) ∧ ∀ t, Steps p.tables e below (T699.setTop (mkF m 226 #[.val (.int x0), .val (.int x1), .val (.int x2), .val (.int c0_442), .val (.int c1_442), .val (.int c2_442), .val (.int c3_442), .val (.ref b464), .val (.ref b527), .val (.ref b680), .val (.int ss_708), .val (.int kd_708), .unset, .unset, .unset, .unset, .unset] [])) t → Steps p.tables e below (s₁.setTop (entryFrame m #[(.int x0), (.int x1), (.int x2)] maxLocals)) t := by
    refine ⟨(x2 &&& (3 : Int32)), (((x2.toUInt32 >>> ((2 : Int32) &&& 31).toUInt32).toInt32) &&& (3 : Int32)), ?_, K707⟩
    have q709 := rng32 x2
    have q710 := (by decide : (3 : Int32).toInt = 3)
    have q711 := (show (x2 &&& (3 : Int32)).toInt = x2.toInt % 4 from c_mask x2 (3 : Int32) 2 (by decide) (by decide))
    have q712 := rng32 (x2 &&& (3 : Int32))
    have q713 := (by decide : (2 : Int32).toInt = 2)
    have q714 := (show ((x2.toUInt32 >>> ((2 : Int32) &&& 31).toUInt32).toInt32).toInt = (x2.toInt % 4294967296) / 4 from c_iushr x2 (2 : Int32) 2 rfl (by decide))
    have q715 := rng32 ((x2.toUInt32 >>> ((2 : Int32) &&& 31).toUInt32).toInt32)
    have q716 := (show (((x2.toUInt32 >>> ((2 : Int32) &&& 31).toUInt32).toInt32) &&& (3 : Int32)).toInt = ((x2.toUInt32 >>> ((2 : Int32) &&& 31).toUInt32).toInt32).toInt % 4 from c_mask ((x2.toUInt32 >>> ((2 : Int32) &&& 31).toUInt32).toInt32) (3 : Int32) 2 (by decide) (by decide))
    have q717 := rng32 (((x2.toUInt32 >>> ((2 : Int32) &&& 31).toUInt32).toInt32) &&& (3 : Int32))
    omega
  have K720 : ∀ t, Steps p.tables e below (T699.setTop (mkF m 229 #[.val (.int x0), .val (.int x1), .val (.int x2), .val (.int c0_442), .val (.int c1_442), .val (.int c2_442), .val (.int c3_442), .val (.ref b464), .val (.ref b527), .val (.ref b680), .val (.int ss_708), .val (.int kd_708), .unset, .unset, .unset, .unset, .unset] [(.int (2 : Int32)), (.int kd_708)])) t → Steps p.tables e below (s₁.setTop (entryFrame m #[(.int x0), (.int x1), (.int x2)] maxLocals)) t := fun t k => K718 t (by
    show Steps p.tables e below (T699.setTop (mkF m 226 #[.val (.int x0), .val (.int x1), .val (.int x2), .val (.int c0_442), .val (.int c1_442), .val (.int c2_442), .val (.int c3_442), .val (.ref b464), .val (.ref b527), .val (.ref b680), .val (.int ss_708), .val (.int kd_708), .unset, .unset, .unset, .unset, .unset] [])) t
    refine XS.iload X699.here hx rfl (hb hby at_226) rfl ?_
    show Steps p.tables e below (T699.setTop (mkF m 228 #[.val (.int x0), .val (.int x1), .val (.int x2), .val (.int c0_442), .val (.int c1_442), .val (.int c2_442), .val (.int c3_442), .val (.ref b464), .val (.ref b527), .val (.ref b680), .val (.int ss_708), .val (.int kd_708), .unset, .unset, .unset, .unset, .unset] [(.int kd_708)])) t
    refine XS.iconst X699.here hx rfl (hb hby at_228) ?_
    exact k)
  by_cases hc719 : kd_708 = (2 : Int32)
  · have q721 : kd_708.toInt = (2 : Int32).toInt := congrArg Int32.toInt hc719
    have K722 : ∀ t, Steps p.tables e below (T699.setTop (mkF m 233 #[.val (.int x0), .val (.int x1), .val (.int x2), .val (.int c0_442), .val (.int c1_442), .val (.int c2_442), .val (.int c3_442), .val (.ref b464), .val (.ref b527), .val (.ref b680), .val (.int ss_708), .val (.int kd_708), .unset, .unset, .unset, .unset, .unset] [(.int (2 : Int32))])) t → Steps p.tables e below (s₁.setTop (entryFrame m #[(.int x0), (.int x1), (.int x2)] maxLocals)) t := fun t k => K720 t (by
      show Steps p.tables e below (T699.setTop (mkF m 229 #[.val (.int x0), .val (.int x1), .val (.int x2), .val (.int c0_442), .val (.int c1_442), .val (.int c2_442), .val (.int c3_442), .val (.ref b464), .val (.ref b527), .val (.ref b680), .val (.int ss_708), .val (.int kd_708), .unset, .unset, .unset, .unset, .unset] [(.int (2 : Int32)), (.int kd_708)])) t
      refine XS.icmpNo X699.here hx rfl (hb hby at_229) rfl (teq hc719).2 ?_
      show Steps p.tables e below (T699.setTop (mkF m 232 #[.val (.int x0), .val (.int x1), .val (.int x2), .val (.int c0_442), .val (.int c1_442), .val (.int c2_442), .val (.int c3_442), .val (.ref b464), .val (.ref b527), .val (.ref b680), .val (.int ss_708), .val (.int kd_708), .unset, .unset, .unset, .unset, .unset] [])) t
      refine XS.iconst X699.here hx rfl (hb hby at_232) ?_
      exact k)
    obtain ⟨T723, h723, k723, X723, e723, E723, A723, st723⟩ := newP X699 hx hZ (hw _ (List.mem_of_getElem? (i := 0) rfl)) e699.symm (g := (mkF m 233 #[.val (.int x0), .val (.int x1), .val (.int x2), .val (.int c0_442), .val (.int c1_442), .val (.int c2_442), .val (.int c3_442), .val (.ref b464), .val (.ref b527), .val (.ref b680), .val (.int ss_708), .val (.int kd_708), .unset, .unset, .unset, .unset, .unset] [(.int (2 : Int32))])) rfl (hb hby at_233) rfl (by decide) (cap := 2) (by decide) (by decide) (by decide) (by decide)
    obtain ⟨b723, g723⟩ : ∃ z, z = h699.size := ⟨_, rfl⟩
    rw [← g723] at A723 st723
    have ne724 : own_Ne b464 b723 := Nat.ne_of_lt (Nat.lt_of_lt_of_le F701.lt (Nat.le_of_eq g723.symm))
    have ne725 : own_Ne b527 b723 := Nat.ne_of_lt (Nat.lt_of_lt_of_le F702.lt (Nat.le_of_eq g723.symm))
    have ne726 : own_Ne b680 b723 := Nat.ne_of_lt (Nat.lt_of_lt_of_le Pc699_0.lt (Nat.le_of_eq g723.symm))
    have gb727 : own_Le n0 b723 := Nat.le_trans Z705 (Nat.le_of_eq g723.symm)
    have sb728 : own_Le h0.size b723 := Nat.le_trans Kp704.1 (Nat.le_of_eq g723.symm)
    have F729 := F701.ext E723
    have F730 := F702.ext E723
    have F731 := Pc699_0.ext E723
    have F732 := Pc699_1.ext E723
    have F733 := Pc699_2.ext E723
    have Z734 : own_Le n0 h723.size := Nat.le_trans Z705 E723.1
    have Kp735 : Keep h0 h723 [] := Keep.ext Kp704 E723
    have V736 : own_Arl Z h723 b723 .int (2 : Int32) := own_Arl.new A723 (by decide)
    have K737 : ∀ t, Steps p.tables e below (T723.setTop (mkF m 235 #[.val (.int x0), .val (.int x1), .val (.int x2), .val (.int c0_442), .val (.int c1_442), .val (.int c2_442), .val (.int c3_442), .val (.ref b464), .val (.ref b527), .val (.ref b680), .val (.int ss_708), .val (.int kd_708), .unset, .unset, .unset, .unset, .unset] [(.ref b723)])) t → Steps p.tables e below (s₁.setTop (entryFrame m #[(.int x0), (.int x1), (.int x2)] maxLocals)) t := fun t k => K722 t (st723 _ k)
    have K738 : ∀ t, Steps p.tables e below (T723.setTop (mkF m 239 #[.val (.int x0), .val (.int x1), .val (.int x2), .val (.int c0_442), .val (.int c1_442), .val (.int c2_442), .val (.int c3_442), .val (.ref b464), .val (.ref b527), .val (.ref b680), .val (.int ss_708), .val (.int kd_708), .unset, .unset, .unset, .unset, .unset] [(.int ss_708), (.int (0 : Int32)), (.ref b723), (.ref b723)])) t → Steps p.tables e below (s₁.setTop (entryFrame m #[(.int x0), (.int x1), (.int x2)] maxLocals)) t := fun t k => K737 t (by
      show Steps p.tables e below (T723.setTop (mkF m 235 #[.val (.int x0), .val (.int x1), .val (.int x2), .val (.int c0_442), .val (.int c1_442), .val (.int c2_442), .val (.int c3_442), .val (.ref b464), .val (.ref b527), .val (.ref b680), .val (.int ss_708), .val (.int kd_708), .unset, .unset, .unset, .unset, .unset] [(.ref b723)])) t
      refine XS.dup X723.here hx rfl (hb hby at_235) rfl rfl ?_
      show Steps p.tables e below (T723.setTop (mkF m 236 #[.val (.int x0), .val (.int x1), .val (.int x2), .val (.int c0_442), .val (.int c1_442), .val (.int c2_442), .val (.int c3_442), .val (.ref b464), .val (.ref b527), .val (.ref b680), .val (.int ss_708), .val (.int kd_708), .unset, .unset, .unset, .unset, .unset] [(.ref b723), (.ref b723)])) t
      refine XS.iconst X723.here hx rfl (hb hby at_236) ?_
      show Steps p.tables e below (T723.setTop (mkF m 237 #[.val (.int x0), .val (.int x1), .val (.int x2), .val (.int c0_442), .val (.int c1_442), .val (.int c2_442), .val (.int c3_442), .val (.ref b464), .val (.ref b527), .val (.ref b680), .val (.int ss_708), .val (.int kd_708), .unset, .unset, .unset, .unset, .unset] [(.int (0 : Int32)), (.ref b723), (.ref b723)])) t
      refine XS.iload X723.here hx rfl (hb hby at_237) rfl ?_
      exact k)
    have q740 : ¬ (0 : Int32) < 0 ∧ (0 : Int32) < (2 : Int32) := by
      have q741 := rng32 kd_708
      have q742 := (by decide : (2 : Int32).toInt = 2)
      have q743 := (by decide : (0 : Int32).toInt = 0)
      rw [Int32.lt_iff_toInt_lt, Int32.lt_iff_toInt_lt]; have q0 : (0 : Int32).toInt = 0 := rfl; omega
    obtain ⟨cl739, Ar739, S739, N739⟩ := id V736
    have hin739 : ¬ ((0 : Int32) < 0 ∨ cl739.slots.size ≤ ((0 : Int32)).toNatClampNeg) := inb_of S739 q740
    obtain ⟨T739, h739, X739, e739, W739, st739⟩ := stI X723 hx hZ e723 Ar739 (j := (0 : Int32)) hin739 (g := (mkF m 239 #[.val (.int x0), .val (.int x1), .val (.int x2), .val (.int c0_442), .val (.int c1_442), .val (.int c2_442), .val (.int c3_442), .val (.ref b464), .val (.ref b527), .val (.ref b680), .val (.int ss_708), .val (.int kd_708), .unset, .unset, .unset, .unset, .unset] [(.int ss_708), (.int (0 : Int32)), (.ref b723), (.ref b723)])) rfl rfl (hb hby at_239)
    have V744 : own_Arl Z h739 b723 .int (2 : Int32) := own_Arl.same Ar739 S739 N739 W739
    have Kp745 : Keep h0 h739 [] := Keep.wr Kp735 W739 (Or.inr sb728)
    have Z746 : own_Le n0 h739.size := Nat.le_trans Z734 (Keep.of_wr W739).1
    have N747 := Fr.snoc X739 N700 gb727
    have F748 := F729.other W739 ne724
    have F749 := F730.other W739 ne725
    have F750 := F731.wr W739
    have F751 := F732.other W739 (Or.inl ne726)
    have F752 := F733.other W739 (Or.inl ne726)
    have K753 : ∀ t, Steps p.tables e below (T739.setTop (mkF m 240 #[.val (.int x0), .val (.int x1), .val (.int x2), .val (.int c0_442), .val (.int c1_442), .val (.int c2_442), .val (.int c3_442), .val (.ref b464), .val (.ref b527), .val (.ref b680), .val (.int ss_708), .val (.int kd_708), .unset, .unset, .unset, .unset, .unset] [(.ref b723)])) t → Steps p.tables e below (s₁.setTop (entryFrame m #[(.int x0), (.int x1), (.int x2)] maxLocals)) t := fun t k => K738 t (st739 _ k)
    have K754 : ∀ t, Steps p.tables e below (T739.setTop (mkF m 248 #[.val (.int x0), .val (.int x1), .val (.int x2), .val (.int c0_442), .val (.int c1_442), .val (.int c2_442), .val (.int c3_442), .val (.ref b464), .val (.ref b527), .val (.ref b680), .val (.int ss_708), .val (.int kd_708), .unset, .unset, .unset, .unset, .unset] [(.int ((ss_708 + (1 : Int32)) &&& (3 : Int32))), (.int (1 : Int32)), (.ref b723), (.ref b723)])) t → Steps p.tables e below (s₁.setTop (entryFrame m #[(.int x0), (.int x1), (.int x2)] maxLocals)) t := fun t k => K753 t (by
      show Steps p.tables e below (T739.setTop (mkF m 240 #[.val (.int x0), .val (.int x1), .val (.int x2), .val (.int c0_442), .val (.int c1_442), .val (.int c2_442), .val (.int c3_442), .val (.ref b464), .val (.ref b527), .val (.ref b680), .val (.int ss_708), .val (.int kd_708), .unset, .unset, .unset, .unset, .unset] [(.ref b723)])) t
      refine XS.dup X739.here hx rfl (hb hby at_240) rfl rfl ?_
      show Steps p.tables e below (T739.setTop (mkF m 241 #[.val (.int x0), .val (.int x1), .val (.int x2), .val (.int c0_442), .val (.int c1_442), .val (.int c2_442), .val (.int c3_442), .val (.ref b464), .val (.ref b527), .val (.ref b680), .val (.int ss_708), .val (.int kd_708), .unset, .unset, .unset, .unset, .unset] [(.ref b723), (.ref b723)])) t
      refine XS.iconst X739.here hx rfl (hb hby at_241) ?_
      show Steps p.tables e below (T739.setTop (mkF m 242 #[.val (.int x0), .val (.int x1), .val (.int x2), .val (.int c0_442), .val (.int c1_442), .val (.int c2_442), .val (.int c3_442), .val (.ref b464), .val (.ref b527), .val (.ref b680), .val (.int ss_708), .val (.int kd_708), .unset, .unset, .unset, .unset, .unset] [(.int (1 : Int32)), (.ref b723), (.ref b723)])) t
      refine XS.iload X739.here hx rfl (hb hby at_242) rfl ?_
      show Steps p.tables e below (T739.setTop (mkF m 244 #[.val (.int x0), .val (.int x1), .val (.int x2), .val (.int c0_442), .val (.int c1_442), .val (.int c2_442), .val (.int c3_442), .val (.ref b464), .val (.ref b527), .val (.ref b680), .val (.int ss_708), .val (.int kd_708), .unset, .unset, .unset, .unset, .unset] [(.int ss_708), (.int (1 : Int32)), (.ref b723), (.ref b723)])) t
      refine XS.iconst X739.here hx rfl (hb hby at_244) ?_
      show Steps p.tables e below (T739.setTop (mkF m 245 #[.val (.int x0), .val (.int x1), .val (.int x2), .val (.int c0_442), .val (.int c1_442), .val (.int c2_442), .val (.int c3_442), .val (.ref b464), .val (.ref b527), .val (.ref b680), .val (.int ss_708), .val (.int kd_708), .unset, .unset, .unset, .unset, .unset] [(.int (1 : Int32)), (.int ss_708), (.int (1 : Int32)), (.ref b723), (.ref b723)])) t
      refine XS.iadd X739.here hx rfl (hb hby at_245) rfl ?_
      show Steps p.tables e below (T739.setTop (mkF m 246 #[.val (.int x0), .val (.int x1), .val (.int x2), .val (.int c0_442), .val (.int c1_442), .val (.int c2_442), .val (.int c3_442), .val (.ref b464), .val (.ref b527), .val (.ref b680), .val (.int ss_708), .val (.int kd_708), .unset, .unset, .unset, .unset, .unset] [(.int (ss_708 + (1 : Int32))), (.int (1 : Int32)), (.ref b723), (.ref b723)])) t
      refine XS.iconst X739.here hx rfl (hb hby at_246) ?_
      show Steps p.tables e below (T739.setTop (mkF m 247 #[.val (.int x0), .val (.int x1), .val (.int x2), .val (.int c0_442), .val (.int c1_442), .val (.int c2_442), .val (.int c3_442), .val (.ref b464), .val (.ref b527), .val (.ref b680), .val (.int ss_708), .val (.int kd_708), .unset, .unset, .unset, .unset, .unset] [(.int (3 : Int32)), (.int (ss_708 + (1 : Int32))), (.int (1 : Int32)), (.ref b723), (.ref b723)])) t
      refine XS.iand X739.here hx rfl (hb hby at_247) rfl ?_
      exact k)
    have q756 : ¬ (1 : Int32) < 0 ∧ (1 : Int32) < (2 : Int32) := by
      have q757 := rng32 kd_708
      have q758 := (by decide : (2 : Int32).toInt = 2)
      have q759 := (by decide : (1 : Int32).toInt = 1)
      rw [Int32.lt_iff_toInt_lt, Int32.lt_iff_toInt_lt]; have q0 : (0 : Int32).toInt = 0 := rfl; omega
    obtain ⟨cl755, Ar755, S755, N755⟩ := id V744
    have hin755 : ¬ ((1 : Int32) < 0 ∨ cl755.slots.size ≤ ((1 : Int32)).toNatClampNeg) := inb_of S755 q756
    obtain ⟨T755, h755, X755, e755, W755, st755⟩ := stI X739 hx hZ e739 Ar755 (j := (1 : Int32)) hin755 (g := (mkF m 248 #[.val (.int x0), .val (.int x1), .val (.int x2), .val (.int c0_442), .val (.int c1_442), .val (.int c2_442), .val (.int c3_442), .val (.ref b464), .val (.ref b527), .val (.ref b680), .val (.int ss_708), .val (.int kd_708), .unset, .unset, .unset, .unset, .unset] [(.int ((ss_708 + (1 : Int32)) &&& (3 : Int32))), (.int (1 : Int32)), (.ref b723), (.ref b723)])) rfl rfl (hb hby at_248)
    have V760 : own_Arl Z h755 b723 .int (2 : Int32) := own_Arl.same Ar755 S755 N755 W755
    have Kp761 : Keep h0 h755 [] := Keep.wr Kp745 W755 (Or.inr sb728)
    have Z762 : own_Le n0 h755.size := Nat.le_trans Z746 (Keep.of_wr W755).1
    have N763 := Fr.snoc X755 N747 gb727
    have F764 := F748.other W755 ne724
    have F765 := F749.other W755 ne725
    have F766 := F750.wr W755
    have F767 := F751.other W755 (Or.inl ne726)
    have F768 := F752.other W755 (Or.inl ne726)
    have K769 : ∀ t, Steps p.tables e below (T755.setTop (mkF m 249 #[.val (.int x0), .val (.int x1), .val (.int x2), .val (.int c0_442), .val (.int c1_442), .val (.int c2_442), .val (.int c3_442), .val (.ref b464), .val (.ref b527), .val (.ref b680), .val (.int ss_708), .val (.int kd_708), .unset, .unset, .unset, .unset, .unset] [(.ref b723)])) t → Steps p.tables e below (s₁.setTop (entryFrame m #[(.int x0), (.int x1), (.int x2)] maxLocals)) t := fun t k => K754 t (st755 _ k)
    have K770 : ∀ t, Steps p.tables e below (T755.setTop (mkF m 255 #[.val (.int x0), .val (.int x1), .val (.int x2), .val (.int c0_442), .val (.int c1_442), .val (.int c2_442), .val (.int c3_442), .val (.ref b464), .val (.ref b527), .val (.ref b680), .val (.int ss_708), .val (.int kd_708), .val (.ref b723), .unset, .unset, .unset, .unset] [(.ref b723), (.ref b680)])) t → Steps p.tables e below (s₁.setTop (entryFrame m #[(.int x0), (.int x1), (.int x2)] maxLocals)) t := fun t k => K769 t (by
      show Steps p.tables e below (T755.setTop (mkF m 249 #[.val (.int x0), .val (.int x1), .val (.int x2), .val (.int c0_442), .val (.int c1_442), .val (.int c2_442), .val (.int c3_442), .val (.ref b464), .val (.ref b527), .val (.ref b680), .val (.int ss_708), .val (.int kd_708), .unset, .unset, .unset, .unset, .unset] [(.ref b723)])) t
      refine XS.astore X755.here hx rfl (hb hby at_249) rfl rfl (l' := #[.val (.int x0), .val (.int x1), .val (.int x2), .val (.int c0_442), .val (.int c1_442), .val (.int c2_442), .val (.int c3_442), .val (.ref b464), .val (.ref b527), .val (.ref b680), .val (.int ss_708), .val (.int kd_708), .val (.ref b723), .unset, .unset, .unset, .unset]) rfl ?_
      show Steps p.tables e below (T755.setTop (mkF m 251 #[.val (.int x0), .val (.int x1), .val (.int x2), .val (.int c0_442), .val (.int c1_442), .val (.int c2_442), .val (.int c3_442), .val (.ref b464), .val (.ref b527), .val (.ref b680), .val (.int ss_708), .val (.int kd_708), .val (.ref b723), .unset, .unset, .unset, .unset] [])) t
      refine XS.aload X755.here hx rfl (hb hby at_251) rfl rfl ?_
      show Steps p.tables e below (T755.setTop (mkF m 253 #[.val (.int x0), .val (.int x1), .val (.int x2), .val (.int c0_442), .val (.int c1_442), .val (.int c2_442), .val (.int c3_442), .val (.ref b464), .val (.ref b527), .val (.ref b680), .val (.int ss_708), .val (.int kd_708), .val (.ref b723), .unset, .unset, .unset, .unset] [(.ref b680)])) t
      refine XS.aload X755.here hx rfl (hb hby at_253) rfl rfl ?_
      exact k)
    have q771 : 1 < (2 : Int32).toInt := by decide
    obtain ⟨cq772, kq772, q772a, q772b, q772c⟩ := isOf hZ e755 F766
    obtain ⟨_, _, ⟨T772, L772, kk772, nn772⟩, -, X772, ⟨Lc772, hQ772, l772, y772, z772⟩, st772⟩ := X755.virtualBack hx (y := (⟨"com/example/omegaprobe/omegaprobe/graph/Components", "cyclic", "([I)Z"⟩ : MethodName)) (z := (⟨"com/example/omegaprobe/omegaprobe/graph/Components", "cyclic", "([I)Z"⟩ : MethodName)) hown (mvT hZ (hw _ (List.mem_of_getElem? (i := 31) rfl))) (mvT hZ (hw _ (List.mem_of_getElem? (i := 32) rfl))) (notFace_of_selects (args := #[]) (mvT hZ (hw _ (List.mem_of_getElem? (i := 34) rfl)))) (mvT hZ (hw _ (List.mem_of_getElem? (i := 34) rfl))) (mvT hZ (hw _ (List.mem_of_getElem? (i := 33) rfl))) (by decide) (backOf (W := 0) (rmMany l Z a0 hw [] b680 b723 (2 : Int32) h755 n0 Z762 V760 q771) hZ (hw _ (List.mem_of_getElem? (i := 35) rfl)) (hw _ (List.mem_of_getElem? (i := 3) rfl)) (by decide) (by decide)) q772a q772c (g := (mkF m 255 #[.val (.int x0), .val (.int x1), .val (.int x2), .val (.int c0_442), .val (.int c1_442), .val (.int c2_442), .val (.int c3_442), .val (.ref b464), .val (.ref b527), .val (.ref b680), .val (.int ss_708), .val (.int kd_708), .val (.ref b723), .unset, .unset, .unset, .unset] [(.ref b723), (.ref b680)])) rfl (by rw [hml]; rfl) (Steps.refl _) (argsL := [(.ref b723)]) (rest := []) (lenOf own_pd2 rfl) rfl (by show 2 * 0 + _ ≤ _; exact Nat.le_of_eq rfl) (hb hby at_255) (fun _ _ => ⟨rfl, e755, (by decide : 10 + 0 ≤ _), (by decide : 51 + 0 ≤ _)⟩)
    dsimp only [Pt.U, Pt.locs, Pt.cells, Pt.slots] at X772 l772 y772 z772 st772 hQ772
    subst l772 y772 z772
    obtain ⟨r_772, rfl, Sp772, Nq772, eh772⟩ := hQ772
    have N773 := Fr.app N763 Nq772
    have K774 : ∀ t, Steps p.tables e below (T772.setTop (mkF m 258 #[.val (.int x0), .val (.int x1), .val (.int x2), .val (.int c0_442), .val (.int c1_442), .val (.int c2_442), .val (.int c3_442), .val (.ref b464), .val (.ref b527), .val (.ref b680), .val (.int ss_708), .val (.int kd_708), .val (.ref b723), .unset, .unset, .unset, .unset] [(.int r_772)])) t → Steps p.tables e below (s₁.setTop (entryFrame m #[(.int x0), (.int x1), (.int x2)] maxLocals)) t := fun t k => K770 t (st772.trans k)
    obtain rfl : r_772 = (1 : Int32) := Int32.toInt_inj.mp (by have q0 : (1 : Int32).toInt = 1 := rfl; omega)
    obtain ⟨fs, hr, hrun, hended, hW, hsame⟩ := X772.leave (v := some (.int (1 : Int32))) (fun h => by rw [Bd.returns] at h; cases h)
    refine ⟨_, _, K774 _ ?_, hrun, hended, _, _, rfl, ?_, ⟨_, rfl⟩, hW, hsame.mono (by decide) (by decide)⟩
    · exact retN X772 hx (t := .boolean) Bd.returns (by simp) (hb hby at_258) hr
    · show Q_rm0 Z x0 x1 x2 h0 n0 _ T772.heap _
      have q775 := rng32 kd_708
      have q776 := (by decide : (2 : Int32).toInt = 2)
      have q777 := (by decide : (1 : Int32).toInt = 1)
      rw [eh772]
      exact ⟨rfl, (by trivial), N773, Kp761⟩
  · have q778 : ¬ kd_708.toInt = (2 : Int32).toInt := fun q => hc719 (Int32.toInt_inj.mp q)
    have K780 : ∀ t, Steps p.tables e below (T699.setTop (mkF m 262 #[.val (.int x0), .val (.int x1), .val (.int x2), .val (.int c0_442), .val (.int c1_442), .val (.int c2_442), .val (.int c3_442), .val (.ref b464), .val (.ref b527), .val (.ref b680), .val (.int ss_708), .val (.int kd_708), .unset, .unset, .unset, .unset, .unset] [(.int (3 : Int32)), (.int kd_708)])) t → Steps p.tables e below (s₁.setTop (entryFrame m #[(.int x0), (.int x1), (.int x2)] maxLocals)) t := fun t k => K720 t (by
      show Steps p.tables e below (T699.setTop (mkF m 229 #[.val (.int x0), .val (.int x1), .val (.int x2), .val (.int c0_442), .val (.int c1_442), .val (.int c2_442), .val (.int c3_442), .val (.ref b464), .val (.ref b527), .val (.ref b680), .val (.int ss_708), .val (.int kd_708), .unset, .unset, .unset, .unset, .unset] [(.int (2 : Int32)), (.int kd_708)])) t
      refine XS.icmpYes X699.here hx rfl (pc0 := 229) (pc' := 259) rfl (hb hby at_229) rfl (feq hc719).2 (by decide) (by decide) ?_
      show Steps p.tables e below (T699.setTop (mkF m 259 #[.val (.int x0), .val (.int x1), .val (.int x2), .val (.int c0_442), .val (.int c1_442), .val (.int c2_442), .val (.int c3_442), .val (.ref b464), .val (.ref b527), .val (.ref b680), .val (.int ss_708), .val (.int kd_708), .unset, .unset, .unset, .unset, .unset] [])) t
      refine XS.iload X699.here hx rfl (hb hby at_259) rfl ?_
      show Steps p.tables e below (T699.setTop (mkF m 261 #[.val (.int x0), .val (.int x1), .val (.int x2), .val (.int c0_442), .val (.int c1_442), .val (.int c2_442), .val (.int c3_442), .val (.ref b464), .val (.ref b527), .val (.ref b680), .val (.int ss_708), .val (.int kd_708), .unset, .unset, .unset, .unset, .unset] [(.int kd_708)])) t
      refine XS.iconst X699.here hx rfl (hb hby at_261) ?_
      exact k)
    by_cases hc779 : kd_708 = (3 : Int32)
    · have q781 : kd_708.toInt = (3 : Int32).toInt := congrArg Int32.toInt hc779
      have K782 : ∀ t, Steps p.tables e below (T699.setTop (mkF m 266 #[.val (.int x0), .val (.int x1), .val (.int x2), .val (.int c0_442), .val (.int c1_442), .val (.int c2_442), .val (.int c3_442), .val (.ref b464), .val (.ref b527), .val (.ref b680), .val (.int ss_708), .val (.int kd_708), .unset, .unset, .unset, .unset, .unset] [(.int (3 : Int32))])) t → Steps p.tables e below (s₁.setTop (entryFrame m #[(.int x0), (.int x1), (.int x2)] maxLocals)) t := fun t k => K780 t (by
        show Steps p.tables e below (T699.setTop (mkF m 262 #[.val (.int x0), .val (.int x1), .val (.int x2), .val (.int c0_442), .val (.int c1_442), .val (.int c2_442), .val (.int c3_442), .val (.ref b464), .val (.ref b527), .val (.ref b680), .val (.int ss_708), .val (.int kd_708), .unset, .unset, .unset, .unset, .unset] [(.int (3 : Int32)), (.int kd_708)])) t
        refine XS.icmpNo X699.here hx rfl (hb hby at_262) rfl (teq hc779).2 ?_
        show Steps p.tables e below (T699.setTop (mkF m 265 #[.val (.int x0), .val (.int x1), .val (.int x2), .val (.int c0_442), .val (.int c1_442), .val (.int c2_442), .val (.int c3_442), .val (.ref b464), .val (.ref b527), .val (.ref b680), .val (.int ss_708), .val (.int kd_708), .unset, .unset, .unset, .unset, .unset] [])) t
        refine XS.iconst X699.here hx rfl (hb hby at_265) ?_
        exact k)
      obtain ⟨T783, h783, k783, X783, e783, E783, A783, st783⟩ := newP X699 hx hZ (hw _ (List.mem_of_getElem? (i := 0) rfl)) e699.symm (g := (mkF m 266 #[.val (.int x0), .val (.int x1), .val (.int x2), .val (.int c0_442), .val (.int c1_442), .val (.int c2_442), .val (.int c3_442), .val (.ref b464), .val (.ref b527), .val (.ref b680), .val (.int ss_708), .val (.int kd_708), .unset, .unset, .unset, .unset, .unset] [(.int (3 : Int32))])) rfl (hb hby at_266) rfl (by decide) (cap := 3) (by decide) (by decide) (by decide) (by decide)
      obtain ⟨b783, g783⟩ : ∃ z, z = h699.size := ⟨_, rfl⟩
      rw [← g783] at A783 st783
      have ne784 : own_Ne b464 b783 := Nat.ne_of_lt (Nat.lt_of_lt_of_le F701.lt (Nat.le_of_eq g783.symm))
      have ne785 : own_Ne b527 b783 := Nat.ne_of_lt (Nat.lt_of_lt_of_le F702.lt (Nat.le_of_eq g783.symm))
      have ne786 : own_Ne b680 b783 := Nat.ne_of_lt (Nat.lt_of_lt_of_le Pc699_0.lt (Nat.le_of_eq g783.symm))
      have gb787 : own_Le n0 b783 := Nat.le_trans Z705 (Nat.le_of_eq g783.symm)
      have sb788 : own_Le h0.size b783 := Nat.le_trans Kp704.1 (Nat.le_of_eq g783.symm)
      have F789 := F701.ext E783
      have F790 := F702.ext E783
      have F791 := Pc699_0.ext E783
      have F792 := Pc699_1.ext E783
      have F793 := Pc699_2.ext E783
      have Z794 : own_Le n0 h783.size := Nat.le_trans Z705 E783.1
      have Kp795 : Keep h0 h783 [] := Keep.ext Kp704 E783
      have V796 : own_Arl Z h783 b783 .int (3 : Int32) := own_Arl.new A783 (by decide)
      have K797 : ∀ t, Steps p.tables e below (T783.setTop (mkF m 268 #[.val (.int x0), .val (.int x1), .val (.int x2), .val (.int c0_442), .val (.int c1_442), .val (.int c2_442), .val (.int c3_442), .val (.ref b464), .val (.ref b527), .val (.ref b680), .val (.int ss_708), .val (.int kd_708), .unset, .unset, .unset, .unset, .unset] [(.ref b783)])) t → Steps p.tables e below (s₁.setTop (entryFrame m #[(.int x0), (.int x1), (.int x2)] maxLocals)) t := fun t k => K782 t (st783 _ k)
      have K798 : ∀ t, Steps p.tables e below (T783.setTop (mkF m 272 #[.val (.int x0), .val (.int x1), .val (.int x2), .val (.int c0_442), .val (.int c1_442), .val (.int c2_442), .val (.int c3_442), .val (.ref b464), .val (.ref b527), .val (.ref b680), .val (.int ss_708), .val (.int kd_708), .unset, .unset, .unset, .unset, .unset] [(.int ss_708), (.int (0 : Int32)), (.ref b783), (.ref b783)])) t → Steps p.tables e below (s₁.setTop (entryFrame m #[(.int x0), (.int x1), (.int x2)] maxLocals)) t := fun t k => K797 t (by
        show Steps p.tables e below (T783.setTop (mkF m 268 #[.val (.int x0), .val (.int x1), .val (.int x2), .val (.int c0_442), .val (.int c1_442), .val (.int c2_442), .val (.int c3_442), .val (.ref b464), .val (.ref b527), .val (.ref b680), .val (.int ss_708), .val (.int kd_708), .unset, .unset, .unset, .unset, .unset] [(.ref b783)])) t
        refine XS.dup X783.here hx rfl (hb hby at_268) rfl rfl ?_
        show Steps p.tables e below (T783.setTop (mkF m 269 #[.val (.int x0), .val (.int x1), .val (.int x2), .val (.int c0_442), .val (.int c1_442), .val (.int c2_442), .val (.int c3_442), .val (.ref b464), .val (.ref b527), .val (.ref b680), .val (.int ss_708), .val (.int kd_708), .unset, .unset, .unset, .unset, .unset] [(.ref b783), (.ref b783)])) t
        refine XS.iconst X783.here hx rfl (hb hby at_269) ?_
        show Steps p.tables e below (T783.setTop (mkF m 270 #[.val (.int x0), .val (.int x1), .val (.int x2), .val (.int c0_442), .val (.int c1_442), .val (.int c2_442), .val (.int c3_442), .val (.ref b464), .val (.ref b527), .val (.ref b680), .val (.int ss_708), .val (.int kd_708), .unset, .unset, .unset, .unset, .unset] [(.int (0 : Int32)), (.ref b783), (.ref b783)])) t
        refine XS.iload X783.here hx rfl (hb hby at_270) rfl ?_
        exact k)
      have q800 : ¬ (0 : Int32) < 0 ∧ (0 : Int32) < (3 : Int32) := by
        have q801 := rng32 kd_708
        have q802 := (by decide : (2 : Int32).toInt = 2)
        have q803 := (by decide : (3 : Int32).toInt = 3)
        have q804 := (by decide : (0 : Int32).toInt = 0)
        rw [Int32.lt_iff_toInt_lt, Int32.lt_iff_toInt_lt]; have q0 : (0 : Int32).toInt = 0 := rfl; omega
      obtain ⟨cl799, Ar799, S799, N799⟩ := id V796
      have hin799 : ¬ ((0 : Int32) < 0 ∨ cl799.slots.size ≤ ((0 : Int32)).toNatClampNeg) := inb_of S799 q800
      obtain ⟨T799, h799, X799, e799, W799, st799⟩ := stI X783 hx hZ e783 Ar799 (j := (0 : Int32)) hin799 (g := (mkF m 272 #[.val (.int x0), .val (.int x1), .val (.int x2), .val (.int c0_442), .val (.int c1_442), .val (.int c2_442), .val (.int c3_442), .val (.ref b464), .val (.ref b527), .val (.ref b680), .val (.int ss_708), .val (.int kd_708), .unset, .unset, .unset, .unset, .unset] [(.int ss_708), (.int (0 : Int32)), (.ref b783), (.ref b783)])) rfl rfl (hb hby at_272)
      have V805 : own_Arl Z h799 b783 .int (3 : Int32) := own_Arl.same Ar799 S799 N799 W799
      have Kp806 : Keep h0 h799 [] := Keep.wr Kp795 W799 (Or.inr sb788)
      have Z807 : own_Le n0 h799.size := Nat.le_trans Z794 (Keep.of_wr W799).1
      have N808 := Fr.snoc X799 N700 gb787
      have F809 := F789.other W799 ne784
      have F810 := F790.other W799 ne785
      have F811 := F791.wr W799
      have F812 := F792.other W799 (Or.inl ne786)
      have F813 := F793.other W799 (Or.inl ne786)
      have K814 : ∀ t, Steps p.tables e below (T799.setTop (mkF m 273 #[.val (.int x0), .val (.int x1), .val (.int x2), .val (.int c0_442), .val (.int c1_442), .val (.int c2_442), .val (.int c3_442), .val (.ref b464), .val (.ref b527), .val (.ref b680), .val (.int ss_708), .val (.int kd_708), .unset, .unset, .unset, .unset, .unset] [(.ref b783)])) t → Steps p.tables e below (s₁.setTop (entryFrame m #[(.int x0), (.int x1), (.int x2)] maxLocals)) t := fun t k => K798 t (st799 _ k)
      have K815 : ∀ t, Steps p.tables e below (T799.setTop (mkF m 281 #[.val (.int x0), .val (.int x1), .val (.int x2), .val (.int c0_442), .val (.int c1_442), .val (.int c2_442), .val (.int c3_442), .val (.ref b464), .val (.ref b527), .val (.ref b680), .val (.int ss_708), .val (.int kd_708), .unset, .unset, .unset, .unset, .unset] [(.int ((ss_708 + (1 : Int32)) &&& (3 : Int32))), (.int (1 : Int32)), (.ref b783), (.ref b783)])) t → Steps p.tables e below (s₁.setTop (entryFrame m #[(.int x0), (.int x1), (.int x2)] maxLocals)) t := fun t k => K814 t (by
        show Steps p.tables e below (T799.setTop (mkF m 273 #[.val (.int x0), .val (.int x1), .val (.int x2), .val (.int c0_442), .val (.int c1_442), .val (.int c2_442), .val (.int c3_442), .val (.ref b464), .val (.ref b527), .val (.ref b680), .val (.int ss_708), .val (.int kd_708), .unset, .unset, .unset, .unset, .unset] [(.ref b783)])) t
        refine XS.dup X799.here hx rfl (hb hby at_273) rfl rfl ?_
        show Steps p.tables e below (T799.setTop (mkF m 274 #[.val (.int x0), .val (.int x1), .val (.int x2), .val (.int c0_442), .val (.int c1_442), .val (.int c2_442), .val (.int c3_442), .val (.ref b464), .val (.ref b527), .val (.ref b680), .val (.int ss_708), .val (.int kd_708), .unset, .unset, .unset, .unset, .unset] [(.ref b783), (.ref b783)])) t
        refine XS.iconst X799.here hx rfl (hb hby at_274) ?_
        show Steps p.tables e below (T799.setTop (mkF m 275 #[.val (.int x0), .val (.int x1), .val (.int x2), .val (.int c0_442), .val (.int c1_442), .val (.int c2_442), .val (.int c3_442), .val (.ref b464), .val (.ref b527), .val (.ref b680), .val (.int ss_708), .val (.int kd_708), .unset, .unset, .unset, .unset, .unset] [(.int (1 : Int32)), (.ref b783), (.ref b783)])) t
        refine XS.iload X799.here hx rfl (hb hby at_275) rfl ?_
        show Steps p.tables e below (T799.setTop (mkF m 277 #[.val (.int x0), .val (.int x1), .val (.int x2), .val (.int c0_442), .val (.int c1_442), .val (.int c2_442), .val (.int c3_442), .val (.ref b464), .val (.ref b527), .val (.ref b680), .val (.int ss_708), .val (.int kd_708), .unset, .unset, .unset, .unset, .unset] [(.int ss_708), (.int (1 : Int32)), (.ref b783), (.ref b783)])) t
        refine XS.iconst X799.here hx rfl (hb hby at_277) ?_
        show Steps p.tables e below (T799.setTop (mkF m 278 #[.val (.int x0), .val (.int x1), .val (.int x2), .val (.int c0_442), .val (.int c1_442), .val (.int c2_442), .val (.int c3_442), .val (.ref b464), .val (.ref b527), .val (.ref b680), .val (.int ss_708), .val (.int kd_708), .unset, .unset, .unset, .unset, .unset] [(.int (1 : Int32)), (.int ss_708), (.int (1 : Int32)), (.ref b783), (.ref b783)])) t
        refine XS.iadd X799.here hx rfl (hb hby at_278) rfl ?_
        show Steps p.tables e below (T799.setTop (mkF m 279 #[.val (.int x0), .val (.int x1), .val (.int x2), .val (.int c0_442), .val (.int c1_442), .val (.int c2_442), .val (.int c3_442), .val (.ref b464), .val (.ref b527), .val (.ref b680), .val (.int ss_708), .val (.int kd_708), .unset, .unset, .unset, .unset, .unset] [(.int (ss_708 + (1 : Int32))), (.int (1 : Int32)), (.ref b783), (.ref b783)])) t
        refine XS.iconst X799.here hx rfl (hb hby at_279) ?_
        show Steps p.tables e below (T799.setTop (mkF m 280 #[.val (.int x0), .val (.int x1), .val (.int x2), .val (.int c0_442), .val (.int c1_442), .val (.int c2_442), .val (.int c3_442), .val (.ref b464), .val (.ref b527), .val (.ref b680), .val (.int ss_708), .val (.int kd_708), .unset, .unset, .unset, .unset, .unset] [(.int (3 : Int32)), (.int (ss_708 + (1 : Int32))), (.int (1 : Int32)), (.ref b783), (.ref b783)])) t
        refine XS.iand X799.here hx rfl (hb hby at_280) rfl ?_
        exact k)
      have q817 : ¬ (1 : Int32) < 0 ∧ (1 : Int32) < (3 : Int32) := by
        have q818 := rng32 kd_708
        have q819 := (by decide : (2 : Int32).toInt = 2)
        have q820 := (by decide : (3 : Int32).toInt = 3)
        have q821 := (by decide : (1 : Int32).toInt = 1)
        rw [Int32.lt_iff_toInt_lt, Int32.lt_iff_toInt_lt]; have q0 : (0 : Int32).toInt = 0 := rfl; omega
      obtain ⟨cl816, Ar816, S816, N816⟩ := id V805
      have hin816 : ¬ ((1 : Int32) < 0 ∨ cl816.slots.size ≤ ((1 : Int32)).toNatClampNeg) := inb_of S816 q817
      obtain ⟨T816, h816, X816, e816, W816, st816⟩ := stI X799 hx hZ e799 Ar816 (j := (1 : Int32)) hin816 (g := (mkF m 281 #[.val (.int x0), .val (.int x1), .val (.int x2), .val (.int c0_442), .val (.int c1_442), .val (.int c2_442), .val (.int c3_442), .val (.ref b464), .val (.ref b527), .val (.ref b680), .val (.int ss_708), .val (.int kd_708), .unset, .unset, .unset, .unset, .unset] [(.int ((ss_708 + (1 : Int32)) &&& (3 : Int32))), (.int (1 : Int32)), (.ref b783), (.ref b783)])) rfl rfl (hb hby at_281)
      have V822 : own_Arl Z h816 b783 .int (3 : Int32) := own_Arl.same Ar816 S816 N816 W816
      have Kp823 : Keep h0 h816 [] := Keep.wr Kp806 W816 (Or.inr sb788)
      have Z824 : own_Le n0 h816.size := Nat.le_trans Z807 (Keep.of_wr W816).1
      have N825 := Fr.snoc X816 N808 gb787
      have F826 := F809.other W816 ne784
      have F827 := F810.other W816 ne785
      have F828 := F811.wr W816
      have F829 := F812.other W816 (Or.inl ne786)
      have F830 := F813.other W816 (Or.inl ne786)
      have K831 : ∀ t, Steps p.tables e below (T816.setTop (mkF m 282 #[.val (.int x0), .val (.int x1), .val (.int x2), .val (.int c0_442), .val (.int c1_442), .val (.int c2_442), .val (.int c3_442), .val (.ref b464), .val (.ref b527), .val (.ref b680), .val (.int ss_708), .val (.int kd_708), .unset, .unset, .unset, .unset, .unset] [(.ref b783)])) t → Steps p.tables e below (s₁.setTop (entryFrame m #[(.int x0), (.int x1), (.int x2)] maxLocals)) t := fun t k => K815 t (st816 _ k)
      have K832 : ∀ t, Steps p.tables e below (T816.setTop (mkF m 290 #[.val (.int x0), .val (.int x1), .val (.int x2), .val (.int c0_442), .val (.int c1_442), .val (.int c2_442), .val (.int c3_442), .val (.ref b464), .val (.ref b527), .val (.ref b680), .val (.int ss_708), .val (.int kd_708), .unset, .unset, .unset, .unset, .unset] [(.int ((ss_708 + (2 : Int32)) &&& (3 : Int32))), (.int (2 : Int32)), (.ref b783), (.ref b783)])) t → Steps p.tables e below (s₁.setTop (entryFrame m #[(.int x0), (.int x1), (.int x2)] maxLocals)) t := fun t k => K831 t (by
        show Steps p.tables e below (T816.setTop (mkF m 282 #[.val (.int x0), .val (.int x1), .val (.int x2), .val (.int c0_442), .val (.int c1_442), .val (.int c2_442), .val (.int c3_442), .val (.ref b464), .val (.ref b527), .val (.ref b680), .val (.int ss_708), .val (.int kd_708), .unset, .unset, .unset, .unset, .unset] [(.ref b783)])) t
        refine XS.dup X816.here hx rfl (hb hby at_282) rfl rfl ?_
        show Steps p.tables e below (T816.setTop (mkF m 283 #[.val (.int x0), .val (.int x1), .val (.int x2), .val (.int c0_442), .val (.int c1_442), .val (.int c2_442), .val (.int c3_442), .val (.ref b464), .val (.ref b527), .val (.ref b680), .val (.int ss_708), .val (.int kd_708), .unset, .unset, .unset, .unset, .unset] [(.ref b783), (.ref b783)])) t
        refine XS.iconst X816.here hx rfl (hb hby at_283) ?_
        show Steps p.tables e below (T816.setTop (mkF m 284 #[.val (.int x0), .val (.int x1), .val (.int x2), .val (.int c0_442), .val (.int c1_442), .val (.int c2_442), .val (.int c3_442), .val (.ref b464), .val (.ref b527), .val (.ref b680), .val (.int ss_708), .val (.int kd_708), .unset, .unset, .unset, .unset, .unset] [(.int (2 : Int32)), (.ref b783), (.ref b783)])) t
        refine XS.iload X816.here hx rfl (hb hby at_284) rfl ?_
        show Steps p.tables e below (T816.setTop (mkF m 286 #[.val (.int x0), .val (.int x1), .val (.int x2), .val (.int c0_442), .val (.int c1_442), .val (.int c2_442), .val (.int c3_442), .val (.ref b464), .val (.ref b527), .val (.ref b680), .val (.int ss_708), .val (.int kd_708), .unset, .unset, .unset, .unset, .unset] [(.int ss_708), (.int (2 : Int32)), (.ref b783), (.ref b783)])) t
        refine XS.iconst X816.here hx rfl (hb hby at_286) ?_
        show Steps p.tables e below (T816.setTop (mkF m 287 #[.val (.int x0), .val (.int x1), .val (.int x2), .val (.int c0_442), .val (.int c1_442), .val (.int c2_442), .val (.int c3_442), .val (.ref b464), .val (.ref b527), .val (.ref b680), .val (.int ss_708), .val (.int kd_708), .unset, .unset, .unset, .unset, .unset] [(.int (2 : Int32)), (.int ss_708), (.int (2 : Int32)), (.ref b783), (.ref b783)])) t
        refine XS.iadd X816.here hx rfl (hb hby at_287) rfl ?_
        show Steps p.tables e below (T816.setTop (mkF m 288 #[.val (.int x0), .val (.int x1), .val (.int x2), .val (.int c0_442), .val (.int c1_442), .val (.int c2_442), .val (.int c3_442), .val (.ref b464), .val (.ref b527), .val (.ref b680), .val (.int ss_708), .val (.int kd_708), .unset, .unset, .unset, .unset, .unset] [(.int (ss_708 + (2 : Int32))), (.int (2 : Int32)), (.ref b783), (.ref b783)])) t
        refine XS.iconst X816.here hx rfl (hb hby at_288) ?_
        show Steps p.tables e below (T816.setTop (mkF m 289 #[.val (.int x0), .val (.int x1), .val (.int x2), .val (.int c0_442), .val (.int c1_442), .val (.int c2_442), .val (.int c3_442), .val (.ref b464), .val (.ref b527), .val (.ref b680), .val (.int ss_708), .val (.int kd_708), .unset, .unset, .unset, .unset, .unset] [(.int (3 : Int32)), (.int (ss_708 + (2 : Int32))), (.int (2 : Int32)), (.ref b783), (.ref b783)])) t
        refine XS.iand X816.here hx rfl (hb hby at_289) rfl ?_
        exact k)
      have q834 : ¬ (2 : Int32) < 0 ∧ (2 : Int32) < (3 : Int32) := by
        have q835 := rng32 kd_708
        have q836 := (by decide : (2 : Int32).toInt = 2)
        have q837 := (by decide : (3 : Int32).toInt = 3)
        rw [Int32.lt_iff_toInt_lt, Int32.lt_iff_toInt_lt]; have q0 : (0 : Int32).toInt = 0 := rfl; omega
      obtain ⟨cl833, Ar833, S833, N833⟩ := id V822
      have hin833 : ¬ ((2 : Int32) < 0 ∨ cl833.slots.size ≤ ((2 : Int32)).toNatClampNeg) := inb_of S833 q834
      obtain ⟨T833, h833, X833, e833, W833, st833⟩ := stI X816 hx hZ e816 Ar833 (j := (2 : Int32)) hin833 (g := (mkF m 290 #[.val (.int x0), .val (.int x1), .val (.int x2), .val (.int c0_442), .val (.int c1_442), .val (.int c2_442), .val (.int c3_442), .val (.ref b464), .val (.ref b527), .val (.ref b680), .val (.int ss_708), .val (.int kd_708), .unset, .unset, .unset, .unset, .unset] [(.int ((ss_708 + (2 : Int32)) &&& (3 : Int32))), (.int (2 : Int32)), (.ref b783), (.ref b783)])) rfl rfl (hb hby at_290)
      have V838 : own_Arl Z h833 b783 .int (3 : Int32) := own_Arl.same Ar833 S833 N833 W833
      have Kp839 : Keep h0 h833 [] := Keep.wr Kp823 W833 (Or.inr sb788)
      have Z840 : own_Le n0 h833.size := Nat.le_trans Z824 (Keep.of_wr W833).1
      have N841 := Fr.snoc X833 N825 gb787
      have F842 := F826.other W833 ne784
      have F843 := F827.other W833 ne785
      have F844 := F828.wr W833
      have F845 := F829.other W833 (Or.inl ne786)
      have F846 := F830.other W833 (Or.inl ne786)
      have K847 : ∀ t, Steps p.tables e below (T833.setTop (mkF m 291 #[.val (.int x0), .val (.int x1), .val (.int x2), .val (.int c0_442), .val (.int c1_442), .val (.int c2_442), .val (.int c3_442), .val (.ref b464), .val (.ref b527), .val (.ref b680), .val (.int ss_708), .val (.int kd_708), .unset, .unset, .unset, .unset, .unset] [(.ref b783)])) t → Steps p.tables e below (s₁.setTop (entryFrame m #[(.int x0), (.int x1), (.int x2)] maxLocals)) t := fun t k => K832 t (st833 _ k)
      have K848 : ∀ t, Steps p.tables e below (T833.setTop (mkF m 297 #[.val (.int x0), .val (.int x1), .val (.int x2), .val (.int c0_442), .val (.int c1_442), .val (.int c2_442), .val (.int c3_442), .val (.ref b464), .val (.ref b527), .val (.ref b680), .val (.int ss_708), .val (.int kd_708), .val (.ref b783), .unset, .unset, .unset, .unset] [(.ref b783), (.ref b680)])) t → Steps p.tables e below (s₁.setTop (entryFrame m #[(.int x0), (.int x1), (.int x2)] maxLocals)) t := fun t k => K847 t (by
        show Steps p.tables e below (T833.setTop (mkF m 291 #[.val (.int x0), .val (.int x1), .val (.int x2), .val (.int c0_442), .val (.int c1_442), .val (.int c2_442), .val (.int c3_442), .val (.ref b464), .val (.ref b527), .val (.ref b680), .val (.int ss_708), .val (.int kd_708), .unset, .unset, .unset, .unset, .unset] [(.ref b783)])) t
        refine XS.astore X833.here hx rfl (hb hby at_291) rfl rfl (l' := #[.val (.int x0), .val (.int x1), .val (.int x2), .val (.int c0_442), .val (.int c1_442), .val (.int c2_442), .val (.int c3_442), .val (.ref b464), .val (.ref b527), .val (.ref b680), .val (.int ss_708), .val (.int kd_708), .val (.ref b783), .unset, .unset, .unset, .unset]) rfl ?_
        show Steps p.tables e below (T833.setTop (mkF m 293 #[.val (.int x0), .val (.int x1), .val (.int x2), .val (.int c0_442), .val (.int c1_442), .val (.int c2_442), .val (.int c3_442), .val (.ref b464), .val (.ref b527), .val (.ref b680), .val (.int ss_708), .val (.int kd_708), .val (.ref b783), .unset, .unset, .unset, .unset] [])) t
        refine XS.aload X833.here hx rfl (hb hby at_293) rfl rfl ?_
        show Steps p.tables e below (T833.setTop (mkF m 295 #[.val (.int x0), .val (.int x1), .val (.int x2), .val (.int c0_442), .val (.int c1_442), .val (.int c2_442), .val (.int c3_442), .val (.ref b464), .val (.ref b527), .val (.ref b680), .val (.int ss_708), .val (.int kd_708), .val (.ref b783), .unset, .unset, .unset, .unset] [(.ref b680)])) t
        refine XS.aload X833.here hx rfl (hb hby at_295) rfl rfl ?_
        exact k)
      have q849 : 1 < (3 : Int32).toInt := by decide
      obtain ⟨cq850, kq850, q850a, q850b, q850c⟩ := isOf hZ e833 F844
      obtain ⟨_, _, ⟨T850, L850, kk850, nn850⟩, -, X850, ⟨Lc850, hQ850, l850, y850, z850⟩, st850⟩ := X833.virtualBack hx (y := (⟨"com/example/omegaprobe/omegaprobe/graph/Components", "cyclic", "([I)Z"⟩ : MethodName)) (z := (⟨"com/example/omegaprobe/omegaprobe/graph/Components", "cyclic", "([I)Z"⟩ : MethodName)) hown (mvT hZ (hw _ (List.mem_of_getElem? (i := 31) rfl))) (mvT hZ (hw _ (List.mem_of_getElem? (i := 32) rfl))) (notFace_of_selects (args := #[]) (mvT hZ (hw _ (List.mem_of_getElem? (i := 34) rfl)))) (mvT hZ (hw _ (List.mem_of_getElem? (i := 34) rfl))) (mvT hZ (hw _ (List.mem_of_getElem? (i := 33) rfl))) (by decide) (backOf (W := 0) (rmMany l Z a0 hw [] b680 b783 (3 : Int32) h833 n0 Z840 V838 q849) hZ (hw _ (List.mem_of_getElem? (i := 35) rfl)) (hw _ (List.mem_of_getElem? (i := 3) rfl)) (by decide) (by decide)) q850a q850c (g := (mkF m 297 #[.val (.int x0), .val (.int x1), .val (.int x2), .val (.int c0_442), .val (.int c1_442), .val (.int c2_442), .val (.int c3_442), .val (.ref b464), .val (.ref b527), .val (.ref b680), .val (.int ss_708), .val (.int kd_708), .val (.ref b783), .unset, .unset, .unset, .unset] [(.ref b783), (.ref b680)])) rfl (by rw [hml]; rfl) (Steps.refl _) (argsL := [(.ref b783)]) (rest := []) (lenOf own_pd2 rfl) rfl (by show 2 * 0 + _ ≤ _; exact Nat.le_of_eq rfl) (hb hby at_297) (fun _ _ => ⟨rfl, e833, (by decide : 10 + 0 ≤ _), (by decide : 52 + 0 ≤ _)⟩)
      dsimp only [Pt.U, Pt.locs, Pt.cells, Pt.slots] at X850 l850 y850 z850 st850 hQ850
      subst l850 y850 z850
      obtain ⟨r_850, rfl, Sp850, Nq850, eh850⟩ := hQ850
      have N851 := Fr.app N841 Nq850
      have K852 : ∀ t, Steps p.tables e below (T850.setTop (mkF m 300 #[.val (.int x0), .val (.int x1), .val (.int x2), .val (.int c0_442), .val (.int c1_442), .val (.int c2_442), .val (.int c3_442), .val (.ref b464), .val (.ref b527), .val (.ref b680), .val (.int ss_708), .val (.int kd_708), .val (.ref b783), .unset, .unset, .unset, .unset] [(.int r_850)])) t → Steps p.tables e below (s₁.setTop (entryFrame m #[(.int x0), (.int x1), (.int x2)] maxLocals)) t := fun t k => K848 t (st850.trans k)
      obtain rfl : r_850 = (1 : Int32) := Int32.toInt_inj.mp (by have q0 : (1 : Int32).toInt = 1 := rfl; omega)
      obtain ⟨fs, hr, hrun, hended, hW, hsame⟩ := X850.leave (v := some (.int (1 : Int32))) (fun h => by rw [Bd.returns] at h; cases h)
      refine ⟨_, _, K852 _ ?_, hrun, hended, _, _, rfl, ?_, ⟨_, rfl⟩, hW, hsame.mono (by decide) (by decide)⟩
      · exact retN X850 hx (t := .boolean) Bd.returns (by simp) (hb hby at_300) hr
      · show Q_rm0 Z x0 x1 x2 h0 n0 _ T850.heap _
        have q853 := rng32 kd_708
        have q854 := (by decide : (2 : Int32).toInt = 2)
        have q855 := (by decide : (3 : Int32).toInt = 3)
        have q856 := (by decide : (1 : Int32).toInt = 1)
        rw [eh850]
        exact ⟨rfl, (by trivial), N851, Kp839⟩
    · have q857 : ¬ kd_708.toInt = (3 : Int32).toInt := fun q => hc779 (Int32.toInt_inj.mp q)
      have q858 := (by decide : (0 : Int32).toInt = 0)
      have q859 := rng32 c0_442
      have q860 := rng32 c1_442
      have q861 := c_iadd c0_442 c1_442
      have q862 := rng32 (c0_442 + c1_442)
      have q863 := rng32 c2_442
      have q864 := c_iadd (c0_442 + c1_442) c2_442
      have q865 := rng32 ((c0_442 + c1_442) + c2_442)
      have q866 := rng32 c3_442
      have q867 := c_iadd ((c0_442 + c1_442) + c2_442) c3_442
      have q868 := rng32 (((c0_442 + c1_442) + c2_442) + c3_442)
      have Fv0 : f521 0 = (0 : Int32) := by simp [hf477, hf488, hf499, hf510, hf521]
      have Fv1 : f521 1 = c0_442 := by simp [hf477, hf488, hf499, hf510, hf521]
      have Fv2 : f521 2 = (c0_442 + c1_442) := by simp [hf477, hf488, hf499, hf510, hf521]
      have Fv3 : f521 3 = ((c0_442 + c1_442) + c2_442) := by simp [hf477, hf488, hf499, hf510, hf521]
      have Fv4 : f521 4 = (((c0_442 + c1_442) + c2_442) + c3_442) := by simp [hf477, hf488, hf499, hf510, hf521]
      have hfst : ∀ i : Nat, i < 4 → 0 ≤ (f521 i).toInt ∧ (f521 i).toInt ≤ (f521 (i + 1)).toInt ∧ (f521 (i + 1)).toInt ≤ (f521 i).toInt + 3 ∧ (f521 (i + 1)).toInt ≤ 12 := fun i hi => by
        match i, hi with
        | 0, _ => show 0 ≤ (f521 0).toInt ∧ (f521 0).toInt ≤ (f521 1).toInt ∧ (f521 1).toInt ≤ (f521 0).toInt + 3 ∧ (f521 1).toInt ≤ 12; rw [Fv0, Fv1]; omega
        | 1, _ => show 0 ≤ (f521 1).toInt ∧ (f521 1).toInt ≤ (f521 2).toInt ∧ (f521 2).toInt ≤ (f521 1).toInt + 3 ∧ (f521 2).toInt ≤ 12; rw [Fv1, Fv2]; omega
        | 2, _ => show 0 ≤ (f521 2).toInt ∧ (f521 2).toInt ≤ (f521 3).toInt ∧ (f521 3).toInt ≤ (f521 2).toInt + 3 ∧ (f521 3).toInt ≤ 12; rw [Fv2, Fv3]; omega
        | 3, _ => show 0 ≤ (f521 3).toInt ∧ (f521 3).toInt ≤ (f521 4).toInt ∧ (f521 4).toInt ≤ (f521 3).toInt + 3 ∧ (f521 4).toInt ≤ 12; rw [Fv3, Fv4]; omega
      have hs1 : (ss_708 + (1 : Int32)).toNatClampNeg = ss_708.toNatClampNeg + 1 := own_plus (by omega) (by have := c_iadd ss_708 1; have := rng32 (ss_708 + 1); have : (1 : Int32).toInt = 1 := rfl; omega)
      have hs0 := own_clamp (j := ss_708) (by omega)
      have hfs := hfst ss_708.toNatClampNeg (by omega)
      rw [← hs1] at hfs
      obtain ⟨fs1, fs2, fs3, fs4⟩ := hfs
      clear q858 q859 q860 q861 q862 q863 q864 q865 q866 q867 q868
      have K869 : ∀ t, Steps p.tables e below (T699.setTop (mkF m 302 #[.val (.int x0), .val (.int x1), .val (.int x2), .val (.int c0_442), .val (.int c1_442), .val (.int c2_442), .val (.int c3_442), .val (.ref b464), .val (.ref b527), .val (.ref b680), .val (.int ss_708), .val (.int kd_708), .unset, .unset, .unset, .unset, .unset] [(.int (1 : Int32))])) t → Steps p.tables e below (s₁.setTop (entryFrame m #[(.int x0), (.int x1), (.int x2)] maxLocals)) t := fun t k => K780 t (by
        show Steps p.tables e below (T699.setTop (mkF m 262 #[.val (.int x0), .val (.int x1), .val (.int x2), .val (.int c0_442), .val (.int c1_442), .val (.int c2_442), .val (.int c3_442), .val (.ref b464), .val (.ref b527), .val (.ref b680), .val (.int ss_708), .val (.int kd_708), .unset, .unset, .unset, .unset, .unset] [(.int (3 : Int32)), (.int kd_708)])) t
        refine XS.icmpYes X699.here hx rfl (pc0 := 262) (pc' := 301) rfl (hb hby at_262) rfl (feq hc779).2 (by decide) (by decide) ?_
        show Steps p.tables e below (T699.setTop (mkF m 301 #[.val (.int x0), .val (.int x1), .val (.int x2), .val (.int c0_442), .val (.int c1_442), .val (.int c2_442), .val (.int c3_442), .val (.ref b464), .val (.ref b527), .val (.ref b680), .val (.int ss_708), .val (.int kd_708), .unset, .unset, .unset, .unset, .unset] [])) t
        refine XS.iconst X699.here hx rfl (hb hby at_301) ?_
        exact k)
      obtain ⟨T870, h870, k870, X870, e870, E870, A870, st870⟩ := newP X699 hx hZ (hw _ (List.mem_of_getElem? (i := 0) rfl)) e699.symm (g := (mkF m 302 #[.val (.int x0), .val (.int x1), .val (.int x2), .val (.int c0_442), .val (.int c1_442), .val (.int c2_442), .val (.int c3_442), .val (.ref b464), .val (.ref b527), .val (.ref b680), .val (.int ss_708), .val (.int kd_708), .unset, .unset, .unset, .unset, .unset] [(.int (1 : Int32))])) rfl (hb hby at_302) rfl (by decide) (cap := 1) (by decide) (by decide) (by decide) (by decide)
      obtain ⟨b870, g870⟩ : ∃ z, z = h699.size := ⟨_, rfl⟩
      rw [← g870] at A870 st870
      have ne871 : own_Ne b464 b870 := Nat.ne_of_lt (Nat.lt_of_lt_of_le F701.lt (Nat.le_of_eq g870.symm))
      have ne872 : own_Ne b527 b870 := Nat.ne_of_lt (Nat.lt_of_lt_of_le F702.lt (Nat.le_of_eq g870.symm))
      have ne873 : own_Ne b680 b870 := Nat.ne_of_lt (Nat.lt_of_lt_of_le Pc699_0.lt (Nat.le_of_eq g870.symm))
      have gb874 : own_Le n0 b870 := Nat.le_trans Z705 (Nat.le_of_eq g870.symm)
      have sb875 : own_Le h0.size b870 := Nat.le_trans Kp704.1 (Nat.le_of_eq g870.symm)
      have F876 := F701.ext E870
      have F877 := F702.ext E870
      have F878 := Pc699_0.ext E870
      have F879 := Pc699_1.ext E870
      have F880 := Pc699_2.ext E870
      have Z881 : own_Le n0 h870.size := Nat.le_trans Z705 E870.1
      have Kp882 : Keep h0 h870 [] := Keep.ext Kp704 E870
      have V883 : own_Arf Z h870 b870 .int (1 : Int32) (fun _ => (0 : Int32)) := own_Arf.new A870 (by decide) rfl
      have K884 : ∀ t, Steps p.tables e below (T870.setTop (mkF m 304 #[.val (.int x0), .val (.int x1), .val (.int x2), .val (.int c0_442), .val (.int c1_442), .val (.int c2_442), .val (.int c3_442), .val (.ref b464), .val (.ref b527), .val (.ref b680), .val (.int ss_708), .val (.int kd_708), .unset, .unset, .unset, .unset, .unset] [(.ref b870)])) t → Steps p.tables e below (s₁.setTop (entryFrame m #[(.int x0), (.int x1), (.int x2)] maxLocals)) t := fun t k => K869 t (st870 _ k)
      have K885 : ∀ t, Steps p.tables e below (T870.setTop (mkF m 308 #[.val (.int x0), .val (.int x1), .val (.int x2), .val (.int c0_442), .val (.int c1_442), .val (.int c2_442), .val (.int c3_442), .val (.ref b464), .val (.ref b527), .val (.ref b680), .val (.int ss_708), .val (.int kd_708), .unset, .unset, .unset, .unset, .unset] [(.int ss_708), (.int (0 : Int32)), (.ref b870), (.ref b870)])) t → Steps p.tables e below (s₁.setTop (entryFrame m #[(.int x0), (.int x1), (.int x2)] maxLocals)) t := fun t k => K884 t (by
        show Steps p.tables e below (T870.setTop (mkF m 304 #[.val (.int x0), .val (.int x1), .val (.int x2), .val (.int c0_442), .val (.int c1_442), .val (.int c2_442), .val (.int c3_442), .val (.ref b464), .val (.ref b527), .val (.ref b680), .val (.int ss_708), .val (.int kd_708), .unset, .unset, .unset, .unset, .unset] [(.ref b870)])) t
        refine XS.dup X870.here hx rfl (hb hby at_304) rfl rfl ?_
        show Steps p.tables e below (T870.setTop (mkF m 305 #[.val (.int x0), .val (.int x1), .val (.int x2), .val (.int c0_442), .val (.int c1_442), .val (.int c2_442), .val (.int c3_442), .val (.ref b464), .val (.ref b527), .val (.ref b680), .val (.int ss_708), .val (.int kd_708), .unset, .unset, .unset, .unset, .unset] [(.ref b870), (.ref b870)])) t
        refine XS.iconst X870.here hx rfl (hb hby at_305) ?_
        show Steps p.tables e below (T870.setTop (mkF m 306 #[.val (.int x0), .val (.int x1), .val (.int x2), .val (.int c0_442), .val (.int c1_442), .val (.int c2_442), .val (.int c3_442), .val (.ref b464), .val (.ref b527), .val (.ref b680), .val (.int ss_708), .val (.int kd_708), .unset, .unset, .unset, .unset, .unset] [(.int (0 : Int32)), (.ref b870), (.ref b870)])) t
        refine XS.iload X870.here hx rfl (hb hby at_306) rfl ?_
        exact k)
      have q887 : ¬ (0 : Int32) < 0 ∧ (0 : Int32) < (1 : Int32) := by
        have q888 := rng32 kd_708
        have q889 := (by decide : (2 : Int32).toInt = 2)
        have q890 := (by decide : (3 : Int32).toInt = 3)
        have q891 := (by decide : (0 : Int32).toInt = 0)
        have q892 := (by decide : (1 : Int32).toInt = 1)
        rw [Int32.lt_iff_toInt_lt, Int32.lt_iff_toInt_lt]; have q0 : (0 : Int32).toInt = 0 := rfl; omega
      obtain ⟨cl886, Ar886, S886, N886, Hs886⟩ := id V883
      have hin886 : ¬ ((0 : Int32) < 0 ∨ cl886.slots.size ≤ ((0 : Int32)).toNatClampNeg) := inb_of S886 q887
      obtain ⟨T886, h886, X886, e886, W886, st886⟩ := stI X870 hx hZ e870 Ar886 (j := (0 : Int32)) hin886 (g := (mkF m 308 #[.val (.int x0), .val (.int x1), .val (.int x2), .val (.int c0_442), .val (.int c1_442), .val (.int c2_442), .val (.int c3_442), .val (.ref b464), .val (.ref b527), .val (.ref b680), .val (.int ss_708), .val (.int kd_708), .unset, .unset, .unset, .unset, .unset] [(.int ss_708), (.int (0 : Int32)), (.ref b870), (.ref b870)])) rfl rfl (hb hby at_308)
      obtain ⟨f894, hf894⟩ : ∃ fnew : Nat → Int32, fnew = fun i => if i = 0 then ss_708 else (fun _ => (0 : Int32)) i := ⟨_, rfl⟩
      have V893 : own_Arf Z h886 b870 .int (1 : Int32) f894 := own_Arf.set Ar886 S886 N886 Hs886 W886 rfl hf894
      have Kp895 : Keep h0 h886 [] := Keep.wr Kp882 W886 (Or.inr sb875)
      have Z896 : own_Le n0 h886.size := Nat.le_trans Z881 (Keep.of_wr W886).1
      have N897 := Fr.snoc X886 N700 gb874
      have F898 := F876.other W886 ne871
      have F899 := F877.other W886 ne872
      have F900 := F878.wr W886
      have F901 := F879.other W886 (Or.inl ne873)
      have F902 := F880.other W886 (Or.inl ne873)
      have K903 : ∀ t, Steps p.tables e below (T886.setTop (mkF m 309 #[.val (.int x0), .val (.int x1), .val (.int x2), .val (.int c0_442), .val (.int c1_442), .val (.int c2_442), .val (.int c3_442), .val (.ref b464), .val (.ref b527), .val (.ref b680), .val (.int ss_708), .val (.int kd_708), .unset, .unset, .unset, .unset, .unset] [(.ref b870)])) t → Steps p.tables e below (s₁.setTop (entryFrame m #[(.int x0), (.int x1), (.int x2)] maxLocals)) t := fun t k => K885 t (st886 _ k)
      have K904 : ∀ t, Steps p.tables e below (T886.setTop (mkF m 315 #[.val (.int x0), .val (.int x1), .val (.int x2), .val (.int c0_442), .val (.int c1_442), .val (.int c2_442), .val (.int c3_442), .val (.ref b464), .val (.ref b527), .val (.ref b680), .val (.int ss_708), .val (.int kd_708), .val (.ref b870), .unset, .unset, .unset, .unset] [(.ref b870), (.ref b680)])) t → Steps p.tables e below (s₁.setTop (entryFrame m #[(.int x0), (.int x1), (.int x2)] maxLocals)) t := fun t k => K903 t (by
        show Steps p.tables e below (T886.setTop (mkF m 309 #[.val (.int x0), .val (.int x1), .val (.int x2), .val (.int c0_442), .val (.int c1_442), .val (.int c2_442), .val (.int c3_442), .val (.ref b464), .val (.ref b527), .val (.ref b680), .val (.int ss_708), .val (.int kd_708), .unset, .unset, .unset, .unset, .unset] [(.ref b870)])) t
        refine XS.astore X886.here hx rfl (hb hby at_309) rfl rfl (l' := #[.val (.int x0), .val (.int x1), .val (.int x2), .val (.int c0_442), .val (.int c1_442), .val (.int c2_442), .val (.int c3_442), .val (.ref b464), .val (.ref b527), .val (.ref b680), .val (.int ss_708), .val (.int kd_708), .val (.ref b870), .unset, .unset, .unset, .unset]) rfl ?_
        show Steps p.tables e below (T886.setTop (mkF m 311 #[.val (.int x0), .val (.int x1), .val (.int x2), .val (.int c0_442), .val (.int c1_442), .val (.int c2_442), .val (.int c3_442), .val (.ref b464), .val (.ref b527), .val (.ref b680), .val (.int ss_708), .val (.int kd_708), .val (.ref b870), .unset, .unset, .unset, .unset] [])) t
        refine XS.aload X886.here hx rfl (hb hby at_311) rfl rfl ?_
        show Steps p.tables e below (T886.setTop (mkF m 313 #[.val (.int x0), .val (.int x1), .val (.int x2), .val (.int c0_442), .val (.int c1_442), .val (.int c2_442), .val (.int c3_442), .val (.ref b464), .val (.ref b527), .val (.ref b680), .val (.int ss_708), .val (.int kd_708), .val (.ref b870), .unset, .unset, .unset, .unset] [(.ref b680)])) t
        refine XS.aload X886.here hx rfl (hb hby at_313) rfl rfl ?_
        exact k)
      have eg : f894 0 = ss_708 := by simp [hf894]
      have q905 : 0 ≤ (f894 0).toInt ∧ (f894 0).toInt < 4 := by rw [eg]; exact ⟨by omega, by omega⟩
      have q906 : 0 ≤ (f521 (f894 0).toNatClampNeg).toInt ∧ (f521 (f894 0).toNatClampNeg).toInt ≤ (f521 ((f894 0) + (1 : Int32)).toNatClampNeg).toInt ∧ (f521 ((f894 0) + (1 : Int32)).toNatClampNeg).toInt ≤ 12 := by rw [eg]; exact ⟨by omega, by omega, by omega⟩
      obtain ⟨cq907, kq907, q907a, q907b, q907c⟩ := isOf hZ e886 F900
      obtain ⟨_, _, ⟨T907, L907, kk907, nn907⟩, -, X907, ⟨Lc907, hQ907, l907, y907, z907⟩, st907⟩ := X886.virtualBack hx (y := (⟨"com/example/omegaprobe/omegaprobe/graph/Components", "cyclic", "([I)Z"⟩ : MethodName)) (z := (⟨"com/example/omegaprobe/omegaprobe/graph/Components", "cyclic", "([I)Z"⟩ : MethodName)) hown (mvT hZ (hw _ (List.mem_of_getElem? (i := 31) rfl))) (mvT hZ (hw _ (List.mem_of_getElem? (i := 32) rfl))) (notFace_of_selects (args := #[]) (mvT hZ (hw _ (List.mem_of_getElem? (i := 34) rfl)))) (mvT hZ (hw _ (List.mem_of_getElem? (i := 34) rfl))) (mvT hZ (hw _ (List.mem_of_getElem? (i := 33) rfl))) (by decide) (backOf (W := 0) (rmOne l Z a0 hw [] b680 b870 f894 b464 f521 b527 f674 h886 n0 Z896 V893 F901 F898 F902 F899 q905 q906) hZ (hw _ (List.mem_of_getElem? (i := 35) rfl)) (hw _ (List.mem_of_getElem? (i := 3) rfl)) (by decide) (by decide)) q907a q907c (g := (mkF m 315 #[.val (.int x0), .val (.int x1), .val (.int x2), .val (.int c0_442), .val (.int c1_442), .val (.int c2_442), .val (.int c3_442), .val (.ref b464), .val (.ref b527), .val (.ref b680), .val (.int ss_708), .val (.int kd_708), .val (.ref b870), .unset, .unset, .unset, .unset] [(.ref b870), (.ref b680)])) rfl (by rw [hml]; rfl) (Steps.refl _) (argsL := [(.ref b870)]) (rest := []) (lenOf own_pd2 rfl) rfl (by show 2 * 0 + _ ≤ _; exact Nat.le_of_eq rfl) (hb hby at_315) (fun _ _ => ⟨rfl, e886, (by decide : 10 + 0 ≤ _), (by decide : 50 + 0 ≤ _)⟩)
      dsimp only [Pt.U, Pt.locs, Pt.cells, Pt.slots] at X907 l907 y907 z907 st907 hQ907
      subst l907 y907 z907
      obtain ⟨r_907, rfl, Sp907, Nq907, eh907⟩ := hQ907
      have N908 := Fr.app N897 Nq907
      have K909 : ∀ t, Steps p.tables e below (T907.setTop (mkF m 318 #[.val (.int x0), .val (.int x1), .val (.int x2), .val (.int c0_442), .val (.int c1_442), .val (.int c2_442), .val (.int c3_442), .val (.ref b464), .val (.ref b527), .val (.ref b680), .val (.int ss_708), .val (.int kd_708), .val (.ref b870), .unset, .unset, .unset, .unset] [(.int r_907)])) t → Steps p.tables e below (s₁.setTop (entryFrame m #[(.int x0), (.int x1), (.int x2)] maxLocals)) t := fun t k => K904 t (st907.trans k)
      have q911 : ¬ ss_708 < 0 ∧ ss_708 < (5 : Int32) := by
        have q912 := rng32 kd_708
        have q913 := (by decide : (2 : Int32).toInt = 2)
        have q914 := (by decide : (3 : Int32).toInt = 3)
        have q915 := rng32 ss_708
        have q916 := (by decide : (5 : Int32).toInt = 5)
        rw [Int32.lt_iff_toInt_lt, Int32.lt_iff_toInt_lt]; have q0 : (0 : Int32).toInt = 0 := rfl; omega
      obtain ⟨cl910, Ar910, S910, N910, Hs910⟩ := id F898
      have hin910 : ¬ (ss_708 < 0 ∨ cl910.slots.size ≤ (ss_708).toNatClampNeg) := inb_of S910 q911
      have hat910 : cl910.slots[(ss_708).toNatClampNeg]? = some (.int (f521 ss_708.toNatClampNeg)) := own_at Hs910 S910 hin910 (rfl)
      have q918 : ¬ (ss_708 + (1 : Int32)) < 0 ∧ (ss_708 + (1 : Int32)) < (5 : Int32) := by
        have q919 := rng32 kd_708
        have q920 := (by decide : (2 : Int32).toInt = 2)
        have q921 := (by decide : (3 : Int32).toInt = 3)
        have q922 := rng32 ss_708
        have q923 := (by decide : (1 : Int32).toInt = 1)
        have q924 := c_iadd ss_708 (1 : Int32)
        have q925 := rng32 (ss_708 + (1 : Int32))
        have q926 := (by decide : (5 : Int32).toInt = 5)
        rw [Int32.lt_iff_toInt_lt, Int32.lt_iff_toInt_lt]; have q0 : (0 : Int32).toInt = 0 := rfl; omega
      obtain ⟨cl917, Ar917, S917, N917, Hs917⟩ := id F898
      have hin917 : ¬ ((ss_708 + (1 : Int32)) < 0 ∨ cl917.slots.size ≤ ((ss_708 + (1 : Int32))).toNatClampNeg) := inb_of S917 q918
      have hat917 : cl917.slots[((ss_708 + (1 : Int32))).toNatClampNeg]? = some (.int (f521 (ss_708 + (1 : Int32)).toNatClampNeg)) := own_at Hs917 S917 hin917 (rfl)
      have K927 : ∀ t, Steps p.tables e below (T907.setTop (mkF m 339 #[.val (.int x0), .val (.int x1), .val (.int x2), .val (.int c0_442), .val (.int c1_442), .val (.int c2_442), .val (.int c3_442), .val (.ref b464), .val (.ref b527), .val (.ref b680), .val (.int ss_708), .val (.int kd_708), .val (.ref b870), .val (.int r_907), .val (.int (f521 ss_708.toNatClampNeg)), .val (.int ((f521 (ss_708 + (1 : Int32)).toNatClampNeg) - (f521 ss_708.toNatClampNeg))), .unset] [])) t → Steps p.tables e below (s₁.setTop (entryFrame m #[(.int x0), (.int x1), (.int x2)] maxLocals)) t := fun t k => K909 t (by
        show Steps p.tables e below (T907.setTop (mkF m 318 #[.val (.int x0), .val (.int x1), .val (.int x2), .val (.int c0_442), .val (.int c1_442), .val (.int c2_442), .val (.int c3_442), .val (.ref b464), .val (.ref b527), .val (.ref b680), .val (.int ss_708), .val (.int kd_708), .val (.ref b870), .unset, .unset, .unset, .unset] [(.int r_907)])) t
        refine XS.istore X907.here hx rfl (hb hby at_318) rfl (l' := #[.val (.int x0), .val (.int x1), .val (.int x2), .val (.int c0_442), .val (.int c1_442), .val (.int c2_442), .val (.int c3_442), .val (.ref b464), .val (.ref b527), .val (.ref b680), .val (.int ss_708), .val (.int kd_708), .val (.ref b870), .val (.int r_907), .unset, .unset, .unset]) rfl ?_
        show Steps p.tables e below (T907.setTop (mkF m 320 #[.val (.int x0), .val (.int x1), .val (.int x2), .val (.int c0_442), .val (.int c1_442), .val (.int c2_442), .val (.int c3_442), .val (.ref b464), .val (.ref b527), .val (.ref b680), .val (.int ss_708), .val (.int kd_708), .val (.ref b870), .val (.int r_907), .unset, .unset, .unset] [])) t
        refine XS.aload X907.here hx rfl (hb hby at_320) rfl rfl ?_
        show Steps p.tables e below (T907.setTop (mkF m 322 #[.val (.int x0), .val (.int x1), .val (.int x2), .val (.int c0_442), .val (.int c1_442), .val (.int c2_442), .val (.int c3_442), .val (.ref b464), .val (.ref b527), .val (.ref b680), .val (.int ss_708), .val (.int kd_708), .val (.ref b870), .val (.int r_907), .unset, .unset, .unset] [(.ref b464)])) t
        refine XS.iload X907.here hx rfl (hb hby at_322) rfl ?_
        show Steps p.tables e below (T907.setTop (mkF m 324 #[.val (.int x0), .val (.int x1), .val (.int x2), .val (.int c0_442), .val (.int c1_442), .val (.int c2_442), .val (.int c3_442), .val (.ref b464), .val (.ref b527), .val (.ref b680), .val (.int ss_708), .val (.int kd_708), .val (.ref b870), .val (.int r_907), .unset, .unset, .unset] [(.int ss_708), (.ref b464)])) t
        refine X907.iaload hx (j := ss_708) (v := (.int (f521 ss_708.toNatClampNeg))) (by rw [eh907]; exact Ar910.1) (State.isArrayOf_alike hZ.alike Ar910.2.1) Ar910.2.2 hin910 hat910 (g := (mkF m 324 #[.val (.int x0), .val (.int x1), .val (.int x2), .val (.int c0_442), .val (.int c1_442), .val (.int c2_442), .val (.int c3_442), .val (.ref b464), .val (.ref b527), .val (.ref b680), .val (.int ss_708), .val (.int kd_708), .val (.ref b870), .val (.int r_907), .unset, .unset, .unset] [(.int ss_708), (.ref b464)])) rfl rfl (hb hby at_324) _ ?_
        show Steps p.tables e below (T907.setTop (mkF m 325 #[.val (.int x0), .val (.int x1), .val (.int x2), .val (.int c0_442), .val (.int c1_442), .val (.int c2_442), .val (.int c3_442), .val (.ref b464), .val (.ref b527), .val (.ref b680), .val (.int ss_708), .val (.int kd_708), .val (.ref b870), .val (.int r_907), .unset, .unset, .unset] [(.int (f521 ss_708.toNatClampNeg))])) t
        refine XS.istore X907.here hx rfl (hb hby at_325) rfl (l' := #[.val (.int x0), .val (.int x1), .val (.int x2), .val (.int c0_442), .val (.int c1_442), .val (.int c2_442), .val (.int c3_442), .val (.ref b464), .val (.ref b527), .val (.ref b680), .val (.int ss_708), .val (.int kd_708), .val (.ref b870), .val (.int r_907), .val (.int (f521 ss_708.toNatClampNeg)), .unset, .unset]) rfl ?_
        show Steps p.tables e below (T907.setTop (mkF m 327 #[.val (.int x0), .val (.int x1), .val (.int x2), .val (.int c0_442), .val (.int c1_442), .val (.int c2_442), .val (.int c3_442), .val (.ref b464), .val (.ref b527), .val (.ref b680), .val (.int ss_708), .val (.int kd_708), .val (.ref b870), .val (.int r_907), .val (.int (f521 ss_708.toNatClampNeg)), .unset, .unset] [])) t
        refine XS.aload X907.here hx rfl (hb hby at_327) rfl rfl ?_
        show Steps p.tables e below (T907.setTop (mkF m 329 #[.val (.int x0), .val (.int x1), .val (.int x2), .val (.int c0_442), .val (.int c1_442), .val (.int c2_442), .val (.int c3_442), .val (.ref b464), .val (.ref b527), .val (.ref b680), .val (.int ss_708), .val (.int kd_708), .val (.ref b870), .val (.int r_907), .val (.int (f521 ss_708.toNatClampNeg)), .unset, .unset] [(.ref b464)])) t
        refine XS.iload X907.here hx rfl (hb hby at_329) rfl ?_
        show Steps p.tables e below (T907.setTop (mkF m 331 #[.val (.int x0), .val (.int x1), .val (.int x2), .val (.int c0_442), .val (.int c1_442), .val (.int c2_442), .val (.int c3_442), .val (.ref b464), .val (.ref b527), .val (.ref b680), .val (.int ss_708), .val (.int kd_708), .val (.ref b870), .val (.int r_907), .val (.int (f521 ss_708.toNatClampNeg)), .unset, .unset] [(.int ss_708), (.ref b464)])) t
        refine XS.iconst X907.here hx rfl (hb hby at_331) ?_
        show Steps p.tables e below (T907.setTop (mkF m 332 #[.val (.int x0), .val (.int x1), .val (.int x2), .val (.int c0_442), .val (.int c1_442), .val (.int c2_442), .val (.int c3_442), .val (.ref b464), .val (.ref b527), .val (.ref b680), .val (.int ss_708), .val (.int kd_708), .val (.ref b870), .val (.int r_907), .val (.int (f521 ss_708.toNatClampNeg)), .unset, .unset] [(.int (1 : Int32)), (.int ss_708), (.ref b464)])) t
        refine XS.iadd X907.here hx rfl (hb hby at_332) rfl ?_
        show Steps p.tables e below (T907.setTop (mkF m 333 #[.val (.int x0), .val (.int x1), .val (.int x2), .val (.int c0_442), .val (.int c1_442), .val (.int c2_442), .val (.int c3_442), .val (.ref b464), .val (.ref b527), .val (.ref b680), .val (.int ss_708), .val (.int kd_708), .val (.ref b870), .val (.int r_907), .val (.int (f521 ss_708.toNatClampNeg)), .unset, .unset] [(.int (ss_708 + (1 : Int32))), (.ref b464)])) t
        refine X907.iaload hx (j := (ss_708 + (1 : Int32))) (v := (.int (f521 (ss_708 + (1 : Int32)).toNatClampNeg))) (by rw [eh907]; exact Ar917.1) (State.isArrayOf_alike hZ.alike Ar917.2.1) Ar917.2.2 hin917 hat917 (g := (mkF m 333 #[.val (.int x0), .val (.int x1), .val (.int x2), .val (.int c0_442), .val (.int c1_442), .val (.int c2_442), .val (.int c3_442), .val (.ref b464), .val (.ref b527), .val (.ref b680), .val (.int ss_708), .val (.int kd_708), .val (.ref b870), .val (.int r_907), .val (.int (f521 ss_708.toNatClampNeg)), .unset, .unset] [(.int (ss_708 + (1 : Int32))), (.ref b464)])) rfl rfl (hb hby at_333) _ ?_
        show Steps p.tables e below (T907.setTop (mkF m 334 #[.val (.int x0), .val (.int x1), .val (.int x2), .val (.int c0_442), .val (.int c1_442), .val (.int c2_442), .val (.int c3_442), .val (.ref b464), .val (.ref b527), .val (.ref b680), .val (.int ss_708), .val (.int kd_708), .val (.ref b870), .val (.int r_907), .val (.int (f521 ss_708.toNatClampNeg)), .unset, .unset] [(.int (f521 (ss_708 + (1 : Int32)).toNatClampNeg))])) t
        refine XS.iload X907.here hx rfl (hb hby at_334) rfl ?_
        show Steps p.tables e below (T907.setTop (mkF m 336 #[.val (.int x0), .val (.int x1), .val (.int x2), .val (.int c0_442), .val (.int c1_442), .val (.int c2_442), .val (.int c3_442), .val (.ref b464), .val (.ref b527), .val (.ref b680), .val (.int ss_708), .val (.int kd_708), .val (.ref b870), .val (.int r_907), .val (.int (f521 ss_708.toNatClampNeg)), .unset, .unset] [(.int (f521 ss_708.toNatClampNeg)), (.int (f521 (ss_708 + (1 : Int32)).toNatClampNeg))])) t
        refine XS.isub X907.here hx rfl (hb hby at_336) rfl ?_
        show Steps p.tables e below (T907.setTop (mkF m 337 #[.val (.int x0), .val (.int x1), .val (.int x2), .val (.int c0_442), .val (.int c1_442), .val (.int c2_442), .val (.int c3_442), .val (.ref b464), .val (.ref b527), .val (.ref b680), .val (.int ss_708), .val (.int kd_708), .val (.ref b870), .val (.int r_907), .val (.int (f521 ss_708.toNatClampNeg)), .unset, .unset] [(.int ((f521 (ss_708 + (1 : Int32)).toNatClampNeg) - (f521 ss_708.toNatClampNeg)))])) t
        refine XS.istore X907.here hx rfl (hb hby at_337) rfl (l' := #[.val (.int x0), .val (.int x1), .val (.int x2), .val (.int c0_442), .val (.int c1_442), .val (.int c2_442), .val (.int c3_442), .val (.ref b464), .val (.ref b527), .val (.ref b680), .val (.int ss_708), .val (.int kd_708), .val (.ref b870), .val (.int r_907), .val (.int (f521 ss_708.toNatClampNeg)), .val (.int ((f521 (ss_708 + (1 : Int32)).toNatClampNeg) - (f521 ss_708.toNatClampNeg))), .unset]) rfl ?_
        exact k)
      obtain ⟨lo_928, nn_928, Sp928, K936⟩ : ∃ (lo_928 : Int32) (nn_928 : Int32), (lo_928 = (f521 ss_708.toNatClampNeg) ∧ (lo_928.toInt = (f521 ss_708.toNatClampNeg).toInt ∧ 0 ≤ lo_928.toInt ∧ nn_928.toInt = (f521 (ss_708 + (1 : Int32)).toNatClampNeg).toInt - lo_928.toInt ∧ 0 ≤ nn_928.toInt ∧ nn_928.toInt ≤ 3 ∧ lo_928.toInt + nn_928.toInt ≤ 12)) ∧ ∀ t, Steps p.tables e below (T907.setTop (mkF m 339 #[.val (.int x0), .val (.int x1), .val (.int x2), .val (.int c0_442), .val (.int c1_442), .val (.int c2_442), .val (.int c3_442), .val (.ref b464), .val (.ref b527), .val (.ref b680), .val (.int ss_708), .val (.int kd_708), .val (.ref b870), .val (.int r_907), .val (.int lo_928), .val (.int nn_928), .unset] [])) t → Steps p.tables e below (s₁.setTop (entryFrame m #[(.int x0), (.int x1), (.int x2)] maxLocals)) t := by
        refine ⟨(f521 ss_708.toNatClampNeg), ((f521 (ss_708 + (1 : Int32)).toNatClampNeg) - (f521 ss_708.toNatClampNeg)), ?_, K927⟩
        have q929 := rng32 kd_708
        have q930 := (by decide : (2 : Int32).toInt = 2)
        have q931 := (by decide : (3 : Int32).toInt = 3)
        have q932 := rng32 (f521 ss_708.toNatClampNeg)
        have q933 := rng32 (f521 (ss_708 + (1 : Int32)).toNatClampNeg)
        have q934 := c_isub (f521 (ss_708 + (1 : Int32)).toNatClampNeg) (f521 ss_708.toNatClampNeg)
        have q935 := rng32 ((f521 (ss_708 + (1 : Int32)).toNatClampNeg) - (f521 ss_708.toNatClampNeg))
        refine ⟨rfl, ?_⟩
        omega
      obtain ⟨hlo, hl1, hl2, hl3, hl4, hl5, hl6⟩ := Sp928
      obtain ⟨wt_937, Sp937, K938⟩ : ∃ (wt_937 : Int32), ((wt_937.toInt = 1 ∧ (∃ k : Nat, (f521 ss_708.toNatClampNeg).toInt ≤ (k : Int) ∧ (k : Int) < (f521 (ss_708 + (1 : Int32)).toNatClampNeg).toInt ∧ f674 k = ss_708)) ∨ (wt_937.toInt = 0 ∧ ¬ (∃ k : Nat, (f521 ss_708.toNatClampNeg).toInt ≤ (k : Int) ∧ (k : Int) < (f521 (ss_708 + (1 : Int32)).toNatClampNeg).toInt ∧ f674 k = ss_708))) ∧ ∀ t, Steps p.tables e below (T907.setTop (mkF m 395 #[.val (.int x0), .val (.int x1), .val (.int x2), .val (.int c0_442), .val (.int c1_442), .val (.int c2_442), .val (.int c3_442), .val (.ref b464), .val (.ref b527), .val (.ref b680), .val (.int ss_708), .val (.int kd_708), .val (.ref b870), .val (.int r_907), .val (.int lo_928), .val (.int nn_928), .unset] [(.int wt_937)])) t → Steps p.tables e below (s₁.setTop (entryFrame m #[(.int x0), (.int x1), (.int x2)] maxLocals)) t := by
        have K940 : ∀ t, Steps p.tables e below (T907.setTop (mkF m 341 #[.val (.int x0), .val (.int x1), .val (.int x2), .val (.int c0_442), .val (.int c1_442), .val (.int c2_442), .val (.int c3_442), .val (.ref b464), .val (.ref b527), .val (.ref b680), .val (.int ss_708), .val (.int kd_708), .val (.ref b870), .val (.int r_907), .val (.int lo_928), .val (.int nn_928), .unset] [(.int nn_928)])) t → Steps p.tables e below (s₁.setTop (entryFrame m #[(.int x0), (.int x1), (.int x2)] maxLocals)) t := fun t k => K936 t (by
          show Steps p.tables e below (T907.setTop (mkF m 339 #[.val (.int x0), .val (.int x1), .val (.int x2), .val (.int c0_442), .val (.int c1_442), .val (.int c2_442), .val (.int c3_442), .val (.ref b464), .val (.ref b527), .val (.ref b680), .val (.int ss_708), .val (.int kd_708), .val (.ref b870), .val (.int r_907), .val (.int lo_928), .val (.int nn_928), .unset] [])) t
          refine XS.iload X907.here hx rfl (hb hby at_339) rfl ?_
          exact k)
        by_cases hc939 : (0 : Int32) < nn_928
        · have q941 : (0 : Int32).toInt < nn_928.toInt := Int32.lt_iff_toInt_lt.mp hc939
          have q943 : ¬ lo_928 < 0 ∧ lo_928 < (12 : Int32) := by
            have q944 := (by decide : (0 : Int32).toInt = 0)
            have q945 := rng32 nn_928
            have q946 := rng32 lo_928
            have q947 := (by decide : (12 : Int32).toInt = 12)
            rw [Int32.lt_iff_toInt_lt, Int32.lt_iff_toInt_lt]; have q0 : (0 : Int32).toInt = 0 := rfl; omega
          obtain ⟨cl942, Ar942, S942, N942, Hs942⟩ := id F899
          have hin942 : ¬ (lo_928 < 0 ∨ cl942.slots.size ≤ (lo_928).toNatClampNeg) := inb_of S942 q943
          have hat942 : cl942.slots[(lo_928).toNatClampNeg]? = some (.int (f674 lo_928.toNatClampNeg)) := own_at Hs942 S942 hin942 (rfl)
          have K949 : ∀ t, Steps p.tables e below (T907.setTop (mkF m 351 #[.val (.int x0), .val (.int x1), .val (.int x2), .val (.int c0_442), .val (.int c1_442), .val (.int c2_442), .val (.int c3_442), .val (.ref b464), .val (.ref b527), .val (.ref b680), .val (.int ss_708), .val (.int kd_708), .val (.ref b870), .val (.int r_907), .val (.int lo_928), .val (.int nn_928), .unset] [(.int ss_708), (.int (f674 lo_928.toNatClampNeg))])) t → Steps p.tables e below (s₁.setTop (entryFrame m #[(.int x0), (.int x1), (.int x2)] maxLocals)) t := fun t k => K940 t (by
            show Steps p.tables e below (T907.setTop (mkF m 341 #[.val (.int x0), .val (.int x1), .val (.int x2), .val (.int c0_442), .val (.int c1_442), .val (.int c2_442), .val (.int c3_442), .val (.ref b464), .val (.ref b527), .val (.ref b680), .val (.int ss_708), .val (.int kd_708), .val (.ref b870), .val (.int r_907), .val (.int lo_928), .val (.int nn_928), .unset] [(.int nn_928)])) t
            refine XS.ifNo X907.here hx rfl (hb hby at_341) rfl ((if0 _ _).trans (tlt hc939).2.2.2) ?_
            show Steps p.tables e below (T907.setTop (mkF m 344 #[.val (.int x0), .val (.int x1), .val (.int x2), .val (.int c0_442), .val (.int c1_442), .val (.int c2_442), .val (.int c3_442), .val (.ref b464), .val (.ref b527), .val (.ref b680), .val (.int ss_708), .val (.int kd_708), .val (.ref b870), .val (.int r_907), .val (.int lo_928), .val (.int nn_928), .unset] [])) t
            refine XS.aload X907.here hx rfl (hb hby at_344) rfl rfl ?_
            show Steps p.tables e below (T907.setTop (mkF m 346 #[.val (.int x0), .val (.int x1), .val (.int x2), .val (.int c0_442), .val (.int c1_442), .val (.int c2_442), .val (.int c3_442), .val (.ref b464), .val (.ref b527), .val (.ref b680), .val (.int ss_708), .val (.int kd_708), .val (.ref b870), .val (.int r_907), .val (.int lo_928), .val (.int nn_928), .unset] [(.ref b527)])) t
            refine XS.iload X907.here hx rfl (hb hby at_346) rfl ?_
            show Steps p.tables e below (T907.setTop (mkF m 348 #[.val (.int x0), .val (.int x1), .val (.int x2), .val (.int c0_442), .val (.int c1_442), .val (.int c2_442), .val (.int c3_442), .val (.ref b464), .val (.ref b527), .val (.ref b680), .val (.int ss_708), .val (.int kd_708), .val (.ref b870), .val (.int r_907), .val (.int lo_928), .val (.int nn_928), .unset] [(.int lo_928), (.ref b527)])) t
            refine X907.iaload hx (j := lo_928) (v := (.int (f674 lo_928.toNatClampNeg))) (by rw [eh907]; exact Ar942.1) (State.isArrayOf_alike hZ.alike Ar942.2.1) Ar942.2.2 hin942 hat942 (g := (mkF m 348 #[.val (.int x0), .val (.int x1), .val (.int x2), .val (.int c0_442), .val (.int c1_442), .val (.int c2_442), .val (.int c3_442), .val (.ref b464), .val (.ref b527), .val (.ref b680), .val (.int ss_708), .val (.int kd_708), .val (.ref b870), .val (.int r_907), .val (.int lo_928), .val (.int nn_928), .unset] [(.int lo_928), (.ref b527)])) rfl rfl (hb hby at_348) _ ?_
            show Steps p.tables e below (T907.setTop (mkF m 349 #[.val (.int x0), .val (.int x1), .val (.int x2), .val (.int c0_442), .val (.int c1_442), .val (.int c2_442), .val (.int c3_442), .val (.ref b464), .val (.ref b527), .val (.ref b680), .val (.int ss_708), .val (.int kd_708), .val (.ref b870), .val (.int r_907), .val (.int lo_928), .val (.int nn_928), .unset] [(.int (f674 lo_928.toNatClampNeg))])) t
            refine XS.iload X907.here hx rfl (hb hby at_349) rfl ?_
            exact k)
          by_cases hc948 : (f674 lo_928.toNatClampNeg) = ss_708
          · have q950 : (f674 lo_928.toNatClampNeg).toInt = ss_708.toInt := congrArg Int32.toInt hc948
            refine ⟨(1 : Int32), ?_, fun t k => K949 t ?_⟩
            · have q951 := (by decide : (0 : Int32).toInt = 0)
              have q952 := rng32 nn_928
              have q953 := rng32 (f674 lo_928.toNatClampNeg)
              have q954 := rng32 ss_708
              have q955 := (by decide : (1 : Int32).toInt = 1)
              have z0 := own_clamp (j := lo_928) hl2
              exact Or.inl ⟨by decide, lo_928.toNatClampNeg, by omega, by omega, hc948⟩
            show Steps p.tables e below (T907.setTop (mkF m 351 #[.val (.int x0), .val (.int x1), .val (.int x2), .val (.int c0_442), .val (.int c1_442), .val (.int c2_442), .val (.int c3_442), .val (.ref b464), .val (.ref b527), .val (.ref b680), .val (.int ss_708), .val (.int kd_708), .val (.ref b870), .val (.int r_907), .val (.int lo_928), .val (.int nn_928), .unset] [(.int ss_708), (.int (f674 lo_928.toNatClampNeg))])) t
            refine XS.icmpYes X907.here hx rfl (pc0 := 351) (pc' := 390) rfl (hb hby at_351) rfl (teq hc948).1 (by decide) (by decide) ?_
            show Steps p.tables e below (T907.setTop (mkF m 390 #[.val (.int x0), .val (.int x1), .val (.int x2), .val (.int c0_442), .val (.int c1_442), .val (.int c2_442), .val (.int c3_442), .val (.ref b464), .val (.ref b527), .val (.ref b680), .val (.int ss_708), .val (.int kd_708), .val (.ref b870), .val (.int r_907), .val (.int lo_928), .val (.int nn_928), .unset] [])) t
            refine XS.iconst X907.here hx rfl (hb hby at_390) ?_
            show Steps p.tables e below (T907.setTop (mkF m 391 #[.val (.int x0), .val (.int x1), .val (.int x2), .val (.int c0_442), .val (.int c1_442), .val (.int c2_442), .val (.int c3_442), .val (.ref b464), .val (.ref b527), .val (.ref b680), .val (.int ss_708), .val (.int kd_708), .val (.ref b870), .val (.int r_907), .val (.int lo_928), .val (.int nn_928), .unset] [(.int (1 : Int32))])) t
            refine XS.goto X907.here hx rfl (pc0 := 391) (pc' := 395) rfl (hb hby at_391) (by decide) (by decide) ?_
            exact k
          · have q956 : ¬ (f674 lo_928.toNatClampNeg).toInt = ss_708.toInt := fun q => hc948 (Int32.toInt_inj.mp q)
            have K958 : ∀ t, Steps p.tables e below (T907.setTop (mkF m 357 #[.val (.int x0), .val (.int x1), .val (.int x2), .val (.int c0_442), .val (.int c1_442), .val (.int c2_442), .val (.int c3_442), .val (.ref b464), .val (.ref b527), .val (.ref b680), .val (.int ss_708), .val (.int kd_708), .val (.ref b870), .val (.int r_907), .val (.int lo_928), .val (.int nn_928), .unset] [(.int (1 : Int32)), (.int nn_928)])) t → Steps p.tables e below (s₁.setTop (entryFrame m #[(.int x0), (.int x1), (.int x2)] maxLocals)) t := fun t k => K949 t (by
              show Steps p.tables e below (T907.setTop (mkF m 351 #[.val (.int x0), .val (.int x1), .val (.int x2), .val (.int c0_442), .val (.int c1_442), .val (.int c2_442), .val (.int c3_442), .val (.ref b464), .val (.ref b527), .val (.ref b680), .val (.int ss_708), .val (.int kd_708), .val (.ref b870), .val (.int r_907), .val (.int lo_928), .val (.int nn_928), .unset] [(.int ss_708), (.int (f674 lo_928.toNatClampNeg))])) t
              refine XS.icmpNo X907.here hx rfl (hb hby at_351) rfl (feq hc948).1 ?_
              show Steps p.tables e below (T907.setTop (mkF m 354 #[.val (.int x0), .val (.int x1), .val (.int x2), .val (.int c0_442), .val (.int c1_442), .val (.int c2_442), .val (.int c3_442), .val (.ref b464), .val (.ref b527), .val (.ref b680), .val (.int ss_708), .val (.int kd_708), .val (.ref b870), .val (.int r_907), .val (.int lo_928), .val (.int nn_928), .unset] [])) t
              refine XS.iload X907.here hx rfl (hb hby at_354) rfl ?_
              show Steps p.tables e below (T907.setTop (mkF m 356 #[.val (.int x0), .val (.int x1), .val (.int x2), .val (.int c0_442), .val (.int c1_442), .val (.int c2_442), .val (.int c3_442), .val (.ref b464), .val (.ref b527), .val (.ref b680), .val (.int ss_708), .val (.int kd_708), .val (.ref b870), .val (.int r_907), .val (.int lo_928), .val (.int nn_928), .unset] [(.int nn_928)])) t
              refine XS.iconst X907.here hx rfl (hb hby at_356) ?_
              exact k)
            by_cases hc957 : (1 : Int32) < nn_928
            · have q959 : (1 : Int32).toInt < nn_928.toInt := Int32.lt_iff_toInt_lt.mp hc957
              have q961 : ¬ (lo_928 + (1 : Int32)) < 0 ∧ (lo_928 + (1 : Int32)) < (12 : Int32) := by
                have q962 := (by decide : (0 : Int32).toInt = 0)
                have q963 := rng32 nn_928
                have q964 := rng32 (f674 lo_928.toNatClampNeg)
                have q965 := rng32 ss_708
                have q966 := (by decide : (1 : Int32).toInt = 1)
                have q967 := rng32 lo_928
                have q968 := c_iadd lo_928 (1 : Int32)
                have q969 := rng32 (lo_928 + (1 : Int32))
                have q970 := (by decide : (12 : Int32).toInt = 12)
                rw [Int32.lt_iff_toInt_lt, Int32.lt_iff_toInt_lt]; have q0 : (0 : Int32).toInt = 0 := rfl; omega
              obtain ⟨cl960, Ar960, S960, N960, Hs960⟩ := id F899
              have hin960 : ¬ ((lo_928 + (1 : Int32)) < 0 ∨ cl960.slots.size ≤ ((lo_928 + (1 : Int32))).toNatClampNeg) := inb_of S960 q961
              have hat960 : cl960.slots[((lo_928 + (1 : Int32))).toNatClampNeg]? = some (.int (f674 (lo_928 + (1 : Int32)).toNatClampNeg)) := own_at Hs960 S960 hin960 (rfl)
              have K972 : ∀ t, Steps p.tables e below (T907.setTop (mkF m 369 #[.val (.int x0), .val (.int x1), .val (.int x2), .val (.int c0_442), .val (.int c1_442), .val (.int c2_442), .val (.int c3_442), .val (.ref b464), .val (.ref b527), .val (.ref b680), .val (.int ss_708), .val (.int kd_708), .val (.ref b870), .val (.int r_907), .val (.int lo_928), .val (.int nn_928), .unset] [(.int ss_708), (.int (f674 (lo_928 + (1 : Int32)).toNatClampNeg))])) t → Steps p.tables e below (s₁.setTop (entryFrame m #[(.int x0), (.int x1), (.int x2)] maxLocals)) t := fun t k => K958 t (by
                show Steps p.tables e below (T907.setTop (mkF m 357 #[.val (.int x0), .val (.int x1), .val (.int x2), .val (.int c0_442), .val (.int c1_442), .val (.int c2_442), .val (.int c3_442), .val (.ref b464), .val (.ref b527), .val (.ref b680), .val (.int ss_708), .val (.int kd_708), .val (.ref b870), .val (.int r_907), .val (.int lo_928), .val (.int nn_928), .unset] [(.int (1 : Int32)), (.int nn_928)])) t
                refine XS.icmpNo X907.here hx rfl (hb hby at_357) rfl (tlt hc957).2.2.2 ?_
                show Steps p.tables e below (T907.setTop (mkF m 360 #[.val (.int x0), .val (.int x1), .val (.int x2), .val (.int c0_442), .val (.int c1_442), .val (.int c2_442), .val (.int c3_442), .val (.ref b464), .val (.ref b527), .val (.ref b680), .val (.int ss_708), .val (.int kd_708), .val (.ref b870), .val (.int r_907), .val (.int lo_928), .val (.int nn_928), .unset] [])) t
                refine XS.aload X907.here hx rfl (hb hby at_360) rfl rfl ?_
                show Steps p.tables e below (T907.setTop (mkF m 362 #[.val (.int x0), .val (.int x1), .val (.int x2), .val (.int c0_442), .val (.int c1_442), .val (.int c2_442), .val (.int c3_442), .val (.ref b464), .val (.ref b527), .val (.ref b680), .val (.int ss_708), .val (.int kd_708), .val (.ref b870), .val (.int r_907), .val (.int lo_928), .val (.int nn_928), .unset] [(.ref b527)])) t
                refine XS.iload X907.here hx rfl (hb hby at_362) rfl ?_
                show Steps p.tables e below (T907.setTop (mkF m 364 #[.val (.int x0), .val (.int x1), .val (.int x2), .val (.int c0_442), .val (.int c1_442), .val (.int c2_442), .val (.int c3_442), .val (.ref b464), .val (.ref b527), .val (.ref b680), .val (.int ss_708), .val (.int kd_708), .val (.ref b870), .val (.int r_907), .val (.int lo_928), .val (.int nn_928), .unset] [(.int lo_928), (.ref b527)])) t
                refine XS.iconst X907.here hx rfl (hb hby at_364) ?_
                show Steps p.tables e below (T907.setTop (mkF m 365 #[.val (.int x0), .val (.int x1), .val (.int x2), .val (.int c0_442), .val (.int c1_442), .val (.int c2_442), .val (.int c3_442), .val (.ref b464), .val (.ref b527), .val (.ref b680), .val (.int ss_708), .val (.int kd_708), .val (.ref b870), .val (.int r_907), .val (.int lo_928), .val (.int nn_928), .unset] [(.int (1 : Int32)), (.int lo_928), (.ref b527)])) t
                refine XS.iadd X907.here hx rfl (hb hby at_365) rfl ?_
                show Steps p.tables e below (T907.setTop (mkF m 366 #[.val (.int x0), .val (.int x1), .val (.int x2), .val (.int c0_442), .val (.int c1_442), .val (.int c2_442), .val (.int c3_442), .val (.ref b464), .val (.ref b527), .val (.ref b680), .val (.int ss_708), .val (.int kd_708), .val (.ref b870), .val (.int r_907), .val (.int lo_928), .val (.int nn_928), .unset] [(.int (lo_928 + (1 : Int32))), (.ref b527)])) t
                refine X907.iaload hx (j := (lo_928 + (1 : Int32))) (v := (.int (f674 (lo_928 + (1 : Int32)).toNatClampNeg))) (by rw [eh907]; exact Ar960.1) (State.isArrayOf_alike hZ.alike Ar960.2.1) Ar960.2.2 hin960 hat960 (g := (mkF m 366 #[.val (.int x0), .val (.int x1), .val (.int x2), .val (.int c0_442), .val (.int c1_442), .val (.int c2_442), .val (.int c3_442), .val (.ref b464), .val (.ref b527), .val (.ref b680), .val (.int ss_708), .val (.int kd_708), .val (.ref b870), .val (.int r_907), .val (.int lo_928), .val (.int nn_928), .unset] [(.int (lo_928 + (1 : Int32))), (.ref b527)])) rfl rfl (hb hby at_366) _ ?_
                show Steps p.tables e below (T907.setTop (mkF m 367 #[.val (.int x0), .val (.int x1), .val (.int x2), .val (.int c0_442), .val (.int c1_442), .val (.int c2_442), .val (.int c3_442), .val (.ref b464), .val (.ref b527), .val (.ref b680), .val (.int ss_708), .val (.int kd_708), .val (.ref b870), .val (.int r_907), .val (.int lo_928), .val (.int nn_928), .unset] [(.int (f674 (lo_928 + (1 : Int32)).toNatClampNeg))])) t
                refine XS.iload X907.here hx rfl (hb hby at_367) rfl ?_
                exact k)
              by_cases hc971 : (f674 (lo_928 + (1 : Int32)).toNatClampNeg) = ss_708
              · have q973 : (f674 (lo_928 + (1 : Int32)).toNatClampNeg).toInt = ss_708.toInt := congrArg Int32.toInt hc971
                refine ⟨(1 : Int32), ?_, fun t k => K972 t ?_⟩
                · have q974 := (by decide : (0 : Int32).toInt = 0)
                  have q975 := rng32 nn_928
                  have q976 := rng32 (f674 lo_928.toNatClampNeg)
                  have q977 := rng32 ss_708
                  have q978 := (by decide : (1 : Int32).toInt = 1)
                  have q979 := rng32 (f674 (lo_928 + (1 : Int32)).toNatClampNeg)
                  have y1a : (lo_928 + (1 : Int32)).toInt = lo_928.toInt + 1 := own_addI (y := (1 : Int32)) (by show _ ≤ lo_928.toInt + 1; omega) (by show lo_928.toInt + 1 < _; omega)
                  have z1 := own_clamp (j := (lo_928 + (1 : Int32))) (by rw [y1a]; omega)
                  exact Or.inl ⟨by decide, (lo_928 + (1 : Int32)).toNatClampNeg, by omega, by omega, hc971⟩
                show Steps p.tables e below (T907.setTop (mkF m 369 #[.val (.int x0), .val (.int x1), .val (.int x2), .val (.int c0_442), .val (.int c1_442), .val (.int c2_442), .val (.int c3_442), .val (.ref b464), .val (.ref b527), .val (.ref b680), .val (.int ss_708), .val (.int kd_708), .val (.ref b870), .val (.int r_907), .val (.int lo_928), .val (.int nn_928), .unset] [(.int ss_708), (.int (f674 (lo_928 + (1 : Int32)).toNatClampNeg))])) t
                refine XS.icmpYes X907.here hx rfl (pc0 := 369) (pc' := 390) rfl (hb hby at_369) rfl (teq hc971).1 (by decide) (by decide) ?_
                show Steps p.tables e below (T907.setTop (mkF m 390 #[.val (.int x0), .val (.int x1), .val (.int x2), .val (.int c0_442), .val (.int c1_442), .val (.int c2_442), .val (.int c3_442), .val (.ref b464), .val (.ref b527), .val (.ref b680), .val (.int ss_708), .val (.int kd_708), .val (.ref b870), .val (.int r_907), .val (.int lo_928), .val (.int nn_928), .unset] [])) t
                refine XS.iconst X907.here hx rfl (hb hby at_390) ?_
                show Steps p.tables e below (T907.setTop (mkF m 391 #[.val (.int x0), .val (.int x1), .val (.int x2), .val (.int c0_442), .val (.int c1_442), .val (.int c2_442), .val (.int c3_442), .val (.ref b464), .val (.ref b527), .val (.ref b680), .val (.int ss_708), .val (.int kd_708), .val (.ref b870), .val (.int r_907), .val (.int lo_928), .val (.int nn_928), .unset] [(.int (1 : Int32))])) t
                refine XS.goto X907.here hx rfl (pc0 := 391) (pc' := 395) rfl (hb hby at_391) (by decide) (by decide) ?_
                exact k
              · have q980 : ¬ (f674 (lo_928 + (1 : Int32)).toNatClampNeg).toInt = ss_708.toInt := fun q => hc971 (Int32.toInt_inj.mp q)
                have K982 : ∀ t, Steps p.tables e below (T907.setTop (mkF m 375 #[.val (.int x0), .val (.int x1), .val (.int x2), .val (.int c0_442), .val (.int c1_442), .val (.int c2_442), .val (.int c3_442), .val (.ref b464), .val (.ref b527), .val (.ref b680), .val (.int ss_708), .val (.int kd_708), .val (.ref b870), .val (.int r_907), .val (.int lo_928), .val (.int nn_928), .unset] [(.int (2 : Int32)), (.int nn_928)])) t → Steps p.tables e below (s₁.setTop (entryFrame m #[(.int x0), (.int x1), (.int x2)] maxLocals)) t := fun t k => K972 t (by
                  show Steps p.tables e below (T907.setTop (mkF m 369 #[.val (.int x0), .val (.int x1), .val (.int x2), .val (.int c0_442), .val (.int c1_442), .val (.int c2_442), .val (.int c3_442), .val (.ref b464), .val (.ref b527), .val (.ref b680), .val (.int ss_708), .val (.int kd_708), .val (.ref b870), .val (.int r_907), .val (.int lo_928), .val (.int nn_928), .unset] [(.int ss_708), (.int (f674 (lo_928 + (1 : Int32)).toNatClampNeg))])) t
                  refine XS.icmpNo X907.here hx rfl (hb hby at_369) rfl (feq hc971).1 ?_
                  show Steps p.tables e below (T907.setTop (mkF m 372 #[.val (.int x0), .val (.int x1), .val (.int x2), .val (.int c0_442), .val (.int c1_442), .val (.int c2_442), .val (.int c3_442), .val (.ref b464), .val (.ref b527), .val (.ref b680), .val (.int ss_708), .val (.int kd_708), .val (.ref b870), .val (.int r_907), .val (.int lo_928), .val (.int nn_928), .unset] [])) t
                  refine XS.iload X907.here hx rfl (hb hby at_372) rfl ?_
                  show Steps p.tables e below (T907.setTop (mkF m 374 #[.val (.int x0), .val (.int x1), .val (.int x2), .val (.int c0_442), .val (.int c1_442), .val (.int c2_442), .val (.int c3_442), .val (.ref b464), .val (.ref b527), .val (.ref b680), .val (.int ss_708), .val (.int kd_708), .val (.ref b870), .val (.int r_907), .val (.int lo_928), .val (.int nn_928), .unset] [(.int nn_928)])) t
                  refine XS.iconst X907.here hx rfl (hb hby at_374) ?_
                  exact k)
                by_cases hc981 : (2 : Int32) < nn_928
                · have q983 : (2 : Int32).toInt < nn_928.toInt := Int32.lt_iff_toInt_lt.mp hc981
                  have q985 : ¬ (lo_928 + (2 : Int32)) < 0 ∧ (lo_928 + (2 : Int32)) < (12 : Int32) := by
                    have q986 := (by decide : (0 : Int32).toInt = 0)
                    have q987 := rng32 nn_928
                    have q988 := rng32 (f674 lo_928.toNatClampNeg)
                    have q989 := rng32 ss_708
                    have q990 := (by decide : (1 : Int32).toInt = 1)
                    have q991 := rng32 (f674 (lo_928 + (1 : Int32)).toNatClampNeg)
                    have q992 := (by decide : (2 : Int32).toInt = 2)
                    have q993 := rng32 lo_928
                    have q994 := c_iadd lo_928 (2 : Int32)
                    have q995 := rng32 (lo_928 + (2 : Int32))
                    have q996 := (by decide : (12 : Int32).toInt = 12)
                    rw [Int32.lt_iff_toInt_lt, Int32.lt_iff_toInt_lt]; have q0 : (0 : Int32).toInt = 0 := rfl; omega
                  obtain ⟨cl984, Ar984, S984, N984, Hs984⟩ := id F899
                  have hin984 : ¬ ((lo_928 + (2 : Int32)) < 0 ∨ cl984.slots.size ≤ ((lo_928 + (2 : Int32))).toNatClampNeg) := inb_of S984 q985
                  have hat984 : cl984.slots[((lo_928 + (2 : Int32))).toNatClampNeg]? = some (.int (f674 (lo_928 + (2 : Int32)).toNatClampNeg)) := own_at Hs984 S984 hin984 (rfl)
                  have K998 : ∀ t, Steps p.tables e below (T907.setTop (mkF m 387 #[.val (.int x0), .val (.int x1), .val (.int x2), .val (.int c0_442), .val (.int c1_442), .val (.int c2_442), .val (.int c3_442), .val (.ref b464), .val (.ref b527), .val (.ref b680), .val (.int ss_708), .val (.int kd_708), .val (.ref b870), .val (.int r_907), .val (.int lo_928), .val (.int nn_928), .unset] [(.int ss_708), (.int (f674 (lo_928 + (2 : Int32)).toNatClampNeg))])) t → Steps p.tables e below (s₁.setTop (entryFrame m #[(.int x0), (.int x1), (.int x2)] maxLocals)) t := fun t k => K982 t (by
                    show Steps p.tables e below (T907.setTop (mkF m 375 #[.val (.int x0), .val (.int x1), .val (.int x2), .val (.int c0_442), .val (.int c1_442), .val (.int c2_442), .val (.int c3_442), .val (.ref b464), .val (.ref b527), .val (.ref b680), .val (.int ss_708), .val (.int kd_708), .val (.ref b870), .val (.int r_907), .val (.int lo_928), .val (.int nn_928), .unset] [(.int (2 : Int32)), (.int nn_928)])) t
                    refine XS.icmpNo X907.here hx rfl (hb hby at_375) rfl (tlt hc981).2.2.2 ?_
                    show Steps p.tables e below (T907.setTop (mkF m 378 #[.val (.int x0), .val (.int x1), .val (.int x2), .val (.int c0_442), .val (.int c1_442), .val (.int c2_442), .val (.int c3_442), .val (.ref b464), .val (.ref b527), .val (.ref b680), .val (.int ss_708), .val (.int kd_708), .val (.ref b870), .val (.int r_907), .val (.int lo_928), .val (.int nn_928), .unset] [])) t
                    refine XS.aload X907.here hx rfl (hb hby at_378) rfl rfl ?_
                    show Steps p.tables e below (T907.setTop (mkF m 380 #[.val (.int x0), .val (.int x1), .val (.int x2), .val (.int c0_442), .val (.int c1_442), .val (.int c2_442), .val (.int c3_442), .val (.ref b464), .val (.ref b527), .val (.ref b680), .val (.int ss_708), .val (.int kd_708), .val (.ref b870), .val (.int r_907), .val (.int lo_928), .val (.int nn_928), .unset] [(.ref b527)])) t
                    refine XS.iload X907.here hx rfl (hb hby at_380) rfl ?_
                    show Steps p.tables e below (T907.setTop (mkF m 382 #[.val (.int x0), .val (.int x1), .val (.int x2), .val (.int c0_442), .val (.int c1_442), .val (.int c2_442), .val (.int c3_442), .val (.ref b464), .val (.ref b527), .val (.ref b680), .val (.int ss_708), .val (.int kd_708), .val (.ref b870), .val (.int r_907), .val (.int lo_928), .val (.int nn_928), .unset] [(.int lo_928), (.ref b527)])) t
                    refine XS.iconst X907.here hx rfl (hb hby at_382) ?_
                    show Steps p.tables e below (T907.setTop (mkF m 383 #[.val (.int x0), .val (.int x1), .val (.int x2), .val (.int c0_442), .val (.int c1_442), .val (.int c2_442), .val (.int c3_442), .val (.ref b464), .val (.ref b527), .val (.ref b680), .val (.int ss_708), .val (.int kd_708), .val (.ref b870), .val (.int r_907), .val (.int lo_928), .val (.int nn_928), .unset] [(.int (2 : Int32)), (.int lo_928), (.ref b527)])) t
                    refine XS.iadd X907.here hx rfl (hb hby at_383) rfl ?_
                    show Steps p.tables e below (T907.setTop (mkF m 384 #[.val (.int x0), .val (.int x1), .val (.int x2), .val (.int c0_442), .val (.int c1_442), .val (.int c2_442), .val (.int c3_442), .val (.ref b464), .val (.ref b527), .val (.ref b680), .val (.int ss_708), .val (.int kd_708), .val (.ref b870), .val (.int r_907), .val (.int lo_928), .val (.int nn_928), .unset] [(.int (lo_928 + (2 : Int32))), (.ref b527)])) t
                    refine X907.iaload hx (j := (lo_928 + (2 : Int32))) (v := (.int (f674 (lo_928 + (2 : Int32)).toNatClampNeg))) (by rw [eh907]; exact Ar984.1) (State.isArrayOf_alike hZ.alike Ar984.2.1) Ar984.2.2 hin984 hat984 (g := (mkF m 384 #[.val (.int x0), .val (.int x1), .val (.int x2), .val (.int c0_442), .val (.int c1_442), .val (.int c2_442), .val (.int c3_442), .val (.ref b464), .val (.ref b527), .val (.ref b680), .val (.int ss_708), .val (.int kd_708), .val (.ref b870), .val (.int r_907), .val (.int lo_928), .val (.int nn_928), .unset] [(.int (lo_928 + (2 : Int32))), (.ref b527)])) rfl rfl (hb hby at_384) _ ?_
                    show Steps p.tables e below (T907.setTop (mkF m 385 #[.val (.int x0), .val (.int x1), .val (.int x2), .val (.int c0_442), .val (.int c1_442), .val (.int c2_442), .val (.int c3_442), .val (.ref b464), .val (.ref b527), .val (.ref b680), .val (.int ss_708), .val (.int kd_708), .val (.ref b870), .val (.int r_907), .val (.int lo_928), .val (.int nn_928), .unset] [(.int (f674 (lo_928 + (2 : Int32)).toNatClampNeg))])) t
                    refine XS.iload X907.here hx rfl (hb hby at_385) rfl ?_
                    exact k)
                  by_cases hc997 : (f674 (lo_928 + (2 : Int32)).toNatClampNeg) = ss_708
                  · have q999 : (f674 (lo_928 + (2 : Int32)).toNatClampNeg).toInt = ss_708.toInt := congrArg Int32.toInt hc997
                    refine ⟨(1 : Int32), ?_, fun t k => K998 t ?_⟩
                    · have q1000 := (by decide : (0 : Int32).toInt = 0)
                      have q1001 := rng32 nn_928
                      have q1002 := rng32 (f674 lo_928.toNatClampNeg)
                      have q1003 := rng32 ss_708
                      have q1004 := (by decide : (1 : Int32).toInt = 1)
                      have q1005 := rng32 (f674 (lo_928 + (1 : Int32)).toNatClampNeg)
                      have q1006 := (by decide : (2 : Int32).toInt = 2)
                      have q1007 := rng32 (f674 (lo_928 + (2 : Int32)).toNatClampNeg)
                      have y2a : (lo_928 + (2 : Int32)).toInt = lo_928.toInt + 2 := own_addI (y := (2 : Int32)) (by show _ ≤ lo_928.toInt + 2; omega) (by show lo_928.toInt + 2 < _; omega)
                      have z2 := own_clamp (j := (lo_928 + (2 : Int32))) (by rw [y2a]; omega)
                      exact Or.inl ⟨by decide, (lo_928 + (2 : Int32)).toNatClampNeg, by omega, by omega, hc997⟩
                    show Steps p.tables e below (T907.setTop (mkF m 387 #[.val (.int x0), .val (.int x1), .val (.int x2), .val (.int c0_442), .val (.int c1_442), .val (.int c2_442), .val (.int c3_442), .val (.ref b464), .val (.ref b527), .val (.ref b680), .val (.int ss_708), .val (.int kd_708), .val (.ref b870), .val (.int r_907), .val (.int lo_928), .val (.int nn_928), .unset] [(.int ss_708), (.int (f674 (lo_928 + (2 : Int32)).toNatClampNeg))])) t
                    refine XS.icmpNo X907.here hx rfl (hb hby at_387) rfl (teq hc997).2 ?_
                    show Steps p.tables e below (T907.setTop (mkF m 390 #[.val (.int x0), .val (.int x1), .val (.int x2), .val (.int c0_442), .val (.int c1_442), .val (.int c2_442), .val (.int c3_442), .val (.ref b464), .val (.ref b527), .val (.ref b680), .val (.int ss_708), .val (.int kd_708), .val (.ref b870), .val (.int r_907), .val (.int lo_928), .val (.int nn_928), .unset] [])) t
                    refine XS.iconst X907.here hx rfl (hb hby at_390) ?_
                    show Steps p.tables e below (T907.setTop (mkF m 391 #[.val (.int x0), .val (.int x1), .val (.int x2), .val (.int c0_442), .val (.int c1_442), .val (.int c2_442), .val (.int c3_442), .val (.ref b464), .val (.ref b527), .val (.ref b680), .val (.int ss_708), .val (.int kd_708), .val (.ref b870), .val (.int r_907), .val (.int lo_928), .val (.int nn_928), .unset] [(.int (1 : Int32))])) t
                    refine XS.goto X907.here hx rfl (pc0 := 391) (pc' := 395) rfl (hb hby at_391) (by decide) (by decide) ?_
                    exact k
                  · have q1008 : ¬ (f674 (lo_928 + (2 : Int32)).toNatClampNeg).toInt = ss_708.toInt := fun q => hc997 (Int32.toInt_inj.mp q)
                    refine ⟨(0 : Int32), ?_, fun t k => K998 t ?_⟩
                    · have q1009 := (by decide : (0 : Int32).toInt = 0)
                      have q1010 := rng32 nn_928
                      have q1011 := rng32 (f674 lo_928.toNatClampNeg)
                      have q1012 := rng32 ss_708
                      have q1013 := (by decide : (1 : Int32).toInt = 1)
                      have q1014 := rng32 (f674 (lo_928 + (1 : Int32)).toNatClampNeg)
                      have q1015 := (by decide : (2 : Int32).toInt = 2)
                      have q1016 := rng32 (f674 (lo_928 + (2 : Int32)).toNatClampNeg)
                      refine Or.inr ⟨by decide, fun ⟨k, h1, h2, h3⟩ => ?_⟩
                      have z0 := own_clamp (j := lo_928) hl2
                      have x0 : ¬ k = lo_928.toNatClampNeg := fun q => hc948 (q ▸ h3)
                      have y1a : (lo_928 + (1 : Int32)).toInt = lo_928.toInt + 1 := own_addI (y := (1 : Int32)) (by show _ ≤ lo_928.toInt + 1; omega) (by show lo_928.toInt + 1 < _; omega)
                      have z1 := own_clamp (j := (lo_928 + (1 : Int32))) (by rw [y1a]; omega)
                      have x1 : ¬ k = (lo_928 + (1 : Int32)).toNatClampNeg := fun q => hc971 (q ▸ h3)
                      have y2a : (lo_928 + (2 : Int32)).toInt = lo_928.toInt + 2 := own_addI (y := (2 : Int32)) (by show _ ≤ lo_928.toInt + 2; omega) (by show lo_928.toInt + 2 < _; omega)
                      have z2 := own_clamp (j := (lo_928 + (2 : Int32))) (by rw [y2a]; omega)
                      have x2 : ¬ k = (lo_928 + (2 : Int32)).toNatClampNeg := fun q => hc997 (q ▸ h3)
                      omega
                    show Steps p.tables e below (T907.setTop (mkF m 387 #[.val (.int x0), .val (.int x1), .val (.int x2), .val (.int c0_442), .val (.int c1_442), .val (.int c2_442), .val (.int c3_442), .val (.ref b464), .val (.ref b527), .val (.ref b680), .val (.int ss_708), .val (.int kd_708), .val (.ref b870), .val (.int r_907), .val (.int lo_928), .val (.int nn_928), .unset] [(.int ss_708), (.int (f674 (lo_928 + (2 : Int32)).toNatClampNeg))])) t
                    refine XS.icmpYes X907.here hx rfl (pc0 := 387) (pc' := 394) rfl (hb hby at_387) rfl (feq hc997).2 (by decide) (by decide) ?_
                    show Steps p.tables e below (T907.setTop (mkF m 394 #[.val (.int x0), .val (.int x1), .val (.int x2), .val (.int c0_442), .val (.int c1_442), .val (.int c2_442), .val (.int c3_442), .val (.ref b464), .val (.ref b527), .val (.ref b680), .val (.int ss_708), .val (.int kd_708), .val (.ref b870), .val (.int r_907), .val (.int lo_928), .val (.int nn_928), .unset] [])) t
                    refine XS.iconst X907.here hx rfl (hb hby at_394) ?_
                    exact k
                · have q1017 : ¬ (2 : Int32).toInt < nn_928.toInt := fun q => hc981 (Int32.lt_iff_toInt_lt.mpr q)
                  refine ⟨(0 : Int32), ?_, fun t k => K982 t ?_⟩
                  · have q1018 := (by decide : (0 : Int32).toInt = 0)
                    have q1019 := rng32 nn_928
                    have q1020 := rng32 (f674 lo_928.toNatClampNeg)
                    have q1021 := rng32 ss_708
                    have q1022 := (by decide : (1 : Int32).toInt = 1)
                    have q1023 := rng32 (f674 (lo_928 + (1 : Int32)).toNatClampNeg)
                    have q1024 := (by decide : (2 : Int32).toInt = 2)
                    refine Or.inr ⟨by decide, fun ⟨k, h1, h2, h3⟩ => ?_⟩
                    have z0 := own_clamp (j := lo_928) hl2
                    have x0 : ¬ k = lo_928.toNatClampNeg := fun q => hc948 (q ▸ h3)
                    have y1a : (lo_928 + (1 : Int32)).toInt = lo_928.toInt + 1 := own_addI (y := (1 : Int32)) (by show _ ≤ lo_928.toInt + 1; omega) (by show lo_928.toInt + 1 < _; omega)
                    have z1 := own_clamp (j := (lo_928 + (1 : Int32))) (by rw [y1a]; omega)
                    have x1 : ¬ k = (lo_928 + (1 : Int32)).toNatClampNeg := fun q => hc971 (q ▸ h3)
                    omega
                  show Steps p.tables e below (T907.setTop (mkF m 375 #[.val (.int x0), .val (.int x1), .val (.int x2), .val (.int c0_442), .val (.int c1_442), .val (.int c2_442), .val (.int c3_442), .val (.ref b464), .val (.ref b527), .val (.ref b680), .val (.int ss_708), .val (.int kd_708), .val (.ref b870), .val (.int r_907), .val (.int lo_928), .val (.int nn_928), .unset] [(.int (2 : Int32)), (.int nn_928)])) t
                  refine XS.icmpYes X907.here hx rfl (pc0 := 375) (pc' := 394) rfl (hb hby at_375) rfl (flt hc981).2.2.2 (by decide) (by decide) ?_
                  show Steps p.tables e below (T907.setTop (mkF m 394 #[.val (.int x0), .val (.int x1), .val (.int x2), .val (.int c0_442), .val (.int c1_442), .val (.int c2_442), .val (.int c3_442), .val (.ref b464), .val (.ref b527), .val (.ref b680), .val (.int ss_708), .val (.int kd_708), .val (.ref b870), .val (.int r_907), .val (.int lo_928), .val (.int nn_928), .unset] [])) t
                  refine XS.iconst X907.here hx rfl (hb hby at_394) ?_
                  exact k
            · have q1025 : ¬ (1 : Int32).toInt < nn_928.toInt := fun q => hc957 (Int32.lt_iff_toInt_lt.mpr q)
              have K1027 : ∀ t, Steps p.tables e below (T907.setTop (mkF m 375 #[.val (.int x0), .val (.int x1), .val (.int x2), .val (.int c0_442), .val (.int c1_442), .val (.int c2_442), .val (.int c3_442), .val (.ref b464), .val (.ref b527), .val (.ref b680), .val (.int ss_708), .val (.int kd_708), .val (.ref b870), .val (.int r_907), .val (.int lo_928), .val (.int nn_928), .unset] [(.int (2 : Int32)), (.int nn_928)])) t → Steps p.tables e below (s₁.setTop (entryFrame m #[(.int x0), (.int x1), (.int x2)] maxLocals)) t := fun t k => K958 t (by
                show Steps p.tables e below (T907.setTop (mkF m 357 #[.val (.int x0), .val (.int x1), .val (.int x2), .val (.int c0_442), .val (.int c1_442), .val (.int c2_442), .val (.int c3_442), .val (.ref b464), .val (.ref b527), .val (.ref b680), .val (.int ss_708), .val (.int kd_708), .val (.ref b870), .val (.int r_907), .val (.int lo_928), .val (.int nn_928), .unset] [(.int (1 : Int32)), (.int nn_928)])) t
                refine XS.icmpYes X907.here hx rfl (pc0 := 357) (pc' := 372) rfl (hb hby at_357) rfl (flt hc957).2.2.2 (by decide) (by decide) ?_
                show Steps p.tables e below (T907.setTop (mkF m 372 #[.val (.int x0), .val (.int x1), .val (.int x2), .val (.int c0_442), .val (.int c1_442), .val (.int c2_442), .val (.int c3_442), .val (.ref b464), .val (.ref b527), .val (.ref b680), .val (.int ss_708), .val (.int kd_708), .val (.ref b870), .val (.int r_907), .val (.int lo_928), .val (.int nn_928), .unset] [])) t
                refine XS.iload X907.here hx rfl (hb hby at_372) rfl ?_
                show Steps p.tables e below (T907.setTop (mkF m 374 #[.val (.int x0), .val (.int x1), .val (.int x2), .val (.int c0_442), .val (.int c1_442), .val (.int c2_442), .val (.int c3_442), .val (.ref b464), .val (.ref b527), .val (.ref b680), .val (.int ss_708), .val (.int kd_708), .val (.ref b870), .val (.int r_907), .val (.int lo_928), .val (.int nn_928), .unset] [(.int nn_928)])) t
                refine XS.iconst X907.here hx rfl (hb hby at_374) ?_
                exact k)
              by_cases hc1026 : (2 : Int32) < nn_928
              · have q1028 : (2 : Int32).toInt < nn_928.toInt := Int32.lt_iff_toInt_lt.mp hc1026
                have q1030 : ¬ (lo_928 + (2 : Int32)) < 0 ∧ (lo_928 + (2 : Int32)) < (12 : Int32) := by
                  have q1031 := (by decide : (0 : Int32).toInt = 0)
                  have q1032 := rng32 nn_928
                  have q1033 := rng32 (f674 lo_928.toNatClampNeg)
                  have q1034 := rng32 ss_708
                  have q1035 := (by decide : (1 : Int32).toInt = 1)
                  have q1036 := (by decide : (2 : Int32).toInt = 2)
                  have q1037 := rng32 lo_928
                  have q1038 := c_iadd lo_928 (2 : Int32)
                  have q1039 := rng32 (lo_928 + (2 : Int32))
                  have q1040 := (by decide : (12 : Int32).toInt = 12)
                  rw [Int32.lt_iff_toInt_lt, Int32.lt_iff_toInt_lt]; have q0 : (0 : Int32).toInt = 0 := rfl; omega
                obtain ⟨cl1029, Ar1029, S1029, N1029, Hs1029⟩ := id F899
                have hin1029 : ¬ ((lo_928 + (2 : Int32)) < 0 ∨ cl1029.slots.size ≤ ((lo_928 + (2 : Int32))).toNatClampNeg) := inb_of S1029 q1030
                have hat1029 : cl1029.slots[((lo_928 + (2 : Int32))).toNatClampNeg]? = some (.int (f674 (lo_928 + (2 : Int32)).toNatClampNeg)) := own_at Hs1029 S1029 hin1029 (rfl)
                have K1042 : ∀ t, Steps p.tables e below (T907.setTop (mkF m 387 #[.val (.int x0), .val (.int x1), .val (.int x2), .val (.int c0_442), .val (.int c1_442), .val (.int c2_442), .val (.int c3_442), .val (.ref b464), .val (.ref b527), .val (.ref b680), .val (.int ss_708), .val (.int kd_708), .val (.ref b870), .val (.int r_907), .val (.int lo_928), .val (.int nn_928), .unset] [(.int ss_708), (.int (f674 (lo_928 + (2 : Int32)).toNatClampNeg))])) t → Steps p.tables e below (s₁.setTop (entryFrame m #[(.int x0), (.int x1), (.int x2)] maxLocals)) t := fun t k => K1027 t (by
                  show Steps p.tables e below (T907.setTop (mkF m 375 #[.val (.int x0), .val (.int x1), .val (.int x2), .val (.int c0_442), .val (.int c1_442), .val (.int c2_442), .val (.int c3_442), .val (.ref b464), .val (.ref b527), .val (.ref b680), .val (.int ss_708), .val (.int kd_708), .val (.ref b870), .val (.int r_907), .val (.int lo_928), .val (.int nn_928), .unset] [(.int (2 : Int32)), (.int nn_928)])) t
                  refine XS.icmpNo X907.here hx rfl (hb hby at_375) rfl (tlt hc1026).2.2.2 ?_
                  show Steps p.tables e below (T907.setTop (mkF m 378 #[.val (.int x0), .val (.int x1), .val (.int x2), .val (.int c0_442), .val (.int c1_442), .val (.int c2_442), .val (.int c3_442), .val (.ref b464), .val (.ref b527), .val (.ref b680), .val (.int ss_708), .val (.int kd_708), .val (.ref b870), .val (.int r_907), .val (.int lo_928), .val (.int nn_928), .unset] [])) t
                  refine XS.aload X907.here hx rfl (hb hby at_378) rfl rfl ?_
                  show Steps p.tables e below (T907.setTop (mkF m 380 #[.val (.int x0), .val (.int x1), .val (.int x2), .val (.int c0_442), .val (.int c1_442), .val (.int c2_442), .val (.int c3_442), .val (.ref b464), .val (.ref b527), .val (.ref b680), .val (.int ss_708), .val (.int kd_708), .val (.ref b870), .val (.int r_907), .val (.int lo_928), .val (.int nn_928), .unset] [(.ref b527)])) t
                  refine XS.iload X907.here hx rfl (hb hby at_380) rfl ?_
                  show Steps p.tables e below (T907.setTop (mkF m 382 #[.val (.int x0), .val (.int x1), .val (.int x2), .val (.int c0_442), .val (.int c1_442), .val (.int c2_442), .val (.int c3_442), .val (.ref b464), .val (.ref b527), .val (.ref b680), .val (.int ss_708), .val (.int kd_708), .val (.ref b870), .val (.int r_907), .val (.int lo_928), .val (.int nn_928), .unset] [(.int lo_928), (.ref b527)])) t
                  refine XS.iconst X907.here hx rfl (hb hby at_382) ?_
                  show Steps p.tables e below (T907.setTop (mkF m 383 #[.val (.int x0), .val (.int x1), .val (.int x2), .val (.int c0_442), .val (.int c1_442), .val (.int c2_442), .val (.int c3_442), .val (.ref b464), .val (.ref b527), .val (.ref b680), .val (.int ss_708), .val (.int kd_708), .val (.ref b870), .val (.int r_907), .val (.int lo_928), .val (.int nn_928), .unset] [(.int (2 : Int32)), (.int lo_928), (.ref b527)])) t
                  refine XS.iadd X907.here hx rfl (hb hby at_383) rfl ?_
                  show Steps p.tables e below (T907.setTop (mkF m 384 #[.val (.int x0), .val (.int x1), .val (.int x2), .val (.int c0_442), .val (.int c1_442), .val (.int c2_442), .val (.int c3_442), .val (.ref b464), .val (.ref b527), .val (.ref b680), .val (.int ss_708), .val (.int kd_708), .val (.ref b870), .val (.int r_907), .val (.int lo_928), .val (.int nn_928), .unset] [(.int (lo_928 + (2 : Int32))), (.ref b527)])) t
                  refine X907.iaload hx (j := (lo_928 + (2 : Int32))) (v := (.int (f674 (lo_928 + (2 : Int32)).toNatClampNeg))) (by rw [eh907]; exact Ar1029.1) (State.isArrayOf_alike hZ.alike Ar1029.2.1) Ar1029.2.2 hin1029 hat1029 (g := (mkF m 384 #[.val (.int x0), .val (.int x1), .val (.int x2), .val (.int c0_442), .val (.int c1_442), .val (.int c2_442), .val (.int c3_442), .val (.ref b464), .val (.ref b527), .val (.ref b680), .val (.int ss_708), .val (.int kd_708), .val (.ref b870), .val (.int r_907), .val (.int lo_928), .val (.int nn_928), .unset] [(.int (lo_928 + (2 : Int32))), (.ref b527)])) rfl rfl (hb hby at_384) _ ?_
                  show Steps p.tables e below (T907.setTop (mkF m 385 #[.val (.int x0), .val (.int x1), .val (.int x2), .val (.int c0_442), .val (.int c1_442), .val (.int c2_442), .val (.int c3_442), .val (.ref b464), .val (.ref b527), .val (.ref b680), .val (.int ss_708), .val (.int kd_708), .val (.ref b870), .val (.int r_907), .val (.int lo_928), .val (.int nn_928), .unset] [(.int (f674 (lo_928 + (2 : Int32)).toNatClampNeg))])) t
                  refine XS.iload X907.here hx rfl (hb hby at_385) rfl ?_
                  exact k)
                by_cases hc1041 : (f674 (lo_928 + (2 : Int32)).toNatClampNeg) = ss_708
                · have q1043 : (f674 (lo_928 + (2 : Int32)).toNatClampNeg).toInt = ss_708.toInt := congrArg Int32.toInt hc1041
                  refine ⟨(1 : Int32), ?_, fun t k => K1042 t ?_⟩
                  · have q1044 := (by decide : (0 : Int32).toInt = 0)
                    have q1045 := rng32 nn_928
                    have q1046 := rng32 (f674 lo_928.toNatClampNeg)
                    have q1047 := rng32 ss_708
                    have q1048 := (by decide : (1 : Int32).toInt = 1)
                    have q1049 := (by decide : (2 : Int32).toInt = 2)
                    have q1050 := rng32 (f674 (lo_928 + (2 : Int32)).toNatClampNeg)
                    have y2a : (lo_928 + (2 : Int32)).toInt = lo_928.toInt + 2 := own_addI (y := (2 : Int32)) (by show _ ≤ lo_928.toInt + 2; omega) (by show lo_928.toInt + 2 < _; omega)
                    have z2 := own_clamp (j := (lo_928 + (2 : Int32))) (by rw [y2a]; omega)
                    exact Or.inl ⟨by decide, (lo_928 + (2 : Int32)).toNatClampNeg, by omega, by omega, hc1041⟩
                  show Steps p.tables e below (T907.setTop (mkF m 387 #[.val (.int x0), .val (.int x1), .val (.int x2), .val (.int c0_442), .val (.int c1_442), .val (.int c2_442), .val (.int c3_442), .val (.ref b464), .val (.ref b527), .val (.ref b680), .val (.int ss_708), .val (.int kd_708), .val (.ref b870), .val (.int r_907), .val (.int lo_928), .val (.int nn_928), .unset] [(.int ss_708), (.int (f674 (lo_928 + (2 : Int32)).toNatClampNeg))])) t
                  refine XS.icmpNo X907.here hx rfl (hb hby at_387) rfl (teq hc1041).2 ?_
                  show Steps p.tables e below (T907.setTop (mkF m 390 #[.val (.int x0), .val (.int x1), .val (.int x2), .val (.int c0_442), .val (.int c1_442), .val (.int c2_442), .val (.int c3_442), .val (.ref b464), .val (.ref b527), .val (.ref b680), .val (.int ss_708), .val (.int kd_708), .val (.ref b870), .val (.int r_907), .val (.int lo_928), .val (.int nn_928), .unset] [])) t
                  refine XS.iconst X907.here hx rfl (hb hby at_390) ?_
                  show Steps p.tables e below (T907.setTop (mkF m 391 #[.val (.int x0), .val (.int x1), .val (.int x2), .val (.int c0_442), .val (.int c1_442), .val (.int c2_442), .val (.int c3_442), .val (.ref b464), .val (.ref b527), .val (.ref b680), .val (.int ss_708), .val (.int kd_708), .val (.ref b870), .val (.int r_907), .val (.int lo_928), .val (.int nn_928), .unset] [(.int (1 : Int32))])) t
                  refine XS.goto X907.here hx rfl (pc0 := 391) (pc' := 395) rfl (hb hby at_391) (by decide) (by decide) ?_
                  exact k
                · have q1051 : ¬ (f674 (lo_928 + (2 : Int32)).toNatClampNeg).toInt = ss_708.toInt := fun q => hc1041 (Int32.toInt_inj.mp q)
                  refine ⟨(0 : Int32), ?_, fun t k => K1042 t ?_⟩
                  · have q1052 := (by decide : (0 : Int32).toInt = 0)
                    have q1053 := rng32 nn_928
                    have q1054 := rng32 (f674 lo_928.toNatClampNeg)
                    have q1055 := rng32 ss_708
                    have q1056 := (by decide : (1 : Int32).toInt = 1)
                    have q1057 := (by decide : (2 : Int32).toInt = 2)
                    have q1058 := rng32 (f674 (lo_928 + (2 : Int32)).toNatClampNeg)
                    refine Or.inr ⟨by decide, fun ⟨k, h1, h2, h3⟩ => ?_⟩
                    have z0 := own_clamp (j := lo_928) hl2
                    have x0 : ¬ k = lo_928.toNatClampNeg := fun q => hc948 (q ▸ h3)
                    have y2a : (lo_928 + (2 : Int32)).toInt = lo_928.toInt + 2 := own_addI (y := (2 : Int32)) (by show _ ≤ lo_928.toInt + 2; omega) (by show lo_928.toInt + 2 < _; omega)
                    have z2 := own_clamp (j := (lo_928 + (2 : Int32))) (by rw [y2a]; omega)
                    have x2 : ¬ k = (lo_928 + (2 : Int32)).toNatClampNeg := fun q => hc1041 (q ▸ h3)
                    omega
                  show Steps p.tables e below (T907.setTop (mkF m 387 #[.val (.int x0), .val (.int x1), .val (.int x2), .val (.int c0_442), .val (.int c1_442), .val (.int c2_442), .val (.int c3_442), .val (.ref b464), .val (.ref b527), .val (.ref b680), .val (.int ss_708), .val (.int kd_708), .val (.ref b870), .val (.int r_907), .val (.int lo_928), .val (.int nn_928), .unset] [(.int ss_708), (.int (f674 (lo_928 + (2 : Int32)).toNatClampNeg))])) t
                  refine XS.icmpYes X907.here hx rfl (pc0 := 387) (pc' := 394) rfl (hb hby at_387) rfl (feq hc1041).2 (by decide) (by decide) ?_
                  show Steps p.tables e below (T907.setTop (mkF m 394 #[.val (.int x0), .val (.int x1), .val (.int x2), .val (.int c0_442), .val (.int c1_442), .val (.int c2_442), .val (.int c3_442), .val (.ref b464), .val (.ref b527), .val (.ref b680), .val (.int ss_708), .val (.int kd_708), .val (.ref b870), .val (.int r_907), .val (.int lo_928), .val (.int nn_928), .unset] [])) t
                  refine XS.iconst X907.here hx rfl (hb hby at_394) ?_
                  exact k
              · have q1059 : ¬ (2 : Int32).toInt < nn_928.toInt := fun q => hc1026 (Int32.lt_iff_toInt_lt.mpr q)
                refine ⟨(0 : Int32), ?_, fun t k => K1027 t ?_⟩
                · have q1060 := (by decide : (0 : Int32).toInt = 0)
                  have q1061 := rng32 nn_928
                  have q1062 := rng32 (f674 lo_928.toNatClampNeg)
                  have q1063 := rng32 ss_708
                  have q1064 := (by decide : (1 : Int32).toInt = 1)
                  have q1065 := (by decide : (2 : Int32).toInt = 2)
                  refine Or.inr ⟨by decide, fun ⟨k, h1, h2, h3⟩ => ?_⟩
                  have z0 := own_clamp (j := lo_928) hl2
                  have x0 : ¬ k = lo_928.toNatClampNeg := fun q => hc948 (q ▸ h3)
                  omega
                show Steps p.tables e below (T907.setTop (mkF m 375 #[.val (.int x0), .val (.int x1), .val (.int x2), .val (.int c0_442), .val (.int c1_442), .val (.int c2_442), .val (.int c3_442), .val (.ref b464), .val (.ref b527), .val (.ref b680), .val (.int ss_708), .val (.int kd_708), .val (.ref b870), .val (.int r_907), .val (.int lo_928), .val (.int nn_928), .unset] [(.int (2 : Int32)), (.int nn_928)])) t
                refine XS.icmpYes X907.here hx rfl (pc0 := 375) (pc' := 394) rfl (hb hby at_375) rfl (flt hc1026).2.2.2 (by decide) (by decide) ?_
                show Steps p.tables e below (T907.setTop (mkF m 394 #[.val (.int x0), .val (.int x1), .val (.int x2), .val (.int c0_442), .val (.int c1_442), .val (.int c2_442), .val (.int c3_442), .val (.ref b464), .val (.ref b527), .val (.ref b680), .val (.int ss_708), .val (.int kd_708), .val (.ref b870), .val (.int r_907), .val (.int lo_928), .val (.int nn_928), .unset] [])) t
                refine XS.iconst X907.here hx rfl (hb hby at_394) ?_
                exact k
        · have q1066 : ¬ (0 : Int32).toInt < nn_928.toInt := fun q => hc939 (Int32.lt_iff_toInt_lt.mpr q)
          have K1068 : ∀ t, Steps p.tables e below (T907.setTop (mkF m 357 #[.val (.int x0), .val (.int x1), .val (.int x2), .val (.int c0_442), .val (.int c1_442), .val (.int c2_442), .val (.int c3_442), .val (.ref b464), .val (.ref b527), .val (.ref b680), .val (.int ss_708), .val (.int kd_708), .val (.ref b870), .val (.int r_907), .val (.int lo_928), .val (.int nn_928), .unset] [(.int (1 : Int32)), (.int nn_928)])) t → Steps p.tables e below (s₁.setTop (entryFrame m #[(.int x0), (.int x1), (.int x2)] maxLocals)) t := fun t k => K940 t (by
            show Steps p.tables e below (T907.setTop (mkF m 341 #[.val (.int x0), .val (.int x1), .val (.int x2), .val (.int c0_442), .val (.int c1_442), .val (.int c2_442), .val (.int c3_442), .val (.ref b464), .val (.ref b527), .val (.ref b680), .val (.int ss_708), .val (.int kd_708), .val (.ref b870), .val (.int r_907), .val (.int lo_928), .val (.int nn_928), .unset] [(.int nn_928)])) t
            refine XS.ifYes X907.here hx rfl (pc0 := 341) (pc' := 354) rfl (hb hby at_341) rfl ((if0 _ _).trans (flt hc939).2.2.2) (by decide) (by decide) ?_
            show Steps p.tables e below (T907.setTop (mkF m 354 #[.val (.int x0), .val (.int x1), .val (.int x2), .val (.int c0_442), .val (.int c1_442), .val (.int c2_442), .val (.int c3_442), .val (.ref b464), .val (.ref b527), .val (.ref b680), .val (.int ss_708), .val (.int kd_708), .val (.ref b870), .val (.int r_907), .val (.int lo_928), .val (.int nn_928), .unset] [])) t
            refine XS.iload X907.here hx rfl (hb hby at_354) rfl ?_
            show Steps p.tables e below (T907.setTop (mkF m 356 #[.val (.int x0), .val (.int x1), .val (.int x2), .val (.int c0_442), .val (.int c1_442), .val (.int c2_442), .val (.int c3_442), .val (.ref b464), .val (.ref b527), .val (.ref b680), .val (.int ss_708), .val (.int kd_708), .val (.ref b870), .val (.int r_907), .val (.int lo_928), .val (.int nn_928), .unset] [(.int nn_928)])) t
            refine XS.iconst X907.here hx rfl (hb hby at_356) ?_
            exact k)
          by_cases hc1067 : (1 : Int32) < nn_928
          · have q1069 : (1 : Int32).toInt < nn_928.toInt := Int32.lt_iff_toInt_lt.mp hc1067
            have q1071 : ¬ (lo_928 + (1 : Int32)) < 0 ∧ (lo_928 + (1 : Int32)) < (12 : Int32) := by
              have q1072 := (by decide : (0 : Int32).toInt = 0)
              have q1073 := rng32 nn_928
              have q1074 := (by decide : (1 : Int32).toInt = 1)
              have q1075 := rng32 lo_928
              have q1076 := c_iadd lo_928 (1 : Int32)
              have q1077 := rng32 (lo_928 + (1 : Int32))
              have q1078 := (by decide : (12 : Int32).toInt = 12)
              rw [Int32.lt_iff_toInt_lt, Int32.lt_iff_toInt_lt]; have q0 : (0 : Int32).toInt = 0 := rfl; omega
            obtain ⟨cl1070, Ar1070, S1070, N1070, Hs1070⟩ := id F899
            have hin1070 : ¬ ((lo_928 + (1 : Int32)) < 0 ∨ cl1070.slots.size ≤ ((lo_928 + (1 : Int32))).toNatClampNeg) := inb_of S1070 q1071
            have hat1070 : cl1070.slots[((lo_928 + (1 : Int32))).toNatClampNeg]? = some (.int (f674 (lo_928 + (1 : Int32)).toNatClampNeg)) := own_at Hs1070 S1070 hin1070 (rfl)
            have K1080 : ∀ t, Steps p.tables e below (T907.setTop (mkF m 369 #[.val (.int x0), .val (.int x1), .val (.int x2), .val (.int c0_442), .val (.int c1_442), .val (.int c2_442), .val (.int c3_442), .val (.ref b464), .val (.ref b527), .val (.ref b680), .val (.int ss_708), .val (.int kd_708), .val (.ref b870), .val (.int r_907), .val (.int lo_928), .val (.int nn_928), .unset] [(.int ss_708), (.int (f674 (lo_928 + (1 : Int32)).toNatClampNeg))])) t → Steps p.tables e below (s₁.setTop (entryFrame m #[(.int x0), (.int x1), (.int x2)] maxLocals)) t := fun t k => K1068 t (by
              show Steps p.tables e below (T907.setTop (mkF m 357 #[.val (.int x0), .val (.int x1), .val (.int x2), .val (.int c0_442), .val (.int c1_442), .val (.int c2_442), .val (.int c3_442), .val (.ref b464), .val (.ref b527), .val (.ref b680), .val (.int ss_708), .val (.int kd_708), .val (.ref b870), .val (.int r_907), .val (.int lo_928), .val (.int nn_928), .unset] [(.int (1 : Int32)), (.int nn_928)])) t
              refine XS.icmpNo X907.here hx rfl (hb hby at_357) rfl (tlt hc1067).2.2.2 ?_
              show Steps p.tables e below (T907.setTop (mkF m 360 #[.val (.int x0), .val (.int x1), .val (.int x2), .val (.int c0_442), .val (.int c1_442), .val (.int c2_442), .val (.int c3_442), .val (.ref b464), .val (.ref b527), .val (.ref b680), .val (.int ss_708), .val (.int kd_708), .val (.ref b870), .val (.int r_907), .val (.int lo_928), .val (.int nn_928), .unset] [])) t
              refine XS.aload X907.here hx rfl (hb hby at_360) rfl rfl ?_
              show Steps p.tables e below (T907.setTop (mkF m 362 #[.val (.int x0), .val (.int x1), .val (.int x2), .val (.int c0_442), .val (.int c1_442), .val (.int c2_442), .val (.int c3_442), .val (.ref b464), .val (.ref b527), .val (.ref b680), .val (.int ss_708), .val (.int kd_708), .val (.ref b870), .val (.int r_907), .val (.int lo_928), .val (.int nn_928), .unset] [(.ref b527)])) t
              refine XS.iload X907.here hx rfl (hb hby at_362) rfl ?_
              show Steps p.tables e below (T907.setTop (mkF m 364 #[.val (.int x0), .val (.int x1), .val (.int x2), .val (.int c0_442), .val (.int c1_442), .val (.int c2_442), .val (.int c3_442), .val (.ref b464), .val (.ref b527), .val (.ref b680), .val (.int ss_708), .val (.int kd_708), .val (.ref b870), .val (.int r_907), .val (.int lo_928), .val (.int nn_928), .unset] [(.int lo_928), (.ref b527)])) t
              refine XS.iconst X907.here hx rfl (hb hby at_364) ?_
              show Steps p.tables e below (T907.setTop (mkF m 365 #[.val (.int x0), .val (.int x1), .val (.int x2), .val (.int c0_442), .val (.int c1_442), .val (.int c2_442), .val (.int c3_442), .val (.ref b464), .val (.ref b527), .val (.ref b680), .val (.int ss_708), .val (.int kd_708), .val (.ref b870), .val (.int r_907), .val (.int lo_928), .val (.int nn_928), .unset] [(.int (1 : Int32)), (.int lo_928), (.ref b527)])) t
              refine XS.iadd X907.here hx rfl (hb hby at_365) rfl ?_
              show Steps p.tables e below (T907.setTop (mkF m 366 #[.val (.int x0), .val (.int x1), .val (.int x2), .val (.int c0_442), .val (.int c1_442), .val (.int c2_442), .val (.int c3_442), .val (.ref b464), .val (.ref b527), .val (.ref b680), .val (.int ss_708), .val (.int kd_708), .val (.ref b870), .val (.int r_907), .val (.int lo_928), .val (.int nn_928), .unset] [(.int (lo_928 + (1 : Int32))), (.ref b527)])) t
              refine X907.iaload hx (j := (lo_928 + (1 : Int32))) (v := (.int (f674 (lo_928 + (1 : Int32)).toNatClampNeg))) (by rw [eh907]; exact Ar1070.1) (State.isArrayOf_alike hZ.alike Ar1070.2.1) Ar1070.2.2 hin1070 hat1070 (g := (mkF m 366 #[.val (.int x0), .val (.int x1), .val (.int x2), .val (.int c0_442), .val (.int c1_442), .val (.int c2_442), .val (.int c3_442), .val (.ref b464), .val (.ref b527), .val (.ref b680), .val (.int ss_708), .val (.int kd_708), .val (.ref b870), .val (.int r_907), .val (.int lo_928), .val (.int nn_928), .unset] [(.int (lo_928 + (1 : Int32))), (.ref b527)])) rfl rfl (hb hby at_366) _ ?_
              show Steps p.tables e below (T907.setTop (mkF m 367 #[.val (.int x0), .val (.int x1), .val (.int x2), .val (.int c0_442), .val (.int c1_442), .val (.int c2_442), .val (.int c3_442), .val (.ref b464), .val (.ref b527), .val (.ref b680), .val (.int ss_708), .val (.int kd_708), .val (.ref b870), .val (.int r_907), .val (.int lo_928), .val (.int nn_928), .unset] [(.int (f674 (lo_928 + (1 : Int32)).toNatClampNeg))])) t
              refine XS.iload X907.here hx rfl (hb hby at_367) rfl ?_
              exact k)
            by_cases hc1079 : (f674 (lo_928 + (1 : Int32)).toNatClampNeg) = ss_708
            · have q1081 : (f674 (lo_928 + (1 : Int32)).toNatClampNeg).toInt = ss_708.toInt := congrArg Int32.toInt hc1079
              refine ⟨(1 : Int32), ?_, fun t k => K1080 t ?_⟩
              · have q1082 := (by decide : (0 : Int32).toInt = 0)
                have q1083 := rng32 nn_928
                have q1084 := (by decide : (1 : Int32).toInt = 1)
                have q1085 := rng32 (f674 (lo_928 + (1 : Int32)).toNatClampNeg)
                have q1086 := rng32 ss_708
                have y1a : (lo_928 + (1 : Int32)).toInt = lo_928.toInt + 1 := own_addI (y := (1 : Int32)) (by show _ ≤ lo_928.toInt + 1; omega) (by show lo_928.toInt + 1 < _; omega)
                have z1 := own_clamp (j := (lo_928 + (1 : Int32))) (by rw [y1a]; omega)
                exact Or.inl ⟨by decide, (lo_928 + (1 : Int32)).toNatClampNeg, by omega, by omega, hc1079⟩
              show Steps p.tables e below (T907.setTop (mkF m 369 #[.val (.int x0), .val (.int x1), .val (.int x2), .val (.int c0_442), .val (.int c1_442), .val (.int c2_442), .val (.int c3_442), .val (.ref b464), .val (.ref b527), .val (.ref b680), .val (.int ss_708), .val (.int kd_708), .val (.ref b870), .val (.int r_907), .val (.int lo_928), .val (.int nn_928), .unset] [(.int ss_708), (.int (f674 (lo_928 + (1 : Int32)).toNatClampNeg))])) t
              refine XS.icmpYes X907.here hx rfl (pc0 := 369) (pc' := 390) rfl (hb hby at_369) rfl (teq hc1079).1 (by decide) (by decide) ?_
              show Steps p.tables e below (T907.setTop (mkF m 390 #[.val (.int x0), .val (.int x1), .val (.int x2), .val (.int c0_442), .val (.int c1_442), .val (.int c2_442), .val (.int c3_442), .val (.ref b464), .val (.ref b527), .val (.ref b680), .val (.int ss_708), .val (.int kd_708), .val (.ref b870), .val (.int r_907), .val (.int lo_928), .val (.int nn_928), .unset] [])) t
              refine XS.iconst X907.here hx rfl (hb hby at_390) ?_
              show Steps p.tables e below (T907.setTop (mkF m 391 #[.val (.int x0), .val (.int x1), .val (.int x2), .val (.int c0_442), .val (.int c1_442), .val (.int c2_442), .val (.int c3_442), .val (.ref b464), .val (.ref b527), .val (.ref b680), .val (.int ss_708), .val (.int kd_708), .val (.ref b870), .val (.int r_907), .val (.int lo_928), .val (.int nn_928), .unset] [(.int (1 : Int32))])) t
              refine XS.goto X907.here hx rfl (pc0 := 391) (pc' := 395) rfl (hb hby at_391) (by decide) (by decide) ?_
              exact k
            · have q1087 : ¬ (f674 (lo_928 + (1 : Int32)).toNatClampNeg).toInt = ss_708.toInt := fun q => hc1079 (Int32.toInt_inj.mp q)
              have K1089 : ∀ t, Steps p.tables e below (T907.setTop (mkF m 375 #[.val (.int x0), .val (.int x1), .val (.int x2), .val (.int c0_442), .val (.int c1_442), .val (.int c2_442), .val (.int c3_442), .val (.ref b464), .val (.ref b527), .val (.ref b680), .val (.int ss_708), .val (.int kd_708), .val (.ref b870), .val (.int r_907), .val (.int lo_928), .val (.int nn_928), .unset] [(.int (2 : Int32)), (.int nn_928)])) t → Steps p.tables e below (s₁.setTop (entryFrame m #[(.int x0), (.int x1), (.int x2)] maxLocals)) t := fun t k => K1080 t (by
                show Steps p.tables e below (T907.setTop (mkF m 369 #[.val (.int x0), .val (.int x1), .val (.int x2), .val (.int c0_442), .val (.int c1_442), .val (.int c2_442), .val (.int c3_442), .val (.ref b464), .val (.ref b527), .val (.ref b680), .val (.int ss_708), .val (.int kd_708), .val (.ref b870), .val (.int r_907), .val (.int lo_928), .val (.int nn_928), .unset] [(.int ss_708), (.int (f674 (lo_928 + (1 : Int32)).toNatClampNeg))])) t
                refine XS.icmpNo X907.here hx rfl (hb hby at_369) rfl (feq hc1079).1 ?_
                show Steps p.tables e below (T907.setTop (mkF m 372 #[.val (.int x0), .val (.int x1), .val (.int x2), .val (.int c0_442), .val (.int c1_442), .val (.int c2_442), .val (.int c3_442), .val (.ref b464), .val (.ref b527), .val (.ref b680), .val (.int ss_708), .val (.int kd_708), .val (.ref b870), .val (.int r_907), .val (.int lo_928), .val (.int nn_928), .unset] [])) t
                refine XS.iload X907.here hx rfl (hb hby at_372) rfl ?_
                show Steps p.tables e below (T907.setTop (mkF m 374 #[.val (.int x0), .val (.int x1), .val (.int x2), .val (.int c0_442), .val (.int c1_442), .val (.int c2_442), .val (.int c3_442), .val (.ref b464), .val (.ref b527), .val (.ref b680), .val (.int ss_708), .val (.int kd_708), .val (.ref b870), .val (.int r_907), .val (.int lo_928), .val (.int nn_928), .unset] [(.int nn_928)])) t
                refine XS.iconst X907.here hx rfl (hb hby at_374) ?_
                exact k)
              by_cases hc1088 : (2 : Int32) < nn_928
              · have q1090 : (2 : Int32).toInt < nn_928.toInt := Int32.lt_iff_toInt_lt.mp hc1088
                have q1092 : ¬ (lo_928 + (2 : Int32)) < 0 ∧ (lo_928 + (2 : Int32)) < (12 : Int32) := by
                  have q1093 := (by decide : (0 : Int32).toInt = 0)
                  have q1094 := rng32 nn_928
                  have q1095 := (by decide : (1 : Int32).toInt = 1)
                  have q1096 := rng32 (f674 (lo_928 + (1 : Int32)).toNatClampNeg)
                  have q1097 := rng32 ss_708
                  have q1098 := (by decide : (2 : Int32).toInt = 2)
                  have q1099 := rng32 lo_928
                  have q1100 := c_iadd lo_928 (2 : Int32)
                  have q1101 := rng32 (lo_928 + (2 : Int32))
                  have q1102 := (by decide : (12 : Int32).toInt = 12)
                  rw [Int32.lt_iff_toInt_lt, Int32.lt_iff_toInt_lt]; have q0 : (0 : Int32).toInt = 0 := rfl; omega
                obtain ⟨cl1091, Ar1091, S1091, N1091, Hs1091⟩ := id F899
                have hin1091 : ¬ ((lo_928 + (2 : Int32)) < 0 ∨ cl1091.slots.size ≤ ((lo_928 + (2 : Int32))).toNatClampNeg) := inb_of S1091 q1092
                have hat1091 : cl1091.slots[((lo_928 + (2 : Int32))).toNatClampNeg]? = some (.int (f674 (lo_928 + (2 : Int32)).toNatClampNeg)) := own_at Hs1091 S1091 hin1091 (rfl)
                have K1104 : ∀ t, Steps p.tables e below (T907.setTop (mkF m 387 #[.val (.int x0), .val (.int x1), .val (.int x2), .val (.int c0_442), .val (.int c1_442), .val (.int c2_442), .val (.int c3_442), .val (.ref b464), .val (.ref b527), .val (.ref b680), .val (.int ss_708), .val (.int kd_708), .val (.ref b870), .val (.int r_907), .val (.int lo_928), .val (.int nn_928), .unset] [(.int ss_708), (.int (f674 (lo_928 + (2 : Int32)).toNatClampNeg))])) t → Steps p.tables e below (s₁.setTop (entryFrame m #[(.int x0), (.int x1), (.int x2)] maxLocals)) t := fun t k => K1089 t (by
                  show Steps p.tables e below (T907.setTop (mkF m 375 #[.val (.int x0), .val (.int x1), .val (.int x2), .val (.int c0_442), .val (.int c1_442), .val (.int c2_442), .val (.int c3_442), .val (.ref b464), .val (.ref b527), .val (.ref b680), .val (.int ss_708), .val (.int kd_708), .val (.ref b870), .val (.int r_907), .val (.int lo_928), .val (.int nn_928), .unset] [(.int (2 : Int32)), (.int nn_928)])) t
                  refine XS.icmpNo X907.here hx rfl (hb hby at_375) rfl (tlt hc1088).2.2.2 ?_
                  show Steps p.tables e below (T907.setTop (mkF m 378 #[.val (.int x0), .val (.int x1), .val (.int x2), .val (.int c0_442), .val (.int c1_442), .val (.int c2_442), .val (.int c3_442), .val (.ref b464), .val (.ref b527), .val (.ref b680), .val (.int ss_708), .val (.int kd_708), .val (.ref b870), .val (.int r_907), .val (.int lo_928), .val (.int nn_928), .unset] [])) t
                  refine XS.aload X907.here hx rfl (hb hby at_378) rfl rfl ?_
                  show Steps p.tables e below (T907.setTop (mkF m 380 #[.val (.int x0), .val (.int x1), .val (.int x2), .val (.int c0_442), .val (.int c1_442), .val (.int c2_442), .val (.int c3_442), .val (.ref b464), .val (.ref b527), .val (.ref b680), .val (.int ss_708), .val (.int kd_708), .val (.ref b870), .val (.int r_907), .val (.int lo_928), .val (.int nn_928), .unset] [(.ref b527)])) t
                  refine XS.iload X907.here hx rfl (hb hby at_380) rfl ?_
                  show Steps p.tables e below (T907.setTop (mkF m 382 #[.val (.int x0), .val (.int x1), .val (.int x2), .val (.int c0_442), .val (.int c1_442), .val (.int c2_442), .val (.int c3_442), .val (.ref b464), .val (.ref b527), .val (.ref b680), .val (.int ss_708), .val (.int kd_708), .val (.ref b870), .val (.int r_907), .val (.int lo_928), .val (.int nn_928), .unset] [(.int lo_928), (.ref b527)])) t
                  refine XS.iconst X907.here hx rfl (hb hby at_382) ?_
                  show Steps p.tables e below (T907.setTop (mkF m 383 #[.val (.int x0), .val (.int x1), .val (.int x2), .val (.int c0_442), .val (.int c1_442), .val (.int c2_442), .val (.int c3_442), .val (.ref b464), .val (.ref b527), .val (.ref b680), .val (.int ss_708), .val (.int kd_708), .val (.ref b870), .val (.int r_907), .val (.int lo_928), .val (.int nn_928), .unset] [(.int (2 : Int32)), (.int lo_928), (.ref b527)])) t
                  refine XS.iadd X907.here hx rfl (hb hby at_383) rfl ?_
                  show Steps p.tables e below (T907.setTop (mkF m 384 #[.val (.int x0), .val (.int x1), .val (.int x2), .val (.int c0_442), .val (.int c1_442), .val (.int c2_442), .val (.int c3_442), .val (.ref b464), .val (.ref b527), .val (.ref b680), .val (.int ss_708), .val (.int kd_708), .val (.ref b870), .val (.int r_907), .val (.int lo_928), .val (.int nn_928), .unset] [(.int (lo_928 + (2 : Int32))), (.ref b527)])) t
                  refine X907.iaload hx (j := (lo_928 + (2 : Int32))) (v := (.int (f674 (lo_928 + (2 : Int32)).toNatClampNeg))) (by rw [eh907]; exact Ar1091.1) (State.isArrayOf_alike hZ.alike Ar1091.2.1) Ar1091.2.2 hin1091 hat1091 (g := (mkF m 384 #[.val (.int x0), .val (.int x1), .val (.int x2), .val (.int c0_442), .val (.int c1_442), .val (.int c2_442), .val (.int c3_442), .val (.ref b464), .val (.ref b527), .val (.ref b680), .val (.int ss_708), .val (.int kd_708), .val (.ref b870), .val (.int r_907), .val (.int lo_928), .val (.int nn_928), .unset] [(.int (lo_928 + (2 : Int32))), (.ref b527)])) rfl rfl (hb hby at_384) _ ?_
                  show Steps p.tables e below (T907.setTop (mkF m 385 #[.val (.int x0), .val (.int x1), .val (.int x2), .val (.int c0_442), .val (.int c1_442), .val (.int c2_442), .val (.int c3_442), .val (.ref b464), .val (.ref b527), .val (.ref b680), .val (.int ss_708), .val (.int kd_708), .val (.ref b870), .val (.int r_907), .val (.int lo_928), .val (.int nn_928), .unset] [(.int (f674 (lo_928 + (2 : Int32)).toNatClampNeg))])) t
                  refine XS.iload X907.here hx rfl (hb hby at_385) rfl ?_
                  exact k)
                by_cases hc1103 : (f674 (lo_928 + (2 : Int32)).toNatClampNeg) = ss_708
                · have q1105 : (f674 (lo_928 + (2 : Int32)).toNatClampNeg).toInt = ss_708.toInt := congrArg Int32.toInt hc1103
                  refine ⟨(1 : Int32), ?_, fun t k => K1104 t ?_⟩
                  · have q1106 := (by decide : (0 : Int32).toInt = 0)
                    have q1107 := rng32 nn_928
                    have q1108 := (by decide : (1 : Int32).toInt = 1)
                    have q1109 := rng32 (f674 (lo_928 + (1 : Int32)).toNatClampNeg)
                    have q1110 := rng32 ss_708
                    have q1111 := (by decide : (2 : Int32).toInt = 2)
                    have q1112 := rng32 (f674 (lo_928 + (2 : Int32)).toNatClampNeg)
                    have y2a : (lo_928 + (2 : Int32)).toInt = lo_928.toInt + 2 := own_addI (y := (2 : Int32)) (by show _ ≤ lo_928.toInt + 2; omega) (by show lo_928.toInt + 2 < _; omega)
                    have z2 := own_clamp (j := (lo_928 + (2 : Int32))) (by rw [y2a]; omega)
                    exact Or.inl ⟨by decide, (lo_928 + (2 : Int32)).toNatClampNeg, by omega, by omega, hc1103⟩
                  show Steps p.tables e below (T907.setTop (mkF m 387 #[.val (.int x0), .val (.int x1), .val (.int x2), .val (.int c0_442), .val (.int c1_442), .val (.int c2_442), .val (.int c3_442), .val (.ref b464), .val (.ref b527), .val (.ref b680), .val (.int ss_708), .val (.int kd_708), .val (.ref b870), .val (.int r_907), .val (.int lo_928), .val (.int nn_928), .unset] [(.int ss_708), (.int (f674 (lo_928 + (2 : Int32)).toNatClampNeg))])) t
                  refine XS.icmpNo X907.here hx rfl (hb hby at_387) rfl (teq hc1103).2 ?_
                  show Steps p.tables e below (T907.setTop (mkF m 390 #[.val (.int x0), .val (.int x1), .val (.int x2), .val (.int c0_442), .val (.int c1_442), .val (.int c2_442), .val (.int c3_442), .val (.ref b464), .val (.ref b527), .val (.ref b680), .val (.int ss_708), .val (.int kd_708), .val (.ref b870), .val (.int r_907), .val (.int lo_928), .val (.int nn_928), .unset] [])) t
                  refine XS.iconst X907.here hx rfl (hb hby at_390) ?_
                  show Steps p.tables e below (T907.setTop (mkF m 391 #[.val (.int x0), .val (.int x1), .val (.int x2), .val (.int c0_442), .val (.int c1_442), .val (.int c2_442), .val (.int c3_442), .val (.ref b464), .val (.ref b527), .val (.ref b680), .val (.int ss_708), .val (.int kd_708), .val (.ref b870), .val (.int r_907), .val (.int lo_928), .val (.int nn_928), .unset] [(.int (1 : Int32))])) t
                  refine XS.goto X907.here hx rfl (pc0 := 391) (pc' := 395) rfl (hb hby at_391) (by decide) (by decide) ?_
                  exact k
                · have q1113 : ¬ (f674 (lo_928 + (2 : Int32)).toNatClampNeg).toInt = ss_708.toInt := fun q => hc1103 (Int32.toInt_inj.mp q)
                  refine ⟨(0 : Int32), ?_, fun t k => K1104 t ?_⟩
                  · have q1114 := (by decide : (0 : Int32).toInt = 0)
                    have q1115 := rng32 nn_928
                    have q1116 := (by decide : (1 : Int32).toInt = 1)
                    have q1117 := rng32 (f674 (lo_928 + (1 : Int32)).toNatClampNeg)
                    have q1118 := rng32 ss_708
                    have q1119 := (by decide : (2 : Int32).toInt = 2)
                    have q1120 := rng32 (f674 (lo_928 + (2 : Int32)).toNatClampNeg)
                    refine Or.inr ⟨by decide, fun ⟨k, h1, h2, h3⟩ => ?_⟩
                    have z0 := own_clamp (j := lo_928) hl2
                    have y1a : (lo_928 + (1 : Int32)).toInt = lo_928.toInt + 1 := own_addI (y := (1 : Int32)) (by show _ ≤ lo_928.toInt + 1; omega) (by show lo_928.toInt + 1 < _; omega)
                    have z1 := own_clamp (j := (lo_928 + (1 : Int32))) (by rw [y1a]; omega)
                    have x1 : ¬ k = (lo_928 + (1 : Int32)).toNatClampNeg := fun q => hc1079 (q ▸ h3)
                    have y2a : (lo_928 + (2 : Int32)).toInt = lo_928.toInt + 2 := own_addI (y := (2 : Int32)) (by show _ ≤ lo_928.toInt + 2; omega) (by show lo_928.toInt + 2 < _; omega)
                    have z2 := own_clamp (j := (lo_928 + (2 : Int32))) (by rw [y2a]; omega)
                    have x2 : ¬ k = (lo_928 + (2 : Int32)).toNatClampNeg := fun q => hc1103 (q ▸ h3)
                    omega
                  show Steps p.tables e below (T907.setTop (mkF m 387 #[.val (.int x0), .val (.int x1), .val (.int x2), .val (.int c0_442), .val (.int c1_442), .val (.int c2_442), .val (.int c3_442), .val (.ref b464), .val (.ref b527), .val (.ref b680), .val (.int ss_708), .val (.int kd_708), .val (.ref b870), .val (.int r_907), .val (.int lo_928), .val (.int nn_928), .unset] [(.int ss_708), (.int (f674 (lo_928 + (2 : Int32)).toNatClampNeg))])) t
                  refine XS.icmpYes X907.here hx rfl (pc0 := 387) (pc' := 394) rfl (hb hby at_387) rfl (feq hc1103).2 (by decide) (by decide) ?_
                  show Steps p.tables e below (T907.setTop (mkF m 394 #[.val (.int x0), .val (.int x1), .val (.int x2), .val (.int c0_442), .val (.int c1_442), .val (.int c2_442), .val (.int c3_442), .val (.ref b464), .val (.ref b527), .val (.ref b680), .val (.int ss_708), .val (.int kd_708), .val (.ref b870), .val (.int r_907), .val (.int lo_928), .val (.int nn_928), .unset] [])) t
                  refine XS.iconst X907.here hx rfl (hb hby at_394) ?_
                  exact k
              · have q1121 : ¬ (2 : Int32).toInt < nn_928.toInt := fun q => hc1088 (Int32.lt_iff_toInt_lt.mpr q)
                refine ⟨(0 : Int32), ?_, fun t k => K1089 t ?_⟩
                · have q1122 := (by decide : (0 : Int32).toInt = 0)
                  have q1123 := rng32 nn_928
                  have q1124 := (by decide : (1 : Int32).toInt = 1)
                  have q1125 := rng32 (f674 (lo_928 + (1 : Int32)).toNatClampNeg)
                  have q1126 := rng32 ss_708
                  have q1127 := (by decide : (2 : Int32).toInt = 2)
                  refine Or.inr ⟨by decide, fun ⟨k, h1, h2, h3⟩ => ?_⟩
                  have z0 := own_clamp (j := lo_928) hl2
                  have y1a : (lo_928 + (1 : Int32)).toInt = lo_928.toInt + 1 := own_addI (y := (1 : Int32)) (by show _ ≤ lo_928.toInt + 1; omega) (by show lo_928.toInt + 1 < _; omega)
                  have z1 := own_clamp (j := (lo_928 + (1 : Int32))) (by rw [y1a]; omega)
                  have x1 : ¬ k = (lo_928 + (1 : Int32)).toNatClampNeg := fun q => hc1079 (q ▸ h3)
                  omega
                show Steps p.tables e below (T907.setTop (mkF m 375 #[.val (.int x0), .val (.int x1), .val (.int x2), .val (.int c0_442), .val (.int c1_442), .val (.int c2_442), .val (.int c3_442), .val (.ref b464), .val (.ref b527), .val (.ref b680), .val (.int ss_708), .val (.int kd_708), .val (.ref b870), .val (.int r_907), .val (.int lo_928), .val (.int nn_928), .unset] [(.int (2 : Int32)), (.int nn_928)])) t
                refine XS.icmpYes X907.here hx rfl (pc0 := 375) (pc' := 394) rfl (hb hby at_375) rfl (flt hc1088).2.2.2 (by decide) (by decide) ?_
                show Steps p.tables e below (T907.setTop (mkF m 394 #[.val (.int x0), .val (.int x1), .val (.int x2), .val (.int c0_442), .val (.int c1_442), .val (.int c2_442), .val (.int c3_442), .val (.ref b464), .val (.ref b527), .val (.ref b680), .val (.int ss_708), .val (.int kd_708), .val (.ref b870), .val (.int r_907), .val (.int lo_928), .val (.int nn_928), .unset] [])) t
                refine XS.iconst X907.here hx rfl (hb hby at_394) ?_
                exact k
          · have q1128 : ¬ (1 : Int32).toInt < nn_928.toInt := fun q => hc1067 (Int32.lt_iff_toInt_lt.mpr q)
            have K1130 : ∀ t, Steps p.tables e below (T907.setTop (mkF m 375 #[.val (.int x0), .val (.int x1), .val (.int x2), .val (.int c0_442), .val (.int c1_442), .val (.int c2_442), .val (.int c3_442), .val (.ref b464), .val (.ref b527), .val (.ref b680), .val (.int ss_708), .val (.int kd_708), .val (.ref b870), .val (.int r_907), .val (.int lo_928), .val (.int nn_928), .unset] [(.int (2 : Int32)), (.int nn_928)])) t → Steps p.tables e below (s₁.setTop (entryFrame m #[(.int x0), (.int x1), (.int x2)] maxLocals)) t := fun t k => K1068 t (by
              show Steps p.tables e below (T907.setTop (mkF m 357 #[.val (.int x0), .val (.int x1), .val (.int x2), .val (.int c0_442), .val (.int c1_442), .val (.int c2_442), .val (.int c3_442), .val (.ref b464), .val (.ref b527), .val (.ref b680), .val (.int ss_708), .val (.int kd_708), .val (.ref b870), .val (.int r_907), .val (.int lo_928), .val (.int nn_928), .unset] [(.int (1 : Int32)), (.int nn_928)])) t
              refine XS.icmpYes X907.here hx rfl (pc0 := 357) (pc' := 372) rfl (hb hby at_357) rfl (flt hc1067).2.2.2 (by decide) (by decide) ?_
              show Steps p.tables e below (T907.setTop (mkF m 372 #[.val (.int x0), .val (.int x1), .val (.int x2), .val (.int c0_442), .val (.int c1_442), .val (.int c2_442), .val (.int c3_442), .val (.ref b464), .val (.ref b527), .val (.ref b680), .val (.int ss_708), .val (.int kd_708), .val (.ref b870), .val (.int r_907), .val (.int lo_928), .val (.int nn_928), .unset] [])) t
              refine XS.iload X907.here hx rfl (hb hby at_372) rfl ?_
              show Steps p.tables e below (T907.setTop (mkF m 374 #[.val (.int x0), .val (.int x1), .val (.int x2), .val (.int c0_442), .val (.int c1_442), .val (.int c2_442), .val (.int c3_442), .val (.ref b464), .val (.ref b527), .val (.ref b680), .val (.int ss_708), .val (.int kd_708), .val (.ref b870), .val (.int r_907), .val (.int lo_928), .val (.int nn_928), .unset] [(.int nn_928)])) t
              refine XS.iconst X907.here hx rfl (hb hby at_374) ?_
              exact k)
            by_cases hc1129 : (2 : Int32) < nn_928
            · have q1131 : (2 : Int32).toInt < nn_928.toInt := Int32.lt_iff_toInt_lt.mp hc1129
              have q1133 : ¬ (lo_928 + (2 : Int32)) < 0 ∧ (lo_928 + (2 : Int32)) < (12 : Int32) := by
                have q1134 := (by decide : (0 : Int32).toInt = 0)
                have q1135 := rng32 nn_928
                have q1136 := (by decide : (1 : Int32).toInt = 1)
                have q1137 := (by decide : (2 : Int32).toInt = 2)
                have q1138 := rng32 lo_928
                have q1139 := c_iadd lo_928 (2 : Int32)
                have q1140 := rng32 (lo_928 + (2 : Int32))
                have q1141 := (by decide : (12 : Int32).toInt = 12)
                rw [Int32.lt_iff_toInt_lt, Int32.lt_iff_toInt_lt]; have q0 : (0 : Int32).toInt = 0 := rfl; omega
              obtain ⟨cl1132, Ar1132, S1132, N1132, Hs1132⟩ := id F899
              have hin1132 : ¬ ((lo_928 + (2 : Int32)) < 0 ∨ cl1132.slots.size ≤ ((lo_928 + (2 : Int32))).toNatClampNeg) := inb_of S1132 q1133
              have hat1132 : cl1132.slots[((lo_928 + (2 : Int32))).toNatClampNeg]? = some (.int (f674 (lo_928 + (2 : Int32)).toNatClampNeg)) := own_at Hs1132 S1132 hin1132 (rfl)
              have K1143 : ∀ t, Steps p.tables e below (T907.setTop (mkF m 387 #[.val (.int x0), .val (.int x1), .val (.int x2), .val (.int c0_442), .val (.int c1_442), .val (.int c2_442), .val (.int c3_442), .val (.ref b464), .val (.ref b527), .val (.ref b680), .val (.int ss_708), .val (.int kd_708), .val (.ref b870), .val (.int r_907), .val (.int lo_928), .val (.int nn_928), .unset] [(.int ss_708), (.int (f674 (lo_928 + (2 : Int32)).toNatClampNeg))])) t → Steps p.tables e below (s₁.setTop (entryFrame m #[(.int x0), (.int x1), (.int x2)] maxLocals)) t := fun t k => K1130 t (by
                show Steps p.tables e below (T907.setTop (mkF m 375 #[.val (.int x0), .val (.int x1), .val (.int x2), .val (.int c0_442), .val (.int c1_442), .val (.int c2_442), .val (.int c3_442), .val (.ref b464), .val (.ref b527), .val (.ref b680), .val (.int ss_708), .val (.int kd_708), .val (.ref b870), .val (.int r_907), .val (.int lo_928), .val (.int nn_928), .unset] [(.int (2 : Int32)), (.int nn_928)])) t
                refine XS.icmpNo X907.here hx rfl (hb hby at_375) rfl (tlt hc1129).2.2.2 ?_
                show Steps p.tables e below (T907.setTop (mkF m 378 #[.val (.int x0), .val (.int x1), .val (.int x2), .val (.int c0_442), .val (.int c1_442), .val (.int c2_442), .val (.int c3_442), .val (.ref b464), .val (.ref b527), .val (.ref b680), .val (.int ss_708), .val (.int kd_708), .val (.ref b870), .val (.int r_907), .val (.int lo_928), .val (.int nn_928), .unset] [])) t
                refine XS.aload X907.here hx rfl (hb hby at_378) rfl rfl ?_
                show Steps p.tables e below (T907.setTop (mkF m 380 #[.val (.int x0), .val (.int x1), .val (.int x2), .val (.int c0_442), .val (.int c1_442), .val (.int c2_442), .val (.int c3_442), .val (.ref b464), .val (.ref b527), .val (.ref b680), .val (.int ss_708), .val (.int kd_708), .val (.ref b870), .val (.int r_907), .val (.int lo_928), .val (.int nn_928), .unset] [(.ref b527)])) t
                refine XS.iload X907.here hx rfl (hb hby at_380) rfl ?_
                show Steps p.tables e below (T907.setTop (mkF m 382 #[.val (.int x0), .val (.int x1), .val (.int x2), .val (.int c0_442), .val (.int c1_442), .val (.int c2_442), .val (.int c3_442), .val (.ref b464), .val (.ref b527), .val (.ref b680), .val (.int ss_708), .val (.int kd_708), .val (.ref b870), .val (.int r_907), .val (.int lo_928), .val (.int nn_928), .unset] [(.int lo_928), (.ref b527)])) t
                refine XS.iconst X907.here hx rfl (hb hby at_382) ?_
                show Steps p.tables e below (T907.setTop (mkF m 383 #[.val (.int x0), .val (.int x1), .val (.int x2), .val (.int c0_442), .val (.int c1_442), .val (.int c2_442), .val (.int c3_442), .val (.ref b464), .val (.ref b527), .val (.ref b680), .val (.int ss_708), .val (.int kd_708), .val (.ref b870), .val (.int r_907), .val (.int lo_928), .val (.int nn_928), .unset] [(.int (2 : Int32)), (.int lo_928), (.ref b527)])) t
                refine XS.iadd X907.here hx rfl (hb hby at_383) rfl ?_
                show Steps p.tables e below (T907.setTop (mkF m 384 #[.val (.int x0), .val (.int x1), .val (.int x2), .val (.int c0_442), .val (.int c1_442), .val (.int c2_442), .val (.int c3_442), .val (.ref b464), .val (.ref b527), .val (.ref b680), .val (.int ss_708), .val (.int kd_708), .val (.ref b870), .val (.int r_907), .val (.int lo_928), .val (.int nn_928), .unset] [(.int (lo_928 + (2 : Int32))), (.ref b527)])) t
                refine X907.iaload hx (j := (lo_928 + (2 : Int32))) (v := (.int (f674 (lo_928 + (2 : Int32)).toNatClampNeg))) (by rw [eh907]; exact Ar1132.1) (State.isArrayOf_alike hZ.alike Ar1132.2.1) Ar1132.2.2 hin1132 hat1132 (g := (mkF m 384 #[.val (.int x0), .val (.int x1), .val (.int x2), .val (.int c0_442), .val (.int c1_442), .val (.int c2_442), .val (.int c3_442), .val (.ref b464), .val (.ref b527), .val (.ref b680), .val (.int ss_708), .val (.int kd_708), .val (.ref b870), .val (.int r_907), .val (.int lo_928), .val (.int nn_928), .unset] [(.int (lo_928 + (2 : Int32))), (.ref b527)])) rfl rfl (hb hby at_384) _ ?_
                show Steps p.tables e below (T907.setTop (mkF m 385 #[.val (.int x0), .val (.int x1), .val (.int x2), .val (.int c0_442), .val (.int c1_442), .val (.int c2_442), .val (.int c3_442), .val (.ref b464), .val (.ref b527), .val (.ref b680), .val (.int ss_708), .val (.int kd_708), .val (.ref b870), .val (.int r_907), .val (.int lo_928), .val (.int nn_928), .unset] [(.int (f674 (lo_928 + (2 : Int32)).toNatClampNeg))])) t
                refine XS.iload X907.here hx rfl (hb hby at_385) rfl ?_
                exact k)
              by_cases hc1142 : (f674 (lo_928 + (2 : Int32)).toNatClampNeg) = ss_708
              · have q1144 : (f674 (lo_928 + (2 : Int32)).toNatClampNeg).toInt = ss_708.toInt := congrArg Int32.toInt hc1142
                refine ⟨(1 : Int32), ?_, fun t k => K1143 t ?_⟩
                · have q1145 := (by decide : (0 : Int32).toInt = 0)
                  have q1146 := rng32 nn_928
                  have q1147 := (by decide : (1 : Int32).toInt = 1)
                  have q1148 := (by decide : (2 : Int32).toInt = 2)
                  have q1149 := rng32 (f674 (lo_928 + (2 : Int32)).toNatClampNeg)
                  have q1150 := rng32 ss_708
                  have y2a : (lo_928 + (2 : Int32)).toInt = lo_928.toInt + 2 := own_addI (y := (2 : Int32)) (by show _ ≤ lo_928.toInt + 2; omega) (by show lo_928.toInt + 2 < _; omega)
                  have z2 := own_clamp (j := (lo_928 + (2 : Int32))) (by rw [y2a]; omega)
                  exact Or.inl ⟨by decide, (lo_928 + (2 : Int32)).toNatClampNeg, by omega, by omega, hc1142⟩
                show Steps p.tables e below (T907.setTop (mkF m 387 #[.val (.int x0), .val (.int x1), .val (.int x2), .val (.int c0_442), .val (.int c1_442), .val (.int c2_442), .val (.int c3_442), .val (.ref b464), .val (.ref b527), .val (.ref b680), .val (.int ss_708), .val (.int kd_708), .val (.ref b870), .val (.int r_907), .val (.int lo_928), .val (.int nn_928), .unset] [(.int ss_708), (.int (f674 (lo_928 + (2 : Int32)).toNatClampNeg))])) t
                refine XS.icmpNo X907.here hx rfl (hb hby at_387) rfl (teq hc1142).2 ?_
                show Steps p.tables e below (T907.setTop (mkF m 390 #[.val (.int x0), .val (.int x1), .val (.int x2), .val (.int c0_442), .val (.int c1_442), .val (.int c2_442), .val (.int c3_442), .val (.ref b464), .val (.ref b527), .val (.ref b680), .val (.int ss_708), .val (.int kd_708), .val (.ref b870), .val (.int r_907), .val (.int lo_928), .val (.int nn_928), .unset] [])) t
                refine XS.iconst X907.here hx rfl (hb hby at_390) ?_
                show Steps p.tables e below (T907.setTop (mkF m 391 #[.val (.int x0), .val (.int x1), .val (.int x2), .val (.int c0_442), .val (.int c1_442), .val (.int c2_442), .val (.int c3_442), .val (.ref b464), .val (.ref b527), .val (.ref b680), .val (.int ss_708), .val (.int kd_708), .val (.ref b870), .val (.int r_907), .val (.int lo_928), .val (.int nn_928), .unset] [(.int (1 : Int32))])) t
                refine XS.goto X907.here hx rfl (pc0 := 391) (pc' := 395) rfl (hb hby at_391) (by decide) (by decide) ?_
                exact k
              · have q1151 : ¬ (f674 (lo_928 + (2 : Int32)).toNatClampNeg).toInt = ss_708.toInt := fun q => hc1142 (Int32.toInt_inj.mp q)
                refine ⟨(0 : Int32), ?_, fun t k => K1143 t ?_⟩
                · have q1152 := (by decide : (0 : Int32).toInt = 0)
                  have q1153 := rng32 nn_928
                  have q1154 := (by decide : (1 : Int32).toInt = 1)
                  have q1155 := (by decide : (2 : Int32).toInt = 2)
                  have q1156 := rng32 (f674 (lo_928 + (2 : Int32)).toNatClampNeg)
                  have q1157 := rng32 ss_708
                  refine Or.inr ⟨by decide, fun ⟨k, h1, h2, h3⟩ => ?_⟩
                  have z0 := own_clamp (j := lo_928) hl2
                  have y2a : (lo_928 + (2 : Int32)).toInt = lo_928.toInt + 2 := own_addI (y := (2 : Int32)) (by show _ ≤ lo_928.toInt + 2; omega) (by show lo_928.toInt + 2 < _; omega)
                  have z2 := own_clamp (j := (lo_928 + (2 : Int32))) (by rw [y2a]; omega)
                  have x2 : ¬ k = (lo_928 + (2 : Int32)).toNatClampNeg := fun q => hc1142 (q ▸ h3)
                  omega
                show Steps p.tables e below (T907.setTop (mkF m 387 #[.val (.int x0), .val (.int x1), .val (.int x2), .val (.int c0_442), .val (.int c1_442), .val (.int c2_442), .val (.int c3_442), .val (.ref b464), .val (.ref b527), .val (.ref b680), .val (.int ss_708), .val (.int kd_708), .val (.ref b870), .val (.int r_907), .val (.int lo_928), .val (.int nn_928), .unset] [(.int ss_708), (.int (f674 (lo_928 + (2 : Int32)).toNatClampNeg))])) t
                refine XS.icmpYes X907.here hx rfl (pc0 := 387) (pc' := 394) rfl (hb hby at_387) rfl (feq hc1142).2 (by decide) (by decide) ?_
                show Steps p.tables e below (T907.setTop (mkF m 394 #[.val (.int x0), .val (.int x1), .val (.int x2), .val (.int c0_442), .val (.int c1_442), .val (.int c2_442), .val (.int c3_442), .val (.ref b464), .val (.ref b527), .val (.ref b680), .val (.int ss_708), .val (.int kd_708), .val (.ref b870), .val (.int r_907), .val (.int lo_928), .val (.int nn_928), .unset] [])) t
                refine XS.iconst X907.here hx rfl (hb hby at_394) ?_
                exact k
            · have q1158 : ¬ (2 : Int32).toInt < nn_928.toInt := fun q => hc1129 (Int32.lt_iff_toInt_lt.mpr q)
              refine ⟨(0 : Int32), ?_, fun t k => K1130 t ?_⟩
              · have q1159 := (by decide : (0 : Int32).toInt = 0)
                have q1160 := rng32 nn_928
                have q1161 := (by decide : (1 : Int32).toInt = 1)
                have q1162 := (by decide : (2 : Int32).toInt = 2)
                refine Or.inr ⟨by decide, fun ⟨k, h1, h2, h3⟩ => ?_⟩
                have z0 := own_clamp (j := lo_928) hl2
                omega
              show Steps p.tables e below (T907.setTop (mkF m 375 #[.val (.int x0), .val (.int x1), .val (.int x2), .val (.int c0_442), .val (.int c1_442), .val (.int c2_442), .val (.int c3_442), .val (.ref b464), .val (.ref b527), .val (.ref b680), .val (.int ss_708), .val (.int kd_708), .val (.ref b870), .val (.int r_907), .val (.int lo_928), .val (.int nn_928), .unset] [(.int (2 : Int32)), (.int nn_928)])) t
              refine XS.icmpYes X907.here hx rfl (pc0 := 375) (pc' := 394) rfl (hb hby at_375) rfl (flt hc1129).2.2.2 (by decide) (by decide) ?_
              show Steps p.tables e below (T907.setTop (mkF m 394 #[.val (.int x0), .val (.int x1), .val (.int x2), .val (.int c0_442), .val (.int c1_442), .val (.int c2_442), .val (.int c3_442), .val (.ref b464), .val (.ref b527), .val (.ref b680), .val (.int ss_708), .val (.int kd_708), .val (.ref b870), .val (.int r_907), .val (.int lo_928), .val (.int nn_928), .unset] [])) t
              refine XS.iconst X907.here hx rfl (hb hby at_394) ?_
              exact k
      have hc1163 : r_907 = wt_937 := by
        rw [eg] at Sp907
        rcases Sp907 with ⟨a1, b1⟩ | ⟨a1, b1⟩ <;> rcases Sp937 with ⟨a2, b2⟩ | ⟨a2, b2⟩
        · exact Int32.toInt_inj.mp (by rw [a1, a2])
        · exact absurd b1 b2
        · exact absurd b2 b1
        · exact Int32.toInt_inj.mp (by rw [a1, a2])
      have K1164 : ∀ t, Steps p.tables e below (T907.setTop (mkF m 409 #[.val (.int x0), .val (.int x1), .val (.int x2), .val (.int c0_442), .val (.int c1_442), .val (.int c2_442), .val (.int c3_442), .val (.ref b464), .val (.ref b527), .val (.ref b680), .val (.int ss_708), .val (.int kd_708), .val (.ref b870), .val (.int r_907), .val (.int lo_928), .val (.int nn_928), .val (.int wt_937)] [(.int (1 : Int32))])) t → Steps p.tables e below (s₁.setTop (entryFrame m #[(.int x0), (.int x1), (.int x2)] maxLocals)) t := fun t k => K938 t (by
        show Steps p.tables e below (T907.setTop (mkF m 395 #[.val (.int x0), .val (.int x1), .val (.int x2), .val (.int c0_442), .val (.int c1_442), .val (.int c2_442), .val (.int c3_442), .val (.ref b464), .val (.ref b527), .val (.ref b680), .val (.int ss_708), .val (.int kd_708), .val (.ref b870), .val (.int r_907), .val (.int lo_928), .val (.int nn_928), .unset] [(.int wt_937)])) t
        refine XS.istore X907.here hx rfl (hb hby at_395) rfl (l' := #[.val (.int x0), .val (.int x1), .val (.int x2), .val (.int c0_442), .val (.int c1_442), .val (.int c2_442), .val (.int c3_442), .val (.ref b464), .val (.ref b527), .val (.ref b680), .val (.int ss_708), .val (.int kd_708), .val (.ref b870), .val (.int r_907), .val (.int lo_928), .val (.int nn_928), .val (.int wt_937)]) rfl ?_
        show Steps p.tables e below (T907.setTop (mkF m 397 #[.val (.int x0), .val (.int x1), .val (.int x2), .val (.int c0_442), .val (.int c1_442), .val (.int c2_442), .val (.int c3_442), .val (.ref b464), .val (.ref b527), .val (.ref b680), .val (.int ss_708), .val (.int kd_708), .val (.ref b870), .val (.int r_907), .val (.int lo_928), .val (.int nn_928), .val (.int wt_937)] [])) t
        refine XS.iload X907.here hx rfl (hb hby at_397) rfl ?_
        show Steps p.tables e below (T907.setTop (mkF m 399 #[.val (.int x0), .val (.int x1), .val (.int x2), .val (.int c0_442), .val (.int c1_442), .val (.int c2_442), .val (.int c3_442), .val (.ref b464), .val (.ref b527), .val (.ref b680), .val (.int ss_708), .val (.int kd_708), .val (.ref b870), .val (.int r_907), .val (.int lo_928), .val (.int nn_928), .val (.int wt_937)] [(.int r_907)])) t
        refine XS.iload X907.here hx rfl (hb hby at_399) rfl ?_
        show Steps p.tables e below (T907.setTop (mkF m 401 #[.val (.int x0), .val (.int x1), .val (.int x2), .val (.int c0_442), .val (.int c1_442), .val (.int c2_442), .val (.int c3_442), .val (.ref b464), .val (.ref b527), .val (.ref b680), .val (.int ss_708), .val (.int kd_708), .val (.ref b870), .val (.int r_907), .val (.int lo_928), .val (.int nn_928), .val (.int wt_937)] [(.int wt_937), (.int r_907)])) t
        refine XS.icmpNo X907.here hx rfl (hb hby at_401) rfl (teq hc1163).2 ?_
        show Steps p.tables e below (T907.setTop (mkF m 404 #[.val (.int x0), .val (.int x1), .val (.int x2), .val (.int c0_442), .val (.int c1_442), .val (.int c2_442), .val (.int c3_442), .val (.ref b464), .val (.ref b527), .val (.ref b680), .val (.int ss_708), .val (.int kd_708), .val (.ref b870), .val (.int r_907), .val (.int lo_928), .val (.int nn_928), .val (.int wt_937)] [])) t
        refine XS.iconst X907.here hx rfl (hb hby at_404) ?_
        show Steps p.tables e below (T907.setTop (mkF m 405 #[.val (.int x0), .val (.int x1), .val (.int x2), .val (.int c0_442), .val (.int c1_442), .val (.int c2_442), .val (.int c3_442), .val (.ref b464), .val (.ref b527), .val (.ref b680), .val (.int ss_708), .val (.int kd_708), .val (.ref b870), .val (.int r_907), .val (.int lo_928), .val (.int nn_928), .val (.int wt_937)] [(.int (1 : Int32))])) t
        refine XS.goto X907.here hx rfl (pc0 := 405) (pc' := 409) rfl (hb hby at_405) (by decide) (by decide) ?_
        exact k)
      obtain ⟨fs, hr, hrun, hended, hW, hsame⟩ := X907.leave (v := some (.int (1 : Int32))) (fun h => by rw [Bd.returns] at h; cases h)
      refine ⟨_, _, K1164 _ ?_, hrun, hended, _, _, rfl, ?_, ⟨_, rfl⟩, hW, hsame.mono (by decide) (by decide)⟩
      · exact retN X907 hx (t := .boolean) Bd.returns (by simp) (hb hby at_409) hr
      · show Q_rm0 Z x0 x1 x2 h0 n0 _ T907.heap _
        have q1165 := (by decide : (1 : Int32).toInt = 1)
        rw [eh907]
        exact ⟨rfl, (by trivial), N908, Kp895⟩
set_option maxRecDepth 65536 in
set_option maxHeartbeats 40000000 in
theorem comes_1 {Post : Tables → Env → Array Value → State → Outcome → State → Prop} (hpost : ∀ tb e args s v u, (limb_1_1.after args s (.returned v) u = true ∧ limb_1_2.after args s (.returned v) u = true ∧ True) → FrameEnd s (.returned v) u (Jvm.fieldLocs frame_1_writes args s ++ Jvm.arrayLocs frame_1_arrays args s ++ Jvm.staticLocs frame_1_statics s) 32 192 → Post tb e args s (.returned v) u) :
    ArmFor flags0 classFile x code maxLocals ret World_1 tables_1 room_1 Calls_1 rest_1 Pre_1 Post := by
  intro l hfl _ _ p e ha hc hk s m args below hf hA hF happ hP
  obtain ⟨hcalls, hrest, hpre⟩ := hP
  obtain ⟨-, -, -, hnamed, -, -, -, hat⟩ := (Spec.applies_iff hf).mp happ
  obtain ⟨hg, hn⟩ := and_e (Cond.before_iff.mp (show (Jvm.Cond.and given_1 narrow_1).before args s = true from hpre))
  obtain ⟨gg1, gg2⟩ := and_e hg
  obtain ⟨gg3, gg4⟩ := and_e gg2
  obtain ⟨gg5, gg6⟩ := and_e gg4
  obtain ⟨w0, w1, w2, rfl⟩ : ∃ w0 w1 w2 : Value, args = #[w0, w1, w2] := by
    have hs : args.size = 3 := by simpa [Cond.value, given_1] using gg1
    obtain ⟨L⟩ := args
    match L, hs with
    | [w0, w1, w2], _ => exact ⟨w0, w1, w2, rfl⟩
  have hw := fun d (hd : d ∈ tables_1) => atoms_spec (ws := Jvm.Cond.code x code maxLocals ret :: tables_1) hat d (List.mem_cons_of_mem _ hd)
  obtain ⟨i0, ei0⟩ := is_v gg3
  obtain rfl : w0 = (.int i0) := Option.some.inj ei0
  obtain ⟨i1, ei1⟩ := is_v gg5
  obtain rfl : w1 = (.int i1) := Option.some.inj ei1
  obtain ⟨i2, ei2⟩ := is_v gg6
  obtain rfl : w2 = (.int i2) := Option.some.inj ei2
  obtain ⟨n, o, h1, h2, h3, _, L, rfl, ⟨rfl, -, N, -⟩, hq⟩ := rm0 l s _ hw tables_1 i0 i1 i2 s.heap s.heap.size (Nat.le_refl _) p e ha hc hk s m _ below hf ((Spec.applies_iff_loose hf).mp happ).1 ⟨rfl, State.Warmed39.refl s, rfl⟩ trivial
  refine ⟨n, _, h1, h2, h3, hpost _ _ _ _ _ _ ⟨Cond.after_iff.mpr rfl, Cond.after_iff.mpr (eq_i res_at (Term.int_eval (1)) rfl), trivial⟩ ⟨hq.1, hq.2.1, (hq.2.2.sift fun y hy => Or.inr (N y hy)).mono (by decide) (by decide)⟩⟩
theorem main_1_1 : Claimed_1_1 := comes_1 fun _ _ _ _ _ _ h hF => ⟨h.1, hF⟩
theorem main_1_2 : Claimed_1_2 := comes_1 fun _ _ _ _ _ _ h hF => ⟨h.2.1, hF⟩
end Jvm.Pilot.@@N@@
namespace Jvm.Pilot.@@N@@
open Jvm Jvm.ClassFile Sem Op Lib Jvm.Free Jvm.Stand Jvm.Pilot.@@N@@.Jvm.D
/-! MADE BY PROGRAM (witnessworld.py) out of the Statement's table words and the real class files: 12 classes; the members and pool entries that the words name. The judged class is class 1, her method 1. -/
namespace start1
open Jvm.ClassFile
def u (s : String) : CpInfo := .utf8 (stringToUtf16 s)
/-- a pool by its gaps: so many unusable entries, then the entry; so many at the end -/
def gap : Nat → List CpInfo → List CpInfo
  | 0, r => r
  | n + 1, r => .unusable :: gap n r
def poolList (es : List (Nat × CpInfo)) (last : Nat) : List CpInfo := es.foldr (fun e r => gap e.1 (e.2 :: r)) (gap last [])
def pool (es : List (Nat × CpInfo)) (last : Nat) : Array CpInfo := ⟨poolList es last⟩
def fileOf (pool : Array CpInfo) (this : Nat) (attrs : Array Attribute := #[]) (ms : Array MethodInfo := #[]) (fl : Nat := 33) (sup : Nat := 0) (ifs : Array Nat := #[]) (fds : Array FieldInfo := #[]) : ClassFile where
  minorVersion := 0
  majorVersion := 65
  constantPool := pool
  accessFlags := fl
  thisClass := this
  superClass := sup
  interfaces := ifs
  fields := fds
  methods := ms
  attributes := attrs
def plain (name : String) (sup : Option ClassId) : Class where
  name := name
  kind := .ordinary
  loader := none
  accessFlags := 33
  super := sup
  interfaces := #[]
  cf := none
  fields := #[]
  methods := #[]
  instanceTypes := #[]
  staticTypes := #[]
  resolved := #[]
  callSites := []
  init := .initialized
  statics := none
  mirror := none

def pool0 : Array CpInfo := pool [(5, u "<init>"), (0, u "()V"), (1, .class_ 10), (1, u "java/lang/Object")] 113

def k0c0 : Code := { maxStack := 0, maxLocals := 1, code := object_method_1_code, exceptionTable := #[], attributes := #[] }
def k0m0 : Method := { name := "<init>", desc := "()V", sig := { parameters := [], returnType := none }, accessFlags := 1, code := some k0c0 }
/-- java/lang/Object -/
def k0 : Class := { plain "java/lang/Object" none with
  accessFlags := 33
  interfaces := #[]
  cf := some (fileOf pool0 8 #[] #[{ accessFlags := 1, nameIndex := 5, descriptorIndex := 6, attributes := #[] }] 33 0 #[] #[])
  fields := #[]
  methods := #[k0m0]
  instanceTypes := #[]
  staticTypes := #[]
  resolved := Array.replicate 124 none
  statics := none }

def pool1 : Array CpInfo := pool [(2, .class_ 4), (1, u "java/lang/Object"), (0, u "<init>"), (0, u "()V"), (0, .class_ 8), (0, u "com/example/omegaprobe/omegaprobe/graph/Components"), (0, .methodref 7 10), (0, .nameAndType 5 11), (0, u "([I[I)V"), (0, .methodref 7 13), (0, .nameAndType 14 15), (0, u "cyclic"), (0, u "([I)Z"), (0, .class_ 17), (0, u "com/example/omegaprobe/omegaprobe/graph/ComponentsCyclicPinLaw"), (2, u "law"), (0, u "(III)Z")] 5

def k1m0 : Method := { name := "<init>", desc := "()V", sig := { parameters := [], returnType := none }, accessFlags := 1, code := none }
def k1c1 : Code := { maxStack := 5, maxLocals := 17, code := code, exceptionTable := #[], attributes := #[] }
def k1m1 : Method := { name := "law", desc := "(III)Z", sig := { parameters := [.int, .int, .int], returnType := some .boolean }, accessFlags := 9, code := some k1c1 }
/-- com/example/omegaprobe/omegaprobe/graph/ComponentsCyclicPinLaw -/
def k1 : Class := { plain "com/example/omegaprobe/omegaprobe/graph/ComponentsCyclicPinLaw" (some 0) with
  accessFlags := 49
  interfaces := #[]
  cf := some (fileOf pool1 16 #[] #[{ accessFlags := 1, nameIndex := 5, descriptorIndex := 6, attributes := #[] }, { accessFlags := 9, nameIndex := 20, descriptorIndex := 21, attributes := #[] }] 49 2 #[] #[])
  fields := #[]
  methods := #[k1m0, k1m1]
  instanceTypes := #[]
  staticTypes := #[]
  resolved := Array.replicate 27 none
  statics := none }

def pool2 : Array CpInfo := pool [(2, .class_ 4), (1, u "com/example/omegaprobe/omegaprobe/graph/Components"), (4, u "targets"), (2, u "<init>"), (0, u "([I[I)V"), (0, .methodref 15 16), (0, .class_ 17), (0, .nameAndType 12 18), (0, u "java/lang/Object"), (0, u "()V"), (0, .fieldref 2 20), (0, .nameAndType 21 22), (0, u "first"), (0, u "[I"), (0, .fieldref 2 24), (0, .nameAndType 9 22), (0, .fieldref 2 26), (0, .nameAndType 27 22), (0, u "index"), (0, .fieldref 2 29), (0, .nameAndType 30 22), (0, u "low"), (0, .fieldref 2 32), (0, .nameAndType 33 22), (0, u "stack"), (0, .fieldref 2 35), (0, .nameAndType 36 37), (0, u "onStack"), (0, u "[Z"), (0, .fieldref 2 39), (0, .nameAndType 40 22), (0, u "path"), (0, .fieldref 2 42), (0, .nameAndType 43 22), (0, u "nextEdge"), (0, .methodref 45 46), (0, .class_ 47), (0, .nameAndType 48 49), (0, u "java/util/Arrays"), (0, u "fill"), (0, u "([II)V"), (46, u "cyclic"), (0, u "([I)Z")] 2

def k2c0 : Code := { maxStack := 2, maxLocals := 4, code := prog_174_method_2_code, exceptionTable := #[], attributes := #[] }
def k2m0 : Method := { name := "<init>", desc := "([I[I)V", sig := { parameters := [(.array .int), (.array .int)], returnType := none }, accessFlags := 1, code := some k2c0 }
def k2c1 : Code := { maxStack := 4, maxLocals := 4, code := prog_174_method_6_code, exceptionTable := #[], attributes := #[] }
def k2m1 : Method := { name := "cyclic", desc := "([I)Z", sig := { parameters := [(.array .int)], returnType := some .boolean }, accessFlags := 1, code := some k2c1 }
/-- com/example/omegaprobe/omegaprobe/graph/Components -/
def k2 : Class := { plain "com/example/omegaprobe/omegaprobe/graph/Components" (some 0) with
  accessFlags := 49
  interfaces := #[]
  cf := some (fileOf pool2 2 #[] #[{ accessFlags := 1, nameIndex := 12, descriptorIndex := 13, attributes := #[] }, { accessFlags := 1, nameIndex := 96, descriptorIndex := 97, attributes := #[] }] 49 15 #[] #[{ accessFlags := 18, nameIndex := 21, descriptorIndex := 22, attributes := #[] }, { accessFlags := 18, nameIndex := 9, descriptorIndex := 22, attributes := #[] }, { accessFlags := 18, nameIndex := 27, descriptorIndex := 22, attributes := #[] }, { accessFlags := 18, nameIndex := 30, descriptorIndex := 22, attributes := #[] }, { accessFlags := 18, nameIndex := 33, descriptorIndex := 22, attributes := #[] }, { accessFlags := 18, nameIndex := 36, descriptorIndex := 37, attributes := #[] }, { accessFlags := 18, nameIndex := 40, descriptorIndex := 22, attributes := #[] }, { accessFlags := 18, nameIndex := 43, descriptorIndex := 22, attributes := #[] }])
  fields := #[{ name := "first", type := (.array .int), accessFlags := 18, slot := 0, constantValue := 0 }, { name := "targets", type := (.array .int), accessFlags := 18, slot := 1, constantValue := 0 }, { name := "index", type := (.array .int), accessFlags := 18, slot := 2, constantValue := 0 }, { name := "low", type := (.array .int), accessFlags := 18, slot := 3, constantValue := 0 }, { name := "stack", type := (.array .int), accessFlags := 18, slot := 4, constantValue := 0 }, { name := "onStack", type := (.array .boolean), accessFlags := 18, slot := 5, constantValue := 0 }, { name := "path", type := (.array .int), accessFlags := 18, slot := 6, constantValue := 0 }, { name := "nextEdge", type := (.array .int), accessFlags := 18, slot := 7, constantValue := 0 }]
  methods := #[k2m0, k2m1]
  instanceTypes := #[(.array .int), (.array .int), (.array .int), (.array .int), (.array .int), (.array .boolean), (.array .int), (.array .int)]
  staticTypes := #[]
  resolved := Array.replicate 100 none
  statics := none }

def pool3 : Array CpInfo := pool [(2, .class_ 4), (1, u "java/lang/Object"), (0, u "<init>"), (0, u "()V"), (7, .class_ 16), (1, u "java/util/Arrays"), (57, .class_ 76), (1, u "java/util/Arrays$NaturalOrder"), (36, .class_ 115), (1, u "java/util/Arrays$LegacyMergeSort"), (1, u "Z"), (257, .class_ 376), (0, u "java/util/Arrays$ArrayList"), (68, u "$assertionsDisabled"), (269, u "MIN_ARRAY_SORT_GRAN"), (0, u "I"), (2, u "INSERTIONSORT_THRESHOLD"), (120, u "fill"), (4, u "([II)V"), (129, .class_ 976), (0, u "java/util/Arrays$ArrayItr")] 52

def k3m0 : Method := { name := "<init>", desc := "()V", sig := { parameters := [], returnType := none }, accessFlags := 2, code := none }
def k3c1 : Code := { maxStack := 3, maxLocals := 4, code := jdk_65_method_103_code, exceptionTable := #[], attributes := #[] }
def k3m1 : Method := { name := "fill", desc := "([II)V", sig := { parameters := [(.array .int), .int], returnType := none }, accessFlags := 9, code := some k3c1 }
/-- java/util/Arrays -/
def k3 : Class := { plain "java/util/Arrays" (some 0) with
  accessFlags := 49
  interfaces := #[]
  cf := some (fileOf pool3 14 #[.nestMembers #[975, 375, 113, 74]] #[{ accessFlags := 2, nameIndex := 5, descriptorIndex := 6, attributes := #[] }, { accessFlags := 9, nameIndex := 840, descriptorIndex := 845, attributes := #[] }] 49 2 #[] #[{ accessFlags := 26, nameIndex := 715, descriptorIndex := 716, attributes := #[] }, { accessFlags := 26, nameIndex := 719, descriptorIndex := 716, attributes := #[] }, { accessFlags := 4120, nameIndex := 445, descriptorIndex := 117, attributes := #[] }])
  fields := #[{ name := "MIN_ARRAY_SORT_GRAN", type := .int, accessFlags := 26, slot := 0, constantValue := 0 }, { name := "INSERTIONSORT_THRESHOLD", type := .int, accessFlags := 26, slot := 1, constantValue := 0 }, { name := "$assertionsDisabled", type := .boolean, accessFlags := 4120, slot := 2, constantValue := 0 }]
  methods := #[k3m0, k3m1]
  instanceTypes := #[]
  staticTypes := #[.int, .int, .boolean]
  resolved := Array.replicate 1029 none
  statics := none }

def pool4 : Array CpInfo := pool [(1, u "java/lang/Cloneable"), (0, .class_ 1), (0, u "java/lang/Object"), (0, .class_ 3)] 3

/-- java/lang/Cloneable -/
def k4 : Class := { plain "java/lang/Cloneable" (some 0) with
  accessFlags := 1537
  interfaces := #[]
  cf := some (fileOf pool4 2 #[] #[] 1537 4 #[] #[])
  fields := #[]
  methods := #[]
  instanceTypes := #[]
  staticTypes := #[]
  resolved := Array.replicate 8 none
  statics := none }

def pool5 : Array CpInfo := pool [(1, u "java/io/Serializable"), (0, .class_ 1), (0, u "java/lang/Object"), (0, .class_ 3)] 3

/-- java/io/Serializable -/
def k5 : Class := { plain "java/io/Serializable" (some 0) with
  accessFlags := 1537
  interfaces := #[]
  cf := some (fileOf pool5 2 #[] #[] 1537 4 #[] #[])
  fields := #[]
  methods := #[]
  instanceTypes := #[]
  staticTypes := #[]
  resolved := Array.replicate 8 none
  statics := none }

/-- the primitive boolean -/
def k6 : Class := { plain "boolean" none with kind := .primitive 'Z', accessFlags := 0x411 }
/-- [Z -/
def k7 : Class := { plain "[Z" (some 0) with kind := .array 6 .boolean, interfaces := #[4, 5], accessFlags := 1041 }

/-- the primitive byte -/
def k8 : Class := { plain "byte" none with kind := .primitive 'B', accessFlags := 0x411 }
/-- [B -/
def k9 : Class := { plain "[B" (some 0) with kind := .array 8 .byte, interfaces := #[4, 5], accessFlags := 1041 }

/-- the primitive int -/
def k10 : Class := { plain "int" none with kind := .primitive 'I', accessFlags := 0x411 }
/-- [I -/
def k11 : Class := { plain "[I" (some 0) with kind := .array 10 .int, interfaces := #[4, 5], accessFlags := 1041 }

def heap : Heap := #[]
def classes : Array Class := #[k0, k1, k2, k3, k4, k5, k6, k7, k8, k9, k10, k11]
def interned : List (Array UInt16 × Addr) := []
def slotsUsed : Nat := 0
def theMethod : MethodId := ⟨1, 1⟩
def args0 : Array Value := #[.int 5, .int 7, .int 9]
def aboutOver (below : List Frame) : State where
  vm := { classes := classes, interned := interned.toArray }
  heap := heap
  slotsUsed := slotsUsed
  threads := #[{ frames := .invoking theMethod args0 :: below }]
def below0 : List Frame := [.native { method := ⟨0, 0⟩, args := #[] }]
def about1 : State := aboutOver below0
def p0 : Program := .bare "" "" ""
def e0 : Env := launch0.env 0 0 0
theorem w_frames : about1.frames = Frame.invoking theMethod args0 :: below0 := rfl
set_option maxRecDepth 65536 in
theorem w_args : argsFit about1.vm theMethod args0 = true := by decide +kernel
set_option maxRecDepth 65536 in
theorem w_heap : heapFits about1 = true := by decide +kernel
set_option maxRecDepth 65536 in
theorem w_runnable : about1.curStatus? = some .runnable := by decide +kernel
set_option maxRecDepth 65536 in
theorem w_alone : about1.alone = true := by decide +kernel
set_option maxRecDepth 65536 in
theorem w_named : about1.methodNamed? x = some theMethod := by decide +kernel
set_option maxRecDepth 65536 in
theorem w_hears : about1.hears theMethod below0 = true := by decide +kernel
set_option maxRecDepth 65536 in
theorem w_ripe : about1.ripe theMethod args0 below0 = true := by decide +kernel
theorem w_running : about1.status = .running := rfl
set_option maxRecDepth 65536 in
theorem w_room : about1.hasRoom e0.platform room_1 = true :=
  launch0.hasRoom_least _ room_1 (by decide +kernel) (by decide +kernel) (by decide +kernel) (by decide +kernel) (by decide +kernel) (by decide +kernel)
theorem allAtoms_all (ts : List Jvm.Cond) (a : Array Jvm.Value) (st : Jvm.State) : (allAtoms ts).before a st = ts.all (fun c => c.before a st) := by
  induction ts with
  | nil => rfl
  | cons c t ih =>
    show (Jvm.Cond.and c (allAtoms t)).before a st = _
    rw [Jvm.Cond.before_and, ih, List.all_cons]
def words1 : List Jvm.Cond := Jvm.Cond.code x code maxLocals ret :: tables_1
/-- a 'code' word, met by the world's own term for the bytes: nothing is compared byte by byte -/
theorem code_word {y : MethodName} {bytes : ByteArray} {mx : Nat} {rt : Option FieldType} {a : Array Value} {s : State} {m : MethodId} {meth : Method} {c : Code} (h1 : s.methodNamed? y = some m) (h2 : s.vm.method? m = some meth) (h3 : meth.code = some c) (h4 : c.code = bytes)
    (h5 : (c.maxLocals == mx && c.exceptionTable.isEmpty && decide (c.maxStack ≤ mostOperands) && decide (meth.sig.returnType = rt) && !meth.locks && decide (parseMethodDescriptor y.desc = some meth.sig)) = true) : (Jvm.Cond.code y bytes mx rt).before a s = true := by
  simp only [Bool.and_eq_true, beq_iff_eq, Bool.not_eq_true', decide_eq_true_eq] at h5
  obtain ⟨⟨⟨⟨⟨g1, g2⟩, g3⟩, g4⟩, g5⟩, g6⟩ := h5
  simp [Cond.before, Cond.holds, Cond.value, h1, h2, h3, h4, g1, g2, g3, g4, g5, g6]
def isCode : Jvm.Cond → Bool
  | .code _ _ _ _ => true
  | _ => false
theorem all_split {L : List Jvm.Cond} {P : Jvm.Cond → Bool} (h1 : L.all (fun c => isCode c || P c) = true) (h2 : ∀ c ∈ L.filter isCode, P c = true) : L.all P = true := by
  refine List.all_eq_true.mpr fun c hc => ?_
  have h := List.all_eq_true.mp h1 c hc
  rcases Bool.eq_false_or_eq_true (isCode c) with hi | hi
  · exact h2 c (List.mem_filter.mpr ⟨hc, hi⟩)
  · simpa [hi] using h
set_option maxRecDepth 65536 in
theorem w_c0 : (Jvm.Cond.code x code maxLocals ret).before args0 about1 = true := code_word (m := ⟨1, 1⟩) (meth := k1m1) (c := k1c1) (by decide +kernel) rfl rfl rfl (by decide +kernel)
set_option maxRecDepth 65536 in
theorem w_c1 : (Jvm.Cond.code ({ cls := "com/example/omegaprobe/omegaprobe/graph/Components", name := "<init>", desc := "([I[I)V" } : Jvm.MethodName) prog_174_method_2_code (4 : Nat) (Option.none : Option Jvm.ClassFile.FieldType)).before args0 about1 = true := code_word (m := ⟨2, 0⟩) (meth := k2m0) (c := k2c0) (by decide +kernel) rfl rfl rfl (by decide +kernel)
set_option maxRecDepth 65536 in
theorem w_c2 : (Jvm.Cond.code ({ cls := "java/lang/Object", name := "<init>", desc := "()V" } : Jvm.MethodName) object_method_1_code (1 : Nat) (Option.none : Option Jvm.ClassFile.FieldType)).before args0 about1 = true := code_word (m := ⟨0, 0⟩) (meth := k0m0) (c := k0c0) (by decide +kernel) rfl rfl rfl (by decide +kernel)
set_option maxRecDepth 65536 in
theorem w_c3 : (Jvm.Cond.code ({ cls := "java/util/Arrays", name := "fill", desc := "([II)V" } : Jvm.MethodName) jdk_65_method_103_code (4 : Nat) (Option.none : Option Jvm.ClassFile.FieldType)).before args0 about1 = true := code_word (m := ⟨3, 1⟩) (meth := k3m1) (c := k3c1) (by decide +kernel) rfl rfl rfl (by decide +kernel)
set_option maxRecDepth 65536 in
theorem w_c4 : (Jvm.Cond.code ({ cls := "com/example/omegaprobe/omegaprobe/graph/Components", name := "cyclic", desc := "([I)Z" } : Jvm.MethodName) prog_174_method_6_code (4 : Nat) (Option.some Jvm.ClassFile.FieldType.boolean)).before args0 about1 = true := code_word (m := ⟨2, 1⟩) (meth := k2m1) (c := k2c1) (by decide +kernel) rfl rfl rfl (by decide +kernel)
def codes1 : List Jvm.Cond := [Jvm.Cond.code x code maxLocals ret, Jvm.Cond.code ({ cls := "com/example/omegaprobe/omegaprobe/graph/Components", name := "<init>", desc := "([I[I)V" } : Jvm.MethodName) prog_174_method_2_code (4 : Nat) (Option.none : Option Jvm.ClassFile.FieldType), Jvm.Cond.code ({ cls := "java/lang/Object", name := "<init>", desc := "()V" } : Jvm.MethodName) object_method_1_code (1 : Nat) (Option.none : Option Jvm.ClassFile.FieldType), Jvm.Cond.code ({ cls := "java/util/Arrays", name := "fill", desc := "([II)V" } : Jvm.MethodName) jdk_65_method_103_code (4 : Nat) (Option.none : Option Jvm.ClassFile.FieldType), Jvm.Cond.code ({ cls := "com/example/omegaprobe/omegaprobe/graph/Components", name := "cyclic", desc := "([I)Z" } : Jvm.MethodName) prog_174_method_6_code (4 : Nat) (Option.some Jvm.ClassFile.FieldType.boolean)]
set_option maxRecDepth 65536 in
theorem codes_eq : words1.filter isCode = codes1 := rfl
theorem w_codes : ∀ c ∈ words1.filter isCode, c.before args0 about1 = true := by
  rw [codes_eq]
  intro c hc
  simp only [codes1, List.mem_cons, List.not_mem_nil, or_false] at hc
  rcases hc with rfl | rfl | rfl | rfl | rfl
  · exact w_c0
  · exact w_c1
  · exact w_c2
  · exact w_c3
  · exact w_c4
set_option maxRecDepth 65536 in
theorem w_t1 : (words1.take 24).all (fun c => isCode c || c.before args0 about1) = true := by decide +kernel
set_option maxRecDepth 65536 in
theorem w_t2 : (words1.drop 24).all (fun c => isCode c || c.before args0 about1) = true := by decide +kernel
theorem w_tables : (allAtoms (Jvm.Cond.code x code maxLocals ret :: tables_1)).before args0 about1 = true := by
  rw [allAtoms_all]
  show words1.all (fun c => c.before args0 about1) = true
  refine all_split ?_ w_codes
  rw [← List.take_append_drop 24 words1, List.all_append, w_t1, w_t2]
  rfl
set_option maxRecDepth 65536 in
theorem w_case : (Jvm.Cond.and given_1 narrow_1).before args0 about1 = true := by decide +kernel
theorem w_applies : (headSpec (Jvm.Cond.code x code maxLocals ret :: tables_1) room_1).applies x e0.platform about1 = true :=
  (Spec.applies_iff w_frames).mpr ⟨w_running, w_runnable, w_alone, w_named, w_hears, w_ripe, w_room, w_tables⟩
theorem atStart : AtStart classFile x code maxLocals ret World_1 tables_1 room_1 Calls_1 rest_1 Pre_1 launch0 p0 e0 about1 theMethod args0 below0 :=
  ⟨lists_1, trivial, launch0.admits_env _ _ _, launch0.least_env, fairChoices_fair.cas, fairChoices_fair.clock, w_frames, w_args, w_heap, w_applies, trivial, trivial, w_case⟩
end start1
theorem witness_1 : WitnessClaimed_1 := ⟨start1.p0, start1.e0, start1.about1, start1.theMethod, start1.args0, start1.below0, start1.atStart⟩
end Jvm.Pilot.@@N@@
