import JvmDerived
import JvmDerived.Pilot.@@N@@Statement
import JvmDerived.Pilot.@@N@@Code
set_option linter.unusedVariables false
set_option linter.unusedSimpArgs false
namespace Jvm.RoadKit
open Sem ClassFile Op Lib Jvm.Stand Jvm.Free Jvm.LawKit
section New
variable {p : Program} {l : Launch} {e : Env} {R : Room} {s : State} {m : MethodId} {args : Array Value} {below : List Frame} {meth : Method} {c : Code} {T : State} {locs : List Loc} {cells slots : Nat}
theorem retI (X : Stand p l e R s m args below meth c T locs cells slots) (hx : p.tables.exec = Jvm.exec) {pc : Nat} {Ls : Array Slot} {z : Int32} {rest : List Value} (hret : meth.sig.returnType = some .int) (hd : decode c.code pc = .ok (.ireturn, 1)) {fs : List Frame}
    (hl : ∀ (f : JFrame) (acts : List Action), f.method = m → f.locked = none → f.entered = [] → (doReturn e (T.setTop f) acts (some (.int z))).1 = T.setFrames fs) : Steps p.tables e below (T.setTop (mkF m pc Ls (.int z :: rest))) (T.setFrames fs) := by
  have hm' : T.vm.method? m = some meth := X.method'
  have hn : narrow .int (.int z) = .int z := rfl
  show Steps p.tables e below (T.setTop { method := m, pc := pc, locals := Ls, stack := _ :: rest, locked := none }) _
  jvm_step X.here [X.here.top, hx, hd, hm', hret, hn]
  first | (intro acts; rw [hl _ acts rfl rfl rfl]) | rw [hl _ _ rfl rfl rfl]
  exact Steps.refl _
end New
end Jvm.RoadKit
namespace Jvm.Pilot.@@N@@
open Jvm Jvm.ClassFile Sem Op Lib Jvm.Free Jvm.Stand Jvm.LawKit Jvm.RoadKit Bundle Jvm.Pilot.@@N@@.Jvm.D
/-- two addresses are unlike; a number isn't above another: names of their own, so that 'omega' doesn't look at them -/
def own_Ne (a b : Nat) : Prop := a ≠ b
def own_Le (a b : Nat) : Prop := a ≤ b
theorem own_Ne.symm {a b : Nat} (h : own_Ne a b) : own_Ne b a := Ne.symm h
theorem own_Le.tr {a b c : Nat} (h : own_Le a b) (k : b ≤ c) : own_Le a c := Nat.le_trans h k
/-- an array of ints (bytes) of which the length is known -/
def own_Arl (Z : State) (h : Heap) (a : Addr) (ty : FieldType) (z : Int32) : Prop := ∃ c : Cell, Arr Z h a c ty ∧ c.slots.size = z.toNatClampNeg ∧ ¬ z < 0
/-- an array of ints (bytes) that holds f -/
def own_Arf (Z : State) (h : Heap) (a : Addr) (ty : FieldType) (z : Int32) (f : Nat → Int32) : Prop := ∃ c : Cell, Arr Z h a c ty ∧ c.slots.size = z.toNatClampNeg ∧ ¬ z < 0 ∧ ∀ i, i < z.toNatClampNeg → c.slots[i]? = some (.int (f i))
section Arrs
variable {Z : State} {h h' : Heap} {a b : Addr} {ty : FieldType} {z j x : Int32} {f g : Nat → Int32} {sl : Nat} {v : Value} {ws : List Addr} {k : ClassId} {vs : List Value} {dv : Value} {c : Cell}
theorem own_Arl.lt (F : own_Arl Z h a ty z) : a < h.size := by obtain ⟨c, A, -⟩ := F; exact A.lt
theorem own_Arl.ext (F : own_Arl Z h a ty z) (E : Ext h h') : own_Arl Z h' a ty z := by obtain ⟨c, A, r⟩ := F; exact ⟨c, A.ext E, r⟩
theorem own_Arl.other (F : own_Arl Z h b ty z) (W : Wr h h' a sl v) (q : b ≠ a) : own_Arl Z h' b ty z := by obtain ⟨c, A, r⟩ := F; exact ⟨c, A.other W q, r⟩
theorem own_Arl.keep (F : own_Arl Z h a ty z) (K : Keep h h' ws) (q : a ∉ ws) : own_Arl Z h' a ty z := by obtain ⟨c, A, r⟩ := F; exact ⟨c, ⟨K.2.1 a c A.1 q, A.2⟩, r⟩
theorem own_Arl.new (A : Arr Z h a (newA k ty z) ty) (q : ¬ z < 0) : own_Arl Z h a ty z := ⟨_, A, sz_new _ _ _, q⟩
theorem own_Arl.same (A : Arr Z h a c ty) (S : c.slots.size = z.toNatClampNeg) (q : ¬ z < 0) (W : Wr h h' a sl v) : own_Arl Z h' a ty z := ⟨_, A.same W, (sz_set _ _ _).trans S, q⟩
theorem own_Arl.ofV (F : Arv Z h a k ty z vs dv) : own_Arl Z h a ty z := by obtain ⟨c, A, -, S, N, -⟩ := F; exact ⟨c, A, S, N⟩
theorem own_Arl.ofA (F : own_Arf Z h a ty z f) : own_Arl Z h a ty z := by obtain ⟨c, A, S, N, -⟩ := F; exact ⟨c, A, S, N⟩
theorem own_Arf.lt (F : own_Arf Z h a ty z f) : a < h.size := by obtain ⟨c, A, -⟩ := F; exact A.lt
theorem own_Arf.ext (F : own_Arf Z h a ty z f) (E : Ext h h') : own_Arf Z h' a ty z f := by obtain ⟨c, A, r⟩ := F; exact ⟨c, A.ext E, r⟩
theorem own_Arf.other (F : own_Arf Z h b ty z f) (W : Wr h h' a sl v) (q : b ≠ a) : own_Arf Z h' b ty z f := by obtain ⟨c, A, r⟩ := F; exact ⟨c, A.other W q, r⟩
theorem own_Arf.keep (F : own_Arf Z h a ty z f) (K : Keep h h' ws) (q : a ∉ ws) : own_Arf Z h' a ty z f := by obtain ⟨c, A, r⟩ := F; exact ⟨c, ⟨K.2.1 a c A.1 q, A.2⟩, r⟩
theorem own_Arf.new (A : Arr Z h a (newA k ty z) ty) (q : ¬ z < 0) (hd : defaultValue ty = .int 0) : own_Arf Z h a ty z (fun _ => 0) := ⟨_, A, sz_new _ _ _, q, fun i hi => by simp [newA, hi, hd]⟩
theorem own_Arf.set (A : Arr Z h a c ty) (S : c.slots.size = z.toNatClampNeg) (q : ¬ z < 0) (H : ∀ i, i < z.toNatClampNeg → c.slots[i]? = some (.int (f i))) (W : Wr h h' a sl (.int x)) (e : sl = j.toNatClampNeg) (hg : g = fun i => if i = j.toNatClampNeg then x else f i) : own_Arf Z h' a ty z g := by
  subst e hg
  refine ⟨_, A.same W, (sz_set _ _ _).trans S, q, fun i hi => ?_⟩
  by_cases hij : i = j.toNatClampNeg
  · subst hij
    have hs : j.toNatClampNeg < c.slots.size := by rw [S]; exact hi
    simp [Cell.setSlot, hs]
  · rw [show (c.setSlot j.toNatClampNeg (.int x)).slots[i]? = c.slots[i]? from Array.getElem?_setIfInBounds_ne (Ne.symm hij), H i hi]
    simp [hij]
theorem own_Arf.ofV (F : Arv Z h a k ty z vs dv) (e : ∀ i, i < z.toNatClampNeg → vs.getD i dv = .int (f i)) : own_Arf Z h a ty z f := by
  obtain ⟨c, A, -, S, N, H, -⟩ := F
  exact ⟨c, A, S, N, fun i hi => by rw [H i (by rw [S]; exact hi), e i hi]⟩
theorem own_Arf.congr (F : own_Arf Z h a ty z f) (e : ∀ i, i < z.toNatClampNeg → f i = g i) : own_Arf Z h a ty z g := by obtain ⟨c, A, S, N, H⟩ := F; exact ⟨c, A, S, N, fun i hi => by rw [← e i hi]; exact H i hi⟩
theorem own_sta_keep {C n d : String} (F : Sta Z h C n d v) (K : Keep h h' []) : Sta Z h' C n d v := by
  obtain ⟨cf, i, k, f, st, cell, h1, h2, h3, h4, h5, r⟩ := F
  exact ⟨cf, i, k, f, st, cell, h1, h2, h3, h4, K.2.1 _ _ h5 nin0, r⟩
theorem own_at (H : ∀ i, i < z.toNatClampNeg → c.slots[i]? = some (.int (f i))) (S : c.slots.size = z.toNatClampNeg) (q : ¬ (j < 0 ∨ c.slots.size ≤ j.toNatClampNeg)) (e : f j.toNatClampNeg = x) : c.slots[j.toNatClampNeg]? = some (.int x) := by
  rw [← e]; exact H _ (by rw [← S]; exact Nat.lt_of_not_le fun y => q (Or.inr y))
end Arrs
theorem own_nat (X n c : Nat) (h : n < c) : (X / 256 ^ (n + 1)) % 256 ^ (c - (n + 1)) * 256 + X / 256 ^ n % 256 = (X / 256 ^ n) % 256 ^ (c - n) := by
  obtain ⟨m, rfl⟩ : ∃ m, c = n + 1 + m := ⟨c - (n + 1), by omega⟩
  have e1 : n + 1 + m - (n + 1) = m := by omega
  have e2 : n + 1 + m - n = m + 1 := by omega
  rw [e1, e2, Nat.pow_succ 256 n, ← Nat.div_div_eq_div_mul, Nat.pow_succ 256 m, Nat.mul_comm (256 ^ m) 256, Nat.mod_mul]
  omega
theorem own_turn (v : Int64) (w : Int32) (hv : v.toBitVec.toNat < 2 ^ 56) (h0 : 0 ≤ w.toInt) (h1 : w.toInt < 256) :
    ((v <<< ((8 : Int32) &&& 0x3f).toInt64) ||| w.toInt64).toBitVec.toNat = v.toBitVec.toNat * 256 + w.toInt.toNat := by
  have a1 : (v <<< ((8 : Int32) &&& 0x3f).toInt64).toBitVec = v.toBitVec <<< 8 := by
    show (v <<< (8 : Int64)).toBitVec = _
    rw [Int64.toBitVec_shiftLeft]
    rfl
  have a2 : w.toInt64.toBitVec.toNat = w.toInt.toNat := by
    have h := Int32.toInt_toInt64 w
    have h' : w.toInt64.toInt = w.toInt64.toBitVec.toInt := rfl
    rw [h', BitVec.toInt_eq_toNat_cond] at h
    have := w.toInt64.toBitVec.isLt
    split at h <;> omega
  rw [Int64.toBitVec_or, BitVec.toNat_or, a1, a2, BitVec.toNat_shiftLeft]
  have a3 : (v.toBitVec.toNat <<< 8) % 2 ^ 64 = v.toBitVec.toNat <<< 8 := by
    rw [Nat.shiftLeft_eq]; apply Nat.mod_eq_of_lt; omega
  rw [a3, Nat.shiftLeft_eq]
  have a4 : w.toInt.toNat < 2 ^ 8 := by omega
  have := Nat.two_pow_add_eq_or_of_lt a4 v.toBitVec.toNat
  rw [Nat.mul_comm, ← this]
theorem own_exp (x : Int64) (cn : Int32) (h0 : 0 ≤ cn.toInt) (h1 : cn.toInt < 8) :
    (x &&& (((1 : Int64) <<< (((8 : Int32) * cn) &&& 0x3f).toInt64) - 1)).toBitVec.toNat = x.toBitVec.toNat % 256 ^ cn.toInt.toNat := by
  have hc : cn = 0 ∨ cn = 1 ∨ cn = 2 ∨ cn = 3 ∨ cn = 4 ∨ cn = 5 ∨ cn = 6 ∨ cn = 7 := by
    have e : ∀ k : Int32, cn.toInt = k.toInt → cn = k := fun k h => Int32.toInt_inj.mp h
    have : cn.toInt = 0 ∨ cn.toInt = 1 ∨ cn.toInt = 2 ∨ cn.toInt = 3 ∨ cn.toInt = 4 ∨ cn.toInt = 5 ∨ cn.toInt = 6 ∨ cn.toInt = 7 := by omega
    rcases this with h | h | h | h | h | h | h | h
    · exact Or.inl (e 0 h)
    · exact Or.inr (Or.inl (e 1 h))
    · exact Or.inr (Or.inr (Or.inl (e 2 h)))
    · exact Or.inr (Or.inr (Or.inr (Or.inl (e 3 h))))
    · exact Or.inr (Or.inr (Or.inr (Or.inr (Or.inl (e 4 h)))))
    · exact Or.inr (Or.inr (Or.inr (Or.inr (Or.inr (Or.inl (e 5 h))))))
    · exact Or.inr (Or.inr (Or.inr (Or.inr (Or.inr (Or.inr (Or.inl (e 6 h)))))))
    · exact Or.inr (Or.inr (Or.inr (Or.inr (Or.inr (Or.inr (Or.inr (e 7 h)))))))
  have key : ∀ (y : Int64) (k : Nat), y.toBitVec.toNat = 2 ^ k - 1 → (x &&& y).toBitVec.toNat = x.toBitVec.toNat % 2 ^ k := fun y k hy => by
    rw [Int64.toBitVec_and, BitVec.toNat_and, hy, Nat.and_two_pow_sub_one_eq_mod]
  rcases hc with rfl | rfl | rfl | rfl | rfl | rfl | rfl | rfl
  · exact key _ 0 (by decide)
  · exact key _ 8 (by decide)
  · exact key _ 16 (by decide)
  · exact key _ 24 (by decide)
  · exact key _ 32 (by decide)
  · exact key _ 40 (by decide)
  · exact key _ 48 (by decide)
  · exact key _ 56 (by decide)
theorem own_ushr (x : Int64) (u : UInt64) (k : Nat) (hk : u.toNat % 64 = k) : ((x.toUInt64 >>> u).toInt64).toInt % 18446744073709551616 = ((x.toBitVec.toNat / 2 ^ k : Nat) : Int) := by
  have h1 : ((x.toUInt64 >>> u).toInt64).toBitVec.toNat = x.toBitVec.toNat / 2 ^ k := by
    show (x.toUInt64 >>> u).toNat = _
    rw [UInt64.toNat_shiftRight, hk, Nat.shiftRight_eq_div_pow]; rfl
  have h2 : ((x.toUInt64 >>> u).toInt64).toInt = ((x.toUInt64 >>> u).toInt64).toBitVec.toInt := rfl
  have h3 := ((x.toUInt64 >>> u).toInt64).toBitVec.isLt
  rw [h2, BitVec.toInt_eq_toNat_cond, h1]
  rw [h1] at h3
  split <;> omega
def own_inv (X c d : Nat) (v : Int64) : Prop := v.toBitVec.toNat = (X / 256 ^ d) % 256 ^ (c - d)
theorem own_inv0 (X c : Nat) : own_inv X c c (0 : Int64) := by
  show (0 : Int64).toBitVec.toNat = _
  rw [Nat.sub_self, Nat.pow_zero, Nat.mod_one]; rfl
theorem own_inv1 {X c : Nat} {v : Int64} (h : own_inv X c 0 v) : v.toBitVec.toNat = X % 256 ^ c := by
  have h' : v.toBitVec.toNat = (X / 256 ^ 0) % 256 ^ (c - 0) := h
  simpa using h'
theorem own_mod64 (x : Int64) : x.toInt % 18446744073709551616 = ((x.toBitVec.toNat : Nat) : Int) := by
  have r5 := x.toBitVec.isLt
  rw [show x.toInt = x.toBitVec.toInt from rfl, BitVec.toInt_eq_toNat_cond]
  split <;> omega
theorem own_dec {i : Int32} (h : -2147483648 < i.toInt) : (i + (-1 : Int32)).toInt = i.toInt - 1 := by
  have c1 : ((i + (-1 : Int32)).toInt - (i.toInt + -1)) % 4294967296 = 0 := c_iadd i (-1 : Int32)
  have c2 := rng32 (i + (-1 : Int32))
  have c3 := rng32 i
  generalize (i + (-1 : Int32)).toInt = z at *
  omega
theorem own_idx {po j : Int32} {d : Nat} (h0 : 0 ≤ po.toInt) (e1 : j.toInt = po.toInt + d) : j.toNatClampNeg = po.toInt.toNat + d := by
  have e0 : ¬ j < 0 := by rw [Int32.lt_iff_toInt_lt]; have q0 : (0 : Int32).toInt = 0 := rfl; omega
  have := nat_of e0
  omega
theorem own_step {X c d : Nat} {v : Int64} {w : Int32} (hc : d + 1 ≤ c) (h8 : c ≤ 8) (h : own_inv X c (d + 1) v) (e : w.toInt % 256 = ((X / 256 ^ d % 256 : Nat) : Int)) :
    own_inv X c d ((v <<< ((8 : Int32) &&& 0x3f).toInt64) ||| ((w &&& (255 : Int32)).toInt64)) := by
  have hv : v.toBitVec.toNat = (X / 256 ^ (d + 1)) % 256 ^ (c - (d + 1)) := h
  have e6 : v.toBitVec.toNat < 2 ^ 56 := by
    rw [hv]
    refine Nat.lt_of_lt_of_le (Nat.mod_lt _ (Nat.pow_pos (by decide))) ?_
    have h1 : 256 ^ (c - (d + 1)) ≤ 256 ^ 7 := Nat.pow_le_pow_right (by decide) (by omega)
    have h2 : (256 : Nat) ^ 7 = 2 ^ 56 := by decide
    rw [h2] at h1
    exact h1
  have e7 : (w &&& (255 : Int32)).toInt = w.toInt % 256 := c_mask w (255 : Int32) 8 (by decide) (by decide)
  have e8 : 0 ≤ (w &&& (255 : Int32)).toInt ∧ (w &&& (255 : Int32)).toInt < 256 := by omega
  have e4 := own_turn v (w &&& (255 : Int32)) e6 e8.1 e8.2
  have e5 : (w &&& (255 : Int32)).toInt.toNat = X / 256 ^ d % 256 := by
    rw [e7, e]; exact Int.toNat_natCast _
  show _ = _
  rw [e4, hv, e5, own_nat X d c (by omega)]
theorem own_d1_0 : decode prog_19_method_5_code 0 = .ok (.lconst 0, 1) := by decide +kernel
theorem own_d1_1 : decode prog_19_method_5_code 1 = .ok (.lstore_n 3, 1) := by decide +kernel
theorem own_d1_2 : decode prog_19_method_5_code 2 = .ok (.iload_n 2, 1) := by decide +kernel
theorem own_d1_3 : decode prog_19_method_5_code 3 = .ok (.iconst 1, 1) := by decide +kernel
theorem own_d1_4 : decode prog_19_method_5_code 4 = .ok (.isub, 1) := by decide +kernel
theorem own_d1_5 : decode prog_19_method_5_code 5 = .ok (.istore 5, 2) := by decide +kernel
theorem own_d1_7 : decode prog_19_method_5_code 7 = .ok (.iload 5, 2) := by decide +kernel
theorem own_d1_9 : decode prog_19_method_5_code 9 = .ok (.ifCond .lt 26, 3) := by decide +kernel
theorem own_d1_12 : decode prog_19_method_5_code 12 = .ok (.lload_n 3, 1) := by decide +kernel
theorem own_d1_13 : decode prog_19_method_5_code 13 = .ok (.bipush 8, 2) := by decide +kernel
theorem own_d1_15 : decode prog_19_method_5_code 15 = .ok (.lshl, 1) := by decide +kernel
theorem own_d1_16 : decode prog_19_method_5_code 16 = .ok (.aload_n 0, 1) := by decide +kernel
theorem own_d1_17 : decode prog_19_method_5_code 17 = .ok (.iload_n 1, 1) := by decide +kernel
theorem own_d1_18 : decode prog_19_method_5_code 18 = .ok (.iload 5, 2) := by decide +kernel
theorem own_d1_20 : decode prog_19_method_5_code 20 = .ok (.iadd, 1) := by decide +kernel
theorem own_d1_21 : decode prog_19_method_5_code 21 = .ok (.baload, 1) := by decide +kernel
theorem own_d1_22 : decode prog_19_method_5_code 22 = .ok (.sipush 255, 3) := by decide +kernel
theorem own_d1_25 : decode prog_19_method_5_code 25 = .ok (.iand, 1) := by decide +kernel
theorem own_d1_26 : decode prog_19_method_5_code 26 = .ok (.i2l, 1) := by decide +kernel
theorem own_d1_27 : decode prog_19_method_5_code 27 = .ok (.lor, 1) := by decide +kernel
theorem own_d1_28 : decode prog_19_method_5_code 28 = .ok (.lstore_n 3, 1) := by decide +kernel
theorem own_d1_29 : decode prog_19_method_5_code 29 = .ok (.iinc 5 (-1), 3) := by decide +kernel
theorem own_d1_32 : decode prog_19_method_5_code 32 = .ok (.goto (-25), 3) := by decide +kernel
theorem own_d1_35 : decode prog_19_method_5_code 35 = .ok (.lload_n 3, 1) := by decide +kernel
theorem own_d1_36 : decode prog_19_method_5_code 36 = .ok (.lreturn, 1) := by decide +kernel
theorem own_pn0 : plainName "com/example/bitsieve/bitsieve/Hashing" = true := by first | (simp [plainName, overriddenIn]; done) | decide +kernel
def Q_rm1 (Z : State) (da : Addr) (po : Int32) (pn : Int32) (f : Nat → Int32) (XX : Nat) (h0 : Heap) (n0 : Nat) (v : Option Value) (h : Heap) (L : List Loc) : Prop := ∃ (r : Int64), v = some (.long r) ∧ (r.toBitVec.toNat = XX % 256 ^ pn.toInt.toNat) ∧ Fr n0 L ∧ h = h0
theorem own_ef_rm1 (m : MethodId) (da : Addr) (po : Int32) (pn : Int32) : entryFrame m #[(.ref da), (.int po), (.int pn)] 6 = mkF m 0 #[.val (.ref da), .val (.int po), .val (.int pn), .unset, .unset, .unset] [] := by first | (simp [entryFrame, mkF, argsToLocals, Value.category]; done) | rfl
set_option maxRecDepth 65536 in
set_option maxHeartbeats 40000000 in
theorem rm1 (l : Launch) (Z : State) (a0 : Array Value) (hw : ∀ d ∈ tables_1, d.before a0 Z = true) (ws : List Jvm.Cond) (da : Addr) (po : Int32) (pn : Int32) (f : Nat → Int32) (XX : Nat) (h0 : Heap) (n0 : Nat) (Z0 : own_Le n0 h0.size) (P_0 : own_Arf Z h0 da .byte (10 : Int32) f) (P_1 : 0 ≤ po.toInt ∧ po.toInt ≤ 2 ∧ 0 ≤ pn.toInt ∧ pn.toInt ≤ 8) (P_2 : ∀ i : Nat, i < 8 → (f (po.toInt.toNat + i)).toInt % 256 = ((XX / 256 ^ i % 256 : Nat) : Int)) :
    MetFree l (⟨"com/example/bitsieve/bitsieve/Hashing", "littleEndian", "([BII)J"⟩ : MethodName) (head1 (Jvm.Cond.code (⟨"com/example/bitsieve/bitsieve/Hashing", "littleEndian", "([BII)J"⟩ : MethodName) prog_19_method_5_code 6 (some .long) :: ws) ({ frames := 0, cells := 0, slots := 0, locals := 0 } : Room)) (fun a U => a = #[(.ref da), (.int po), (.int pn)] ∧ Z.Warmed39 U.vm ∧ U.heap = h0) (fun _ _ _ _ _ => True) (fun _ U o U' => ∃ v L, o = .returned v ∧ Q_rm1 Z da po pn f XX h0 n0 v U'.heap L ∧ FrameEnd U o U' L ({ frames := 0, cells := 0, slots := 0, locals := 0 } : Room).cells ({ frames := 0, cells := 0, slots := 0, locals := 0 } : Room).slots) := by
  refine MetFree.of_bodySF (plainFor_of_name own_pn0) hisR ?_
  intro p e s m args below meth c s₁ Bd hml0 hP hK
  obtain ⟨rfl, hZ, hh⟩ := hP
  have hx := Bd.exec
  have hby := Bd.bytes
  have hml : c.maxLocals = 6 := hml0
  have hown : s.vm.findClass "com/example/bitsieve/bitsieve/Hashing" = some m.cls := findClass_of_methodNamed Bd.named
  have hnm := (name_of_methodNamed Bd.named Bd.method).1
  have X0 : Stand p l e ({ frames := 0, cells := 0, slots := 0, locals := 0 } : Room) s m #[(.ref da), (.int po), (.int pn)] below meth c s₁ [] 0 0 := Stand.of_body Bd
  have e0 : s₁.heap = h0 := by rw [← hh, Bd.state]; rfl
  have N0 := Fr.nil n0
  have pre0 : ∀ t, Steps p.tables e below (s₁.setTop (mkF m 0 #[.val (.ref da), .val (.int po), .val (.int pn), .unset, .unset, .unset] [])) t → Steps p.tables e below (s₁.setTop (entryFrame m #[(.ref da), (.int po), (.int pn)] 6)) t := fun t k => castTop (own_ef_rm1 m da po pn) k
  obtain ⟨P_1a, P_1b, P_1c, P_1d⟩ := P_1
  have q1 := rng32 po
  have q2 := rng32 pn
  have q3 := (by decide : (0 : Int32).toInt = 0)
  have own_c8 : pn.toInt.toNat ≤ 8 := by omega
  have K4 : ∀ t, Steps p.tables e below (s₁.setTop (mkF m 7 #[.val (.ref da), .val (.int po), .val (.int pn), .val (.long (0 : Int64)), .second, .val (.int (pn - (1 : Int32)))] [])) t → Steps p.tables e below (s₁.setTop (entryFrame m #[(.ref da), (.int po), (.int pn)] 6)) t := fun t k => pre0 t (by
    show Steps p.tables e below (s₁.setTop (mkF m 0 #[.val (.ref da), .val (.int po), .val (.int pn), .unset, .unset, .unset] [])) t
    refine XS.lconst X0.here hx rfl (hb hby own_d1_0) ?_
    show Steps p.tables e below (s₁.setTop (mkF m 1 #[.val (.ref da), .val (.int po), .val (.int pn), .unset, .unset, .unset] [(.long (0 : Int64))])) t
    refine XS.lstoreN X0.here hx rfl (hb hby own_d1_1) rfl (l' := #[.val (.ref da), .val (.int po), .val (.int pn), .val (.long (0 : Int64)), .second, .unset]) rfl ?_
    show Steps p.tables e below (s₁.setTop (mkF m 2 #[.val (.ref da), .val (.int po), .val (.int pn), .val (.long (0 : Int64)), .second, .unset] [])) t
    refine XS.iloadN X0.here hx rfl (hb hby own_d1_2) rfl ?_
    show Steps p.tables e below (s₁.setTop (mkF m 3 #[.val (.ref da), .val (.int po), .val (.int pn), .val (.long (0 : Int64)), .second, .unset] [(.int pn)])) t
    refine XS.iconst X0.here hx rfl (hb hby own_d1_3) ?_
    show Steps p.tables e below (s₁.setTop (mkF m 4 #[.val (.ref da), .val (.int po), .val (.int pn), .val (.long (0 : Int64)), .second, .unset] [(.int (1 : Int32)), (.int pn)])) t
    refine XS.isub X0.here hx rfl (hb hby own_d1_4) rfl ?_
    show Steps p.tables e below (s₁.setTop (mkF m 5 #[.val (.ref da), .val (.int po), .val (.int pn), .val (.long (0 : Int64)), .second, .unset] [(.int (pn - (1 : Int32)))])) t
    refine XS.istore X0.here hx rfl (hb hby own_d1_5) rfl (l' := #[.val (.ref da), .val (.int po), .val (.int pn), .val (.long (0 : Int64)), .second, .val (.int (pn - (1 : Int32)))]) rfl ?_
    exact k)
  have loop5 : ∀ (d : Nat) (T : State) (Lc : List Loc) (vv : Int64) (ii : Int32), Stand p l e ({ frames := 0, cells := 0, slots := 0, locals := 0 } : Room) s m #[(.ref da), (.int po), (.int pn)] below meth c T Lc 0 0 → T.heap = h0 → Fr n0 Lc → (ii.toInt = ((d : Nat) : Int) - 1 ∧ d ≤ pn.toInt.toNat ∧ own_inv XX pn.toInt.toNat (d) vv) → ∃ (T' : State) (Lc' : List Loc) (vv' : Int64) (ii' : Int32), Stand p l e ({ frames := 0, cells := 0, slots := 0, locals := 0 } : Room) s m #[(.ref da), (.int po), (.int pn)] below meth c T' Lc' 0 0 ∧ T'.heap = h0 ∧ Fr n0 Lc' ∧ (vv'.toBitVec.toNat = XX % 256 ^ pn.toInt.toNat) ∧ ∀ t, Steps p.tables e below (T'.setTop (mkF m 35 #[.val (.ref da), .val (.int po), .val (.int pn), .val (.long vv'), .second, .val (.int ii')] [])) t → Steps p.tables e below (T.setTop (mkF m 7 #[.val (.ref da), .val (.int po), .val (.int pn), .val (.long vv), .second, .val (.int ii)] [])) t := by
    intro d
    induction d with
    | zero =>
      intro T Lc vv ii Xl el Nl hI
      have idK : ∀ t, Steps p.tables e below (T.setTop (mkF m 7 #[.val (.ref da), .val (.int po), .val (.int pn), .val (.long vv), .second, .val (.int ii)] [])) t → Steps p.tables e below (T.setTop (mkF m 7 #[.val (.ref da), .val (.int po), .val (.int pn), .val (.long vv), .second, .val (.int ii)] [])) t := fun _ k => k
      obtain ⟨hIi, hIc, hIv⟩ := hI
      have hc6 : ii < (0 : Int32) := by
        have q7 := rng64 vv
        have q8 := rng32 ii
        rw [Int32.lt_iff_toInt_lt]; omega
      have K9 : ∀ t, Steps p.tables e below (T.setTop (mkF m 35 #[.val (.ref da), .val (.int po), .val (.int pn), .val (.long vv), .second, .val (.int ii)] [])) t → Steps p.tables e below (T.setTop (mkF m 7 #[.val (.ref da), .val (.int po), .val (.int pn), .val (.long vv), .second, .val (.int ii)] [])) t := fun t k => idK t (by
        show Steps p.tables e below (T.setTop (mkF m 7 #[.val (.ref da), .val (.int po), .val (.int pn), .val (.long vv), .second, .val (.int ii)] [])) t
        refine XS.iload Xl.here hx rfl (hb hby own_d1_7) rfl ?_
        show Steps p.tables e below (T.setTop (mkF m 9 #[.val (.ref da), .val (.int po), .val (.int pn), .val (.long vv), .second, .val (.int ii)] [(.int ii)])) t
        refine XS.ifYes Xl.here hx rfl (pc0 := 9) (pc' := 35) rfl (hb hby own_d1_9) rfl ((if0 _ _).trans (tlt hc6).1) (by decide) (by decide) ?_
        exact k)
      exact ⟨T, _, vv, ii, Xl, el, Nl, (by exact own_inv1 hIv), K9⟩
    | succ d ih =>
      intro T Lc vv ii Xl el Nl hI
      have idK : ∀ t, Steps p.tables e below (T.setTop (mkF m 7 #[.val (.ref da), .val (.int po), .val (.int pn), .val (.long vv), .second, .val (.int ii)] [])) t → Steps p.tables e below (T.setTop (mkF m 7 #[.val (.ref da), .val (.int po), .val (.int pn), .val (.long vv), .second, .val (.int ii)] [])) t := fun _ k => k
      obtain ⟨hIi, hIc, hIv⟩ := hI
      have hc10 : ¬ (ii < (0 : Int32)) := by
        have q11 := rng64 vv
        have q12 := rng32 ii
        rw [Int32.lt_iff_toInt_lt]; omega
      have q14 : ¬ (po + ii) < 0 ∧ (po + ii) < (10 : Int32) := by
        have q15 := rng64 vv
        have q16 := rng32 ii
        have q17 := c_iadd po ii
        have q18 := rng32 (po + ii)
        have q19 := (by decide : (10 : Int32).toInt = 10)
        rw [Int32.lt_iff_toInt_lt, Int32.lt_iff_toInt_lt]; have q0 : (0 : Int32).toInt = 0 := rfl; omega
      obtain ⟨cl13, Ar13, S13, N13, Hs13⟩ := id P_0
      have hin13 : ¬ ((po + ii) < 0 ∨ cl13.slots.size ≤ ((po + ii)).toNatClampNeg) := inb_of S13 q14
      have hat13 : cl13.slots[((po + ii)).toNatClampNeg]? = some (.int (f (po + ii).toNatClampNeg)) := own_at Hs13 S13 hin13 (rfl)
      have K20 : ∀ t, Steps p.tables e below (T.setTop (mkF m 7 #[.val (.ref da), .val (.int po), .val (.int pn), .val (.long ((vv <<< ((8 : Int32) &&& 0x3f).toInt64) ||| (((f (po + ii).toNatClampNeg) &&& (255 : Int32)).toInt64))), .second, .val (.int (ii + (-1 : Int32)))] [])) t → Steps p.tables e below (T.setTop (mkF m 7 #[.val (.ref da), .val (.int po), .val (.int pn), .val (.long vv), .second, .val (.int ii)] [])) t := fun t k => idK t (by
        show Steps p.tables e below (T.setTop (mkF m 7 #[.val (.ref da), .val (.int po), .val (.int pn), .val (.long vv), .second, .val (.int ii)] [])) t
        refine XS.iload Xl.here hx rfl (hb hby own_d1_7) rfl ?_
        show Steps p.tables e below (T.setTop (mkF m 9 #[.val (.ref da), .val (.int po), .val (.int pn), .val (.long vv), .second, .val (.int ii)] [(.int ii)])) t
        refine XS.ifNo Xl.here hx rfl (hb hby own_d1_9) rfl ((if0 _ _).trans (flt hc10).1) ?_
        show Steps p.tables e below (T.setTop (mkF m 12 #[.val (.ref da), .val (.int po), .val (.int pn), .val (.long vv), .second, .val (.int ii)] [])) t
        refine XS.lloadN Xl.here hx rfl (hb hby own_d1_12) rfl ?_
        show Steps p.tables e below (T.setTop (mkF m 13 #[.val (.ref da), .val (.int po), .val (.int pn), .val (.long vv), .second, .val (.int ii)] [(.long vv)])) t
        refine XS.bipush Xl.here hx rfl (hb hby own_d1_13) ?_
        show Steps p.tables e below (T.setTop (mkF m 15 #[.val (.ref da), .val (.int po), .val (.int pn), .val (.long vv), .second, .val (.int ii)] [(.int (8 : Int32)), (.long vv)])) t
        refine XS.lshl Xl.here hx rfl (hb hby own_d1_15) rfl ?_
        show Steps p.tables e below (T.setTop (mkF m 16 #[.val (.ref da), .val (.int po), .val (.int pn), .val (.long vv), .second, .val (.int ii)] [(.long (vv <<< ((8 : Int32) &&& 0x3f).toInt64))])) t
        refine XS.aloadN Xl.here hx rfl (hb hby own_d1_16) rfl rfl ?_
        show Steps p.tables e below (T.setTop (mkF m 17 #[.val (.ref da), .val (.int po), .val (.int pn), .val (.long vv), .second, .val (.int ii)] [(.ref da), (.long (vv <<< ((8 : Int32) &&& 0x3f).toInt64))])) t
        refine XS.iloadN Xl.here hx rfl (hb hby own_d1_17) rfl ?_
        show Steps p.tables e below (T.setTop (mkF m 18 #[.val (.ref da), .val (.int po), .val (.int pn), .val (.long vv), .second, .val (.int ii)] [(.int po), (.ref da), (.long (vv <<< ((8 : Int32) &&& 0x3f).toInt64))])) t
        refine XS.iload Xl.here hx rfl (hb hby own_d1_18) rfl ?_
        show Steps p.tables e below (T.setTop (mkF m 20 #[.val (.ref da), .val (.int po), .val (.int pn), .val (.long vv), .second, .val (.int ii)] [(.int ii), (.int po), (.ref da), (.long (vv <<< ((8 : Int32) &&& 0x3f).toInt64))])) t
        refine XS.iadd Xl.here hx rfl (hb hby own_d1_20) rfl ?_
        show Steps p.tables e below (T.setTop (mkF m 21 #[.val (.ref da), .val (.int po), .val (.int pn), .val (.long vv), .second, .val (.int ii)] [(.int (po + ii)), (.ref da), (.long (vv <<< ((8 : Int32) &&& 0x3f).toInt64))])) t
        refine Xl.baloadBytes hx (j := (po + ii)) (v := (.int (f (po + ii).toNatClampNeg))) (by rw [el]; exact Ar13.1) (State.isArrayOf_alike hZ.alike Ar13.2.1) Ar13.2.2 hin13 hat13 (g := (mkF m 21 #[.val (.ref da), .val (.int po), .val (.int pn), .val (.long vv), .second, .val (.int ii)] [(.int (po + ii)), (.ref da), (.long (vv <<< ((8 : Int32) &&& 0x3f).toInt64))])) rfl rfl (hb hby own_d1_21) _ ?_
        show Steps p.tables e below (T.setTop (mkF m 22 #[.val (.ref da), .val (.int po), .val (.int pn), .val (.long vv), .second, .val (.int ii)] [(.int (f (po + ii).toNatClampNeg)), (.long (vv <<< ((8 : Int32) &&& 0x3f).toInt64))])) t
        refine XS.sipush Xl.here hx rfl (hb hby own_d1_22) ?_
        show Steps p.tables e below (T.setTop (mkF m 25 #[.val (.ref da), .val (.int po), .val (.int pn), .val (.long vv), .second, .val (.int ii)] [(.int (255 : Int32)), (.int (f (po + ii).toNatClampNeg)), (.long (vv <<< ((8 : Int32) &&& 0x3f).toInt64))])) t
        refine XS.iand Xl.here hx rfl (hb hby own_d1_25) rfl ?_
        show Steps p.tables e below (T.setTop (mkF m 26 #[.val (.ref da), .val (.int po), .val (.int pn), .val (.long vv), .second, .val (.int ii)] [(.int ((f (po + ii).toNatClampNeg) &&& (255 : Int32))), (.long (vv <<< ((8 : Int32) &&& 0x3f).toInt64))])) t
        refine XS.i2l Xl.here hx rfl (hb hby own_d1_26) rfl ?_
        show Steps p.tables e below (T.setTop (mkF m 27 #[.val (.ref da), .val (.int po), .val (.int pn), .val (.long vv), .second, .val (.int ii)] [(.long (((f (po + ii).toNatClampNeg) &&& (255 : Int32)).toInt64)), (.long (vv <<< ((8 : Int32) &&& 0x3f).toInt64))])) t
        refine XS.lor Xl.here hx rfl (hb hby own_d1_27) rfl ?_
        show Steps p.tables e below (T.setTop (mkF m 28 #[.val (.ref da), .val (.int po), .val (.int pn), .val (.long vv), .second, .val (.int ii)] [(.long ((vv <<< ((8 : Int32) &&& 0x3f).toInt64) ||| (((f (po + ii).toNatClampNeg) &&& (255 : Int32)).toInt64)))])) t
        refine XS.lstoreN Xl.here hx rfl (hb hby own_d1_28) rfl (l' := #[.val (.ref da), .val (.int po), .val (.int pn), .val (.long ((vv <<< ((8 : Int32) &&& 0x3f).toInt64) ||| (((f (po + ii).toNatClampNeg) &&& (255 : Int32)).toInt64))), .second, .val (.int ii)]) rfl ?_
        show Steps p.tables e below (T.setTop (mkF m 29 #[.val (.ref da), .val (.int po), .val (.int pn), .val (.long ((vv <<< ((8 : Int32) &&& 0x3f).toInt64) ||| (((f (po + ii).toNatClampNeg) &&& (255 : Int32)).toInt64))), .second, .val (.int ii)] [])) t
        refine XS.iinc Xl.here hx rfl (hb hby own_d1_29) rfl (l' := #[.val (.ref da), .val (.int po), .val (.int pn), .val (.long ((vv <<< ((8 : Int32) &&& 0x3f).toInt64) ||| (((f (po + ii).toNatClampNeg) &&& (255 : Int32)).toInt64))), .second, .val (.int (ii + (-1 : Int32)))]) rfl ?_
        show Steps p.tables e below (T.setTop (mkF m 32 #[.val (.ref da), .val (.int po), .val (.int pn), .val (.long ((vv <<< ((8 : Int32) &&& 0x3f).toInt64) ||| (((f (po + ii).toNatClampNeg) &&& (255 : Int32)).toInt64))), .second, .val (.int (ii + (-1 : Int32)))] [])) t
        refine XS.goto Xl.here hx rfl (pc0 := 32) (pc' := 7) rfl (hb hby own_d1_32) (by decide) (by decide) ?_
        exact k)
      have hI2 : ((ii + (-1 : Int32)).toInt = ((d : Nat) : Int) - 1 ∧ d ≤ pn.toInt.toNat ∧ own_inv XX pn.toInt.toNat (d) ((vv <<< ((8 : Int32) &&& 0x3f).toInt64) ||| (((f (po + ii).toNatClampNeg) &&& (255 : Int32)).toInt64))) := by 
        have e1 : (po + ii).toInt = po.toInt + d := by have c1 := c_iadd po ii; have c2 := rng32 (po + ii); omega
        have e2 : (po + ii).toNatClampNeg = po.toInt.toNat + d := own_idx P_1a e1
        have e3 := P_2 d (by omega)
        rw [← e2] at e3
        have e4 : (ii + (-1 : Int32)).toInt = ((d : Nat) : Int) - 1 := by
          rw [own_dec (by omega)]; omega
        exact ⟨e4, Nat.le_of_succ_le hIc, own_step hIc own_c8 hIv e3⟩
      obtain ⟨T2, Lc2, vv_2, ii_2, X2', e2', N2', hF, kk⟩ := ih T _ ((vv <<< ((8 : Int32) &&& 0x3f).toInt64) ||| (((f (po + ii).toNatClampNeg) &&& (255 : Int32)).toInt64)) (ii + (-1 : Int32)) Xl el Nl hI2
      exact ⟨T2, Lc2, vv_2, ii_2, X2', e2', N2', hF, fun t k => K20 t (kk t k)⟩
  have hI21 : ((pn - (1 : Int32)).toInt = (((pn.toInt.toNat) : Nat) : Int) - 1 ∧ (pn.toInt.toNat) ≤ pn.toInt.toNat ∧ own_inv XX pn.toInt.toNat ((pn.toInt.toNat)) (0 : Int64)) := by
    have q22 := (by decide : (0 : Int64).toInt = 0)
    have q23 := (by decide : (1 : Int32).toInt = 1)
    have q24 := c_isub pn (1 : Int32)
    have q25 := rng32 (pn - (1 : Int32))
    exact ⟨by omega, by omega, own_inv0 _ _⟩
  obtain ⟨T21, Lc21, vv_21, ii_21, X21, e21, N21, hF21, kl21⟩ := loop5 (pn.toInt.toNat) s₁ _ (0 : Int64) (pn - (1 : Int32)) X0 e0 N0 hI21
  have K26 : ∀ t, Steps p.tables e below (T21.setTop (mkF m 35 #[.val (.ref da), .val (.int po), .val (.int pn), .val (.long vv_21), .second, .val (.int ii_21)] [])) t → Steps p.tables e below (s₁.setTop (entryFrame m #[(.ref da), (.int po), (.int pn)] 6)) t := fun t k => K4 t (kl21 t k)
  have K27 : ∀ t, Steps p.tables e below (T21.setTop (mkF m 36 #[.val (.ref da), .val (.int po), .val (.int pn), .val (.long vv_21), .second, .val (.int ii_21)] [(.long vv_21)])) t → Steps p.tables e below (s₁.setTop (entryFrame m #[(.ref da), (.int po), (.int pn)] 6)) t := fun t k => K26 t (by
    show Steps p.tables e below (T21.setTop (mkF m 35 #[.val (.ref da), .val (.int po), .val (.int pn), .val (.long vv_21), .second, .val (.int ii_21)] [])) t
    refine XS.lloadN X21.here hx rfl (hb hby own_d1_35) rfl ?_
    exact k)
  obtain ⟨fs, hr, hrun, hended, hW, hsame⟩ := X21.leave (v := some (.long vv_21)) (fun h => by rw [Bd.returns] at h; cases h)
  refine ⟨_, _, K27 _ ?_, hrun, hended, _, _, rfl, ?_, ⟨_, rfl⟩, hW, hsame.mono (by decide) (by decide)⟩
  · jvm_step X21.here [X21.here.top, hx, (hb hby own_d1_36), X21.method', Bd.returns, narrow]
    first | (intro acts; rw [hr _ acts rfl rfl rfl]) | rw [hr _ _ rfl rfl rfl]
    exact Steps.refl _
  · show Q_rm1 Z da po pn f XX h0 n0 _ T21.heap _
    have q28 := rng64 vv_21
    rw [e21]
    exact ⟨vv_21, rfl, hF21, N21, rfl⟩
theorem own_pn1 : plainName "com/example/bitsieve/bitsieve/HashingLittleEndianPinLaw" = true := by first | (simp [plainName, overriddenIn]; done) | decide +kernel
theorem own_pd0 : parseMethodDescriptor "([BII)J" = some ⟨[(.array .byte), .int, .int], some .long⟩ := by decide +kernel
def Q_rm0 (Z : State) (x0 : Int64) (x1 : Int64) (x2 : Int32) (x3 : Int32) (x4 : Int32) (h0 : Heap) (n0 : Nat) (v : Option Value) (h : Heap) (L : List Loc) : Prop := v = some (.int (1 : Int32)) ∧ (True) ∧ Fr n0 L ∧ Keep h0 h []
theorem own_ef_rm0 (m : MethodId) (x0 : Int64) (x1 : Int64) (x2 : Int32) (x3 : Int32) (x4 : Int32) : entryFrame m #[(.long x0), (.long x1), (.int x2), (.int x3), (.int x4)] maxLocals = mkF m 0 #[.val (.long x0), .second, .val (.long x1), .second, .val (.int x2), .val (.int x3), .val (.int x4), .unset, .unset, .unset, .unset, .unset] [] := by first | (simp [entryFrame, mkF, argsToLocals, Value.category, maxLocals]; done) | rfl
set_option maxRecDepth 65536 in
set_option maxHeartbeats 40000000 in
theorem rm0 (l : Launch) (Z : State) (a0 : Array Value) (hw : ∀ d ∈ tables_1, d.before a0 Z = true) (ws : List Jvm.Cond) (x0 : Int64) (x1 : Int64) (x2 : Int32) (x3 : Int32) (x4 : Int32) (h0 : Heap) (n0 : Nat) (Z0 : own_Le n0 h0.size) :
    MetFree l x (head1 (Jvm.Cond.code x code maxLocals ret :: ws) room_1) (fun a U => a = #[(.long x0), (.long x1), (.int x2), (.int x3), (.int x4)] ∧ Z.Warmed39 U.vm ∧ U.heap = h0) (fun _ _ _ _ _ => True) (fun _ U o U' => ∃ v L, o = .returned v ∧ Q_rm0 Z x0 x1 x2 x3 x4 h0 n0 v U'.heap L ∧ FrameEnd U o U' L room_1.cells room_1.slots) := by
  refine MetFree.of_bodySF (plainFor_of_name own_pn1) hisR ?_
  intro p e s m args below meth c s₁ Bd hml0 hP hK
  obtain ⟨rfl, hZ, hh⟩ := hP
  have hx := Bd.exec
  have hby := Bd.bytes
  have hml : c.maxLocals = 12 := hml0
  have hown : s.vm.findClass "com/example/bitsieve/bitsieve/HashingLittleEndianPinLaw" = some m.cls := findClass_of_methodNamed Bd.named
  have hnm := (name_of_methodNamed Bd.named Bd.method).1
  have X0 : Stand p l e room_1 s m #[(.long x0), (.long x1), (.int x2), (.int x3), (.int x4)] below meth c s₁ [] 0 0 := Stand.of_body Bd
  have e0 : s₁.heap = h0 := by rw [← hh, Bd.state]; rfl
  have N0 := Fr.nil n0
  have pre0 : ∀ t, Steps p.tables e below (s₁.setTop (mkF m 0 #[.val (.long x0), .second, .val (.long x1), .second, .val (.int x2), .val (.int x3), .val (.int x4), .unset, .unset, .unset, .unset, .unset] [])) t → Steps p.tables e below (s₁.setTop (entryFrame m #[(.long x0), (.long x1), (.int x2), (.int x3), (.int x4)] maxLocals)) t := fun t k => castTop (own_ef_rm0 m x0 x1 x2 x3 x4) k
  have q29 : (3 : Int32) ≠ 0 := by decide
  have q30 : (9 : Int32) ≠ 0 := by decide
  have K31 : ∀ t, Steps p.tables e below (s₁.setTop (mkF m 19 #[.val (.long x0), .second, .val (.long x1), .second, .val (.int x2), .val (.int x3), .val (.int x4), .val (.int ((x3 &&& (2147483647 : Int32)) % (3 : Int32))), .val (.int ((x4 &&& (2147483647 : Int32)) % (9 : Int32))), .unset, .unset, .unset] [])) t → Steps p.tables e below (s₁.setTop (entryFrame m #[(.long x0), (.long x1), (.int x2), (.int x3), (.int x4)] maxLocals)) t := fun t k => pre0 t (by
    show Steps p.tables e below (s₁.setTop (mkF m 0 #[.val (.long x0), .second, .val (.long x1), .second, .val (.int x2), .val (.int x3), .val (.int x4), .unset, .unset, .unset, .unset, .unset] [])) t
    refine XS.iload X0.here hx rfl (hb hby at_0) rfl ?_
    show Steps p.tables e below (s₁.setTop (mkF m 2 #[.val (.long x0), .second, .val (.long x1), .second, .val (.int x2), .val (.int x3), .val (.int x4), .unset, .unset, .unset, .unset, .unset] [(.int x3)])) t
    refine X0.ldcInt hx hown (mvT hZ (hw _ (List.mem_of_getElem? (i := 0) rfl))) (g := (mkF m 2 #[.val (.long x0), .second, .val (.long x1), .second, .val (.int x2), .val (.int x3), .val (.int x4), .unset, .unset, .unset, .unset, .unset] [(.int x3)])) rfl (hb hby at_2) _ ?_
    show Steps p.tables e below (s₁.setTop (mkF m 4 #[.val (.long x0), .second, .val (.long x1), .second, .val (.int x2), .val (.int x3), .val (.int x4), .unset, .unset, .unset, .unset, .unset] [(.int (2147483647 : Int32)), (.int x3)])) t
    refine XS.iand X0.here hx rfl (hb hby at_4) rfl ?_
    show Steps p.tables e below (s₁.setTop (mkF m 5 #[.val (.long x0), .second, .val (.long x1), .second, .val (.int x2), .val (.int x3), .val (.int x4), .unset, .unset, .unset, .unset, .unset] [(.int (x3 &&& (2147483647 : Int32)))])) t
    refine XS.iconst X0.here hx rfl (hb hby at_5) ?_
    show Steps p.tables e below (s₁.setTop (mkF m 6 #[.val (.long x0), .second, .val (.long x1), .second, .val (.int x2), .val (.int x3), .val (.int x4), .unset, .unset, .unset, .unset, .unset] [(.int (3 : Int32)), (.int (x3 &&& (2147483647 : Int32)))])) t
    refine iremM X0 hx rfl (hb hby at_6) rfl q29 ?_
    show Steps p.tables e below (s₁.setTop (mkF m 7 #[.val (.long x0), .second, .val (.long x1), .second, .val (.int x2), .val (.int x3), .val (.int x4), .unset, .unset, .unset, .unset, .unset] [(.int ((x3 &&& (2147483647 : Int32)) % (3 : Int32)))])) t
    refine XS.istore X0.here hx rfl (hb hby at_7) rfl (l' := #[.val (.long x0), .second, .val (.long x1), .second, .val (.int x2), .val (.int x3), .val (.int x4), .val (.int ((x3 &&& (2147483647 : Int32)) % (3 : Int32))), .unset, .unset, .unset, .unset]) rfl ?_
    show Steps p.tables e below (s₁.setTop (mkF m 9 #[.val (.long x0), .second, .val (.long x1), .second, .val (.int x2), .val (.int x3), .val (.int x4), .val (.int ((x3 &&& (2147483647 : Int32)) % (3 : Int32))), .unset, .unset, .unset, .unset] [])) t
    refine XS.iload X0.here hx rfl (hb hby at_9) rfl ?_
    show Steps p.tables e below (s₁.setTop (mkF m 11 #[.val (.long x0), .second, .val (.long x1), .second, .val (.int x2), .val (.int x3), .val (.int x4), .val (.int ((x3 &&& (2147483647 : Int32)) % (3 : Int32))), .unset, .unset, .unset, .unset] [(.int x4)])) t
    refine X0.ldcInt hx hown (mvT hZ (hw _ (List.mem_of_getElem? (i := 0) rfl))) (g := (mkF m 11 #[.val (.long x0), .second, .val (.long x1), .second, .val (.int x2), .val (.int x3), .val (.int x4), .val (.int ((x3 &&& (2147483647 : Int32)) % (3 : Int32))), .unset, .unset, .unset, .unset] [(.int x4)])) rfl (hb hby at_11) _ ?_
    show Steps p.tables e below (s₁.setTop (mkF m 13 #[.val (.long x0), .second, .val (.long x1), .second, .val (.int x2), .val (.int x3), .val (.int x4), .val (.int ((x3 &&& (2147483647 : Int32)) % (3 : Int32))), .unset, .unset, .unset, .unset] [(.int (2147483647 : Int32)), (.int x4)])) t
    refine XS.iand X0.here hx rfl (hb hby at_13) rfl ?_
    show Steps p.tables e below (s₁.setTop (mkF m 14 #[.val (.long x0), .second, .val (.long x1), .second, .val (.int x2), .val (.int x3), .val (.int x4), .val (.int ((x3 &&& (2147483647 : Int32)) % (3 : Int32))), .unset, .unset, .unset, .unset] [(.int (x4 &&& (2147483647 : Int32)))])) t
    refine XS.bipush X0.here hx rfl (hb hby at_14) ?_
    show Steps p.tables e below (s₁.setTop (mkF m 16 #[.val (.long x0), .second, .val (.long x1), .second, .val (.int x2), .val (.int x3), .val (.int x4), .val (.int ((x3 &&& (2147483647 : Int32)) % (3 : Int32))), .unset, .unset, .unset, .unset] [(.int (9 : Int32)), (.int (x4 &&& (2147483647 : Int32)))])) t
    refine iremM X0 hx rfl (hb hby at_16) rfl q30 ?_
    show Steps p.tables e below (s₁.setTop (mkF m 17 #[.val (.long x0), .second, .val (.long x1), .second, .val (.int x2), .val (.int x3), .val (.int x4), .val (.int ((x3 &&& (2147483647 : Int32)) % (3 : Int32))), .unset, .unset, .unset, .unset] [(.int ((x4 &&& (2147483647 : Int32)) % (9 : Int32)))])) t
    refine XS.istore X0.here hx rfl (hb hby at_17) rfl (l' := #[.val (.long x0), .second, .val (.long x1), .second, .val (.int x2), .val (.int x3), .val (.int x4), .val (.int ((x3 &&& (2147483647 : Int32)) % (3 : Int32))), .val (.int ((x4 &&& (2147483647 : Int32)) % (9 : Int32))), .unset, .unset, .unset]) rfl ?_
    exact k)
  obtain ⟨off_32, cnt_32, Sp32, K46⟩ : ∃ (off_32 : Int32) (cnt_32 : Int32), (0 ≤ off_32.toInt ∧ off_32.toInt ≤ 2 ∧ 0 ≤ cnt_32.toInt ∧ cnt_32.toInt ≤ 8) ∧ ∀ t, Steps p.tables e below (s₁.setTop (mkF m 19 #[.val (.long x0), .second, .val (.long x1), .second, .val (.int x2), .val (.int x3), .val (.int x4), .val (.int off_32), .val (.int cnt_32), .unset, .unset, .unset] [])) t → Steps p.tables e below (s₁.setTop (entryFrame m #[(.long x0), (.long x1), (.int x2), (.int x3), (.int x4)] maxLocals)) t := by
    refine ⟨((x3 &&& (2147483647 : Int32)) % (3 : Int32)), ((x4 &&& (2147483647 : Int32)) % (9 : Int32)), ?_, K31⟩
    have q33 := rng32 x3
    have q34 := (by decide : (2147483647 : Int32).toInt = 2147483647)
    have q35 := (show (x3 &&& (2147483647 : Int32)).toInt = x3.toInt % 2147483648 from c_mask x3 (2147483647 : Int32) 31 (by decide) (by decide))
    have q36 := rng32 (x3 &&& (2147483647 : Int32))
    have q37 := (by decide : (3 : Int32).toInt = 3)
    have q38 := c_irem (x3 &&& (2147483647 : Int32)) (3 : Int32) 3 rfl
    have q39 := rng32 ((x3 &&& (2147483647 : Int32)) % (3 : Int32))
    have q40 := rng32 x4
    have q41 := (show (x4 &&& (2147483647 : Int32)).toInt = x4.toInt % 2147483648 from c_mask x4 (2147483647 : Int32) 31 (by decide) (by decide))
    have q42 := rng32 (x4 &&& (2147483647 : Int32))
    have q43 := (by decide : (9 : Int32).toInt = 9)
    have q44 := c_irem (x4 &&& (2147483647 : Int32)) (9 : Int32) 9 rfl
    have q45 := rng32 ((x4 &&& (2147483647 : Int32)) % (9 : Int32))
    omega
  obtain ⟨a1, a2, a3, a4⟩ := Sp32
  have K47 : ∀ t, Steps p.tables e below (s₁.setTop (mkF m 21 #[.val (.long x0), .second, .val (.long x1), .second, .val (.int x2), .val (.int x3), .val (.int x4), .val (.int off_32), .val (.int cnt_32), .unset, .unset, .unset] [(.int (10 : Int32))])) t → Steps p.tables e below (s₁.setTop (entryFrame m #[(.long x0), (.long x1), (.int x2), (.int x3), (.int x4)] maxLocals)) t := fun t k => K46 t (by
    show Steps p.tables e below (s₁.setTop (mkF m 19 #[.val (.long x0), .second, .val (.long x1), .second, .val (.int x2), .val (.int x3), .val (.int x4), .val (.int off_32), .val (.int cnt_32), .unset, .unset, .unset] [])) t
    refine XS.bipush X0.here hx rfl (hb hby at_19) ?_
    exact k)
  obtain ⟨T48, h48, k48, X48, e48, E48, A48, st48⟩ := newP X0 hx hZ (hw _ (List.mem_of_getElem? (i := 1) rfl)) e0 (g := (mkF m 21 #[.val (.long x0), .second, .val (.long x1), .second, .val (.int x2), .val (.int x3), .val (.int x4), .val (.int off_32), .val (.int cnt_32), .unset, .unset, .unset] [(.int (10 : Int32))])) rfl (hb hby at_21) rfl (by decide) (cap := 10) (by decide) (by decide) (by decide) (by decide)
  obtain ⟨b48, g48⟩ : ∃ z, z = h0.size := ⟨_, rfl⟩
  rw [← g48] at A48 st48
  have gb49 : own_Le n0 b48 := Nat.le_trans Z0 (Nat.le_of_eq g48.symm)
  have sb50 : own_Le h0.size b48 := Nat.le_trans (Keep.refl h0 []).1 (Nat.le_of_eq g48.symm)
  have Z51 : own_Le n0 h48.size := Nat.le_trans Z0 E48.1
  have Kp52 : Keep h0 h48 [] := Keep.ext (Keep.refl h0 []) E48
  have V53 : own_Arf Z h48 b48 .byte (10 : Int32) (fun _ => (0 : Int32)) := own_Arf.new A48 (by decide) rfl
  have K54 : ∀ t, Steps p.tables e below (T48.setTop (mkF m 23 #[.val (.long x0), .second, .val (.long x1), .second, .val (.int x2), .val (.int x3), .val (.int x4), .val (.int off_32), .val (.int cnt_32), .unset, .unset, .unset] [(.ref b48)])) t → Steps p.tables e below (s₁.setTop (entryFrame m #[(.long x0), (.long x1), (.int x2), (.int x3), (.int x4)] maxLocals)) t := fun t k => K47 t (st48 _ k)
  have K55 : ∀ t, Steps p.tables e below (T48.setTop (mkF m 31 #[.val (.long x0), .second, .val (.long x1), .second, .val (.int x2), .val (.int x3), .val (.int x4), .val (.int off_32), .val (.int cnt_32), .val (.ref b48), .unset, .unset] [(.int ((x1.toInt32).toInt8.toInt32)), (.int (0 : Int32)), (.ref b48)])) t → Steps p.tables e below (s₁.setTop (entryFrame m #[(.long x0), (.long x1), (.int x2), (.int x3), (.int x4)] maxLocals)) t := fun t k => K54 t (by
    show Steps p.tables e below (T48.setTop (mkF m 23 #[.val (.long x0), .second, .val (.long x1), .second, .val (.int x2), .val (.int x3), .val (.int x4), .val (.int off_32), .val (.int cnt_32), .unset, .unset, .unset] [(.ref b48)])) t
    refine XS.astore X48.here hx rfl (hb hby at_23) rfl rfl (l' := #[.val (.long x0), .second, .val (.long x1), .second, .val (.int x2), .val (.int x3), .val (.int x4), .val (.int off_32), .val (.int cnt_32), .val (.ref b48), .unset, .unset]) rfl ?_
    show Steps p.tables e below (T48.setTop (mkF m 25 #[.val (.long x0), .second, .val (.long x1), .second, .val (.int x2), .val (.int x3), .val (.int x4), .val (.int off_32), .val (.int cnt_32), .val (.ref b48), .unset, .unset] [])) t
    refine XS.aload X48.here hx rfl (hb hby at_25) rfl rfl ?_
    show Steps p.tables e below (T48.setTop (mkF m 27 #[.val (.long x0), .second, .val (.long x1), .second, .val (.int x2), .val (.int x3), .val (.int x4), .val (.int off_32), .val (.int cnt_32), .val (.ref b48), .unset, .unset] [(.ref b48)])) t
    refine XS.iconst X48.here hx rfl (hb hby at_27) ?_
    show Steps p.tables e below (T48.setTop (mkF m 28 #[.val (.long x0), .second, .val (.long x1), .second, .val (.int x2), .val (.int x3), .val (.int x4), .val (.int off_32), .val (.int cnt_32), .val (.ref b48), .unset, .unset] [(.int (0 : Int32)), (.ref b48)])) t
    refine XS.lloadN X48.here hx rfl (hb hby at_28) rfl ?_
    show Steps p.tables e below (T48.setTop (mkF m 29 #[.val (.long x0), .second, .val (.long x1), .second, .val (.int x2), .val (.int x3), .val (.int x4), .val (.int off_32), .val (.int cnt_32), .val (.ref b48), .unset, .unset] [(.long x1), (.int (0 : Int32)), (.ref b48)])) t
    refine XS.l2i X48.here hx rfl (hb hby at_29) rfl ?_
    show Steps p.tables e below (T48.setTop (mkF m 30 #[.val (.long x0), .second, .val (.long x1), .second, .val (.int x2), .val (.int x3), .val (.int x4), .val (.int off_32), .val (.int cnt_32), .val (.ref b48), .unset, .unset] [(.int (x1.toInt32)), (.int (0 : Int32)), (.ref b48)])) t
    refine XS.i2b X48.here hx rfl (hb hby at_30) rfl ?_
    exact k)
  have q57 : ¬ (0 : Int32) < 0 ∧ (0 : Int32) < (10 : Int32) := by
    have q58 := (by decide : (0 : Int32).toInt = 0)
    have q59 := (by decide : (10 : Int32).toInt = 10)
    rw [Int32.lt_iff_toInt_lt, Int32.lt_iff_toInt_lt]; have q0 : (0 : Int32).toInt = 0 := rfl; omega
  obtain ⟨cl56, Ar56, S56, N56, Hs56⟩ := id V53
  have hin56 : ¬ ((0 : Int32) < 0 ∨ cl56.slots.size ≤ ((0 : Int32)).toNatClampNeg) := inb_of S56 q57
  obtain ⟨T56, h56, X56, e56, W56, st56⟩ := stB X48 hx hZ e48 Ar56 (j := (0 : Int32)) hin56 (g := (mkF m 31 #[.val (.long x0), .second, .val (.long x1), .second, .val (.int x2), .val (.int x3), .val (.int x4), .val (.int off_32), .val (.int cnt_32), .val (.ref b48), .unset, .unset] [(.int ((x1.toInt32).toInt8.toInt32)), (.int (0 : Int32)), (.ref b48)])) rfl rfl (hb hby at_31)
  obtain ⟨f61, hf61⟩ : ∃ fnew : Nat → Int32, fnew = fun i => if i = 0 then ((x1.toInt32).toInt8.toInt32).toInt8.toInt32 else (fun _ => (0 : Int32)) i := ⟨_, rfl⟩
  have V60 : own_Arf Z h56 b48 .byte (10 : Int32) f61 := own_Arf.set Ar56 S56 N56 Hs56 W56 rfl hf61
  have Kp62 : Keep h0 h56 [] := Keep.wr Kp52 W56 (Or.inr sb50)
  have Z63 : own_Le n0 h56.size := Nat.le_trans Z51 (Keep.of_wr W56).1
  have N64 := Fr.snoc X56 N0 gb49
  have K65 : ∀ t, Steps p.tables e below (T56.setTop (mkF m 32 #[.val (.long x0), .second, .val (.long x1), .second, .val (.int x2), .val (.int x3), .val (.int x4), .val (.int off_32), .val (.int cnt_32), .val (.ref b48), .unset, .unset] [])) t → Steps p.tables e below (s₁.setTop (entryFrame m #[(.long x0), (.long x1), (.int x2), (.int x3), (.int x4)] maxLocals)) t := fun t k => K55 t (st56 _ k)
  have K66 : ∀ t, Steps p.tables e below (T56.setTop (mkF m 41 #[.val (.long x0), .second, .val (.long x1), .second, .val (.int x2), .val (.int x3), .val (.int x4), .val (.int off_32), .val (.int cnt_32), .val (.ref b48), .unset, .unset] [(.int ((((x1.toUInt64 >>> ((8 : Int32) &&& 0x3f).toInt64.toUInt64).toInt64).toInt32).toInt8.toInt32)), (.int (1 : Int32)), (.ref b48)])) t → Steps p.tables e below (s₁.setTop (entryFrame m #[(.long x0), (.long x1), (.int x2), (.int x3), (.int x4)] maxLocals)) t := fun t k => K65 t (by
    show Steps p.tables e below (T56.setTop (mkF m 32 #[.val (.long x0), .second, .val (.long x1), .second, .val (.int x2), .val (.int x3), .val (.int x4), .val (.int off_32), .val (.int cnt_32), .val (.ref b48), .unset, .unset] [])) t
    refine XS.aload X56.here hx rfl (hb hby at_32) rfl rfl ?_
    show Steps p.tables e below (T56.setTop (mkF m 34 #[.val (.long x0), .second, .val (.long x1), .second, .val (.int x2), .val (.int x3), .val (.int x4), .val (.int off_32), .val (.int cnt_32), .val (.ref b48), .unset, .unset] [(.ref b48)])) t
    refine XS.iconst X56.here hx rfl (hb hby at_34) ?_
    show Steps p.tables e below (T56.setTop (mkF m 35 #[.val (.long x0), .second, .val (.long x1), .second, .val (.int x2), .val (.int x3), .val (.int x4), .val (.int off_32), .val (.int cnt_32), .val (.ref b48), .unset, .unset] [(.int (1 : Int32)), (.ref b48)])) t
    refine XS.lloadN X56.here hx rfl (hb hby at_35) rfl ?_
    show Steps p.tables e below (T56.setTop (mkF m 36 #[.val (.long x0), .second, .val (.long x1), .second, .val (.int x2), .val (.int x3), .val (.int x4), .val (.int off_32), .val (.int cnt_32), .val (.ref b48), .unset, .unset] [(.long x1), (.int (1 : Int32)), (.ref b48)])) t
    refine XS.bipush X56.here hx rfl (hb hby at_36) ?_
    show Steps p.tables e below (T56.setTop (mkF m 38 #[.val (.long x0), .second, .val (.long x1), .second, .val (.int x2), .val (.int x3), .val (.int x4), .val (.int off_32), .val (.int cnt_32), .val (.ref b48), .unset, .unset] [(.int (8 : Int32)), (.long x1), (.int (1 : Int32)), (.ref b48)])) t
    refine XS.lushr X56.here hx rfl (hb hby at_38) rfl ?_
    show Steps p.tables e below (T56.setTop (mkF m 39 #[.val (.long x0), .second, .val (.long x1), .second, .val (.int x2), .val (.int x3), .val (.int x4), .val (.int off_32), .val (.int cnt_32), .val (.ref b48), .unset, .unset] [(.long ((x1.toUInt64 >>> ((8 : Int32) &&& 0x3f).toInt64.toUInt64).toInt64)), (.int (1 : Int32)), (.ref b48)])) t
    refine XS.l2i X56.here hx rfl (hb hby at_39) rfl ?_
    show Steps p.tables e below (T56.setTop (mkF m 40 #[.val (.long x0), .second, .val (.long x1), .second, .val (.int x2), .val (.int x3), .val (.int x4), .val (.int off_32), .val (.int cnt_32), .val (.ref b48), .unset, .unset] [(.int (((x1.toUInt64 >>> ((8 : Int32) &&& 0x3f).toInt64.toUInt64).toInt64).toInt32)), (.int (1 : Int32)), (.ref b48)])) t
    refine XS.i2b X56.here hx rfl (hb hby at_40) rfl ?_
    exact k)
  have q68 : ¬ (1 : Int32) < 0 ∧ (1 : Int32) < (10 : Int32) := by
    have q69 := (by decide : (1 : Int32).toInt = 1)
    have q70 := (by decide : (10 : Int32).toInt = 10)
    rw [Int32.lt_iff_toInt_lt, Int32.lt_iff_toInt_lt]; have q0 : (0 : Int32).toInt = 0 := rfl; omega
  obtain ⟨cl67, Ar67, S67, N67, Hs67⟩ := id V60
  have hin67 : ¬ ((1 : Int32) < 0 ∨ cl67.slots.size ≤ ((1 : Int32)).toNatClampNeg) := inb_of S67 q68
  obtain ⟨T67, h67, X67, e67, W67, st67⟩ := stB X56 hx hZ e56 Ar67 (j := (1 : Int32)) hin67 (g := (mkF m 41 #[.val (.long x0), .second, .val (.long x1), .second, .val (.int x2), .val (.int x3), .val (.int x4), .val (.int off_32), .val (.int cnt_32), .val (.ref b48), .unset, .unset] [(.int ((((x1.toUInt64 >>> ((8 : Int32) &&& 0x3f).toInt64.toUInt64).toInt64).toInt32).toInt8.toInt32)), (.int (1 : Int32)), (.ref b48)])) rfl rfl (hb hby at_41)
  obtain ⟨f72, hf72⟩ : ∃ fnew : Nat → Int32, fnew = fun i => if i = 1 then ((((x1.toUInt64 >>> ((8 : Int32) &&& 0x3f).toInt64.toUInt64).toInt64).toInt32).toInt8.toInt32).toInt8.toInt32 else f61 i := ⟨_, rfl⟩
  have V71 : own_Arf Z h67 b48 .byte (10 : Int32) f72 := own_Arf.set Ar67 S67 N67 Hs67 W67 rfl hf72
  have Kp73 : Keep h0 h67 [] := Keep.wr Kp62 W67 (Or.inr sb50)
  have Z74 : own_Le n0 h67.size := Nat.le_trans Z63 (Keep.of_wr W67).1
  have N75 := Fr.snoc X67 N64 gb49
  have K76 : ∀ t, Steps p.tables e below (T67.setTop (mkF m 42 #[.val (.long x0), .second, .val (.long x1), .second, .val (.int x2), .val (.int x3), .val (.int x4), .val (.int off_32), .val (.int cnt_32), .val (.ref b48), .unset, .unset] [])) t → Steps p.tables e below (s₁.setTop (entryFrame m #[(.long x0), (.long x1), (.int x2), (.int x3), (.int x4)] maxLocals)) t := fun t k => K66 t (st67 _ k)
  have K77 : ∀ t, Steps p.tables e below (T67.setTop (mkF m 51 #[.val (.long x0), .second, .val (.long x1), .second, .val (.int x2), .val (.int x3), .val (.int x4), .val (.int off_32), .val (.int cnt_32), .val (.ref b48), .unset, .unset] [(.int ((((x1.toUInt64 >>> ((16 : Int32) &&& 0x3f).toInt64.toUInt64).toInt64).toInt32).toInt8.toInt32)), (.int (2 : Int32)), (.ref b48)])) t → Steps p.tables e below (s₁.setTop (entryFrame m #[(.long x0), (.long x1), (.int x2), (.int x3), (.int x4)] maxLocals)) t := fun t k => K76 t (by
    show Steps p.tables e below (T67.setTop (mkF m 42 #[.val (.long x0), .second, .val (.long x1), .second, .val (.int x2), .val (.int x3), .val (.int x4), .val (.int off_32), .val (.int cnt_32), .val (.ref b48), .unset, .unset] [])) t
    refine XS.aload X67.here hx rfl (hb hby at_42) rfl rfl ?_
    show Steps p.tables e below (T67.setTop (mkF m 44 #[.val (.long x0), .second, .val (.long x1), .second, .val (.int x2), .val (.int x3), .val (.int x4), .val (.int off_32), .val (.int cnt_32), .val (.ref b48), .unset, .unset] [(.ref b48)])) t
    refine XS.iconst X67.here hx rfl (hb hby at_44) ?_
    show Steps p.tables e below (T67.setTop (mkF m 45 #[.val (.long x0), .second, .val (.long x1), .second, .val (.int x2), .val (.int x3), .val (.int x4), .val (.int off_32), .val (.int cnt_32), .val (.ref b48), .unset, .unset] [(.int (2 : Int32)), (.ref b48)])) t
    refine XS.lloadN X67.here hx rfl (hb hby at_45) rfl ?_
    show Steps p.tables e below (T67.setTop (mkF m 46 #[.val (.long x0), .second, .val (.long x1), .second, .val (.int x2), .val (.int x3), .val (.int x4), .val (.int off_32), .val (.int cnt_32), .val (.ref b48), .unset, .unset] [(.long x1), (.int (2 : Int32)), (.ref b48)])) t
    refine XS.bipush X67.here hx rfl (hb hby at_46) ?_
    show Steps p.tables e below (T67.setTop (mkF m 48 #[.val (.long x0), .second, .val (.long x1), .second, .val (.int x2), .val (.int x3), .val (.int x4), .val (.int off_32), .val (.int cnt_32), .val (.ref b48), .unset, .unset] [(.int (16 : Int32)), (.long x1), (.int (2 : Int32)), (.ref b48)])) t
    refine XS.lushr X67.here hx rfl (hb hby at_48) rfl ?_
    show Steps p.tables e below (T67.setTop (mkF m 49 #[.val (.long x0), .second, .val (.long x1), .second, .val (.int x2), .val (.int x3), .val (.int x4), .val (.int off_32), .val (.int cnt_32), .val (.ref b48), .unset, .unset] [(.long ((x1.toUInt64 >>> ((16 : Int32) &&& 0x3f).toInt64.toUInt64).toInt64)), (.int (2 : Int32)), (.ref b48)])) t
    refine XS.l2i X67.here hx rfl (hb hby at_49) rfl ?_
    show Steps p.tables e below (T67.setTop (mkF m 50 #[.val (.long x0), .second, .val (.long x1), .second, .val (.int x2), .val (.int x3), .val (.int x4), .val (.int off_32), .val (.int cnt_32), .val (.ref b48), .unset, .unset] [(.int (((x1.toUInt64 >>> ((16 : Int32) &&& 0x3f).toInt64.toUInt64).toInt64).toInt32)), (.int (2 : Int32)), (.ref b48)])) t
    refine XS.i2b X67.here hx rfl (hb hby at_50) rfl ?_
    exact k)
  have q79 : ¬ (2 : Int32) < 0 ∧ (2 : Int32) < (10 : Int32) := by
    have q80 := (by decide : (2 : Int32).toInt = 2)
    have q81 := (by decide : (10 : Int32).toInt = 10)
    rw [Int32.lt_iff_toInt_lt, Int32.lt_iff_toInt_lt]; have q0 : (0 : Int32).toInt = 0 := rfl; omega
  obtain ⟨cl78, Ar78, S78, N78, Hs78⟩ := id V71
  have hin78 : ¬ ((2 : Int32) < 0 ∨ cl78.slots.size ≤ ((2 : Int32)).toNatClampNeg) := inb_of S78 q79
  obtain ⟨T78, h78, X78, e78, W78, st78⟩ := stB X67 hx hZ e67 Ar78 (j := (2 : Int32)) hin78 (g := (mkF m 51 #[.val (.long x0), .second, .val (.long x1), .second, .val (.int x2), .val (.int x3), .val (.int x4), .val (.int off_32), .val (.int cnt_32), .val (.ref b48), .unset, .unset] [(.int ((((x1.toUInt64 >>> ((16 : Int32) &&& 0x3f).toInt64.toUInt64).toInt64).toInt32).toInt8.toInt32)), (.int (2 : Int32)), (.ref b48)])) rfl rfl (hb hby at_51)
  obtain ⟨f83, hf83⟩ : ∃ fnew : Nat → Int32, fnew = fun i => if i = 2 then ((((x1.toUInt64 >>> ((16 : Int32) &&& 0x3f).toInt64.toUInt64).toInt64).toInt32).toInt8.toInt32).toInt8.toInt32 else f72 i := ⟨_, rfl⟩
  have V82 : own_Arf Z h78 b48 .byte (10 : Int32) f83 := own_Arf.set Ar78 S78 N78 Hs78 W78 rfl hf83
  have Kp84 : Keep h0 h78 [] := Keep.wr Kp73 W78 (Or.inr sb50)
  have Z85 : own_Le n0 h78.size := Nat.le_trans Z74 (Keep.of_wr W78).1
  have N86 := Fr.snoc X78 N75 gb49
  have K87 : ∀ t, Steps p.tables e below (T78.setTop (mkF m 52 #[.val (.long x0), .second, .val (.long x1), .second, .val (.int x2), .val (.int x3), .val (.int x4), .val (.int off_32), .val (.int cnt_32), .val (.ref b48), .unset, .unset] [])) t → Steps p.tables e below (s₁.setTop (entryFrame m #[(.long x0), (.long x1), (.int x2), (.int x3), (.int x4)] maxLocals)) t := fun t k => K77 t (st78 _ k)
  have K88 : ∀ t, Steps p.tables e below (T78.setTop (mkF m 61 #[.val (.long x0), .second, .val (.long x1), .second, .val (.int x2), .val (.int x3), .val (.int x4), .val (.int off_32), .val (.int cnt_32), .val (.ref b48), .unset, .unset] [(.int ((((x1.toUInt64 >>> ((24 : Int32) &&& 0x3f).toInt64.toUInt64).toInt64).toInt32).toInt8.toInt32)), (.int (3 : Int32)), (.ref b48)])) t → Steps p.tables e below (s₁.setTop (entryFrame m #[(.long x0), (.long x1), (.int x2), (.int x3), (.int x4)] maxLocals)) t := fun t k => K87 t (by
    show Steps p.tables e below (T78.setTop (mkF m 52 #[.val (.long x0), .second, .val (.long x1), .second, .val (.int x2), .val (.int x3), .val (.int x4), .val (.int off_32), .val (.int cnt_32), .val (.ref b48), .unset, .unset] [])) t
    refine XS.aload X78.here hx rfl (hb hby at_52) rfl rfl ?_
    show Steps p.tables e below (T78.setTop (mkF m 54 #[.val (.long x0), .second, .val (.long x1), .second, .val (.int x2), .val (.int x3), .val (.int x4), .val (.int off_32), .val (.int cnt_32), .val (.ref b48), .unset, .unset] [(.ref b48)])) t
    refine XS.iconst X78.here hx rfl (hb hby at_54) ?_
    show Steps p.tables e below (T78.setTop (mkF m 55 #[.val (.long x0), .second, .val (.long x1), .second, .val (.int x2), .val (.int x3), .val (.int x4), .val (.int off_32), .val (.int cnt_32), .val (.ref b48), .unset, .unset] [(.int (3 : Int32)), (.ref b48)])) t
    refine XS.lloadN X78.here hx rfl (hb hby at_55) rfl ?_
    show Steps p.tables e below (T78.setTop (mkF m 56 #[.val (.long x0), .second, .val (.long x1), .second, .val (.int x2), .val (.int x3), .val (.int x4), .val (.int off_32), .val (.int cnt_32), .val (.ref b48), .unset, .unset] [(.long x1), (.int (3 : Int32)), (.ref b48)])) t
    refine XS.bipush X78.here hx rfl (hb hby at_56) ?_
    show Steps p.tables e below (T78.setTop (mkF m 58 #[.val (.long x0), .second, .val (.long x1), .second, .val (.int x2), .val (.int x3), .val (.int x4), .val (.int off_32), .val (.int cnt_32), .val (.ref b48), .unset, .unset] [(.int (24 : Int32)), (.long x1), (.int (3 : Int32)), (.ref b48)])) t
    refine XS.lushr X78.here hx rfl (hb hby at_58) rfl ?_
    show Steps p.tables e below (T78.setTop (mkF m 59 #[.val (.long x0), .second, .val (.long x1), .second, .val (.int x2), .val (.int x3), .val (.int x4), .val (.int off_32), .val (.int cnt_32), .val (.ref b48), .unset, .unset] [(.long ((x1.toUInt64 >>> ((24 : Int32) &&& 0x3f).toInt64.toUInt64).toInt64)), (.int (3 : Int32)), (.ref b48)])) t
    refine XS.l2i X78.here hx rfl (hb hby at_59) rfl ?_
    show Steps p.tables e below (T78.setTop (mkF m 60 #[.val (.long x0), .second, .val (.long x1), .second, .val (.int x2), .val (.int x3), .val (.int x4), .val (.int off_32), .val (.int cnt_32), .val (.ref b48), .unset, .unset] [(.int (((x1.toUInt64 >>> ((24 : Int32) &&& 0x3f).toInt64.toUInt64).toInt64).toInt32)), (.int (3 : Int32)), (.ref b48)])) t
    refine XS.i2b X78.here hx rfl (hb hby at_60) rfl ?_
    exact k)
  have q90 : ¬ (3 : Int32) < 0 ∧ (3 : Int32) < (10 : Int32) := by
    have q91 := (by decide : (3 : Int32).toInt = 3)
    have q92 := (by decide : (10 : Int32).toInt = 10)
    rw [Int32.lt_iff_toInt_lt, Int32.lt_iff_toInt_lt]; have q0 : (0 : Int32).toInt = 0 := rfl; omega
  obtain ⟨cl89, Ar89, S89, N89, Hs89⟩ := id V82
  have hin89 : ¬ ((3 : Int32) < 0 ∨ cl89.slots.size ≤ ((3 : Int32)).toNatClampNeg) := inb_of S89 q90
  obtain ⟨T89, h89, X89, e89, W89, st89⟩ := stB X78 hx hZ e78 Ar89 (j := (3 : Int32)) hin89 (g := (mkF m 61 #[.val (.long x0), .second, .val (.long x1), .second, .val (.int x2), .val (.int x3), .val (.int x4), .val (.int off_32), .val (.int cnt_32), .val (.ref b48), .unset, .unset] [(.int ((((x1.toUInt64 >>> ((24 : Int32) &&& 0x3f).toInt64.toUInt64).toInt64).toInt32).toInt8.toInt32)), (.int (3 : Int32)), (.ref b48)])) rfl rfl (hb hby at_61)
  obtain ⟨f94, hf94⟩ : ∃ fnew : Nat → Int32, fnew = fun i => if i = 3 then ((((x1.toUInt64 >>> ((24 : Int32) &&& 0x3f).toInt64.toUInt64).toInt64).toInt32).toInt8.toInt32).toInt8.toInt32 else f83 i := ⟨_, rfl⟩
  have V93 : own_Arf Z h89 b48 .byte (10 : Int32) f94 := own_Arf.set Ar89 S89 N89 Hs89 W89 rfl hf94
  have Kp95 : Keep h0 h89 [] := Keep.wr Kp84 W89 (Or.inr sb50)
  have Z96 : own_Le n0 h89.size := Nat.le_trans Z85 (Keep.of_wr W89).1
  have N97 := Fr.snoc X89 N86 gb49
  have K98 : ∀ t, Steps p.tables e below (T89.setTop (mkF m 62 #[.val (.long x0), .second, .val (.long x1), .second, .val (.int x2), .val (.int x3), .val (.int x4), .val (.int off_32), .val (.int cnt_32), .val (.ref b48), .unset, .unset] [])) t → Steps p.tables e below (s₁.setTop (entryFrame m #[(.long x0), (.long x1), (.int x2), (.int x3), (.int x4)] maxLocals)) t := fun t k => K88 t (st89 _ k)
  have K99 : ∀ t, Steps p.tables e below (T89.setTop (mkF m 71 #[.val (.long x0), .second, .val (.long x1), .second, .val (.int x2), .val (.int x3), .val (.int x4), .val (.int off_32), .val (.int cnt_32), .val (.ref b48), .unset, .unset] [(.int ((((x1.toUInt64 >>> ((32 : Int32) &&& 0x3f).toInt64.toUInt64).toInt64).toInt32).toInt8.toInt32)), (.int (4 : Int32)), (.ref b48)])) t → Steps p.tables e below (s₁.setTop (entryFrame m #[(.long x0), (.long x1), (.int x2), (.int x3), (.int x4)] maxLocals)) t := fun t k => K98 t (by
    show Steps p.tables e below (T89.setTop (mkF m 62 #[.val (.long x0), .second, .val (.long x1), .second, .val (.int x2), .val (.int x3), .val (.int x4), .val (.int off_32), .val (.int cnt_32), .val (.ref b48), .unset, .unset] [])) t
    refine XS.aload X89.here hx rfl (hb hby at_62) rfl rfl ?_
    show Steps p.tables e below (T89.setTop (mkF m 64 #[.val (.long x0), .second, .val (.long x1), .second, .val (.int x2), .val (.int x3), .val (.int x4), .val (.int off_32), .val (.int cnt_32), .val (.ref b48), .unset, .unset] [(.ref b48)])) t
    refine XS.iconst X89.here hx rfl (hb hby at_64) ?_
    show Steps p.tables e below (T89.setTop (mkF m 65 #[.val (.long x0), .second, .val (.long x1), .second, .val (.int x2), .val (.int x3), .val (.int x4), .val (.int off_32), .val (.int cnt_32), .val (.ref b48), .unset, .unset] [(.int (4 : Int32)), (.ref b48)])) t
    refine XS.lloadN X89.here hx rfl (hb hby at_65) rfl ?_
    show Steps p.tables e below (T89.setTop (mkF m 66 #[.val (.long x0), .second, .val (.long x1), .second, .val (.int x2), .val (.int x3), .val (.int x4), .val (.int off_32), .val (.int cnt_32), .val (.ref b48), .unset, .unset] [(.long x1), (.int (4 : Int32)), (.ref b48)])) t
    refine XS.bipush X89.here hx rfl (hb hby at_66) ?_
    show Steps p.tables e below (T89.setTop (mkF m 68 #[.val (.long x0), .second, .val (.long x1), .second, .val (.int x2), .val (.int x3), .val (.int x4), .val (.int off_32), .val (.int cnt_32), .val (.ref b48), .unset, .unset] [(.int (32 : Int32)), (.long x1), (.int (4 : Int32)), (.ref b48)])) t
    refine XS.lushr X89.here hx rfl (hb hby at_68) rfl ?_
    show Steps p.tables e below (T89.setTop (mkF m 69 #[.val (.long x0), .second, .val (.long x1), .second, .val (.int x2), .val (.int x3), .val (.int x4), .val (.int off_32), .val (.int cnt_32), .val (.ref b48), .unset, .unset] [(.long ((x1.toUInt64 >>> ((32 : Int32) &&& 0x3f).toInt64.toUInt64).toInt64)), (.int (4 : Int32)), (.ref b48)])) t
    refine XS.l2i X89.here hx rfl (hb hby at_69) rfl ?_
    show Steps p.tables e below (T89.setTop (mkF m 70 #[.val (.long x0), .second, .val (.long x1), .second, .val (.int x2), .val (.int x3), .val (.int x4), .val (.int off_32), .val (.int cnt_32), .val (.ref b48), .unset, .unset] [(.int (((x1.toUInt64 >>> ((32 : Int32) &&& 0x3f).toInt64.toUInt64).toInt64).toInt32)), (.int (4 : Int32)), (.ref b48)])) t
    refine XS.i2b X89.here hx rfl (hb hby at_70) rfl ?_
    exact k)
  have q101 : ¬ (4 : Int32) < 0 ∧ (4 : Int32) < (10 : Int32) := by
    have q102 := (by decide : (4 : Int32).toInt = 4)
    have q103 := (by decide : (10 : Int32).toInt = 10)
    rw [Int32.lt_iff_toInt_lt, Int32.lt_iff_toInt_lt]; have q0 : (0 : Int32).toInt = 0 := rfl; omega
  obtain ⟨cl100, Ar100, S100, N100, Hs100⟩ := id V93
  have hin100 : ¬ ((4 : Int32) < 0 ∨ cl100.slots.size ≤ ((4 : Int32)).toNatClampNeg) := inb_of S100 q101
  obtain ⟨T100, h100, X100, e100, W100, st100⟩ := stB X89 hx hZ e89 Ar100 (j := (4 : Int32)) hin100 (g := (mkF m 71 #[.val (.long x0), .second, .val (.long x1), .second, .val (.int x2), .val (.int x3), .val (.int x4), .val (.int off_32), .val (.int cnt_32), .val (.ref b48), .unset, .unset] [(.int ((((x1.toUInt64 >>> ((32 : Int32) &&& 0x3f).toInt64.toUInt64).toInt64).toInt32).toInt8.toInt32)), (.int (4 : Int32)), (.ref b48)])) rfl rfl (hb hby at_71)
  obtain ⟨f105, hf105⟩ : ∃ fnew : Nat → Int32, fnew = fun i => if i = 4 then ((((x1.toUInt64 >>> ((32 : Int32) &&& 0x3f).toInt64.toUInt64).toInt64).toInt32).toInt8.toInt32).toInt8.toInt32 else f94 i := ⟨_, rfl⟩
  have V104 : own_Arf Z h100 b48 .byte (10 : Int32) f105 := own_Arf.set Ar100 S100 N100 Hs100 W100 rfl hf105
  have Kp106 : Keep h0 h100 [] := Keep.wr Kp95 W100 (Or.inr sb50)
  have Z107 : own_Le n0 h100.size := Nat.le_trans Z96 (Keep.of_wr W100).1
  have N108 := Fr.snoc X100 N97 gb49
  have K109 : ∀ t, Steps p.tables e below (T100.setTop (mkF m 72 #[.val (.long x0), .second, .val (.long x1), .second, .val (.int x2), .val (.int x3), .val (.int x4), .val (.int off_32), .val (.int cnt_32), .val (.ref b48), .unset, .unset] [])) t → Steps p.tables e below (s₁.setTop (entryFrame m #[(.long x0), (.long x1), (.int x2), (.int x3), (.int x4)] maxLocals)) t := fun t k => K99 t (st100 _ k)
  have K110 : ∀ t, Steps p.tables e below (T100.setTop (mkF m 81 #[.val (.long x0), .second, .val (.long x1), .second, .val (.int x2), .val (.int x3), .val (.int x4), .val (.int off_32), .val (.int cnt_32), .val (.ref b48), .unset, .unset] [(.int ((((x1.toUInt64 >>> ((40 : Int32) &&& 0x3f).toInt64.toUInt64).toInt64).toInt32).toInt8.toInt32)), (.int (5 : Int32)), (.ref b48)])) t → Steps p.tables e below (s₁.setTop (entryFrame m #[(.long x0), (.long x1), (.int x2), (.int x3), (.int x4)] maxLocals)) t := fun t k => K109 t (by
    show Steps p.tables e below (T100.setTop (mkF m 72 #[.val (.long x0), .second, .val (.long x1), .second, .val (.int x2), .val (.int x3), .val (.int x4), .val (.int off_32), .val (.int cnt_32), .val (.ref b48), .unset, .unset] [])) t
    refine XS.aload X100.here hx rfl (hb hby at_72) rfl rfl ?_
    show Steps p.tables e below (T100.setTop (mkF m 74 #[.val (.long x0), .second, .val (.long x1), .second, .val (.int x2), .val (.int x3), .val (.int x4), .val (.int off_32), .val (.int cnt_32), .val (.ref b48), .unset, .unset] [(.ref b48)])) t
    refine XS.iconst X100.here hx rfl (hb hby at_74) ?_
    show Steps p.tables e below (T100.setTop (mkF m 75 #[.val (.long x0), .second, .val (.long x1), .second, .val (.int x2), .val (.int x3), .val (.int x4), .val (.int off_32), .val (.int cnt_32), .val (.ref b48), .unset, .unset] [(.int (5 : Int32)), (.ref b48)])) t
    refine XS.lloadN X100.here hx rfl (hb hby at_75) rfl ?_
    show Steps p.tables e below (T100.setTop (mkF m 76 #[.val (.long x0), .second, .val (.long x1), .second, .val (.int x2), .val (.int x3), .val (.int x4), .val (.int off_32), .val (.int cnt_32), .val (.ref b48), .unset, .unset] [(.long x1), (.int (5 : Int32)), (.ref b48)])) t
    refine XS.bipush X100.here hx rfl (hb hby at_76) ?_
    show Steps p.tables e below (T100.setTop (mkF m 78 #[.val (.long x0), .second, .val (.long x1), .second, .val (.int x2), .val (.int x3), .val (.int x4), .val (.int off_32), .val (.int cnt_32), .val (.ref b48), .unset, .unset] [(.int (40 : Int32)), (.long x1), (.int (5 : Int32)), (.ref b48)])) t
    refine XS.lushr X100.here hx rfl (hb hby at_78) rfl ?_
    show Steps p.tables e below (T100.setTop (mkF m 79 #[.val (.long x0), .second, .val (.long x1), .second, .val (.int x2), .val (.int x3), .val (.int x4), .val (.int off_32), .val (.int cnt_32), .val (.ref b48), .unset, .unset] [(.long ((x1.toUInt64 >>> ((40 : Int32) &&& 0x3f).toInt64.toUInt64).toInt64)), (.int (5 : Int32)), (.ref b48)])) t
    refine XS.l2i X100.here hx rfl (hb hby at_79) rfl ?_
    show Steps p.tables e below (T100.setTop (mkF m 80 #[.val (.long x0), .second, .val (.long x1), .second, .val (.int x2), .val (.int x3), .val (.int x4), .val (.int off_32), .val (.int cnt_32), .val (.ref b48), .unset, .unset] [(.int (((x1.toUInt64 >>> ((40 : Int32) &&& 0x3f).toInt64.toUInt64).toInt64).toInt32)), (.int (5 : Int32)), (.ref b48)])) t
    refine XS.i2b X100.here hx rfl (hb hby at_80) rfl ?_
    exact k)
  have q112 : ¬ (5 : Int32) < 0 ∧ (5 : Int32) < (10 : Int32) := by
    have q113 := (by decide : (5 : Int32).toInt = 5)
    have q114 := (by decide : (10 : Int32).toInt = 10)
    rw [Int32.lt_iff_toInt_lt, Int32.lt_iff_toInt_lt]; have q0 : (0 : Int32).toInt = 0 := rfl; omega
  obtain ⟨cl111, Ar111, S111, N111, Hs111⟩ := id V104
  have hin111 : ¬ ((5 : Int32) < 0 ∨ cl111.slots.size ≤ ((5 : Int32)).toNatClampNeg) := inb_of S111 q112
  obtain ⟨T111, h111, X111, e111, W111, st111⟩ := stB X100 hx hZ e100 Ar111 (j := (5 : Int32)) hin111 (g := (mkF m 81 #[.val (.long x0), .second, .val (.long x1), .second, .val (.int x2), .val (.int x3), .val (.int x4), .val (.int off_32), .val (.int cnt_32), .val (.ref b48), .unset, .unset] [(.int ((((x1.toUInt64 >>> ((40 : Int32) &&& 0x3f).toInt64.toUInt64).toInt64).toInt32).toInt8.toInt32)), (.int (5 : Int32)), (.ref b48)])) rfl rfl (hb hby at_81)
  obtain ⟨f116, hf116⟩ : ∃ fnew : Nat → Int32, fnew = fun i => if i = 5 then ((((x1.toUInt64 >>> ((40 : Int32) &&& 0x3f).toInt64.toUInt64).toInt64).toInt32).toInt8.toInt32).toInt8.toInt32 else f105 i := ⟨_, rfl⟩
  have V115 : own_Arf Z h111 b48 .byte (10 : Int32) f116 := own_Arf.set Ar111 S111 N111 Hs111 W111 rfl hf116
  have Kp117 : Keep h0 h111 [] := Keep.wr Kp106 W111 (Or.inr sb50)
  have Z118 : own_Le n0 h111.size := Nat.le_trans Z107 (Keep.of_wr W111).1
  have N119 := Fr.snoc X111 N108 gb49
  have K120 : ∀ t, Steps p.tables e below (T111.setTop (mkF m 82 #[.val (.long x0), .second, .val (.long x1), .second, .val (.int x2), .val (.int x3), .val (.int x4), .val (.int off_32), .val (.int cnt_32), .val (.ref b48), .unset, .unset] [])) t → Steps p.tables e below (s₁.setTop (entryFrame m #[(.long x0), (.long x1), (.int x2), (.int x3), (.int x4)] maxLocals)) t := fun t k => K110 t (st111 _ k)
  have K121 : ∀ t, Steps p.tables e below (T111.setTop (mkF m 92 #[.val (.long x0), .second, .val (.long x1), .second, .val (.int x2), .val (.int x3), .val (.int x4), .val (.int off_32), .val (.int cnt_32), .val (.ref b48), .unset, .unset] [(.int ((((x1.toUInt64 >>> ((48 : Int32) &&& 0x3f).toInt64.toUInt64).toInt64).toInt32).toInt8.toInt32)), (.int (6 : Int32)), (.ref b48)])) t → Steps p.tables e below (s₁.setTop (entryFrame m #[(.long x0), (.long x1), (.int x2), (.int x3), (.int x4)] maxLocals)) t := fun t k => K120 t (by
    show Steps p.tables e below (T111.setTop (mkF m 82 #[.val (.long x0), .second, .val (.long x1), .second, .val (.int x2), .val (.int x3), .val (.int x4), .val (.int off_32), .val (.int cnt_32), .val (.ref b48), .unset, .unset] [])) t
    refine XS.aload X111.here hx rfl (hb hby at_82) rfl rfl ?_
    show Steps p.tables e below (T111.setTop (mkF m 84 #[.val (.long x0), .second, .val (.long x1), .second, .val (.int x2), .val (.int x3), .val (.int x4), .val (.int off_32), .val (.int cnt_32), .val (.ref b48), .unset, .unset] [(.ref b48)])) t
    refine XS.bipush X111.here hx rfl (hb hby at_84) ?_
    show Steps p.tables e below (T111.setTop (mkF m 86 #[.val (.long x0), .second, .val (.long x1), .second, .val (.int x2), .val (.int x3), .val (.int x4), .val (.int off_32), .val (.int cnt_32), .val (.ref b48), .unset, .unset] [(.int (6 : Int32)), (.ref b48)])) t
    refine XS.lloadN X111.here hx rfl (hb hby at_86) rfl ?_
    show Steps p.tables e below (T111.setTop (mkF m 87 #[.val (.long x0), .second, .val (.long x1), .second, .val (.int x2), .val (.int x3), .val (.int x4), .val (.int off_32), .val (.int cnt_32), .val (.ref b48), .unset, .unset] [(.long x1), (.int (6 : Int32)), (.ref b48)])) t
    refine XS.bipush X111.here hx rfl (hb hby at_87) ?_
    show Steps p.tables e below (T111.setTop (mkF m 89 #[.val (.long x0), .second, .val (.long x1), .second, .val (.int x2), .val (.int x3), .val (.int x4), .val (.int off_32), .val (.int cnt_32), .val (.ref b48), .unset, .unset] [(.int (48 : Int32)), (.long x1), (.int (6 : Int32)), (.ref b48)])) t
    refine XS.lushr X111.here hx rfl (hb hby at_89) rfl ?_
    show Steps p.tables e below (T111.setTop (mkF m 90 #[.val (.long x0), .second, .val (.long x1), .second, .val (.int x2), .val (.int x3), .val (.int x4), .val (.int off_32), .val (.int cnt_32), .val (.ref b48), .unset, .unset] [(.long ((x1.toUInt64 >>> ((48 : Int32) &&& 0x3f).toInt64.toUInt64).toInt64)), (.int (6 : Int32)), (.ref b48)])) t
    refine XS.l2i X111.here hx rfl (hb hby at_90) rfl ?_
    show Steps p.tables e below (T111.setTop (mkF m 91 #[.val (.long x0), .second, .val (.long x1), .second, .val (.int x2), .val (.int x3), .val (.int x4), .val (.int off_32), .val (.int cnt_32), .val (.ref b48), .unset, .unset] [(.int (((x1.toUInt64 >>> ((48 : Int32) &&& 0x3f).toInt64.toUInt64).toInt64).toInt32)), (.int (6 : Int32)), (.ref b48)])) t
    refine XS.i2b X111.here hx rfl (hb hby at_91) rfl ?_
    exact k)
  have q123 : ¬ (6 : Int32) < 0 ∧ (6 : Int32) < (10 : Int32) := by
    have q124 := (by decide : (6 : Int32).toInt = 6)
    have q125 := (by decide : (10 : Int32).toInt = 10)
    rw [Int32.lt_iff_toInt_lt, Int32.lt_iff_toInt_lt]; have q0 : (0 : Int32).toInt = 0 := rfl; omega
  obtain ⟨cl122, Ar122, S122, N122, Hs122⟩ := id V115
  have hin122 : ¬ ((6 : Int32) < 0 ∨ cl122.slots.size ≤ ((6 : Int32)).toNatClampNeg) := inb_of S122 q123
  obtain ⟨T122, h122, X122, e122, W122, st122⟩ := stB X111 hx hZ e111 Ar122 (j := (6 : Int32)) hin122 (g := (mkF m 92 #[.val (.long x0), .second, .val (.long x1), .second, .val (.int x2), .val (.int x3), .val (.int x4), .val (.int off_32), .val (.int cnt_32), .val (.ref b48), .unset, .unset] [(.int ((((x1.toUInt64 >>> ((48 : Int32) &&& 0x3f).toInt64.toUInt64).toInt64).toInt32).toInt8.toInt32)), (.int (6 : Int32)), (.ref b48)])) rfl rfl (hb hby at_92)
  obtain ⟨f127, hf127⟩ : ∃ fnew : Nat → Int32, fnew = fun i => if i = 6 then ((((x1.toUInt64 >>> ((48 : Int32) &&& 0x3f).toInt64.toUInt64).toInt64).toInt32).toInt8.toInt32).toInt8.toInt32 else f116 i := ⟨_, rfl⟩
  have V126 : own_Arf Z h122 b48 .byte (10 : Int32) f127 := own_Arf.set Ar122 S122 N122 Hs122 W122 rfl hf127
  have Kp128 : Keep h0 h122 [] := Keep.wr Kp117 W122 (Or.inr sb50)
  have Z129 : own_Le n0 h122.size := Nat.le_trans Z118 (Keep.of_wr W122).1
  have N130 := Fr.snoc X122 N119 gb49
  have K131 : ∀ t, Steps p.tables e below (T122.setTop (mkF m 93 #[.val (.long x0), .second, .val (.long x1), .second, .val (.int x2), .val (.int x3), .val (.int x4), .val (.int off_32), .val (.int cnt_32), .val (.ref b48), .unset, .unset] [])) t → Steps p.tables e below (s₁.setTop (entryFrame m #[(.long x0), (.long x1), (.int x2), (.int x3), (.int x4)] maxLocals)) t := fun t k => K121 t (st122 _ k)
  have K132 : ∀ t, Steps p.tables e below (T122.setTop (mkF m 103 #[.val (.long x0), .second, .val (.long x1), .second, .val (.int x2), .val (.int x3), .val (.int x4), .val (.int off_32), .val (.int cnt_32), .val (.ref b48), .unset, .unset] [(.int ((((x1.toUInt64 >>> ((56 : Int32) &&& 0x3f).toInt64.toUInt64).toInt64).toInt32).toInt8.toInt32)), (.int (7 : Int32)), (.ref b48)])) t → Steps p.tables e below (s₁.setTop (entryFrame m #[(.long x0), (.long x1), (.int x2), (.int x3), (.int x4)] maxLocals)) t := fun t k => K131 t (by
    show Steps p.tables e below (T122.setTop (mkF m 93 #[.val (.long x0), .second, .val (.long x1), .second, .val (.int x2), .val (.int x3), .val (.int x4), .val (.int off_32), .val (.int cnt_32), .val (.ref b48), .unset, .unset] [])) t
    refine XS.aload X122.here hx rfl (hb hby at_93) rfl rfl ?_
    show Steps p.tables e below (T122.setTop (mkF m 95 #[.val (.long x0), .second, .val (.long x1), .second, .val (.int x2), .val (.int x3), .val (.int x4), .val (.int off_32), .val (.int cnt_32), .val (.ref b48), .unset, .unset] [(.ref b48)])) t
    refine XS.bipush X122.here hx rfl (hb hby at_95) ?_
    show Steps p.tables e below (T122.setTop (mkF m 97 #[.val (.long x0), .second, .val (.long x1), .second, .val (.int x2), .val (.int x3), .val (.int x4), .val (.int off_32), .val (.int cnt_32), .val (.ref b48), .unset, .unset] [(.int (7 : Int32)), (.ref b48)])) t
    refine XS.lloadN X122.here hx rfl (hb hby at_97) rfl ?_
    show Steps p.tables e below (T122.setTop (mkF m 98 #[.val (.long x0), .second, .val (.long x1), .second, .val (.int x2), .val (.int x3), .val (.int x4), .val (.int off_32), .val (.int cnt_32), .val (.ref b48), .unset, .unset] [(.long x1), (.int (7 : Int32)), (.ref b48)])) t
    refine XS.bipush X122.here hx rfl (hb hby at_98) ?_
    show Steps p.tables e below (T122.setTop (mkF m 100 #[.val (.long x0), .second, .val (.long x1), .second, .val (.int x2), .val (.int x3), .val (.int x4), .val (.int off_32), .val (.int cnt_32), .val (.ref b48), .unset, .unset] [(.int (56 : Int32)), (.long x1), (.int (7 : Int32)), (.ref b48)])) t
    refine XS.lushr X122.here hx rfl (hb hby at_100) rfl ?_
    show Steps p.tables e below (T122.setTop (mkF m 101 #[.val (.long x0), .second, .val (.long x1), .second, .val (.int x2), .val (.int x3), .val (.int x4), .val (.int off_32), .val (.int cnt_32), .val (.ref b48), .unset, .unset] [(.long ((x1.toUInt64 >>> ((56 : Int32) &&& 0x3f).toInt64.toUInt64).toInt64)), (.int (7 : Int32)), (.ref b48)])) t
    refine XS.l2i X122.here hx rfl (hb hby at_101) rfl ?_
    show Steps p.tables e below (T122.setTop (mkF m 102 #[.val (.long x0), .second, .val (.long x1), .second, .val (.int x2), .val (.int x3), .val (.int x4), .val (.int off_32), .val (.int cnt_32), .val (.ref b48), .unset, .unset] [(.int (((x1.toUInt64 >>> ((56 : Int32) &&& 0x3f).toInt64.toUInt64).toInt64).toInt32)), (.int (7 : Int32)), (.ref b48)])) t
    refine XS.i2b X122.here hx rfl (hb hby at_102) rfl ?_
    exact k)
  have q134 : ¬ (7 : Int32) < 0 ∧ (7 : Int32) < (10 : Int32) := by
    have q135 := (by decide : (7 : Int32).toInt = 7)
    have q136 := (by decide : (10 : Int32).toInt = 10)
    rw [Int32.lt_iff_toInt_lt, Int32.lt_iff_toInt_lt]; have q0 : (0 : Int32).toInt = 0 := rfl; omega
  obtain ⟨cl133, Ar133, S133, N133, Hs133⟩ := id V126
  have hin133 : ¬ ((7 : Int32) < 0 ∨ cl133.slots.size ≤ ((7 : Int32)).toNatClampNeg) := inb_of S133 q134
  obtain ⟨T133, h133, X133, e133, W133, st133⟩ := stB X122 hx hZ e122 Ar133 (j := (7 : Int32)) hin133 (g := (mkF m 103 #[.val (.long x0), .second, .val (.long x1), .second, .val (.int x2), .val (.int x3), .val (.int x4), .val (.int off_32), .val (.int cnt_32), .val (.ref b48), .unset, .unset] [(.int ((((x1.toUInt64 >>> ((56 : Int32) &&& 0x3f).toInt64.toUInt64).toInt64).toInt32).toInt8.toInt32)), (.int (7 : Int32)), (.ref b48)])) rfl rfl (hb hby at_103)
  obtain ⟨f138, hf138⟩ : ∃ fnew : Nat → Int32, fnew = fun i => if i = 7 then ((((x1.toUInt64 >>> ((56 : Int32) &&& 0x3f).toInt64.toUInt64).toInt64).toInt32).toInt8.toInt32).toInt8.toInt32 else f127 i := ⟨_, rfl⟩
  have V137 : own_Arf Z h133 b48 .byte (10 : Int32) f138 := own_Arf.set Ar133 S133 N133 Hs133 W133 rfl hf138
  have Kp139 : Keep h0 h133 [] := Keep.wr Kp128 W133 (Or.inr sb50)
  have Z140 : own_Le n0 h133.size := Nat.le_trans Z129 (Keep.of_wr W133).1
  have N141 := Fr.snoc X133 N130 gb49
  have K142 : ∀ t, Steps p.tables e below (T133.setTop (mkF m 104 #[.val (.long x0), .second, .val (.long x1), .second, .val (.int x2), .val (.int x3), .val (.int x4), .val (.int off_32), .val (.int cnt_32), .val (.ref b48), .unset, .unset] [])) t → Steps p.tables e below (s₁.setTop (entryFrame m #[(.long x0), (.long x1), (.int x2), (.int x3), (.int x4)] maxLocals)) t := fun t k => K132 t (st133 _ k)
  have K143 : ∀ t, Steps p.tables e below (T133.setTop (mkF m 111 #[.val (.long x0), .second, .val (.long x1), .second, .val (.int x2), .val (.int x3), .val (.int x4), .val (.int off_32), .val (.int cnt_32), .val (.ref b48), .unset, .unset] [(.int (x2.toInt8.toInt32)), (.int (8 : Int32)), (.ref b48)])) t → Steps p.tables e below (s₁.setTop (entryFrame m #[(.long x0), (.long x1), (.int x2), (.int x3), (.int x4)] maxLocals)) t := fun t k => K142 t (by
    show Steps p.tables e below (T133.setTop (mkF m 104 #[.val (.long x0), .second, .val (.long x1), .second, .val (.int x2), .val (.int x3), .val (.int x4), .val (.int off_32), .val (.int cnt_32), .val (.ref b48), .unset, .unset] [])) t
    refine XS.aload X133.here hx rfl (hb hby at_104) rfl rfl ?_
    show Steps p.tables e below (T133.setTop (mkF m 106 #[.val (.long x0), .second, .val (.long x1), .second, .val (.int x2), .val (.int x3), .val (.int x4), .val (.int off_32), .val (.int cnt_32), .val (.ref b48), .unset, .unset] [(.ref b48)])) t
    refine XS.bipush X133.here hx rfl (hb hby at_106) ?_
    show Steps p.tables e below (T133.setTop (mkF m 108 #[.val (.long x0), .second, .val (.long x1), .second, .val (.int x2), .val (.int x3), .val (.int x4), .val (.int off_32), .val (.int cnt_32), .val (.ref b48), .unset, .unset] [(.int (8 : Int32)), (.ref b48)])) t
    refine XS.iload X133.here hx rfl (hb hby at_108) rfl ?_
    show Steps p.tables e below (T133.setTop (mkF m 110 #[.val (.long x0), .second, .val (.long x1), .second, .val (.int x2), .val (.int x3), .val (.int x4), .val (.int off_32), .val (.int cnt_32), .val (.ref b48), .unset, .unset] [(.int x2), (.int (8 : Int32)), (.ref b48)])) t
    refine XS.i2b X133.here hx rfl (hb hby at_110) rfl ?_
    exact k)
  have q145 : ¬ (8 : Int32) < 0 ∧ (8 : Int32) < (10 : Int32) := by
    have q146 := (by decide : (8 : Int32).toInt = 8)
    have q147 := (by decide : (10 : Int32).toInt = 10)
    rw [Int32.lt_iff_toInt_lt, Int32.lt_iff_toInt_lt]; have q0 : (0 : Int32).toInt = 0 := rfl; omega
  obtain ⟨cl144, Ar144, S144, N144, Hs144⟩ := id V137
  have hin144 : ¬ ((8 : Int32) < 0 ∨ cl144.slots.size ≤ ((8 : Int32)).toNatClampNeg) := inb_of S144 q145
  obtain ⟨T144, h144, X144, e144, W144, st144⟩ := stB X133 hx hZ e133 Ar144 (j := (8 : Int32)) hin144 (g := (mkF m 111 #[.val (.long x0), .second, .val (.long x1), .second, .val (.int x2), .val (.int x3), .val (.int x4), .val (.int off_32), .val (.int cnt_32), .val (.ref b48), .unset, .unset] [(.int (x2.toInt8.toInt32)), (.int (8 : Int32)), (.ref b48)])) rfl rfl (hb hby at_111)
  obtain ⟨f149, hf149⟩ : ∃ fnew : Nat → Int32, fnew = fun i => if i = 8 then (x2.toInt8.toInt32).toInt8.toInt32 else f138 i := ⟨_, rfl⟩
  have V148 : own_Arf Z h144 b48 .byte (10 : Int32) f149 := own_Arf.set Ar144 S144 N144 Hs144 W144 rfl hf149
  have Kp150 : Keep h0 h144 [] := Keep.wr Kp139 W144 (Or.inr sb50)
  have Z151 : own_Le n0 h144.size := Nat.le_trans Z140 (Keep.of_wr W144).1
  have N152 := Fr.snoc X144 N141 gb49
  have K153 : ∀ t, Steps p.tables e below (T144.setTop (mkF m 112 #[.val (.long x0), .second, .val (.long x1), .second, .val (.int x2), .val (.int x3), .val (.int x4), .val (.int off_32), .val (.int cnt_32), .val (.ref b48), .unset, .unset] [])) t → Steps p.tables e below (s₁.setTop (entryFrame m #[(.long x0), (.long x1), (.int x2), (.int x3), (.int x4)] maxLocals)) t := fun t k => K143 t (st144 _ k)
  have K154 : ∀ t, Steps p.tables e below (T144.setTop (mkF m 122 #[.val (.long x0), .second, .val (.long x1), .second, .val (.int x2), .val (.int x3), .val (.int x4), .val (.int off_32), .val (.int cnt_32), .val (.ref b48), .unset, .unset] [(.int (((x2.toUInt32 >>> ((8 : Int32) &&& 31).toUInt32).toInt32).toInt8.toInt32)), (.int (9 : Int32)), (.ref b48)])) t → Steps p.tables e below (s₁.setTop (entryFrame m #[(.long x0), (.long x1), (.int x2), (.int x3), (.int x4)] maxLocals)) t := fun t k => K153 t (by
    show Steps p.tables e below (T144.setTop (mkF m 112 #[.val (.long x0), .second, .val (.long x1), .second, .val (.int x2), .val (.int x3), .val (.int x4), .val (.int off_32), .val (.int cnt_32), .val (.ref b48), .unset, .unset] [])) t
    refine XS.aload X144.here hx rfl (hb hby at_112) rfl rfl ?_
    show Steps p.tables e below (T144.setTop (mkF m 114 #[.val (.long x0), .second, .val (.long x1), .second, .val (.int x2), .val (.int x3), .val (.int x4), .val (.int off_32), .val (.int cnt_32), .val (.ref b48), .unset, .unset] [(.ref b48)])) t
    refine XS.bipush X144.here hx rfl (hb hby at_114) ?_
    show Steps p.tables e below (T144.setTop (mkF m 116 #[.val (.long x0), .second, .val (.long x1), .second, .val (.int x2), .val (.int x3), .val (.int x4), .val (.int off_32), .val (.int cnt_32), .val (.ref b48), .unset, .unset] [(.int (9 : Int32)), (.ref b48)])) t
    refine XS.iload X144.here hx rfl (hb hby at_116) rfl ?_
    show Steps p.tables e below (T144.setTop (mkF m 118 #[.val (.long x0), .second, .val (.long x1), .second, .val (.int x2), .val (.int x3), .val (.int x4), .val (.int off_32), .val (.int cnt_32), .val (.ref b48), .unset, .unset] [(.int x2), (.int (9 : Int32)), (.ref b48)])) t
    refine XS.bipush X144.here hx rfl (hb hby at_118) ?_
    show Steps p.tables e below (T144.setTop (mkF m 120 #[.val (.long x0), .second, .val (.long x1), .second, .val (.int x2), .val (.int x3), .val (.int x4), .val (.int off_32), .val (.int cnt_32), .val (.ref b48), .unset, .unset] [(.int (8 : Int32)), (.int x2), (.int (9 : Int32)), (.ref b48)])) t
    refine XS.iushr X144.here hx rfl (hb hby at_120) rfl ?_
    show Steps p.tables e below (T144.setTop (mkF m 121 #[.val (.long x0), .second, .val (.long x1), .second, .val (.int x2), .val (.int x3), .val (.int x4), .val (.int off_32), .val (.int cnt_32), .val (.ref b48), .unset, .unset] [(.int ((x2.toUInt32 >>> ((8 : Int32) &&& 31).toUInt32).toInt32)), (.int (9 : Int32)), (.ref b48)])) t
    refine XS.i2b X144.here hx rfl (hb hby at_121) rfl ?_
    exact k)
  have q156 : ¬ (9 : Int32) < 0 ∧ (9 : Int32) < (10 : Int32) := by
    have q157 := (by decide : (9 : Int32).toInt = 9)
    have q158 := (by decide : (10 : Int32).toInt = 10)
    rw [Int32.lt_iff_toInt_lt, Int32.lt_iff_toInt_lt]; have q0 : (0 : Int32).toInt = 0 := rfl; omega
  obtain ⟨cl155, Ar155, S155, N155, Hs155⟩ := id V148
  have hin155 : ¬ ((9 : Int32) < 0 ∨ cl155.slots.size ≤ ((9 : Int32)).toNatClampNeg) := inb_of S155 q156
  obtain ⟨T155, h155, X155, e155, W155, st155⟩ := stB X144 hx hZ e144 Ar155 (j := (9 : Int32)) hin155 (g := (mkF m 122 #[.val (.long x0), .second, .val (.long x1), .second, .val (.int x2), .val (.int x3), .val (.int x4), .val (.int off_32), .val (.int cnt_32), .val (.ref b48), .unset, .unset] [(.int (((x2.toUInt32 >>> ((8 : Int32) &&& 31).toUInt32).toInt32).toInt8.toInt32)), (.int (9 : Int32)), (.ref b48)])) rfl rfl (hb hby at_122)
  obtain ⟨f160, hf160⟩ : ∃ fnew : Nat → Int32, fnew = fun i => if i = 9 then (((x2.toUInt32 >>> ((8 : Int32) &&& 31).toUInt32).toInt32).toInt8.toInt32).toInt8.toInt32 else f149 i := ⟨_, rfl⟩
  have V159 : own_Arf Z h155 b48 .byte (10 : Int32) f160 := own_Arf.set Ar155 S155 N155 Hs155 W155 rfl hf160
  have Kp161 : Keep h0 h155 [] := Keep.wr Kp150 W155 (Or.inr sb50)
  have Z162 : own_Le n0 h155.size := Nat.le_trans Z151 (Keep.of_wr W155).1
  have N163 := Fr.snoc X155 N152 gb49
  have K164 : ∀ t, Steps p.tables e below (T155.setTop (mkF m 123 #[.val (.long x0), .second, .val (.long x1), .second, .val (.int x2), .val (.int x3), .val (.int x4), .val (.int off_32), .val (.int cnt_32), .val (.ref b48), .unset, .unset] [])) t → Steps p.tables e below (s₁.setTop (entryFrame m #[(.long x0), (.long x1), (.int x2), (.int x3), (.int x4)] maxLocals)) t := fun t k => K154 t (st155 _ k)
  have K165 : ∀ t, Steps p.tables e below (T155.setTop (mkF m 130 #[.val (.long x0), .second, .val (.long x1), .second, .val (.int x2), .val (.int x3), .val (.int x4), .val (.int off_32), .val (.int cnt_32), .val (.ref b48), .unset, .unset] [(.int ((x0.toInt32).toInt8.toInt32)), (.int off_32), (.ref b48)])) t → Steps p.tables e below (s₁.setTop (entryFrame m #[(.long x0), (.long x1), (.int x2), (.int x3), (.int x4)] maxLocals)) t := fun t k => K164 t (by
    show Steps p.tables e below (T155.setTop (mkF m 123 #[.val (.long x0), .second, .val (.long x1), .second, .val (.int x2), .val (.int x3), .val (.int x4), .val (.int off_32), .val (.int cnt_32), .val (.ref b48), .unset, .unset] [])) t
    refine XS.aload X155.here hx rfl (hb hby at_123) rfl rfl ?_
    show Steps p.tables e below (T155.setTop (mkF m 125 #[.val (.long x0), .second, .val (.long x1), .second, .val (.int x2), .val (.int x3), .val (.int x4), .val (.int off_32), .val (.int cnt_32), .val (.ref b48), .unset, .unset] [(.ref b48)])) t
    refine XS.iload X155.here hx rfl (hb hby at_125) rfl ?_
    show Steps p.tables e below (T155.setTop (mkF m 127 #[.val (.long x0), .second, .val (.long x1), .second, .val (.int x2), .val (.int x3), .val (.int x4), .val (.int off_32), .val (.int cnt_32), .val (.ref b48), .unset, .unset] [(.int off_32), (.ref b48)])) t
    refine XS.lloadN X155.here hx rfl (hb hby at_127) rfl ?_
    show Steps p.tables e below (T155.setTop (mkF m 128 #[.val (.long x0), .second, .val (.long x1), .second, .val (.int x2), .val (.int x3), .val (.int x4), .val (.int off_32), .val (.int cnt_32), .val (.ref b48), .unset, .unset] [(.long x0), (.int off_32), (.ref b48)])) t
    refine XS.l2i X155.here hx rfl (hb hby at_128) rfl ?_
    show Steps p.tables e below (T155.setTop (mkF m 129 #[.val (.long x0), .second, .val (.long x1), .second, .val (.int x2), .val (.int x3), .val (.int x4), .val (.int off_32), .val (.int cnt_32), .val (.ref b48), .unset, .unset] [(.int (x0.toInt32)), (.int off_32), (.ref b48)])) t
    refine XS.i2b X155.here hx rfl (hb hby at_129) rfl ?_
    exact k)
  have q167 : ¬ off_32 < 0 ∧ off_32 < (10 : Int32) := by
    have q168 := rng32 off_32
    have q169 := (by decide : (10 : Int32).toInt = 10)
    rw [Int32.lt_iff_toInt_lt, Int32.lt_iff_toInt_lt]; have q0 : (0 : Int32).toInt = 0 := rfl; omega
  obtain ⟨cl166, Ar166, S166, N166, Hs166⟩ := id V159
  have hin166 : ¬ (off_32 < 0 ∨ cl166.slots.size ≤ (off_32).toNatClampNeg) := inb_of S166 q167
  obtain ⟨T166, h166, X166, e166, W166, st166⟩ := stB X155 hx hZ e155 Ar166 (j := off_32) hin166 (g := (mkF m 130 #[.val (.long x0), .second, .val (.long x1), .second, .val (.int x2), .val (.int x3), .val (.int x4), .val (.int off_32), .val (.int cnt_32), .val (.ref b48), .unset, .unset] [(.int ((x0.toInt32).toInt8.toInt32)), (.int off_32), (.ref b48)])) rfl rfl (hb hby at_130)
  obtain ⟨f171, hf171⟩ : ∃ fnew : Nat → Int32, fnew = fun i => if i = off_32.toNatClampNeg then ((x0.toInt32).toInt8.toInt32).toInt8.toInt32 else f160 i := ⟨_, rfl⟩
  have V170 : own_Arf Z h166 b48 .byte (10 : Int32) f171 := own_Arf.set Ar166 S166 N166 Hs166 W166 rfl hf171
  have Kp172 : Keep h0 h166 [] := Keep.wr Kp161 W166 (Or.inr sb50)
  have Z173 : own_Le n0 h166.size := Nat.le_trans Z162 (Keep.of_wr W166).1
  have N174 := Fr.snoc X166 N163 gb49
  have K175 : ∀ t, Steps p.tables e below (T166.setTop (mkF m 131 #[.val (.long x0), .second, .val (.long x1), .second, .val (.int x2), .val (.int x3), .val (.int x4), .val (.int off_32), .val (.int cnt_32), .val (.ref b48), .unset, .unset] [])) t → Steps p.tables e below (s₁.setTop (entryFrame m #[(.long x0), (.long x1), (.int x2), (.int x3), (.int x4)] maxLocals)) t := fun t k => K165 t (st166 _ k)
  have K176 : ∀ t, Steps p.tables e below (T166.setTop (mkF m 143 #[.val (.long x0), .second, .val (.long x1), .second, .val (.int x2), .val (.int x3), .val (.int x4), .val (.int off_32), .val (.int cnt_32), .val (.ref b48), .unset, .unset] [(.int ((((x0.toUInt64 >>> ((8 : Int32) &&& 0x3f).toInt64.toUInt64).toInt64).toInt32).toInt8.toInt32)), (.int (off_32 + (1 : Int32))), (.ref b48)])) t → Steps p.tables e below (s₁.setTop (entryFrame m #[(.long x0), (.long x1), (.int x2), (.int x3), (.int x4)] maxLocals)) t := fun t k => K175 t (by
    show Steps p.tables e below (T166.setTop (mkF m 131 #[.val (.long x0), .second, .val (.long x1), .second, .val (.int x2), .val (.int x3), .val (.int x4), .val (.int off_32), .val (.int cnt_32), .val (.ref b48), .unset, .unset] [])) t
    refine XS.aload X166.here hx rfl (hb hby at_131) rfl rfl ?_
    show Steps p.tables e below (T166.setTop (mkF m 133 #[.val (.long x0), .second, .val (.long x1), .second, .val (.int x2), .val (.int x3), .val (.int x4), .val (.int off_32), .val (.int cnt_32), .val (.ref b48), .unset, .unset] [(.ref b48)])) t
    refine XS.iload X166.here hx rfl (hb hby at_133) rfl ?_
    show Steps p.tables e below (T166.setTop (mkF m 135 #[.val (.long x0), .second, .val (.long x1), .second, .val (.int x2), .val (.int x3), .val (.int x4), .val (.int off_32), .val (.int cnt_32), .val (.ref b48), .unset, .unset] [(.int off_32), (.ref b48)])) t
    refine XS.iconst X166.here hx rfl (hb hby at_135) ?_
    show Steps p.tables e below (T166.setTop (mkF m 136 #[.val (.long x0), .second, .val (.long x1), .second, .val (.int x2), .val (.int x3), .val (.int x4), .val (.int off_32), .val (.int cnt_32), .val (.ref b48), .unset, .unset] [(.int (1 : Int32)), (.int off_32), (.ref b48)])) t
    refine XS.iadd X166.here hx rfl (hb hby at_136) rfl ?_
    show Steps p.tables e below (T166.setTop (mkF m 137 #[.val (.long x0), .second, .val (.long x1), .second, .val (.int x2), .val (.int x3), .val (.int x4), .val (.int off_32), .val (.int cnt_32), .val (.ref b48), .unset, .unset] [(.int (off_32 + (1 : Int32))), (.ref b48)])) t
    refine XS.lloadN X166.here hx rfl (hb hby at_137) rfl ?_
    show Steps p.tables e below (T166.setTop (mkF m 138 #[.val (.long x0), .second, .val (.long x1), .second, .val (.int x2), .val (.int x3), .val (.int x4), .val (.int off_32), .val (.int cnt_32), .val (.ref b48), .unset, .unset] [(.long x0), (.int (off_32 + (1 : Int32))), (.ref b48)])) t
    refine XS.bipush X166.here hx rfl (hb hby at_138) ?_
    show Steps p.tables e below (T166.setTop (mkF m 140 #[.val (.long x0), .second, .val (.long x1), .second, .val (.int x2), .val (.int x3), .val (.int x4), .val (.int off_32), .val (.int cnt_32), .val (.ref b48), .unset, .unset] [(.int (8 : Int32)), (.long x0), (.int (off_32 + (1 : Int32))), (.ref b48)])) t
    refine XS.lushr X166.here hx rfl (hb hby at_140) rfl ?_
    show Steps p.tables e below (T166.setTop (mkF m 141 #[.val (.long x0), .second, .val (.long x1), .second, .val (.int x2), .val (.int x3), .val (.int x4), .val (.int off_32), .val (.int cnt_32), .val (.ref b48), .unset, .unset] [(.long ((x0.toUInt64 >>> ((8 : Int32) &&& 0x3f).toInt64.toUInt64).toInt64)), (.int (off_32 + (1 : Int32))), (.ref b48)])) t
    refine XS.l2i X166.here hx rfl (hb hby at_141) rfl ?_
    show Steps p.tables e below (T166.setTop (mkF m 142 #[.val (.long x0), .second, .val (.long x1), .second, .val (.int x2), .val (.int x3), .val (.int x4), .val (.int off_32), .val (.int cnt_32), .val (.ref b48), .unset, .unset] [(.int (((x0.toUInt64 >>> ((8 : Int32) &&& 0x3f).toInt64.toUInt64).toInt64).toInt32)), (.int (off_32 + (1 : Int32))), (.ref b48)])) t
    refine XS.i2b X166.here hx rfl (hb hby at_142) rfl ?_
    exact k)
  have q178 : ¬ (off_32 + (1 : Int32)) < 0 ∧ (off_32 + (1 : Int32)) < (10 : Int32) := by
    have q179 := rng32 off_32
    have q180 := (by decide : (1 : Int32).toInt = 1)
    have q181 := c_iadd off_32 (1 : Int32)
    have q182 := rng32 (off_32 + (1 : Int32))
    have q183 := (by decide : (10 : Int32).toInt = 10)
    rw [Int32.lt_iff_toInt_lt, Int32.lt_iff_toInt_lt]; have q0 : (0 : Int32).toInt = 0 := rfl; omega
  obtain ⟨cl177, Ar177, S177, N177, Hs177⟩ := id V170
  have hin177 : ¬ ((off_32 + (1 : Int32)) < 0 ∨ cl177.slots.size ≤ ((off_32 + (1 : Int32))).toNatClampNeg) := inb_of S177 q178
  obtain ⟨T177, h177, X177, e177, W177, st177⟩ := stB X166 hx hZ e166 Ar177 (j := (off_32 + (1 : Int32))) hin177 (g := (mkF m 143 #[.val (.long x0), .second, .val (.long x1), .second, .val (.int x2), .val (.int x3), .val (.int x4), .val (.int off_32), .val (.int cnt_32), .val (.ref b48), .unset, .unset] [(.int ((((x0.toUInt64 >>> ((8 : Int32) &&& 0x3f).toInt64.toUInt64).toInt64).toInt32).toInt8.toInt32)), (.int (off_32 + (1 : Int32))), (.ref b48)])) rfl rfl (hb hby at_143)
  obtain ⟨f185, hf185⟩ : ∃ fnew : Nat → Int32, fnew = fun i => if i = (off_32 + (1 : Int32)).toNatClampNeg then ((((x0.toUInt64 >>> ((8 : Int32) &&& 0x3f).toInt64.toUInt64).toInt64).toInt32).toInt8.toInt32).toInt8.toInt32 else f171 i := ⟨_, rfl⟩
  have V184 : own_Arf Z h177 b48 .byte (10 : Int32) f185 := own_Arf.set Ar177 S177 N177 Hs177 W177 rfl hf185
  have Kp186 : Keep h0 h177 [] := Keep.wr Kp172 W177 (Or.inr sb50)
  have Z187 : own_Le n0 h177.size := Nat.le_trans Z173 (Keep.of_wr W177).1
  have N188 := Fr.snoc X177 N174 gb49
  have K189 : ∀ t, Steps p.tables e below (T177.setTop (mkF m 144 #[.val (.long x0), .second, .val (.long x1), .second, .val (.int x2), .val (.int x3), .val (.int x4), .val (.int off_32), .val (.int cnt_32), .val (.ref b48), .unset, .unset] [])) t → Steps p.tables e below (s₁.setTop (entryFrame m #[(.long x0), (.long x1), (.int x2), (.int x3), (.int x4)] maxLocals)) t := fun t k => K176 t (st177 _ k)
  have K190 : ∀ t, Steps p.tables e below (T177.setTop (mkF m 156 #[.val (.long x0), .second, .val (.long x1), .second, .val (.int x2), .val (.int x3), .val (.int x4), .val (.int off_32), .val (.int cnt_32), .val (.ref b48), .unset, .unset] [(.int ((((x0.toUInt64 >>> ((16 : Int32) &&& 0x3f).toInt64.toUInt64).toInt64).toInt32).toInt8.toInt32)), (.int (off_32 + (2 : Int32))), (.ref b48)])) t → Steps p.tables e below (s₁.setTop (entryFrame m #[(.long x0), (.long x1), (.int x2), (.int x3), (.int x4)] maxLocals)) t := fun t k => K189 t (by
    show Steps p.tables e below (T177.setTop (mkF m 144 #[.val (.long x0), .second, .val (.long x1), .second, .val (.int x2), .val (.int x3), .val (.int x4), .val (.int off_32), .val (.int cnt_32), .val (.ref b48), .unset, .unset] [])) t
    refine XS.aload X177.here hx rfl (hb hby at_144) rfl rfl ?_
    show Steps p.tables e below (T177.setTop (mkF m 146 #[.val (.long x0), .second, .val (.long x1), .second, .val (.int x2), .val (.int x3), .val (.int x4), .val (.int off_32), .val (.int cnt_32), .val (.ref b48), .unset, .unset] [(.ref b48)])) t
    refine XS.iload X177.here hx rfl (hb hby at_146) rfl ?_
    show Steps p.tables e below (T177.setTop (mkF m 148 #[.val (.long x0), .second, .val (.long x1), .second, .val (.int x2), .val (.int x3), .val (.int x4), .val (.int off_32), .val (.int cnt_32), .val (.ref b48), .unset, .unset] [(.int off_32), (.ref b48)])) t
    refine XS.iconst X177.here hx rfl (hb hby at_148) ?_
    show Steps p.tables e below (T177.setTop (mkF m 149 #[.val (.long x0), .second, .val (.long x1), .second, .val (.int x2), .val (.int x3), .val (.int x4), .val (.int off_32), .val (.int cnt_32), .val (.ref b48), .unset, .unset] [(.int (2 : Int32)), (.int off_32), (.ref b48)])) t
    refine XS.iadd X177.here hx rfl (hb hby at_149) rfl ?_
    show Steps p.tables e below (T177.setTop (mkF m 150 #[.val (.long x0), .second, .val (.long x1), .second, .val (.int x2), .val (.int x3), .val (.int x4), .val (.int off_32), .val (.int cnt_32), .val (.ref b48), .unset, .unset] [(.int (off_32 + (2 : Int32))), (.ref b48)])) t
    refine XS.lloadN X177.here hx rfl (hb hby at_150) rfl ?_
    show Steps p.tables e below (T177.setTop (mkF m 151 #[.val (.long x0), .second, .val (.long x1), .second, .val (.int x2), .val (.int x3), .val (.int x4), .val (.int off_32), .val (.int cnt_32), .val (.ref b48), .unset, .unset] [(.long x0), (.int (off_32 + (2 : Int32))), (.ref b48)])) t
    refine XS.bipush X177.here hx rfl (hb hby at_151) ?_
    show Steps p.tables e below (T177.setTop (mkF m 153 #[.val (.long x0), .second, .val (.long x1), .second, .val (.int x2), .val (.int x3), .val (.int x4), .val (.int off_32), .val (.int cnt_32), .val (.ref b48), .unset, .unset] [(.int (16 : Int32)), (.long x0), (.int (off_32 + (2 : Int32))), (.ref b48)])) t
    refine XS.lushr X177.here hx rfl (hb hby at_153) rfl ?_
    show Steps p.tables e below (T177.setTop (mkF m 154 #[.val (.long x0), .second, .val (.long x1), .second, .val (.int x2), .val (.int x3), .val (.int x4), .val (.int off_32), .val (.int cnt_32), .val (.ref b48), .unset, .unset] [(.long ((x0.toUInt64 >>> ((16 : Int32) &&& 0x3f).toInt64.toUInt64).toInt64)), (.int (off_32 + (2 : Int32))), (.ref b48)])) t
    refine XS.l2i X177.here hx rfl (hb hby at_154) rfl ?_
    show Steps p.tables e below (T177.setTop (mkF m 155 #[.val (.long x0), .second, .val (.long x1), .second, .val (.int x2), .val (.int x3), .val (.int x4), .val (.int off_32), .val (.int cnt_32), .val (.ref b48), .unset, .unset] [(.int (((x0.toUInt64 >>> ((16 : Int32) &&& 0x3f).toInt64.toUInt64).toInt64).toInt32)), (.int (off_32 + (2 : Int32))), (.ref b48)])) t
    refine XS.i2b X177.here hx rfl (hb hby at_155) rfl ?_
    exact k)
  have q192 : ¬ (off_32 + (2 : Int32)) < 0 ∧ (off_32 + (2 : Int32)) < (10 : Int32) := by
    have q193 := rng32 off_32
    have q194 := (by decide : (2 : Int32).toInt = 2)
    have q195 := c_iadd off_32 (2 : Int32)
    have q196 := rng32 (off_32 + (2 : Int32))
    have q197 := (by decide : (10 : Int32).toInt = 10)
    rw [Int32.lt_iff_toInt_lt, Int32.lt_iff_toInt_lt]; have q0 : (0 : Int32).toInt = 0 := rfl; omega
  obtain ⟨cl191, Ar191, S191, N191, Hs191⟩ := id V184
  have hin191 : ¬ ((off_32 + (2 : Int32)) < 0 ∨ cl191.slots.size ≤ ((off_32 + (2 : Int32))).toNatClampNeg) := inb_of S191 q192
  obtain ⟨T191, h191, X191, e191, W191, st191⟩ := stB X177 hx hZ e177 Ar191 (j := (off_32 + (2 : Int32))) hin191 (g := (mkF m 156 #[.val (.long x0), .second, .val (.long x1), .second, .val (.int x2), .val (.int x3), .val (.int x4), .val (.int off_32), .val (.int cnt_32), .val (.ref b48), .unset, .unset] [(.int ((((x0.toUInt64 >>> ((16 : Int32) &&& 0x3f).toInt64.toUInt64).toInt64).toInt32).toInt8.toInt32)), (.int (off_32 + (2 : Int32))), (.ref b48)])) rfl rfl (hb hby at_156)
  obtain ⟨f199, hf199⟩ : ∃ fnew : Nat → Int32, fnew = fun i => if i = (off_32 + (2 : Int32)).toNatClampNeg then ((((x0.toUInt64 >>> ((16 : Int32) &&& 0x3f).toInt64.toUInt64).toInt64).toInt32).toInt8.toInt32).toInt8.toInt32 else f185 i := ⟨_, rfl⟩
  have V198 : own_Arf Z h191 b48 .byte (10 : Int32) f199 := own_Arf.set Ar191 S191 N191 Hs191 W191 rfl hf199
  have Kp200 : Keep h0 h191 [] := Keep.wr Kp186 W191 (Or.inr sb50)
  have Z201 : own_Le n0 h191.size := Nat.le_trans Z187 (Keep.of_wr W191).1
  have N202 := Fr.snoc X191 N188 gb49
  have K203 : ∀ t, Steps p.tables e below (T191.setTop (mkF m 157 #[.val (.long x0), .second, .val (.long x1), .second, .val (.int x2), .val (.int x3), .val (.int x4), .val (.int off_32), .val (.int cnt_32), .val (.ref b48), .unset, .unset] [])) t → Steps p.tables e below (s₁.setTop (entryFrame m #[(.long x0), (.long x1), (.int x2), (.int x3), (.int x4)] maxLocals)) t := fun t k => K190 t (st191 _ k)
  have K204 : ∀ t, Steps p.tables e below (T191.setTop (mkF m 169 #[.val (.long x0), .second, .val (.long x1), .second, .val (.int x2), .val (.int x3), .val (.int x4), .val (.int off_32), .val (.int cnt_32), .val (.ref b48), .unset, .unset] [(.int ((((x0.toUInt64 >>> ((24 : Int32) &&& 0x3f).toInt64.toUInt64).toInt64).toInt32).toInt8.toInt32)), (.int (off_32 + (3 : Int32))), (.ref b48)])) t → Steps p.tables e below (s₁.setTop (entryFrame m #[(.long x0), (.long x1), (.int x2), (.int x3), (.int x4)] maxLocals)) t := fun t k => K203 t (by
    show Steps p.tables e below (T191.setTop (mkF m 157 #[.val (.long x0), .second, .val (.long x1), .second, .val (.int x2), .val (.int x3), .val (.int x4), .val (.int off_32), .val (.int cnt_32), .val (.ref b48), .unset, .unset] [])) t
    refine XS.aload X191.here hx rfl (hb hby at_157) rfl rfl ?_
    show Steps p.tables e below (T191.setTop (mkF m 159 #[.val (.long x0), .second, .val (.long x1), .second, .val (.int x2), .val (.int x3), .val (.int x4), .val (.int off_32), .val (.int cnt_32), .val (.ref b48), .unset, .unset] [(.ref b48)])) t
    refine XS.iload X191.here hx rfl (hb hby at_159) rfl ?_
    show Steps p.tables e below (T191.setTop (mkF m 161 #[.val (.long x0), .second, .val (.long x1), .second, .val (.int x2), .val (.int x3), .val (.int x4), .val (.int off_32), .val (.int cnt_32), .val (.ref b48), .unset, .unset] [(.int off_32), (.ref b48)])) t
    refine XS.iconst X191.here hx rfl (hb hby at_161) ?_
    show Steps p.tables e below (T191.setTop (mkF m 162 #[.val (.long x0), .second, .val (.long x1), .second, .val (.int x2), .val (.int x3), .val (.int x4), .val (.int off_32), .val (.int cnt_32), .val (.ref b48), .unset, .unset] [(.int (3 : Int32)), (.int off_32), (.ref b48)])) t
    refine XS.iadd X191.here hx rfl (hb hby at_162) rfl ?_
    show Steps p.tables e below (T191.setTop (mkF m 163 #[.val (.long x0), .second, .val (.long x1), .second, .val (.int x2), .val (.int x3), .val (.int x4), .val (.int off_32), .val (.int cnt_32), .val (.ref b48), .unset, .unset] [(.int (off_32 + (3 : Int32))), (.ref b48)])) t
    refine XS.lloadN X191.here hx rfl (hb hby at_163) rfl ?_
    show Steps p.tables e below (T191.setTop (mkF m 164 #[.val (.long x0), .second, .val (.long x1), .second, .val (.int x2), .val (.int x3), .val (.int x4), .val (.int off_32), .val (.int cnt_32), .val (.ref b48), .unset, .unset] [(.long x0), (.int (off_32 + (3 : Int32))), (.ref b48)])) t
    refine XS.bipush X191.here hx rfl (hb hby at_164) ?_
    show Steps p.tables e below (T191.setTop (mkF m 166 #[.val (.long x0), .second, .val (.long x1), .second, .val (.int x2), .val (.int x3), .val (.int x4), .val (.int off_32), .val (.int cnt_32), .val (.ref b48), .unset, .unset] [(.int (24 : Int32)), (.long x0), (.int (off_32 + (3 : Int32))), (.ref b48)])) t
    refine XS.lushr X191.here hx rfl (hb hby at_166) rfl ?_
    show Steps p.tables e below (T191.setTop (mkF m 167 #[.val (.long x0), .second, .val (.long x1), .second, .val (.int x2), .val (.int x3), .val (.int x4), .val (.int off_32), .val (.int cnt_32), .val (.ref b48), .unset, .unset] [(.long ((x0.toUInt64 >>> ((24 : Int32) &&& 0x3f).toInt64.toUInt64).toInt64)), (.int (off_32 + (3 : Int32))), (.ref b48)])) t
    refine XS.l2i X191.here hx rfl (hb hby at_167) rfl ?_
    show Steps p.tables e below (T191.setTop (mkF m 168 #[.val (.long x0), .second, .val (.long x1), .second, .val (.int x2), .val (.int x3), .val (.int x4), .val (.int off_32), .val (.int cnt_32), .val (.ref b48), .unset, .unset] [(.int (((x0.toUInt64 >>> ((24 : Int32) &&& 0x3f).toInt64.toUInt64).toInt64).toInt32)), (.int (off_32 + (3 : Int32))), (.ref b48)])) t
    refine XS.i2b X191.here hx rfl (hb hby at_168) rfl ?_
    exact k)
  have q206 : ¬ (off_32 + (3 : Int32)) < 0 ∧ (off_32 + (3 : Int32)) < (10 : Int32) := by
    have q207 := rng32 off_32
    have q208 := (by decide : (3 : Int32).toInt = 3)
    have q209 := c_iadd off_32 (3 : Int32)
    have q210 := rng32 (off_32 + (3 : Int32))
    have q211 := (by decide : (10 : Int32).toInt = 10)
    rw [Int32.lt_iff_toInt_lt, Int32.lt_iff_toInt_lt]; have q0 : (0 : Int32).toInt = 0 := rfl; omega
  obtain ⟨cl205, Ar205, S205, N205, Hs205⟩ := id V198
  have hin205 : ¬ ((off_32 + (3 : Int32)) < 0 ∨ cl205.slots.size ≤ ((off_32 + (3 : Int32))).toNatClampNeg) := inb_of S205 q206
  obtain ⟨T205, h205, X205, e205, W205, st205⟩ := stB X191 hx hZ e191 Ar205 (j := (off_32 + (3 : Int32))) hin205 (g := (mkF m 169 #[.val (.long x0), .second, .val (.long x1), .second, .val (.int x2), .val (.int x3), .val (.int x4), .val (.int off_32), .val (.int cnt_32), .val (.ref b48), .unset, .unset] [(.int ((((x0.toUInt64 >>> ((24 : Int32) &&& 0x3f).toInt64.toUInt64).toInt64).toInt32).toInt8.toInt32)), (.int (off_32 + (3 : Int32))), (.ref b48)])) rfl rfl (hb hby at_169)
  obtain ⟨f213, hf213⟩ : ∃ fnew : Nat → Int32, fnew = fun i => if i = (off_32 + (3 : Int32)).toNatClampNeg then ((((x0.toUInt64 >>> ((24 : Int32) &&& 0x3f).toInt64.toUInt64).toInt64).toInt32).toInt8.toInt32).toInt8.toInt32 else f199 i := ⟨_, rfl⟩
  have V212 : own_Arf Z h205 b48 .byte (10 : Int32) f213 := own_Arf.set Ar205 S205 N205 Hs205 W205 rfl hf213
  have Kp214 : Keep h0 h205 [] := Keep.wr Kp200 W205 (Or.inr sb50)
  have Z215 : own_Le n0 h205.size := Nat.le_trans Z201 (Keep.of_wr W205).1
  have N216 := Fr.snoc X205 N202 gb49
  have K217 : ∀ t, Steps p.tables e below (T205.setTop (mkF m 170 #[.val (.long x0), .second, .val (.long x1), .second, .val (.int x2), .val (.int x3), .val (.int x4), .val (.int off_32), .val (.int cnt_32), .val (.ref b48), .unset, .unset] [])) t → Steps p.tables e below (s₁.setTop (entryFrame m #[(.long x0), (.long x1), (.int x2), (.int x3), (.int x4)] maxLocals)) t := fun t k => K204 t (st205 _ k)
  have K218 : ∀ t, Steps p.tables e below (T205.setTop (mkF m 182 #[.val (.long x0), .second, .val (.long x1), .second, .val (.int x2), .val (.int x3), .val (.int x4), .val (.int off_32), .val (.int cnt_32), .val (.ref b48), .unset, .unset] [(.int ((((x0.toUInt64 >>> ((32 : Int32) &&& 0x3f).toInt64.toUInt64).toInt64).toInt32).toInt8.toInt32)), (.int (off_32 + (4 : Int32))), (.ref b48)])) t → Steps p.tables e below (s₁.setTop (entryFrame m #[(.long x0), (.long x1), (.int x2), (.int x3), (.int x4)] maxLocals)) t := fun t k => K217 t (by
    show Steps p.tables e below (T205.setTop (mkF m 170 #[.val (.long x0), .second, .val (.long x1), .second, .val (.int x2), .val (.int x3), .val (.int x4), .val (.int off_32), .val (.int cnt_32), .val (.ref b48), .unset, .unset] [])) t
    refine XS.aload X205.here hx rfl (hb hby at_170) rfl rfl ?_
    show Steps p.tables e below (T205.setTop (mkF m 172 #[.val (.long x0), .second, .val (.long x1), .second, .val (.int x2), .val (.int x3), .val (.int x4), .val (.int off_32), .val (.int cnt_32), .val (.ref b48), .unset, .unset] [(.ref b48)])) t
    refine XS.iload X205.here hx rfl (hb hby at_172) rfl ?_
    show Steps p.tables e below (T205.setTop (mkF m 174 #[.val (.long x0), .second, .val (.long x1), .second, .val (.int x2), .val (.int x3), .val (.int x4), .val (.int off_32), .val (.int cnt_32), .val (.ref b48), .unset, .unset] [(.int off_32), (.ref b48)])) t
    refine XS.iconst X205.here hx rfl (hb hby at_174) ?_
    show Steps p.tables e below (T205.setTop (mkF m 175 #[.val (.long x0), .second, .val (.long x1), .second, .val (.int x2), .val (.int x3), .val (.int x4), .val (.int off_32), .val (.int cnt_32), .val (.ref b48), .unset, .unset] [(.int (4 : Int32)), (.int off_32), (.ref b48)])) t
    refine XS.iadd X205.here hx rfl (hb hby at_175) rfl ?_
    show Steps p.tables e below (T205.setTop (mkF m 176 #[.val (.long x0), .second, .val (.long x1), .second, .val (.int x2), .val (.int x3), .val (.int x4), .val (.int off_32), .val (.int cnt_32), .val (.ref b48), .unset, .unset] [(.int (off_32 + (4 : Int32))), (.ref b48)])) t
    refine XS.lloadN X205.here hx rfl (hb hby at_176) rfl ?_
    show Steps p.tables e below (T205.setTop (mkF m 177 #[.val (.long x0), .second, .val (.long x1), .second, .val (.int x2), .val (.int x3), .val (.int x4), .val (.int off_32), .val (.int cnt_32), .val (.ref b48), .unset, .unset] [(.long x0), (.int (off_32 + (4 : Int32))), (.ref b48)])) t
    refine XS.bipush X205.here hx rfl (hb hby at_177) ?_
    show Steps p.tables e below (T205.setTop (mkF m 179 #[.val (.long x0), .second, .val (.long x1), .second, .val (.int x2), .val (.int x3), .val (.int x4), .val (.int off_32), .val (.int cnt_32), .val (.ref b48), .unset, .unset] [(.int (32 : Int32)), (.long x0), (.int (off_32 + (4 : Int32))), (.ref b48)])) t
    refine XS.lushr X205.here hx rfl (hb hby at_179) rfl ?_
    show Steps p.tables e below (T205.setTop (mkF m 180 #[.val (.long x0), .second, .val (.long x1), .second, .val (.int x2), .val (.int x3), .val (.int x4), .val (.int off_32), .val (.int cnt_32), .val (.ref b48), .unset, .unset] [(.long ((x0.toUInt64 >>> ((32 : Int32) &&& 0x3f).toInt64.toUInt64).toInt64)), (.int (off_32 + (4 : Int32))), (.ref b48)])) t
    refine XS.l2i X205.here hx rfl (hb hby at_180) rfl ?_
    show Steps p.tables e below (T205.setTop (mkF m 181 #[.val (.long x0), .second, .val (.long x1), .second, .val (.int x2), .val (.int x3), .val (.int x4), .val (.int off_32), .val (.int cnt_32), .val (.ref b48), .unset, .unset] [(.int (((x0.toUInt64 >>> ((32 : Int32) &&& 0x3f).toInt64.toUInt64).toInt64).toInt32)), (.int (off_32 + (4 : Int32))), (.ref b48)])) t
    refine XS.i2b X205.here hx rfl (hb hby at_181) rfl ?_
    exact k)
  have q220 : ¬ (off_32 + (4 : Int32)) < 0 ∧ (off_32 + (4 : Int32)) < (10 : Int32) := by
    have q221 := rng32 off_32
    have q222 := (by decide : (4 : Int32).toInt = 4)
    have q223 := c_iadd off_32 (4 : Int32)
    have q224 := rng32 (off_32 + (4 : Int32))
    have q225 := (by decide : (10 : Int32).toInt = 10)
    rw [Int32.lt_iff_toInt_lt, Int32.lt_iff_toInt_lt]; have q0 : (0 : Int32).toInt = 0 := rfl; omega
  obtain ⟨cl219, Ar219, S219, N219, Hs219⟩ := id V212
  have hin219 : ¬ ((off_32 + (4 : Int32)) < 0 ∨ cl219.slots.size ≤ ((off_32 + (4 : Int32))).toNatClampNeg) := inb_of S219 q220
  obtain ⟨T219, h219, X219, e219, W219, st219⟩ := stB X205 hx hZ e205 Ar219 (j := (off_32 + (4 : Int32))) hin219 (g := (mkF m 182 #[.val (.long x0), .second, .val (.long x1), .second, .val (.int x2), .val (.int x3), .val (.int x4), .val (.int off_32), .val (.int cnt_32), .val (.ref b48), .unset, .unset] [(.int ((((x0.toUInt64 >>> ((32 : Int32) &&& 0x3f).toInt64.toUInt64).toInt64).toInt32).toInt8.toInt32)), (.int (off_32 + (4 : Int32))), (.ref b48)])) rfl rfl (hb hby at_182)
  obtain ⟨f227, hf227⟩ : ∃ fnew : Nat → Int32, fnew = fun i => if i = (off_32 + (4 : Int32)).toNatClampNeg then ((((x0.toUInt64 >>> ((32 : Int32) &&& 0x3f).toInt64.toUInt64).toInt64).toInt32).toInt8.toInt32).toInt8.toInt32 else f213 i := ⟨_, rfl⟩
  have V226 : own_Arf Z h219 b48 .byte (10 : Int32) f227 := own_Arf.set Ar219 S219 N219 Hs219 W219 rfl hf227
  have Kp228 : Keep h0 h219 [] := Keep.wr Kp214 W219 (Or.inr sb50)
  have Z229 : own_Le n0 h219.size := Nat.le_trans Z215 (Keep.of_wr W219).1
  have N230 := Fr.snoc X219 N216 gb49
  have K231 : ∀ t, Steps p.tables e below (T219.setTop (mkF m 183 #[.val (.long x0), .second, .val (.long x1), .second, .val (.int x2), .val (.int x3), .val (.int x4), .val (.int off_32), .val (.int cnt_32), .val (.ref b48), .unset, .unset] [])) t → Steps p.tables e below (s₁.setTop (entryFrame m #[(.long x0), (.long x1), (.int x2), (.int x3), (.int x4)] maxLocals)) t := fun t k => K218 t (st219 _ k)
  have K232 : ∀ t, Steps p.tables e below (T219.setTop (mkF m 195 #[.val (.long x0), .second, .val (.long x1), .second, .val (.int x2), .val (.int x3), .val (.int x4), .val (.int off_32), .val (.int cnt_32), .val (.ref b48), .unset, .unset] [(.int ((((x0.toUInt64 >>> ((40 : Int32) &&& 0x3f).toInt64.toUInt64).toInt64).toInt32).toInt8.toInt32)), (.int (off_32 + (5 : Int32))), (.ref b48)])) t → Steps p.tables e below (s₁.setTop (entryFrame m #[(.long x0), (.long x1), (.int x2), (.int x3), (.int x4)] maxLocals)) t := fun t k => K231 t (by
    show Steps p.tables e below (T219.setTop (mkF m 183 #[.val (.long x0), .second, .val (.long x1), .second, .val (.int x2), .val (.int x3), .val (.int x4), .val (.int off_32), .val (.int cnt_32), .val (.ref b48), .unset, .unset] [])) t
    refine XS.aload X219.here hx rfl (hb hby at_183) rfl rfl ?_
    show Steps p.tables e below (T219.setTop (mkF m 185 #[.val (.long x0), .second, .val (.long x1), .second, .val (.int x2), .val (.int x3), .val (.int x4), .val (.int off_32), .val (.int cnt_32), .val (.ref b48), .unset, .unset] [(.ref b48)])) t
    refine XS.iload X219.here hx rfl (hb hby at_185) rfl ?_
    show Steps p.tables e below (T219.setTop (mkF m 187 #[.val (.long x0), .second, .val (.long x1), .second, .val (.int x2), .val (.int x3), .val (.int x4), .val (.int off_32), .val (.int cnt_32), .val (.ref b48), .unset, .unset] [(.int off_32), (.ref b48)])) t
    refine XS.iconst X219.here hx rfl (hb hby at_187) ?_
    show Steps p.tables e below (T219.setTop (mkF m 188 #[.val (.long x0), .second, .val (.long x1), .second, .val (.int x2), .val (.int x3), .val (.int x4), .val (.int off_32), .val (.int cnt_32), .val (.ref b48), .unset, .unset] [(.int (5 : Int32)), (.int off_32), (.ref b48)])) t
    refine XS.iadd X219.here hx rfl (hb hby at_188) rfl ?_
    show Steps p.tables e below (T219.setTop (mkF m 189 #[.val (.long x0), .second, .val (.long x1), .second, .val (.int x2), .val (.int x3), .val (.int x4), .val (.int off_32), .val (.int cnt_32), .val (.ref b48), .unset, .unset] [(.int (off_32 + (5 : Int32))), (.ref b48)])) t
    refine XS.lloadN X219.here hx rfl (hb hby at_189) rfl ?_
    show Steps p.tables e below (T219.setTop (mkF m 190 #[.val (.long x0), .second, .val (.long x1), .second, .val (.int x2), .val (.int x3), .val (.int x4), .val (.int off_32), .val (.int cnt_32), .val (.ref b48), .unset, .unset] [(.long x0), (.int (off_32 + (5 : Int32))), (.ref b48)])) t
    refine XS.bipush X219.here hx rfl (hb hby at_190) ?_
    show Steps p.tables e below (T219.setTop (mkF m 192 #[.val (.long x0), .second, .val (.long x1), .second, .val (.int x2), .val (.int x3), .val (.int x4), .val (.int off_32), .val (.int cnt_32), .val (.ref b48), .unset, .unset] [(.int (40 : Int32)), (.long x0), (.int (off_32 + (5 : Int32))), (.ref b48)])) t
    refine XS.lushr X219.here hx rfl (hb hby at_192) rfl ?_
    show Steps p.tables e below (T219.setTop (mkF m 193 #[.val (.long x0), .second, .val (.long x1), .second, .val (.int x2), .val (.int x3), .val (.int x4), .val (.int off_32), .val (.int cnt_32), .val (.ref b48), .unset, .unset] [(.long ((x0.toUInt64 >>> ((40 : Int32) &&& 0x3f).toInt64.toUInt64).toInt64)), (.int (off_32 + (5 : Int32))), (.ref b48)])) t
    refine XS.l2i X219.here hx rfl (hb hby at_193) rfl ?_
    show Steps p.tables e below (T219.setTop (mkF m 194 #[.val (.long x0), .second, .val (.long x1), .second, .val (.int x2), .val (.int x3), .val (.int x4), .val (.int off_32), .val (.int cnt_32), .val (.ref b48), .unset, .unset] [(.int (((x0.toUInt64 >>> ((40 : Int32) &&& 0x3f).toInt64.toUInt64).toInt64).toInt32)), (.int (off_32 + (5 : Int32))), (.ref b48)])) t
    refine XS.i2b X219.here hx rfl (hb hby at_194) rfl ?_
    exact k)
  have q234 : ¬ (off_32 + (5 : Int32)) < 0 ∧ (off_32 + (5 : Int32)) < (10 : Int32) := by
    have q235 := rng32 off_32
    have q236 := (by decide : (5 : Int32).toInt = 5)
    have q237 := c_iadd off_32 (5 : Int32)
    have q238 := rng32 (off_32 + (5 : Int32))
    have q239 := (by decide : (10 : Int32).toInt = 10)
    rw [Int32.lt_iff_toInt_lt, Int32.lt_iff_toInt_lt]; have q0 : (0 : Int32).toInt = 0 := rfl; omega
  obtain ⟨cl233, Ar233, S233, N233, Hs233⟩ := id V226
  have hin233 : ¬ ((off_32 + (5 : Int32)) < 0 ∨ cl233.slots.size ≤ ((off_32 + (5 : Int32))).toNatClampNeg) := inb_of S233 q234
  obtain ⟨T233, h233, X233, e233, W233, st233⟩ := stB X219 hx hZ e219 Ar233 (j := (off_32 + (5 : Int32))) hin233 (g := (mkF m 195 #[.val (.long x0), .second, .val (.long x1), .second, .val (.int x2), .val (.int x3), .val (.int x4), .val (.int off_32), .val (.int cnt_32), .val (.ref b48), .unset, .unset] [(.int ((((x0.toUInt64 >>> ((40 : Int32) &&& 0x3f).toInt64.toUInt64).toInt64).toInt32).toInt8.toInt32)), (.int (off_32 + (5 : Int32))), (.ref b48)])) rfl rfl (hb hby at_195)
  obtain ⟨f241, hf241⟩ : ∃ fnew : Nat → Int32, fnew = fun i => if i = (off_32 + (5 : Int32)).toNatClampNeg then ((((x0.toUInt64 >>> ((40 : Int32) &&& 0x3f).toInt64.toUInt64).toInt64).toInt32).toInt8.toInt32).toInt8.toInt32 else f227 i := ⟨_, rfl⟩
  have V240 : own_Arf Z h233 b48 .byte (10 : Int32) f241 := own_Arf.set Ar233 S233 N233 Hs233 W233 rfl hf241
  have Kp242 : Keep h0 h233 [] := Keep.wr Kp228 W233 (Or.inr sb50)
  have Z243 : own_Le n0 h233.size := Nat.le_trans Z229 (Keep.of_wr W233).1
  have N244 := Fr.snoc X233 N230 gb49
  have K245 : ∀ t, Steps p.tables e below (T233.setTop (mkF m 196 #[.val (.long x0), .second, .val (.long x1), .second, .val (.int x2), .val (.int x3), .val (.int x4), .val (.int off_32), .val (.int cnt_32), .val (.ref b48), .unset, .unset] [])) t → Steps p.tables e below (s₁.setTop (entryFrame m #[(.long x0), (.long x1), (.int x2), (.int x3), (.int x4)] maxLocals)) t := fun t k => K232 t (st233 _ k)
  have K246 : ∀ t, Steps p.tables e below (T233.setTop (mkF m 209 #[.val (.long x0), .second, .val (.long x1), .second, .val (.int x2), .val (.int x3), .val (.int x4), .val (.int off_32), .val (.int cnt_32), .val (.ref b48), .unset, .unset] [(.int ((((x0.toUInt64 >>> ((48 : Int32) &&& 0x3f).toInt64.toUInt64).toInt64).toInt32).toInt8.toInt32)), (.int (off_32 + (6 : Int32))), (.ref b48)])) t → Steps p.tables e below (s₁.setTop (entryFrame m #[(.long x0), (.long x1), (.int x2), (.int x3), (.int x4)] maxLocals)) t := fun t k => K245 t (by
    show Steps p.tables e below (T233.setTop (mkF m 196 #[.val (.long x0), .second, .val (.long x1), .second, .val (.int x2), .val (.int x3), .val (.int x4), .val (.int off_32), .val (.int cnt_32), .val (.ref b48), .unset, .unset] [])) t
    refine XS.aload X233.here hx rfl (hb hby at_196) rfl rfl ?_
    show Steps p.tables e below (T233.setTop (mkF m 198 #[.val (.long x0), .second, .val (.long x1), .second, .val (.int x2), .val (.int x3), .val (.int x4), .val (.int off_32), .val (.int cnt_32), .val (.ref b48), .unset, .unset] [(.ref b48)])) t
    refine XS.iload X233.here hx rfl (hb hby at_198) rfl ?_
    show Steps p.tables e below (T233.setTop (mkF m 200 #[.val (.long x0), .second, .val (.long x1), .second, .val (.int x2), .val (.int x3), .val (.int x4), .val (.int off_32), .val (.int cnt_32), .val (.ref b48), .unset, .unset] [(.int off_32), (.ref b48)])) t
    refine XS.bipush X233.here hx rfl (hb hby at_200) ?_
    show Steps p.tables e below (T233.setTop (mkF m 202 #[.val (.long x0), .second, .val (.long x1), .second, .val (.int x2), .val (.int x3), .val (.int x4), .val (.int off_32), .val (.int cnt_32), .val (.ref b48), .unset, .unset] [(.int (6 : Int32)), (.int off_32), (.ref b48)])) t
    refine XS.iadd X233.here hx rfl (hb hby at_202) rfl ?_
    show Steps p.tables e below (T233.setTop (mkF m 203 #[.val (.long x0), .second, .val (.long x1), .second, .val (.int x2), .val (.int x3), .val (.int x4), .val (.int off_32), .val (.int cnt_32), .val (.ref b48), .unset, .unset] [(.int (off_32 + (6 : Int32))), (.ref b48)])) t
    refine XS.lloadN X233.here hx rfl (hb hby at_203) rfl ?_
    show Steps p.tables e below (T233.setTop (mkF m 204 #[.val (.long x0), .second, .val (.long x1), .second, .val (.int x2), .val (.int x3), .val (.int x4), .val (.int off_32), .val (.int cnt_32), .val (.ref b48), .unset, .unset] [(.long x0), (.int (off_32 + (6 : Int32))), (.ref b48)])) t
    refine XS.bipush X233.here hx rfl (hb hby at_204) ?_
    show Steps p.tables e below (T233.setTop (mkF m 206 #[.val (.long x0), .second, .val (.long x1), .second, .val (.int x2), .val (.int x3), .val (.int x4), .val (.int off_32), .val (.int cnt_32), .val (.ref b48), .unset, .unset] [(.int (48 : Int32)), (.long x0), (.int (off_32 + (6 : Int32))), (.ref b48)])) t
    refine XS.lushr X233.here hx rfl (hb hby at_206) rfl ?_
    show Steps p.tables e below (T233.setTop (mkF m 207 #[.val (.long x0), .second, .val (.long x1), .second, .val (.int x2), .val (.int x3), .val (.int x4), .val (.int off_32), .val (.int cnt_32), .val (.ref b48), .unset, .unset] [(.long ((x0.toUInt64 >>> ((48 : Int32) &&& 0x3f).toInt64.toUInt64).toInt64)), (.int (off_32 + (6 : Int32))), (.ref b48)])) t
    refine XS.l2i X233.here hx rfl (hb hby at_207) rfl ?_
    show Steps p.tables e below (T233.setTop (mkF m 208 #[.val (.long x0), .second, .val (.long x1), .second, .val (.int x2), .val (.int x3), .val (.int x4), .val (.int off_32), .val (.int cnt_32), .val (.ref b48), .unset, .unset] [(.int (((x0.toUInt64 >>> ((48 : Int32) &&& 0x3f).toInt64.toUInt64).toInt64).toInt32)), (.int (off_32 + (6 : Int32))), (.ref b48)])) t
    refine XS.i2b X233.here hx rfl (hb hby at_208) rfl ?_
    exact k)
  have q248 : ¬ (off_32 + (6 : Int32)) < 0 ∧ (off_32 + (6 : Int32)) < (10 : Int32) := by
    have q249 := rng32 off_32
    have q250 := (by decide : (6 : Int32).toInt = 6)
    have q251 := c_iadd off_32 (6 : Int32)
    have q252 := rng32 (off_32 + (6 : Int32))
    have q253 := (by decide : (10 : Int32).toInt = 10)
    rw [Int32.lt_iff_toInt_lt, Int32.lt_iff_toInt_lt]; have q0 : (0 : Int32).toInt = 0 := rfl; omega
  obtain ⟨cl247, Ar247, S247, N247, Hs247⟩ := id V240
  have hin247 : ¬ ((off_32 + (6 : Int32)) < 0 ∨ cl247.slots.size ≤ ((off_32 + (6 : Int32))).toNatClampNeg) := inb_of S247 q248
  obtain ⟨T247, h247, X247, e247, W247, st247⟩ := stB X233 hx hZ e233 Ar247 (j := (off_32 + (6 : Int32))) hin247 (g := (mkF m 209 #[.val (.long x0), .second, .val (.long x1), .second, .val (.int x2), .val (.int x3), .val (.int x4), .val (.int off_32), .val (.int cnt_32), .val (.ref b48), .unset, .unset] [(.int ((((x0.toUInt64 >>> ((48 : Int32) &&& 0x3f).toInt64.toUInt64).toInt64).toInt32).toInt8.toInt32)), (.int (off_32 + (6 : Int32))), (.ref b48)])) rfl rfl (hb hby at_209)
  obtain ⟨f255, hf255⟩ : ∃ fnew : Nat → Int32, fnew = fun i => if i = (off_32 + (6 : Int32)).toNatClampNeg then ((((x0.toUInt64 >>> ((48 : Int32) &&& 0x3f).toInt64.toUInt64).toInt64).toInt32).toInt8.toInt32).toInt8.toInt32 else f241 i := ⟨_, rfl⟩
  have V254 : own_Arf Z h247 b48 .byte (10 : Int32) f255 := own_Arf.set Ar247 S247 N247 Hs247 W247 rfl hf255
  have Kp256 : Keep h0 h247 [] := Keep.wr Kp242 W247 (Or.inr sb50)
  have Z257 : own_Le n0 h247.size := Nat.le_trans Z243 (Keep.of_wr W247).1
  have N258 := Fr.snoc X247 N244 gb49
  have K259 : ∀ t, Steps p.tables e below (T247.setTop (mkF m 210 #[.val (.long x0), .second, .val (.long x1), .second, .val (.int x2), .val (.int x3), .val (.int x4), .val (.int off_32), .val (.int cnt_32), .val (.ref b48), .unset, .unset] [])) t → Steps p.tables e below (s₁.setTop (entryFrame m #[(.long x0), (.long x1), (.int x2), (.int x3), (.int x4)] maxLocals)) t := fun t k => K246 t (st247 _ k)
  have K260 : ∀ t, Steps p.tables e below (T247.setTop (mkF m 223 #[.val (.long x0), .second, .val (.long x1), .second, .val (.int x2), .val (.int x3), .val (.int x4), .val (.int off_32), .val (.int cnt_32), .val (.ref b48), .unset, .unset] [(.int ((((x0.toUInt64 >>> ((56 : Int32) &&& 0x3f).toInt64.toUInt64).toInt64).toInt32).toInt8.toInt32)), (.int (off_32 + (7 : Int32))), (.ref b48)])) t → Steps p.tables e below (s₁.setTop (entryFrame m #[(.long x0), (.long x1), (.int x2), (.int x3), (.int x4)] maxLocals)) t := fun t k => K259 t (by
    show Steps p.tables e below (T247.setTop (mkF m 210 #[.val (.long x0), .second, .val (.long x1), .second, .val (.int x2), .val (.int x3), .val (.int x4), .val (.int off_32), .val (.int cnt_32), .val (.ref b48), .unset, .unset] [])) t
    refine XS.aload X247.here hx rfl (hb hby at_210) rfl rfl ?_
    show Steps p.tables e below (T247.setTop (mkF m 212 #[.val (.long x0), .second, .val (.long x1), .second, .val (.int x2), .val (.int x3), .val (.int x4), .val (.int off_32), .val (.int cnt_32), .val (.ref b48), .unset, .unset] [(.ref b48)])) t
    refine XS.iload X247.here hx rfl (hb hby at_212) rfl ?_
    show Steps p.tables e below (T247.setTop (mkF m 214 #[.val (.long x0), .second, .val (.long x1), .second, .val (.int x2), .val (.int x3), .val (.int x4), .val (.int off_32), .val (.int cnt_32), .val (.ref b48), .unset, .unset] [(.int off_32), (.ref b48)])) t
    refine XS.bipush X247.here hx rfl (hb hby at_214) ?_
    show Steps p.tables e below (T247.setTop (mkF m 216 #[.val (.long x0), .second, .val (.long x1), .second, .val (.int x2), .val (.int x3), .val (.int x4), .val (.int off_32), .val (.int cnt_32), .val (.ref b48), .unset, .unset] [(.int (7 : Int32)), (.int off_32), (.ref b48)])) t
    refine XS.iadd X247.here hx rfl (hb hby at_216) rfl ?_
    show Steps p.tables e below (T247.setTop (mkF m 217 #[.val (.long x0), .second, .val (.long x1), .second, .val (.int x2), .val (.int x3), .val (.int x4), .val (.int off_32), .val (.int cnt_32), .val (.ref b48), .unset, .unset] [(.int (off_32 + (7 : Int32))), (.ref b48)])) t
    refine XS.lloadN X247.here hx rfl (hb hby at_217) rfl ?_
    show Steps p.tables e below (T247.setTop (mkF m 218 #[.val (.long x0), .second, .val (.long x1), .second, .val (.int x2), .val (.int x3), .val (.int x4), .val (.int off_32), .val (.int cnt_32), .val (.ref b48), .unset, .unset] [(.long x0), (.int (off_32 + (7 : Int32))), (.ref b48)])) t
    refine XS.bipush X247.here hx rfl (hb hby at_218) ?_
    show Steps p.tables e below (T247.setTop (mkF m 220 #[.val (.long x0), .second, .val (.long x1), .second, .val (.int x2), .val (.int x3), .val (.int x4), .val (.int off_32), .val (.int cnt_32), .val (.ref b48), .unset, .unset] [(.int (56 : Int32)), (.long x0), (.int (off_32 + (7 : Int32))), (.ref b48)])) t
    refine XS.lushr X247.here hx rfl (hb hby at_220) rfl ?_
    show Steps p.tables e below (T247.setTop (mkF m 221 #[.val (.long x0), .second, .val (.long x1), .second, .val (.int x2), .val (.int x3), .val (.int x4), .val (.int off_32), .val (.int cnt_32), .val (.ref b48), .unset, .unset] [(.long ((x0.toUInt64 >>> ((56 : Int32) &&& 0x3f).toInt64.toUInt64).toInt64)), (.int (off_32 + (7 : Int32))), (.ref b48)])) t
    refine XS.l2i X247.here hx rfl (hb hby at_221) rfl ?_
    show Steps p.tables e below (T247.setTop (mkF m 222 #[.val (.long x0), .second, .val (.long x1), .second, .val (.int x2), .val (.int x3), .val (.int x4), .val (.int off_32), .val (.int cnt_32), .val (.ref b48), .unset, .unset] [(.int (((x0.toUInt64 >>> ((56 : Int32) &&& 0x3f).toInt64.toUInt64).toInt64).toInt32)), (.int (off_32 + (7 : Int32))), (.ref b48)])) t
    refine XS.i2b X247.here hx rfl (hb hby at_222) rfl ?_
    exact k)
  have q262 : ¬ (off_32 + (7 : Int32)) < 0 ∧ (off_32 + (7 : Int32)) < (10 : Int32) := by
    have q263 := rng32 off_32
    have q264 := (by decide : (7 : Int32).toInt = 7)
    have q265 := c_iadd off_32 (7 : Int32)
    have q266 := rng32 (off_32 + (7 : Int32))
    have q267 := (by decide : (10 : Int32).toInt = 10)
    rw [Int32.lt_iff_toInt_lt, Int32.lt_iff_toInt_lt]; have q0 : (0 : Int32).toInt = 0 := rfl; omega
  obtain ⟨cl261, Ar261, S261, N261, Hs261⟩ := id V254
  have hin261 : ¬ ((off_32 + (7 : Int32)) < 0 ∨ cl261.slots.size ≤ ((off_32 + (7 : Int32))).toNatClampNeg) := inb_of S261 q262
  obtain ⟨T261, h261, X261, e261, W261, st261⟩ := stB X247 hx hZ e247 Ar261 (j := (off_32 + (7 : Int32))) hin261 (g := (mkF m 223 #[.val (.long x0), .second, .val (.long x1), .second, .val (.int x2), .val (.int x3), .val (.int x4), .val (.int off_32), .val (.int cnt_32), .val (.ref b48), .unset, .unset] [(.int ((((x0.toUInt64 >>> ((56 : Int32) &&& 0x3f).toInt64.toUInt64).toInt64).toInt32).toInt8.toInt32)), (.int (off_32 + (7 : Int32))), (.ref b48)])) rfl rfl (hb hby at_223)
  obtain ⟨f269, hf269⟩ : ∃ fnew : Nat → Int32, fnew = fun i => if i = (off_32 + (7 : Int32)).toNatClampNeg then ((((x0.toUInt64 >>> ((56 : Int32) &&& 0x3f).toInt64.toUInt64).toInt64).toInt32).toInt8.toInt32).toInt8.toInt32 else f255 i := ⟨_, rfl⟩
  have V268 : own_Arf Z h261 b48 .byte (10 : Int32) f269 := own_Arf.set Ar261 S261 N261 Hs261 W261 rfl hf269
  have Kp270 : Keep h0 h261 [] := Keep.wr Kp256 W261 (Or.inr sb50)
  have Z271 : own_Le n0 h261.size := Nat.le_trans Z257 (Keep.of_wr W261).1
  have N272 := Fr.snoc X261 N258 gb49
  have K273 : ∀ t, Steps p.tables e below (T261.setTop (mkF m 224 #[.val (.long x0), .second, .val (.long x1), .second, .val (.int x2), .val (.int x3), .val (.int x4), .val (.int off_32), .val (.int cnt_32), .val (.ref b48), .unset, .unset] [])) t → Steps p.tables e below (s₁.setTop (entryFrame m #[(.long x0), (.long x1), (.int x2), (.int x3), (.int x4)] maxLocals)) t := fun t k => K260 t (st261 _ k)
  obtain ⟨ex_274, Sp274, K275⟩ : ∃ (ex_274 : Int64), (ex_274.toBitVec.toNat = x0.toBitVec.toNat % 256 ^ cnt_32.toInt.toNat) ∧ ∀ t, Steps p.tables e below (T261.setTop (mkF m 246 #[.val (.long x0), .second, .val (.long x1), .second, .val (.int x2), .val (.int x3), .val (.int x4), .val (.int off_32), .val (.int cnt_32), .val (.ref b48), .unset, .unset] [(.long ex_274)])) t → Steps p.tables e below (s₁.setTop (entryFrame m #[(.long x0), (.long x1), (.int x2), (.int x3), (.int x4)] maxLocals)) t := by
    have K277 : ∀ t, Steps p.tables e below (T261.setTop (mkF m 228 #[.val (.long x0), .second, .val (.long x1), .second, .val (.int x2), .val (.int x3), .val (.int x4), .val (.int off_32), .val (.int cnt_32), .val (.ref b48), .unset, .unset] [(.int (8 : Int32)), (.int cnt_32)])) t → Steps p.tables e below (s₁.setTop (entryFrame m #[(.long x0), (.long x1), (.int x2), (.int x3), (.int x4)] maxLocals)) t := fun t k => K273 t (by
      show Steps p.tables e below (T261.setTop (mkF m 224 #[.val (.long x0), .second, .val (.long x1), .second, .val (.int x2), .val (.int x3), .val (.int x4), .val (.int off_32), .val (.int cnt_32), .val (.ref b48), .unset, .unset] [])) t
      refine XS.iload X261.here hx rfl (hb hby at_224) rfl ?_
      show Steps p.tables e below (T261.setTop (mkF m 226 #[.val (.long x0), .second, .val (.long x1), .second, .val (.int x2), .val (.int x3), .val (.int x4), .val (.int off_32), .val (.int cnt_32), .val (.ref b48), .unset, .unset] [(.int cnt_32)])) t
      refine XS.bipush X261.here hx rfl (hb hby at_226) ?_
      exact k)
    by_cases hc276 : cnt_32 = (8 : Int32)
    · have q278 : cnt_32.toInt = (8 : Int32).toInt := congrArg Int32.toInt hc276
      refine ⟨x0, ?_, fun t k => K277 t ?_⟩
      · have q279 := rng32 cnt_32
        have q280 := (by decide : (8 : Int32).toInt = 8)
        have q281 := rng64 x0
        rw [show cnt_32.toInt.toNat = 8 by omega]; exact (Nat.mod_eq_of_lt x0.toBitVec.isLt).symm
      show Steps p.tables e below (T261.setTop (mkF m 228 #[.val (.long x0), .second, .val (.long x1), .second, .val (.int x2), .val (.int x3), .val (.int x4), .val (.int off_32), .val (.int cnt_32), .val (.ref b48), .unset, .unset] [(.int (8 : Int32)), (.int cnt_32)])) t
      refine XS.icmpNo X261.here hx rfl (hb hby at_228) rfl (teq hc276).2 ?_
      show Steps p.tables e below (T261.setTop (mkF m 231 #[.val (.long x0), .second, .val (.long x1), .second, .val (.int x2), .val (.int x3), .val (.int x4), .val (.int off_32), .val (.int cnt_32), .val (.ref b48), .unset, .unset] [])) t
      refine XS.lloadN X261.here hx rfl (hb hby at_231) rfl ?_
      show Steps p.tables e below (T261.setTop (mkF m 232 #[.val (.long x0), .second, .val (.long x1), .second, .val (.int x2), .val (.int x3), .val (.int x4), .val (.int off_32), .val (.int cnt_32), .val (.ref b48), .unset, .unset] [(.long x0)])) t
      refine XS.goto X261.here hx rfl (pc0 := 232) (pc' := 246) rfl (hb hby at_232) (by decide) (by decide) ?_
      exact k
    · have q282 : ¬ cnt_32.toInt = (8 : Int32).toInt := fun q => hc276 (Int32.toInt_inj.mp q)
      refine ⟨(x0 &&& (((1 : Int64) <<< (((8 : Int32) * cnt_32) &&& 0x3f).toInt64) - (1 : Int64))), ?_, fun t k => K277 t ?_⟩
      · have q283 := rng32 cnt_32
        have q284 := (by decide : (8 : Int32).toInt = 8)
        have q285 := rng64 x0
        have q286 := (by decide : (1 : Int64).toInt = 1)
        have q287 := (show (((8 : Int32) * cnt_32).toInt - 8 * cnt_32.toInt) % 4294967296 = 0 from c_imul (8 : Int32) cnt_32)
        have q288 := rng32 ((8 : Int32) * cnt_32)
        have q289 := c_lsub ((1 : Int64) <<< (((8 : Int32) * cnt_32) &&& 0x3f).toInt64) (1 : Int64)
        have q290 := rng64 (((1 : Int64) <<< (((8 : Int32) * cnt_32) &&& 0x3f).toInt64) - (1 : Int64))
        exact own_exp x0 cnt_32 (by omega) (by omega)
      show Steps p.tables e below (T261.setTop (mkF m 228 #[.val (.long x0), .second, .val (.long x1), .second, .val (.int x2), .val (.int x3), .val (.int x4), .val (.int off_32), .val (.int cnt_32), .val (.ref b48), .unset, .unset] [(.int (8 : Int32)), (.int cnt_32)])) t
      refine XS.icmpYes X261.here hx rfl (pc0 := 228) (pc' := 235) rfl (hb hby at_228) rfl (feq hc276).2 (by decide) (by decide) ?_
      show Steps p.tables e below (T261.setTop (mkF m 235 #[.val (.long x0), .second, .val (.long x1), .second, .val (.int x2), .val (.int x3), .val (.int x4), .val (.int off_32), .val (.int cnt_32), .val (.ref b48), .unset, .unset] [])) t
      refine XS.lloadN X261.here hx rfl (hb hby at_235) rfl ?_
      show Steps p.tables e below (T261.setTop (mkF m 236 #[.val (.long x0), .second, .val (.long x1), .second, .val (.int x2), .val (.int x3), .val (.int x4), .val (.int off_32), .val (.int cnt_32), .val (.ref b48), .unset, .unset] [(.long x0)])) t
      refine XS.lconst X261.here hx rfl (hb hby at_236) ?_
      show Steps p.tables e below (T261.setTop (mkF m 237 #[.val (.long x0), .second, .val (.long x1), .second, .val (.int x2), .val (.int x3), .val (.int x4), .val (.int off_32), .val (.int cnt_32), .val (.ref b48), .unset, .unset] [(.long (1 : Int64)), (.long x0)])) t
      refine XS.bipush X261.here hx rfl (hb hby at_237) ?_
      show Steps p.tables e below (T261.setTop (mkF m 239 #[.val (.long x0), .second, .val (.long x1), .second, .val (.int x2), .val (.int x3), .val (.int x4), .val (.int off_32), .val (.int cnt_32), .val (.ref b48), .unset, .unset] [(.int (8 : Int32)), (.long (1 : Int64)), (.long x0)])) t
      refine XS.iload X261.here hx rfl (hb hby at_239) rfl ?_
      show Steps p.tables e below (T261.setTop (mkF m 241 #[.val (.long x0), .second, .val (.long x1), .second, .val (.int x2), .val (.int x3), .val (.int x4), .val (.int off_32), .val (.int cnt_32), .val (.ref b48), .unset, .unset] [(.int cnt_32), (.int (8 : Int32)), (.long (1 : Int64)), (.long x0)])) t
      refine XS.imul X261.here hx rfl (hb hby at_241) rfl ?_
      show Steps p.tables e below (T261.setTop (mkF m 242 #[.val (.long x0), .second, .val (.long x1), .second, .val (.int x2), .val (.int x3), .val (.int x4), .val (.int off_32), .val (.int cnt_32), .val (.ref b48), .unset, .unset] [(.int ((8 : Int32) * cnt_32)), (.long (1 : Int64)), (.long x0)])) t
      refine XS.lshl X261.here hx rfl (hb hby at_242) rfl ?_
      show Steps p.tables e below (T261.setTop (mkF m 243 #[.val (.long x0), .second, .val (.long x1), .second, .val (.int x2), .val (.int x3), .val (.int x4), .val (.int off_32), .val (.int cnt_32), .val (.ref b48), .unset, .unset] [(.long ((1 : Int64) <<< (((8 : Int32) * cnt_32) &&& 0x3f).toInt64)), (.long x0)])) t
      refine XS.lconst X261.here hx rfl (hb hby at_243) ?_
      show Steps p.tables e below (T261.setTop (mkF m 244 #[.val (.long x0), .second, .val (.long x1), .second, .val (.int x2), .val (.int x3), .val (.int x4), .val (.int off_32), .val (.int cnt_32), .val (.ref b48), .unset, .unset] [(.long (1 : Int64)), (.long ((1 : Int64) <<< (((8 : Int32) * cnt_32) &&& 0x3f).toInt64)), (.long x0)])) t
      refine XS.lsub X261.here hx rfl (hb hby at_244) rfl ?_
      show Steps p.tables e below (T261.setTop (mkF m 245 #[.val (.long x0), .second, .val (.long x1), .second, .val (.int x2), .val (.int x3), .val (.int x4), .val (.int off_32), .val (.int cnt_32), .val (.ref b48), .unset, .unset] [(.long (((1 : Int64) <<< (((8 : Int32) * cnt_32) &&& 0x3f).toInt64) - (1 : Int64))), (.long x0)])) t
      refine XS.land X261.here hx rfl (hb hby at_245) rfl ?_
      exact k
  have q291 := rng32 off_32
  have q292 := (by decide : (1 : Int32).toInt = 1)
  have q293 := c_iadd off_32 (1 : Int32)
  have q294 := rng32 (off_32 + (1 : Int32))
  have q295 := (by decide : (2 : Int32).toInt = 2)
  have q296 := c_iadd off_32 (2 : Int32)
  have q297 := rng32 (off_32 + (2 : Int32))
  have q298 := (by decide : (3 : Int32).toInt = 3)
  have q299 := c_iadd off_32 (3 : Int32)
  have q300 := rng32 (off_32 + (3 : Int32))
  have q301 := (by decide : (4 : Int32).toInt = 4)
  have q302 := c_iadd off_32 (4 : Int32)
  have q303 := rng32 (off_32 + (4 : Int32))
  have q304 := (by decide : (5 : Int32).toInt = 5)
  have q305 := c_iadd off_32 (5 : Int32)
  have q306 := rng32 (off_32 + (5 : Int32))
  have q307 := (by decide : (6 : Int32).toInt = 6)
  have q308 := c_iadd off_32 (6 : Int32)
  have q309 := rng32 (off_32 + (6 : Int32))
  have q310 := (by decide : (7 : Int32).toInt = 7)
  have q311 := c_iadd off_32 (7 : Int32)
  have q312 := rng32 (off_32 + (7 : Int32))
  have ix0 : off_32.toNatClampNeg = off_32.toInt.toNat + 0 := own_idx (by omega) (by omega)
  have ix1 : (off_32 + (1 : Int32)).toNatClampNeg = off_32.toInt.toNat + 1 := own_idx (by omega) (by omega)
  have ix2 : (off_32 + (2 : Int32)).toNatClampNeg = off_32.toInt.toNat + 2 := own_idx (by omega) (by omega)
  have ix3 : (off_32 + (3 : Int32)).toNatClampNeg = off_32.toInt.toNat + 3 := own_idx (by omega) (by omega)
  have ix4 : (off_32 + (4 : Int32)).toNatClampNeg = off_32.toInt.toNat + 4 := own_idx (by omega) (by omega)
  have ix5 : (off_32 + (5 : Int32)).toNatClampNeg = off_32.toInt.toNat + 5 := own_idx (by omega) (by omega)
  have ix6 : (off_32 + (6 : Int32)).toNatClampNeg = off_32.toInt.toNat + 6 := own_idx (by omega) (by omega)
  have ix7 : (off_32 + (7 : Int32)).toNatClampNeg = off_32.toInt.toNat + 7 := own_idx (by omega) (by omega)
  clear q291 q292 q293 q294 q295 q296 q297 q298 q299 q300 q301 q302 q303 q304 q305 q306 q307 q308 q309 q310 q311 q312
  have b0 : f269 (off_32.toInt.toNat + 0) = ((x0.toInt32).toInt8.toInt32).toInt8.toInt32 := by
    simp only [hf269, hf255, hf241, hf227, hf213, hf199, hf185, hf171, ix0, ix1, ix2, ix3, ix4, ix5, ix6, ix7]; simp
  have b1 : f269 (off_32.toInt.toNat + 1) = ((((x0.toUInt64 >>> ((8 : Int32) &&& 0x3f).toInt64.toUInt64).toInt64).toInt32).toInt8.toInt32).toInt8.toInt32 := by
    simp only [hf269, hf255, hf241, hf227, hf213, hf199, hf185, hf171, ix0, ix1, ix2, ix3, ix4, ix5, ix6, ix7]; simp
  have b2 : f269 (off_32.toInt.toNat + 2) = ((((x0.toUInt64 >>> ((16 : Int32) &&& 0x3f).toInt64.toUInt64).toInt64).toInt32).toInt8.toInt32).toInt8.toInt32 := by
    simp only [hf269, hf255, hf241, hf227, hf213, hf199, hf185, hf171, ix0, ix1, ix2, ix3, ix4, ix5, ix6, ix7]; simp
  have b3 : f269 (off_32.toInt.toNat + 3) = ((((x0.toUInt64 >>> ((24 : Int32) &&& 0x3f).toInt64.toUInt64).toInt64).toInt32).toInt8.toInt32).toInt8.toInt32 := by
    simp only [hf269, hf255, hf241, hf227, hf213, hf199, hf185, hf171, ix0, ix1, ix2, ix3, ix4, ix5, ix6, ix7]; simp
  have b4 : f269 (off_32.toInt.toNat + 4) = ((((x0.toUInt64 >>> ((32 : Int32) &&& 0x3f).toInt64.toUInt64).toInt64).toInt32).toInt8.toInt32).toInt8.toInt32 := by
    simp only [hf269, hf255, hf241, hf227, hf213, hf199, hf185, hf171, ix0, ix1, ix2, ix3, ix4, ix5, ix6, ix7]; simp
  have b5 : f269 (off_32.toInt.toNat + 5) = ((((x0.toUInt64 >>> ((40 : Int32) &&& 0x3f).toInt64.toUInt64).toInt64).toInt32).toInt8.toInt32).toInt8.toInt32 := by
    simp only [hf269, hf255, hf241, hf227, hf213, hf199, hf185, hf171, ix0, ix1, ix2, ix3, ix4, ix5, ix6, ix7]; simp
  have b6 : f269 (off_32.toInt.toNat + 6) = ((((x0.toUInt64 >>> ((48 : Int32) &&& 0x3f).toInt64.toUInt64).toInt64).toInt32).toInt8.toInt32).toInt8.toInt32 := by
    simp only [hf269, hf255, hf241, hf227, hf213, hf199, hf185, hf171, ix0, ix1, ix2, ix3, ix4, ix5, ix6, ix7]; simp
  have b7 : f269 (off_32.toInt.toNat + 7) = ((((x0.toUInt64 >>> ((56 : Int32) &&& 0x3f).toInt64.toUInt64).toInt64).toInt32).toInt8.toInt32).toInt8.toInt32 := by
    simp only [hf269, hf255, hf241, hf227, hf213, hf199, hf185, hf171, ix0, ix1, ix2, ix3, ix4, ix5, ix6, ix7]; simp
  have hbytes : ∀ i : Nat, i < 8 → (f269 (off_32.toInt.toNat + i)).toInt % 256 = ((x0.toBitVec.toNat / 256 ^ i % 256 : Nat) : Int) := by
    intro i hi
    match i, hi with
    | 0, _ =>
      rw [b0]
      have r1 := c_i2b ((x0.toInt32).toInt8.toInt32)
      have r2 := c_i2b (x0.toInt32)
      have r3 := c_l2i x0
      have r4 := own_mod64 x0
      omega
    | 1, _ =>
      rw [b1]
      have r1 := c_i2b ((((x0.toUInt64 >>> ((8 : Int32) &&& 0x3f).toInt64.toUInt64).toInt64).toInt32).toInt8.toInt32)
      have r2 := c_i2b (((x0.toUInt64 >>> ((8 : Int32) &&& 0x3f).toInt64.toUInt64).toInt64).toInt32)
      have r3 := c_l2i ((x0.toUInt64 >>> ((8 : Int32) &&& 0x3f).toInt64.toUInt64).toInt64)
      have r4 := own_ushr x0 (((8 : Int32) &&& 0x3f).toInt64.toUInt64) 8 (by decide)
      omega
    | 2, _ =>
      rw [b2]
      have r1 := c_i2b ((((x0.toUInt64 >>> ((16 : Int32) &&& 0x3f).toInt64.toUInt64).toInt64).toInt32).toInt8.toInt32)
      have r2 := c_i2b (((x0.toUInt64 >>> ((16 : Int32) &&& 0x3f).toInt64.toUInt64).toInt64).toInt32)
      have r3 := c_l2i ((x0.toUInt64 >>> ((16 : Int32) &&& 0x3f).toInt64.toUInt64).toInt64)
      have r4 := own_ushr x0 (((16 : Int32) &&& 0x3f).toInt64.toUInt64) 16 (by decide)
      omega
    | 3, _ =>
      rw [b3]
      have r1 := c_i2b ((((x0.toUInt64 >>> ((24 : Int32) &&& 0x3f).toInt64.toUInt64).toInt64).toInt32).toInt8.toInt32)
      have r2 := c_i2b (((x0.toUInt64 >>> ((24 : Int32) &&& 0x3f).toInt64.toUInt64).toInt64).toInt32)
      have r3 := c_l2i ((x0.toUInt64 >>> ((24 : Int32) &&& 0x3f).toInt64.toUInt64).toInt64)
      have r4 := own_ushr x0 (((24 : Int32) &&& 0x3f).toInt64.toUInt64) 24 (by decide)
      omega
    | 4, _ =>
      rw [b4]
      have r1 := c_i2b ((((x0.toUInt64 >>> ((32 : Int32) &&& 0x3f).toInt64.toUInt64).toInt64).toInt32).toInt8.toInt32)
      have r2 := c_i2b (((x0.toUInt64 >>> ((32 : Int32) &&& 0x3f).toInt64.toUInt64).toInt64).toInt32)
      have r3 := c_l2i ((x0.toUInt64 >>> ((32 : Int32) &&& 0x3f).toInt64.toUInt64).toInt64)
      have r4 := own_ushr x0 (((32 : Int32) &&& 0x3f).toInt64.toUInt64) 32 (by decide)
      omega
    | 5, _ =>
      rw [b5]
      have r1 := c_i2b ((((x0.toUInt64 >>> ((40 : Int32) &&& 0x3f).toInt64.toUInt64).toInt64).toInt32).toInt8.toInt32)
      have r2 := c_i2b (((x0.toUInt64 >>> ((40 : Int32) &&& 0x3f).toInt64.toUInt64).toInt64).toInt32)
      have r3 := c_l2i ((x0.toUInt64 >>> ((40 : Int32) &&& 0x3f).toInt64.toUInt64).toInt64)
      have r4 := own_ushr x0 (((40 : Int32) &&& 0x3f).toInt64.toUInt64) 40 (by decide)
      omega
    | 6, _ =>
      rw [b6]
      have r1 := c_i2b ((((x0.toUInt64 >>> ((48 : Int32) &&& 0x3f).toInt64.toUInt64).toInt64).toInt32).toInt8.toInt32)
      have r2 := c_i2b (((x0.toUInt64 >>> ((48 : Int32) &&& 0x3f).toInt64.toUInt64).toInt64).toInt32)
      have r3 := c_l2i ((x0.toUInt64 >>> ((48 : Int32) &&& 0x3f).toInt64.toUInt64).toInt64)
      have r4 := own_ushr x0 (((48 : Int32) &&& 0x3f).toInt64.toUInt64) 48 (by decide)
      omega
    | 7, _ =>
      rw [b7]
      have r1 := c_i2b ((((x0.toUInt64 >>> ((56 : Int32) &&& 0x3f).toInt64.toUInt64).toInt64).toInt32).toInt8.toInt32)
      have r2 := c_i2b (((x0.toUInt64 >>> ((56 : Int32) &&& 0x3f).toInt64.toUInt64).toInt64).toInt32)
      have r3 := c_l2i ((x0.toUInt64 >>> ((56 : Int32) &&& 0x3f).toInt64.toUInt64).toInt64)
      have r4 := own_ushr x0 (((56 : Int32) &&& 0x3f).toInt64.toUInt64) 56 (by decide)
      omega
  have K313 : ∀ t, Steps p.tables e below (T261.setTop (mkF m 254 #[.val (.long x0), .second, .val (.long x1), .second, .val (.int x2), .val (.int x3), .val (.int x4), .val (.int off_32), .val (.int cnt_32), .val (.ref b48), .val (.long ex_274), .second] [(.int cnt_32), (.int off_32), (.ref b48)])) t → Steps p.tables e below (s₁.setTop (entryFrame m #[(.long x0), (.long x1), (.int x2), (.int x3), (.int x4)] maxLocals)) t := fun t k => K275 t (by
    show Steps p.tables e below (T261.setTop (mkF m 246 #[.val (.long x0), .second, .val (.long x1), .second, .val (.int x2), .val (.int x3), .val (.int x4), .val (.int off_32), .val (.int cnt_32), .val (.ref b48), .unset, .unset] [(.long ex_274)])) t
    refine XS.lstore X261.here hx rfl (hb hby at_246) rfl (l' := #[.val (.long x0), .second, .val (.long x1), .second, .val (.int x2), .val (.int x3), .val (.int x4), .val (.int off_32), .val (.int cnt_32), .val (.ref b48), .val (.long ex_274), .second]) rfl ?_
    show Steps p.tables e below (T261.setTop (mkF m 248 #[.val (.long x0), .second, .val (.long x1), .second, .val (.int x2), .val (.int x3), .val (.int x4), .val (.int off_32), .val (.int cnt_32), .val (.ref b48), .val (.long ex_274), .second] [])) t
    refine XS.aload X261.here hx rfl (hb hby at_248) rfl rfl ?_
    show Steps p.tables e below (T261.setTop (mkF m 250 #[.val (.long x0), .second, .val (.long x1), .second, .val (.int x2), .val (.int x3), .val (.int x4), .val (.int off_32), .val (.int cnt_32), .val (.ref b48), .val (.long ex_274), .second] [(.ref b48)])) t
    refine XS.iload X261.here hx rfl (hb hby at_250) rfl ?_
    show Steps p.tables e below (T261.setTop (mkF m 252 #[.val (.long x0), .second, .val (.long x1), .second, .val (.int x2), .val (.int x3), .val (.int x4), .val (.int off_32), .val (.int cnt_32), .val (.ref b48), .val (.long ex_274), .second] [(.int off_32), (.ref b48)])) t
    refine XS.iload X261.here hx rfl (hb hby at_252) rfl ?_
    exact k)
  have q314 : 0 ≤ off_32.toInt ∧ off_32.toInt ≤ 2 ∧ 0 ≤ cnt_32.toInt ∧ cnt_32.toInt ≤ 8 := by
    have q315 := rng32 off_32
    have q316 := rng32 cnt_32
    omega
  obtain ⟨_, _, ⟨T317, L317, kk317, nn317⟩, -, X317, ⟨Lc317, hQ317, l317, y317, z317⟩, st317⟩ := Jvm.LawKit.callS X261 hx (y := (⟨"com/example/bitsieve/bitsieve/Hashing", "littleEndian", "([BII)J"⟩ : MethodName)) hown (mvT hZ (hw _ (List.mem_of_getElem? (i := 2) rfl))) (mvT hZ (hw _ (List.mem_of_getElem? (i := 3) rfl))) (mvT hZ (hw _ (List.mem_of_getElem? (i := 4) rfl))) (mvT hZ (hw _ (List.mem_of_getElem? (i := 5) rfl))) (by decide) (backOf (W := 0) (rm1 l Z a0 hw [] b48 off_32 cnt_32 f269 x0.toBitVec.toNat h261 n0 Z271 V268 q314 hbytes) hZ (hw _ (List.mem_of_getElem? (i := 5) rfl)) (hw _ (List.mem_of_getElem? (i := 4) rfl)) (by decide) (by decide)) (g := (mkF m 254 #[.val (.long x0), .second, .val (.long x1), .second, .val (.int x2), .val (.int x3), .val (.int x4), .val (.int off_32), .val (.int cnt_32), .val (.ref b48), .val (.long ex_274), .second] [(.int cnt_32), (.int off_32), (.ref b48)])) rfl (by rw [hml]; rfl) (argsL := [(.ref b48), (.int off_32), (.int cnt_32)]) (rest := []) (lenOf own_pd0 rfl) rfl (by show 2 * 0 + _ ≤ _; exact Nat.le_of_eq rfl) (hb hby at_254) (fun _ _ => ⟨rfl, e261, (by decide : 1 + 0 ≤ _), (by decide : 10 + 0 ≤ _)⟩)
  dsimp only [Pt.U, Pt.locs, Pt.cells, Pt.slots] at X317 l317 y317 z317 st317 hQ317
  subst l317 y317 z317
  obtain ⟨r_317, rfl, Sp317, Nq317, eh317⟩ := hQ317
  have N318 := Fr.app N272 Nq317
  have K319 : ∀ t, Steps p.tables e below (T317.setTop (mkF m 257 #[.val (.long x0), .second, .val (.long x1), .second, .val (.int x2), .val (.int x3), .val (.int x4), .val (.int off_32), .val (.int cnt_32), .val (.ref b48), .val (.long ex_274), .second] [(.long r_317)])) t → Steps p.tables e below (s₁.setTop (entryFrame m #[(.long x0), (.long x1), (.int x2), (.int x3), (.int x4)] maxLocals)) t := fun t k => K313 t (st317 _ k)
  have hc320 : (lcmpW r_317 ex_274) = (0 : Int32) := (lw_eq _ _).mpr (Int64.toBitVec_inj.mp (BitVec.eq_of_toNat_eq (Sp317.trans Sp274.symm)))
  have K321 : ∀ t, Steps p.tables e below (T317.setTop (mkF m 268 #[.val (.long x0), .second, .val (.long x1), .second, .val (.int x2), .val (.int x3), .val (.int x4), .val (.int off_32), .val (.int cnt_32), .val (.ref b48), .val (.long ex_274), .second] [(.int (1 : Int32))])) t → Steps p.tables e below (s₁.setTop (entryFrame m #[(.long x0), (.long x1), (.int x2), (.int x3), (.int x4)] maxLocals)) t := fun t k => K319 t (by
    show Steps p.tables e below (T317.setTop (mkF m 257 #[.val (.long x0), .second, .val (.long x1), .second, .val (.int x2), .val (.int x3), .val (.int x4), .val (.int off_32), .val (.int cnt_32), .val (.ref b48), .val (.long ex_274), .second] [(.long r_317)])) t
    refine XS.lload X317.here hx rfl (hb hby at_257) rfl ?_
    show Steps p.tables e below (T317.setTop (mkF m 259 #[.val (.long x0), .second, .val (.long x1), .second, .val (.int x2), .val (.int x3), .val (.int x4), .val (.int off_32), .val (.int cnt_32), .val (.ref b48), .val (.long ex_274), .second] [(.long ex_274), (.long r_317)])) t
    refine XS.lcmp X317.here hx rfl (hb hby at_259) rfl ?_
    show Steps p.tables e below (T317.setTop (mkF m 260 #[.val (.long x0), .second, .val (.long x1), .second, .val (.int x2), .val (.int x3), .val (.int x4), .val (.int off_32), .val (.int cnt_32), .val (.ref b48), .val (.long ex_274), .second] [(.int (lcmpW r_317 ex_274))])) t
    refine XS.ifNo X317.here hx rfl (hb hby at_260) rfl ((if0 _ _).trans (teq hc320).2) ?_
    show Steps p.tables e below (T317.setTop (mkF m 263 #[.val (.long x0), .second, .val (.long x1), .second, .val (.int x2), .val (.int x3), .val (.int x4), .val (.int off_32), .val (.int cnt_32), .val (.ref b48), .val (.long ex_274), .second] [])) t
    refine XS.iconst X317.here hx rfl (hb hby at_263) ?_
    show Steps p.tables e below (T317.setTop (mkF m 264 #[.val (.long x0), .second, .val (.long x1), .second, .val (.int x2), .val (.int x3), .val (.int x4), .val (.int off_32), .val (.int cnt_32), .val (.ref b48), .val (.long ex_274), .second] [(.int (1 : Int32))])) t
    refine XS.goto X317.here hx rfl (pc0 := 264) (pc' := 268) rfl (hb hby at_264) (by decide) (by decide) ?_
    exact k)
  obtain ⟨fs, hr, hrun, hended, hW, hsame⟩ := X317.leave (v := some (.int (1 : Int32))) (fun h => by rw [Bd.returns] at h; cases h)
  refine ⟨_, _, K321 _ ?_, hrun, hended, _, _, rfl, ?_, ⟨_, rfl⟩, hW, hsame.mono (by decide) (by decide)⟩
  · exact retN X317 hx (t := .boolean) Bd.returns (by simp) (hb hby at_268) hr
  · show Q_rm0 Z x0 x1 x2 x3 x4 h0 n0 _ T317.heap _
    have q322 := rng32 off_32
    have q323 := rng32 cnt_32
    have q324 := (by decide : (1 : Int32).toInt = 1)
    rw [eh317]
    exact ⟨rfl, (by trivial), N318, Kp270⟩
set_option maxRecDepth 65536 in
set_option maxHeartbeats 40000000 in
theorem comes_1 {Post : Tables → Env → Array Value → State → Outcome → State → Prop} (hpost : ∀ tb e args s v u, (limb_1_1.after args s (.returned v) u = true ∧ limb_1_2.after args s (.returned v) u = true ∧ True) → FrameEnd s (.returned v) u (Jvm.fieldLocs frame_1_writes args s ++ Jvm.arrayLocs frame_1_arrays args s ++ Jvm.staticLocs frame_1_statics s) 16 128 → Post tb e args s (.returned v) u) :
    ArmFor flags0 classFile x code maxLocals ret World_1 tables_1 room_1 Calls_1 rest_1 Pre_1 Post := by
  intro l hfl _ _ p e ha hc hk s m args below hf hA hF happ hP
  obtain ⟨hcalls, hrest, hpre⟩ := hP
  obtain ⟨-, -, -, hnamed, -, -, -, hat⟩ := (Spec.applies_iff hf).mp happ
  obtain ⟨hg, hn⟩ := and_e (Cond.before_iff.mp (show (Jvm.Cond.and given_1 narrow_1).before args s = true from hpre))
  obtain ⟨gg1, gg2⟩ := and_e hg
  obtain ⟨gg3, gg4⟩ := and_e gg2
  obtain ⟨gg5, gg6⟩ := and_e gg4
  obtain ⟨gg7, gg8⟩ := and_e gg6
  obtain ⟨gg9, gg10⟩ := and_e gg8
  obtain ⟨w0, w1, w2, w3, w4, rfl⟩ : ∃ w0 w1 w2 w3 w4 : Value, args = #[w0, w1, w2, w3, w4] := by
    have hs : args.size = 5 := by simpa [Cond.value, given_1] using gg1
    obtain ⟨L⟩ := args
    match L, hs with
    | [w0, w1, w2, w3, w4], _ => exact ⟨w0, w1, w2, w3, w4, rfl⟩
  have hw := fun d (hd : d ∈ tables_1) => atoms_spec (ws := Jvm.Cond.code x code maxLocals ret :: tables_1) hat d (List.mem_cons_of_mem _ hd)
  obtain ⟨i0, ei0⟩ := isL_v gg3
  obtain rfl : w0 = (.long i0) := Option.some.inj ei0
  obtain ⟨i1, ei1⟩ := isL_v gg5
  obtain rfl : w1 = (.long i1) := Option.some.inj ei1
  obtain ⟨i2, ei2⟩ := is_v gg7
  obtain rfl : w2 = (.int i2) := Option.some.inj ei2
  obtain ⟨i3, ei3⟩ := is_v gg9
  obtain rfl : w3 = (.int i3) := Option.some.inj ei3
  obtain ⟨i4, ei4⟩ := is_v gg10
  obtain rfl : w4 = (.int i4) := Option.some.inj ei4
  obtain ⟨n, o, h1, h2, h3, _, L, rfl, ⟨rfl, -, N, -⟩, hq⟩ := rm0 l s _ hw tables_1 i0 i1 i2 i3 i4 s.heap s.heap.size (Nat.le_refl _) p e ha hc hk s m _ below hf ((Spec.applies_iff_loose hf).mp happ).1 ⟨rfl, State.Warmed39.refl s, rfl⟩ trivial
  refine ⟨n, _, h1, h2, h3, hpost _ _ _ _ _ _ ⟨Cond.after_iff.mpr rfl, Cond.after_iff.mpr (eq_i res_at (Term.int_eval (1)) rfl), trivial⟩ ⟨hq.1, hq.2.1, (hq.2.2.sift fun y hy => Or.inr (N y hy)).mono (by decide) (by decide)⟩⟩
theorem main_1_1 : Claimed_1_1 := comes_1 fun _ _ _ _ _ _ h hF => ⟨h.1, hF⟩
theorem main_1_2 : Claimed_1_2 := comes_1 fun _ _ _ _ _ _ h hF => ⟨h.2.1, hF⟩
end Jvm.Pilot.@@N@@
namespace Jvm.Pilot.@@N@@
open Jvm Jvm.ClassFile Sem Op Lib Jvm.Free Jvm.Stand Jvm.Pilot.@@N@@.Jvm.D
/-! MADE BY PROGRAM (witnessworld.py) out of the Statement's table words and the real class files: 9 classes; the members and pool entries that the words name. The judged class is class 1, her method 1. -/
namespace start1
open Jvm.ClassFile
def u (s : String) : CpInfo := .utf8 (stringToUtf16 s)
/-- a pool by its gaps: so many unusable entries, then the entry; so many at the end -/
def gap : Nat → List CpInfo → List CpInfo
  | 0, r => r
  | n + 1, r => .unusable :: gap n r
def poolList (es : List (Nat × CpInfo)) (last : Nat) : List CpInfo := es.foldr (fun e r => gap e.1 (e.2 :: r)) (gap last [])
def pool (es : List (Nat × CpInfo)) (last : Nat) : Array CpInfo := ⟨poolList es last⟩
def fileOf (pool : Array CpInfo) (this : Nat) (attrs : Array Attribute := #[]) (ms : Array MethodInfo := #[]) (fl : Nat := 33) (sup : Nat := 0) (ifs : Array Nat := #[]) (fds : Array FieldInfo := #[]) : ClassFile where
  minorVersion := 0
  majorVersion := 65
  constantPool := pool
  accessFlags := fl
  thisClass := this
  superClass := sup
  interfaces := ifs
  fields := fds
  methods := ms
  attributes := attrs
def plain (name : String) (sup : Option ClassId) : Class where
  name := name
  kind := .ordinary
  loader := none
  accessFlags := 33
  super := sup
  interfaces := #[]
  cf := none
  fields := #[]
  methods := #[]
  instanceTypes := #[]
  staticTypes := #[]
  resolved := #[]
  callSites := []
  init := .initialized
  statics := none
  mirror := none

def pool0 : Array CpInfo := pool [(5, u "<init>"), (0, u "()V"), (1, .class_ 10), (1, u "java/lang/Object")] 113

def k0m0 : Method := { name := "<init>", desc := "()V", sig := { parameters := [], returnType := none }, accessFlags := 1, code := none }
/-- java/lang/Object -/
def k0 : Class := { plain "java/lang/Object" none with
  accessFlags := 33
  interfaces := #[]
  cf := some (fileOf pool0 8 #[] #[{ accessFlags := 1, nameIndex := 5, descriptorIndex := 6, attributes := #[] }] 33 0 #[] #[])
  fields := #[]
  methods := #[k0m0]
  instanceTypes := #[]
  staticTypes := #[]
  resolved := Array.replicate 124 none
  statics := none }

def pool1 : Array CpInfo := pool [(2, .class_ 4), (1, u "java/lang/Object"), (0, u "<init>"), (0, u "()V"), (0, .integer 2147483647), (0, .methodref 9 10), (0, .class_ 11), (0, .nameAndType 12 13), (0, u "com/example/bitsieve/bitsieve/Hashing"), (0, u "littleEndian"), (0, u "([BII)J"), (0, .class_ 15), (0, u "com/example/bitsieve/bitsieve/HashingLittleEndianPinLaw"), (2, u "law"), (0, u "(JJIII)Z")] 5

def k1m0 : Method := { name := "<init>", desc := "()V", sig := { parameters := [], returnType := none }, accessFlags := 1, code := none }
def k1c1 : Code := { maxStack := 6, maxLocals := 12, code := code, exceptionTable := #[], attributes := #[] }
def k1m1 : Method := { name := "law", desc := "(JJIII)Z", sig := { parameters := [.long, .long, .int, .int, .int], returnType := some .boolean }, accessFlags := 9, code := some k1c1 }
/-- com/example/bitsieve/bitsieve/HashingLittleEndianPinLaw -/
def k1 : Class := { plain "com/example/bitsieve/bitsieve/HashingLittleEndianPinLaw" (some 0) with
  accessFlags := 49
  interfaces := #[]
  cf := some (fileOf pool1 14 #[] #[{ accessFlags := 1, nameIndex := 5, descriptorIndex := 6, attributes := #[] }, { accessFlags := 9, nameIndex := 18, descriptorIndex := 19, attributes := #[] }] 49 2 #[] #[])
  fields := #[]
  methods := #[k1m0, k1m1]
  instanceTypes := #[]
  staticTypes := #[]
  resolved := Array.replicate 25 none
  statics := none }

def pool2 : Array CpInfo := pool [(2, .class_ 4), (1, u "java/lang/Object"), (0, u "<init>"), (0, u "()V"), (33, .class_ 42), (1, u "com/example/bitsieve/bitsieve/Hashing"), (0, u "LITTLE_ENDIAN_LONG"), (0, u "Ljava/lang/invoke/VarHandle;"), (19, u "littleEndian"), (0, u "([BII)J")] 4

def k2m0 : Method := { name := "<init>", desc := "()V", sig := { parameters := [], returnType := none }, accessFlags := 2, code := none }
def k2c1 : Code := { maxStack := 5, maxLocals := 6, code := prog_19_method_5_code, exceptionTable := #[], attributes := #[] }
def k2m1 : Method := { name := "littleEndian", desc := "([BII)J", sig := { parameters := [(.array .byte), .int, .int], returnType := some .long }, accessFlags := 8, code := some k2c1 }
/-- com/example/bitsieve/bitsieve/Hashing -/
def k2 : Class := { plain "com/example/bitsieve/bitsieve/Hashing" (some 0) with
  accessFlags := 48
  interfaces := #[]
  cf := some (fileOf pool2 40 #[] #[{ accessFlags := 2, nameIndex := 5, descriptorIndex := 6, attributes := #[] }, { accessFlags := 8, nameIndex := 64, descriptorIndex := 65, attributes := #[] }] 48 2 #[] #[{ accessFlags := 26, nameIndex := 43, descriptorIndex := 44, attributes := #[] }])
  fields := #[{ name := "LITTLE_ENDIAN_LONG", type := (.object "java/lang/invoke/VarHandle"), accessFlags := 26, slot := 0, constantValue := 0 }]
  methods := #[k2m0, k2m1]
  instanceTypes := #[]
  staticTypes := #[(.object "java/lang/invoke/VarHandle")]
  resolved := Array.replicate 70 none
  statics := none }

def pool3 : Array CpInfo := pool [(1, u "java/lang/Cloneable"), (0, .class_ 1), (0, u "java/lang/Object"), (0, .class_ 3)] 3

/-- java/lang/Cloneable -/
def k3 : Class := { plain "java/lang/Cloneable" (some 0) with
  accessFlags := 1537
  interfaces := #[]
  cf := some (fileOf pool3 2 #[] #[] 1537 4 #[] #[])
  fields := #[]
  methods := #[]
  instanceTypes := #[]
  staticTypes := #[]
  resolved := Array.replicate 8 none
  statics := none }

def pool4 : Array CpInfo := pool [(1, u "java/io/Serializable"), (0, .class_ 1), (0, u "java/lang/Object"), (0, .class_ 3)] 3

/-- java/io/Serializable -/
def k4 : Class := { plain "java/io/Serializable" (some 0) with
  accessFlags := 1537
  interfaces := #[]
  cf := some (fileOf pool4 2 #[] #[] 1537 4 #[] #[])
  fields := #[]
  methods := #[]
  instanceTypes := #[]
  staticTypes := #[]
  resolved := Array.replicate 8 none
  statics := none }

/-- the primitive byte -/
def k5 : Class := { plain "byte" none with kind := .primitive 'B', accessFlags := 0x411 }
/-- [B -/
def k6 : Class := { plain "[B" (some 0) with kind := .array 5 .byte, interfaces := #[3, 4], accessFlags := 1041 }

/-- the primitive int -/
def k7 : Class := { plain "int" none with kind := .primitive 'I', accessFlags := 0x411 }
/-- [I -/
def k8 : Class := { plain "[I" (some 0) with kind := .array 7 .int, interfaces := #[3, 4], accessFlags := 1041 }

def heap : Heap := #[]
def classes : Array Class := #[k0, k1, k2, k3, k4, k5, k6, k7, k8]
def interned : List (Array UInt16 × Addr) := []
def slotsUsed : Nat := 0
def theMethod : MethodId := ⟨1, 1⟩
def args0 : Array Value := #[.long 5, .long 7, .int 9, .int 3, .int 5]
def aboutOver (below : List Frame) : State where
  vm := { classes := classes, interned := interned.toArray }
  heap := heap
  slotsUsed := slotsUsed
  threads := #[{ frames := .invoking theMethod args0 :: below }]
def below0 : List Frame := [.native { method := ⟨0, 0⟩, args := #[] }]
def about1 : State := aboutOver below0
def p0 : Program := .bare "" "" ""
def e0 : Env := launch0.env 0 0 0
theorem w_frames : about1.frames = Frame.invoking theMethod args0 :: below0 := rfl
set_option maxRecDepth 65536 in
theorem w_args : argsFit about1.vm theMethod args0 = true := by decide +kernel
set_option maxRecDepth 65536 in
theorem w_heap : heapFits about1 = true := by decide +kernel
set_option maxRecDepth 65536 in
theorem w_runnable : about1.curStatus? = some .runnable := by decide +kernel
set_option maxRecDepth 65536 in
theorem w_alone : about1.alone = true := by decide +kernel
set_option maxRecDepth 65536 in
theorem w_named : about1.methodNamed? x = some theMethod := by decide +kernel
set_option maxRecDepth 65536 in
theorem w_hears : about1.hears theMethod below0 = true := by decide +kernel
set_option maxRecDepth 65536 in
theorem w_ripe : about1.ripe theMethod args0 below0 = true := by decide +kernel
theorem w_running : about1.status = .running := rfl
set_option maxRecDepth 65536 in
theorem w_room : about1.hasRoom e0.platform room_1 = true :=
  launch0.hasRoom_least _ room_1 (by decide +kernel) (by decide +kernel) (by decide +kernel) (by decide +kernel) (by decide +kernel) (by decide +kernel)
theorem allAtoms_all (ts : List Jvm.Cond) (a : Array Jvm.Value) (st : Jvm.State) : (allAtoms ts).before a st = ts.all (fun c => c.before a st) := by
  induction ts with
  | nil => rfl
  | cons c t ih =>
    show (Jvm.Cond.and c (allAtoms t)).before a st = _
    rw [Jvm.Cond.before_and, ih, List.all_cons]
def words1 : List Jvm.Cond := Jvm.Cond.code x code maxLocals ret :: tables_1
/-- a 'code' word, met by the world's own term for the bytes: nothing is compared byte by byte -/
theorem code_word {y : MethodName} {bytes : ByteArray} {mx : Nat} {rt : Option FieldType} {a : Array Value} {s : State} {m : MethodId} {meth : Method} {c : Code} (h1 : s.methodNamed? y = some m) (h2 : s.vm.method? m = some meth) (h3 : meth.code = some c) (h4 : c.code = bytes)
    (h5 : (c.maxLocals == mx && c.exceptionTable.isEmpty && decide (c.maxStack ≤ mostOperands) && decide (meth.sig.returnType = rt) && !meth.locks && decide (parseMethodDescriptor y.desc = some meth.sig)) = true) : (Jvm.Cond.code y bytes mx rt).before a s = true := by
  simp only [Bool.and_eq_true, beq_iff_eq, Bool.not_eq_true', decide_eq_true_eq] at h5
  obtain ⟨⟨⟨⟨⟨g1, g2⟩, g3⟩, g4⟩, g5⟩, g6⟩ := h5
  simp [Cond.before, Cond.holds, Cond.value, h1, h2, h3, h4, g1, g2, g3, g4, g5, g6]
def isCode : Jvm.Cond → Bool
  | .code _ _ _ _ => true
  | _ => false
theorem all_split {L : List Jvm.Cond} {P : Jvm.Cond → Bool} (h1 : L.all (fun c => isCode c || P c) = true) (h2 : ∀ c ∈ L.filter isCode, P c = true) : L.all P = true := by
  refine List.all_eq_true.mpr fun c hc => ?_
  have h := List.all_eq_true.mp h1 c hc
  rcases Bool.eq_false_or_eq_true (isCode c) with hi | hi
  · exact h2 c (List.mem_filter.mpr ⟨hc, hi⟩)
  · simpa [hi] using h
set_option maxRecDepth 65536 in
theorem w_c0 : (Jvm.Cond.code x code maxLocals ret).before args0 about1 = true := code_word (m := ⟨1, 1⟩) (meth := k1m1) (c := k1c1) (by decide +kernel) rfl rfl rfl (by decide +kernel)
set_option maxRecDepth 65536 in
theorem w_c1 : (Jvm.Cond.code ({ cls := "com/example/bitsieve/bitsieve/Hashing", name := "littleEndian", desc := "([BII)J" } : Jvm.MethodName) prog_19_method_5_code (6 : Nat) (Option.some Jvm.ClassFile.FieldType.long)).before args0 about1 = true := code_word (m := ⟨2, 1⟩) (meth := k2m1) (c := k2c1) (by decide +kernel) rfl rfl rfl (by decide +kernel)
def codes1 : List Jvm.Cond := [Jvm.Cond.code x code maxLocals ret, Jvm.Cond.code ({ cls := "com/example/bitsieve/bitsieve/Hashing", name := "littleEndian", desc := "([BII)J" } : Jvm.MethodName) prog_19_method_5_code (6 : Nat) (Option.some Jvm.ClassFile.FieldType.long)]
set_option maxRecDepth 65536 in
theorem codes_eq : words1.filter isCode = codes1 := rfl
theorem w_codes : ∀ c ∈ words1.filter isCode, c.before args0 about1 = true := by
  rw [codes_eq]
  intro c hc
  simp only [codes1, List.mem_cons, List.not_mem_nil, or_false] at hc
  rcases hc with rfl | rfl
  · exact w_c0
  · exact w_c1
set_option maxRecDepth 65536 in
theorem w_t1 : words1.all (fun c => isCode c || c.before args0 about1) = true := by decide +kernel
theorem w_tables : (allAtoms (Jvm.Cond.code x code maxLocals ret :: tables_1)).before args0 about1 = true := by
  rw [allAtoms_all]
  show words1.all (fun c => c.before args0 about1) = true
  refine all_split ?_ w_codes
  rw [w_t1]
set_option maxRecDepth 65536 in
theorem w_case : (Jvm.Cond.and given_1 narrow_1).before args0 about1 = true := by decide +kernel
theorem w_applies : (headSpec (Jvm.Cond.code x code maxLocals ret :: tables_1) room_1).applies x e0.platform about1 = true :=
  (Spec.applies_iff w_frames).mpr ⟨w_running, w_runnable, w_alone, w_named, w_hears, w_ripe, w_room, w_tables⟩
theorem atStart : AtStart classFile x code maxLocals ret World_1 tables_1 room_1 Calls_1 rest_1 Pre_1 launch0 p0 e0 about1 theMethod args0 below0 :=
  ⟨lists_1, trivial, launch0.admits_env _ _ _, launch0.least_env, fairChoices_fair.cas, fairChoices_fair.clock, w_frames, w_args, w_heap, w_applies, trivial, trivial, w_case⟩
end start1
theorem witness_1 : WitnessClaimed_1 := ⟨start1.p0, start1.e0, start1.about1, start1.theMethod, start1.args0, start1.below0, start1.atStart⟩
end Jvm.Pilot.@@N@@
