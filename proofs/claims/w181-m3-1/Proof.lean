import JvmDerived
import JvmDerived.Pilot.@@N@@Statement
import JvmDerived.Pilot.@@N@@Code
set_option linter.unusedVariables false
set_option linter.unusedSimpArgs false
namespace Jvm.RoadKit
open Sem ClassFile Op Lib Jvm.Stand Jvm.Free Jvm.LawKit
section New
variable {p : Program} {l : Launch} {e : Env} {R : Room} {s : State} {m : MethodId} {args : Array Value} {below : List Frame} {meth : Method} {c : Code} {T : State} {locs : List Loc} {cells slots : Nat}
theorem retI (X : Stand p l e R s m args below meth c T locs cells slots) (hx : p.tables.exec = Jvm.exec) {pc : Nat} {Ls : Array Slot} {z : Int32} {rest : List Value} (hret : meth.sig.returnType = some .int) (hd : decode c.code pc = .ok (.ireturn, 1)) {fs : List Frame}
    (hl : ∀ (f : JFrame) (acts : List Action), f.method = m → f.locked = none → f.entered = [] → (doReturn e (T.setTop f) acts (some (.int z))).1 = T.setFrames fs) : Steps p.tables e below (T.setTop (mkF m pc Ls (.int z :: rest))) (T.setFrames fs) := by
  have hm' : T.vm.method? m = some meth := X.method'
  have hn : narrow .int (.int z) = .int z := rfl
  show Steps p.tables e below (T.setTop { method := m, pc := pc, locals := Ls, stack := _ :: rest, locked := none }) _
  jvm_step X.here [X.here.top, hx, hd, hm', hret, hn]
  first | (intro acts; rw [hl _ acts rfl rfl rfl]) | rw [hl _ _ rfl rfl rfl]
  exact Steps.refl _
end New
end Jvm.RoadKit
namespace Jvm.Pilot.@@N@@
open Jvm Jvm.ClassFile Sem Op Lib Jvm.Free Jvm.Stand Jvm.LawKit Jvm.RoadKit Bundle Jvm.Pilot.@@N@@.Jvm.D
/-- an array of ints (bytes) of which the length is known -/
def own_Arl (Z : State) (h : Heap) (a : Addr) (ty : FieldType) (z : Int32) : Prop := ∃ c : Cell, Arr Z h a c ty ∧ c.slots.size = z.toNatClampNeg ∧ ¬ z < 0
/-- an array of ints (bytes) that holds f -/
def own_Arf (Z : State) (h : Heap) (a : Addr) (ty : FieldType) (z : Int32) (f : Nat → Int32) : Prop := ∃ c : Cell, Arr Z h a c ty ∧ c.slots.size = z.toNatClampNeg ∧ ¬ z < 0 ∧ ∀ i, i < z.toNatClampNeg → c.slots[i]? = some (.int (f i))
section Arrs
variable {Z : State} {h h' : Heap} {a b : Addr} {ty : FieldType} {z j x : Int32} {f g : Nat → Int32} {sl : Nat} {v : Value} {ws : List Addr} {k : ClassId} {vs : List Value} {dv : Value} {c : Cell}
theorem own_Arl.lt (F : own_Arl Z h a ty z) : a < h.size := by obtain ⟨c, A, -⟩ := F; exact A.lt
theorem own_Arl.ext (F : own_Arl Z h a ty z) (E : Ext h h') : own_Arl Z h' a ty z := by obtain ⟨c, A, r⟩ := F; exact ⟨c, A.ext E, r⟩
theorem own_Arl.other (F : own_Arl Z h b ty z) (W : Wr h h' a sl v) (q : b ≠ a) : own_Arl Z h' b ty z := by obtain ⟨c, A, r⟩ := F; exact ⟨c, A.other W q, r⟩
theorem own_Arl.keep (F : own_Arl Z h a ty z) (K : Keep h h' ws) (q : a ∉ ws) : own_Arl Z h' a ty z := by obtain ⟨c, A, r⟩ := F; exact ⟨c, ⟨K.2.1 a c A.1 q, A.2⟩, r⟩
theorem own_Arl.new (A : Arr Z h a (newA k ty z) ty) (q : ¬ z < 0) : own_Arl Z h a ty z := ⟨_, A, sz_new _ _ _, q⟩
theorem own_Arl.same (A : Arr Z h a c ty) (S : c.slots.size = z.toNatClampNeg) (q : ¬ z < 0) (W : Wr h h' a sl v) : own_Arl Z h' a ty z := ⟨_, A.same W, (sz_set _ _ _).trans S, q⟩
theorem own_Arl.ofV (F : Arv Z h a k ty z vs dv) : own_Arl Z h a ty z := by obtain ⟨c, A, -, S, N, -⟩ := F; exact ⟨c, A, S, N⟩
theorem own_Arl.ofA (F : own_Arf Z h a ty z f) : own_Arl Z h a ty z := by obtain ⟨c, A, S, N, -⟩ := F; exact ⟨c, A, S, N⟩
theorem own_Arf.lt (F : own_Arf Z h a ty z f) : a < h.size := by obtain ⟨c, A, -⟩ := F; exact A.lt
theorem own_Arf.ext (F : own_Arf Z h a ty z f) (E : Ext h h') : own_Arf Z h' a ty z f := by obtain ⟨c, A, r⟩ := F; exact ⟨c, A.ext E, r⟩
theorem own_Arf.other (F : own_Arf Z h b ty z f) (W : Wr h h' a sl v) (q : b ≠ a) : own_Arf Z h' b ty z f := by obtain ⟨c, A, r⟩ := F; exact ⟨c, A.other W q, r⟩
theorem own_Arf.keep (F : own_Arf Z h a ty z f) (K : Keep h h' ws) (q : a ∉ ws) : own_Arf Z h' a ty z f := by obtain ⟨c, A, r⟩ := F; exact ⟨c, ⟨K.2.1 a c A.1 q, A.2⟩, r⟩
theorem own_Arf.new (A : Arr Z h a (newA k ty z) ty) (q : ¬ z < 0) (hd : defaultValue ty = .int 0) : own_Arf Z h a ty z (fun _ => 0) := ⟨_, A, sz_new _ _ _, q, fun i hi => by simp [newA, hi, hd]⟩
theorem own_Arf.set (A : Arr Z h a c ty) (S : c.slots.size = z.toNatClampNeg) (q : ¬ z < 0) (H : ∀ i, i < z.toNatClampNeg → c.slots[i]? = some (.int (f i))) (W : Wr h h' a sl (.int x)) (e : sl = j.toNatClampNeg) (hg : g = fun i => if i = j.toNatClampNeg then x else f i) : own_Arf Z h' a ty z g := by
  subst e hg
  refine ⟨_, A.same W, (sz_set _ _ _).trans S, q, fun i hi => ?_⟩
  by_cases hij : i = j.toNatClampNeg
  · subst hij
    have hs : j.toNatClampNeg < c.slots.size := by rw [S]; exact hi
    simp [Cell.setSlot, hs]
  · rw [show (c.setSlot j.toNatClampNeg (.int x)).slots[i]? = c.slots[i]? from Array.getElem?_setIfInBounds_ne (Ne.symm hij), H i hi]
    simp [hij]
theorem own_Arf.ofV (F : Arv Z h a k ty z vs dv) (e : ∀ i, i < z.toNatClampNeg → vs.getD i dv = .int (f i)) : own_Arf Z h a ty z f := by
  obtain ⟨c, A, -, S, N, H, -⟩ := F
  exact ⟨c, A, S, N, fun i hi => by rw [H i (by rw [S]; exact hi), e i hi]⟩
theorem own_Arf.congr (F : own_Arf Z h a ty z f) (e : ∀ i, i < z.toNatClampNeg → f i = g i) : own_Arf Z h a ty z g := by obtain ⟨c, A, S, N, H⟩ := F; exact ⟨c, A, S, N, fun i hi => by rw [← e i hi]; exact H i hi⟩
theorem own_sta_keep {C n d : String} (F : Sta Z h C n d v) (K : Keep h h' []) : Sta Z h' C n d v := by
  obtain ⟨cf, i, k, f, st, cell, h1, h2, h3, h4, h5, r⟩ := F
  exact ⟨cf, i, k, f, st, cell, h1, h2, h3, h4, K.2.1 _ _ h5 nin0, r⟩
theorem own_at (H : ∀ i, i < z.toNatClampNeg → c.slots[i]? = some (.int (f i))) (S : c.slots.size = z.toNatClampNeg) (q : ¬ (j < 0 ∨ c.slots.size ≤ j.toNatClampNeg)) (e : f j.toNatClampNeg = x) : c.slots[j.toNatClampNeg]? = some (.int x) := by
  rw [← e]; exact H _ (by rw [← S]; exact Nat.lt_of_not_le fun y => q (Or.inr y))
end Arrs
/-- a forest over four places: F the parents, G the roots, D falls on the way up -/
def own_goodN (F G D : Nat → Nat) : Prop := ∀ i, i < 4 → F i < 4 ∧ G i < 4 ∧ G (F i) = G i ∧ F (G i) = G i ∧ G (G i) = G i ∧ (F i = i → G i = i) ∧ (F i ≠ i → D (F i) < D i)
def own_good (f g : Nat → Int32) (D : Nat → Nat) : Prop := (∀ i, i < 4 → ¬ f i < 0) ∧ (∀ i, i < 4 → ¬ g i < 0) ∧ own_goodN (fun i => (f i).toNatClampNeg) (fun i => (g i).toNatClampNeg) D
theorem own_halfN {F G D : Nat → Nat} (h : own_goodN F G D) {x : Nat} (hx : x < 4) (hne : F x ≠ x) : own_goodN (fun i => if i = x then F (F x) else F i) G D ∧ G (F (F x)) = G x ∧ D (F (F x)) < D x ∧ F (F x) < 4 := by
  have hx' := h x hx
  have hF := h (F x) hx'.1
  have d1 : D (F (F x)) < D x := by
    by_cases e : F (F x) = F x
    · rw [e]; exact hx'.2.2.2.2.2.2 hne
    · exact Nat.lt_trans (hF.2.2.2.2.2.2 e) (hx'.2.2.2.2.2.2 hne)
  have g1 : G (F (F x)) = G x := by rw [hF.2.2.1, hx'.2.2.1]
  refine ⟨fun i hi => ?_, g1, d1, hF.1⟩
  have hi' := h i hi
  have gr : (if G i = x then F (F x) else F (G i)) = G i := by
    by_cases e : G i = x
    · exact absurd (e ▸ hi'.2.2.2.1) hne
    · rw [if_neg e]; exact hi'.2.2.2.1
  by_cases e : i = x
  · subst e
    simp only [if_true]
    refine ⟨hF.1, hi'.2.1, g1, gr, hi'.2.2.2.2.1, fun q => ?_, fun _ => d1⟩
    rw [q] at d1; exact absurd d1 (Nat.lt_irrefl _)
  · simp only [if_neg e]
    exact ⟨hi'.1, hi'.2.1, hi'.2.2.1, gr, hi'.2.2.2.2.1, hi'.2.2.2.2.2.1, hi'.2.2.2.2.2.2⟩
theorem own_linkN {F G D : Nat → Nat} (h : own_goodN F G D) {c r : Nat} (hc : c < 4) (hr : r < 4) (rc : G c = c) (rr : G r = r) (hne : c ≠ r) :
    own_goodN (fun i => if i = c then r else F i) (fun i => if G i = c then r else G i) (fun i => if G i = c then D i + 1 + D r else D i) := by
  intro i hi
  have hi' := h i hi
  have fr : F r = r := by have := (h r hr).2.2.2.1; rwa [rr] at this
  have fc : F c = c := by have := (h c hc).2.2.2.1; rwa [rc] at this
  have nrc : r ≠ c := Ne.symm hne
  by_cases e : i = c
  · subst e
    simp only [rc, if_true, rr, if_neg nrc, fr]
    refine ⟨hr, hr, trivial, trivial, trivial, fun q => q, fun _ => by omega⟩
  · simp only [if_neg e]
    by_cases q : G i = c
    · simp only [hi'.2.2.1, q, if_true, rr, if_neg nrc, fr]
      refine ⟨hi'.1, hr, trivial, trivial, trivial, fun z => ?_, fun z => ?_⟩
      · have := hi'.2.2.2.2.2.1 z; omega
      · have := hi'.2.2.2.2.2.2 z; omega
    · simp only [hi'.2.2.1, if_neg q, hi'.2.2.2.1, hi'.2.2.2.2.1]
      exact ⟨hi'.1, hi'.2.1, trivial, trivial, trivial, hi'.2.2.2.2.2.1, hi'.2.2.2.2.2.2⟩

theorem own_congrN {F F' G G' D : Nat → Nat} (h : own_goodN F G D) (e1 : ∀ i, i < 4 → F' i = F i) (e2 : ∀ i, i < 4 → G' i = G i) : own_goodN F' G' D := by
  intro i hi
  have hi' := h i hi
  rw [e1 i hi, e2 i hi, e2 _ hi'.1, e1 _ hi'.2.1, e2 _ hi'.2.1]
  exact hi'
theorem own_cl {j : Int32} (q : ¬ j < 0) (h : j.toInt < 4) : j.toNatClampNeg < 4 := by have := nat_of q; omega
theorem own_nn {j : Int32} (h : 0 ≤ j.toInt) : ¬ j < 0 := by rw [Int32.lt_iff_toInt_lt]; have q0 : (0 : Int32).toInt = 0 := rfl; omega
theorem own_inj {a b : Int32} (ha : ¬ a < 0) (hb : ¬ b < 0) (h : a.toNatClampNeg = b.toNatClampNeg) : a = b := Int32.toInt_inj.mp (by rw [nat_of ha, nat_of hb, h])
theorem own_bnd {f g : Nat → Int32} {D : Nat → Nat} (h : own_good f g D) {i : Nat} (hi : i < 4) : 0 ≤ (f i).toInt ∧ (f i).toInt < 4 ∧ 0 ≤ (g i).toInt ∧ (g i).toInt < 4 := by
  have h1 := nat_of (h.1 i hi)
  have h2 := nat_of (h.2.1 i hi)
  have h3 := h.2.2 i hi
  simp only at h3
  omega
theorem own_root {f g : Nat → Int32} {D : Nat → Nat} (h : own_good f g D) {x : Int32} (h0 : 0 ≤ x.toInt) (h4 : x.toInt < 4) (e : f x.toNatClampNeg = x) : (g x.toNatClampNeg).toInt = x.toInt := by
  have q := own_nn h0
  have hx := own_cl q h4
  have h3 := (h.2.2 _ hx).2.2.2.2.2.1 (by show (f x.toNatClampNeg).toNatClampNeg = _; rw [e])
  rw [own_inj (h.2.1 _ hx) q h3]
theorem own_top {f g : Nat → Int32} {D : Nat → Nat} (h : own_good f g D) {x : Int32} (h0 : 0 ≤ x.toInt) (h4 : x.toInt < 4) (e : D x.toNatClampNeg ≤ 0) : f x.toNatClampNeg = x := by
  have q := own_nn h0
  have hx := own_cl q h4
  apply own_inj (h.1 _ hx) q
  apply Classical.byContradiction
  intro ne
  have := (h.2.2 _ hx).2.2.2.2.2.2 ne
  omega
theorem own_half {f g k : Nat → Int32} {D : Nat → Nat} (h : own_good f g D) {x : Int32} (h0 : 0 ≤ x.toInt) (h4 : x.toInt < 4) (hne : ¬ f x.toNatClampNeg = x) (hk : k = fun i => if i = x.toNatClampNeg then f (f x.toNatClampNeg).toNatClampNeg else f i) :
    own_good k g D ∧ 0 ≤ (k x.toNatClampNeg).toInt ∧ (k x.toNatClampNeg).toInt < 4 ∧ g (k x.toNatClampNeg).toNatClampNeg = g x.toNatClampNeg ∧ D (k x.toNatClampNeg).toNatClampNeg < D x.toNatClampNeg := by
  have q := own_nn h0
  have hx := own_cl q h4
  obtain ⟨a, b, c, d⟩ := own_halfN h.2.2 hx (fun e => hne (own_inj (h.1 _ hx) q e))
  have fx := (h.2.2 _ hx).1
  have ek : k x.toNatClampNeg = f (f x.toNatClampNeg).toNatClampNeg := by rw [hk]; simp
  have nk := h.1 _ fx
  have gk : own_good k g D := by
    refine ⟨fun i hi => ?_, h.2.1, own_congrN a (fun i hi => ?_) (fun _ _ => rfl)⟩
    · rw [hk]; by_cases e : i = x.toNatClampNeg
      · simp only [e, if_true]; exact nk
      · simp only [if_neg e]; exact h.1 i hi
    · rw [hk]; by_cases e : i = x.toNatClampNeg
      · simp only [e, if_true]
      · simp only [if_neg e]
  have bd := own_bnd gk hx
  refine ⟨gk, bd.1, bd.2.1, ?_, ?_⟩
  · rw [ek]; exact own_inj (h.2.1 _ d) (h.2.1 _ hx) b
  · rw [ek]; exact c
theorem own_link {f g f' g' : Nat → Int32} {D : Nat → Nat} (h : own_good f g D) {i1 i2 : Nat} (l1 : i1 < 4) (l2 : i2 < 4) (hne : ¬ g i1 = g i2) (hf : f' = fun i => if i = (g i1).toNatClampNeg then g i2 else f i) (hg : ∀ i, i < 4 → g' i = if g i = g i1 then g i2 else g i) :
    own_good f' g' (fun i => if (g i).toNatClampNeg = (g i1).toNatClampNeg then D i + 1 + D (g i2).toNatClampNeg else D i) := by
  have a1 := h.2.2 _ l1
  have a2 := h.2.2 _ l2
  have key := own_linkN h.2.2 a1.2.1 a2.2.1 a1.2.2.2.2.1 a2.2.2.2.2.1 (fun e => hne (own_inj (h.2.1 _ l1) (h.2.1 _ l2) e))
  refine ⟨fun i hi => ?_, fun i hi => ?_, own_congrN key (fun i hi => ?_) (fun i hi => ?_)⟩
  · rw [hf]; by_cases e : i = (g i1).toNatClampNeg
    · simp only [if_pos e]; exact h.2.1 _ l2
    · simp only [if_neg e]; exact h.1 i hi
  · rw [hg i hi]; by_cases e : g i = g i1
    · rw [if_pos e]; exact h.2.1 _ l2
    · rw [if_neg e]; exact h.2.1 i hi
  · rw [hf]; by_cases e : i = (g i1).toNatClampNeg
    · simp only [if_pos e]
    · simp only [if_neg e]
  · simp only; rw [hg i hi]; by_cases e : g i = g i1
    · rw [if_pos e, if_pos (by rw [e])]
    · rw [if_neg e, if_neg (fun z => e (own_inj (h.2.1 _ hi) (h.2.1 _ l1) z))]
theorem own_start {f g : Nat → Int32} (hf : ∀ i, i < 4 → (f i).toInt = (i : Int)) (hg : ∀ i, i < 4 → (g i).toInt = (i : Int)) : own_good f g (fun _ => 0) := by
  have nf : ∀ i, i < 4 → ¬ f i < 0 := fun i hi => own_nn (by rw [hf i hi]; omega)
  have ng : ∀ i, i < 4 → ¬ g i < 0 := fun i hi => own_nn (by rw [hg i hi]; omega)
  have ef : ∀ i, i < 4 → (f i).toNatClampNeg = i := fun i hi => by have := nat_of (nf i hi); have := hf i hi; omega
  have eg : ∀ i, i < 4 → (g i).toNatClampNeg = i := fun i hi => by have := nat_of (ng i hi); have := hg i hi; omega
  refine ⟨nf, ng, own_congrN (F := fun i => i) (G := fun i => i) (fun i hi => ?_) ef eg⟩
  exact ⟨hi, hi, rfl, rfl, rfl, fun q => q, fun q => absurd rfl q⟩
theorem own_d1_0 : decode prog_8_method_1_code 0 = .ok (.aload_n 0, 1) := by decide +kernel
theorem own_d1_1 : decode prog_8_method_1_code 1 = .ok (.invokespecial 1, 3) := by decide +kernel
theorem own_d1_4 : decode prog_8_method_1_code 4 = .ok (.aload_n 0, 1) := by decide +kernel
theorem own_d1_5 : decode prog_8_method_1_code 5 = .ok (.iload_n 1, 1) := by decide +kernel
theorem own_d1_6 : decode prog_8_method_1_code 6 = .ok (.newarray .int, 2) := by decide +kernel
theorem own_d1_8 : decode prog_8_method_1_code 8 = .ok (.putfield 7, 3) := by decide +kernel
theorem own_d1_11 : decode prog_8_method_1_code 11 = .ok (.iconst 0, 1) := by decide +kernel
theorem own_d1_12 : decode prog_8_method_1_code 12 = .ok (.istore_n 2, 1) := by decide +kernel
theorem own_d1_13 : decode prog_8_method_1_code 13 = .ok (.iload_n 2, 1) := by decide +kernel
theorem own_d1_14 : decode prog_8_method_1_code 14 = .ok (.iload_n 1, 1) := by decide +kernel
theorem own_d1_15 : decode prog_8_method_1_code 15 = .ok (.if_icmp .ge 16, 3) := by decide +kernel
theorem own_d1_18 : decode prog_8_method_1_code 18 = .ok (.aload_n 0, 1) := by decide +kernel
theorem own_d1_19 : decode prog_8_method_1_code 19 = .ok (.getfield 7, 3) := by decide +kernel
theorem own_d1_22 : decode prog_8_method_1_code 22 = .ok (.iload_n 2, 1) := by decide +kernel
theorem own_d1_23 : decode prog_8_method_1_code 23 = .ok (.iload_n 2, 1) := by decide +kernel
theorem own_d1_24 : decode prog_8_method_1_code 24 = .ok (.iastore, 1) := by decide +kernel
theorem own_d1_25 : decode prog_8_method_1_code 25 = .ok (.iinc 2 1, 3) := by decide +kernel
theorem own_d1_28 : decode prog_8_method_1_code 28 = .ok (.goto (-15), 3) := by decide +kernel
theorem own_d1_31 : decode prog_8_method_1_code 31 = .ok (.return_, 1) := by decide +kernel
theorem own_pn0 : plainName "tersegraph/Forest" = true := by first | (simp [plainName, overriddenIn]; done) | decide +kernel
def Q_rm1 (Z : State) (fo : Addr) (h0 : Heap) (n0 : Nat) (v : Option Value) (h : Heap) (L : List Loc) : Prop := ∃ (pa : Addr), ∃ (f : Nat → Int32), v = none ∧ (∀ i : Nat, i < 4 → (f i).toInt = (i : Int)) ∧ Fr n0 L ∧ Keep h0 h [fo] ∧ h0.size ≤ pa ∧ Exa Z h fo "tersegraph/Forest" ∧ Fld Z h fo "tersegraph/Forest" "parent" "[I" (.ref pa) ∧ own_Arf Z h pa .int (4 : Int32) f
theorem own_ef_rm1 (m : MethodId) (fo : Addr) : entryFrame m #[(.ref fo), (.int (4 : Int32))] 3 = mkF m 0 #[.val (.ref fo), .val (.int (4 : Int32)), .unset] [] := by first | (simp [entryFrame, mkF, argsToLocals, Value.category]; done) | rfl
set_option maxRecDepth 65536 in
set_option maxHeartbeats 40000000 in
theorem rm1 (l : Launch) (Z : State) (a0 : Array Value) (hw : ∀ d ∈ tables_1, d.before a0 Z = true) (ws : List Jvm.Cond) (fo : Addr) (h0 : Heap) (n0 : Nat) (Z0 : n0 ≤ h0.size) (P_0 : Exa Z h0 fo "tersegraph/Forest") (P_1 : Fld Z h0 fo "tersegraph/Forest" "parent" "[I" .null) (P_2 : n0 ≤ fo) :
    MetFree l (⟨"tersegraph/Forest", "<init>", "(I)V"⟩ : MethodName) (head1 (Jvm.Cond.code (⟨"tersegraph/Forest", "<init>", "(I)V"⟩ : MethodName) prog_8_method_1_code 3 none :: ws) ({ frames := 1, cells := 1, slots := 4, locals := 12 } : Room)) (fun a U => a = #[(.ref fo), (.int (4 : Int32))] ∧ Z.Warmed39 U.vm ∧ U.heap = h0) (fun _ _ _ _ _ => True) (fun _ U o U' => ∃ v L, o = .returned v ∧ Q_rm1 Z fo h0 n0 v U'.heap L ∧ FrameEnd U o U' L ({ frames := 1, cells := 1, slots := 4, locals := 12 } : Room).cells ({ frames := 1, cells := 1, slots := 4, locals := 12 } : Room).slots) := by
  refine MetFree.of_bodySF (plainFor_of_name own_pn0) hisR ?_
  intro p e s m args below meth c s₁ Bd hml0 hP hK
  obtain ⟨rfl, hZ, hh⟩ := hP
  have hx := Bd.exec
  have hby := Bd.bytes
  have hml : c.maxLocals = 3 := hml0
  have hown : s.vm.findClass "tersegraph/Forest" = some m.cls := findClass_of_methodNamed Bd.named
  have hnm := (name_of_methodNamed Bd.named Bd.method).1
  have X0 : Stand p l e ({ frames := 1, cells := 1, slots := 4, locals := 12 } : Room) s m #[(.ref fo), (.int (4 : Int32))] below meth c s₁ [] 0 0 := Stand.of_body Bd
  have e0 : s₁.heap = h0 := by rw [← hh, Bd.state]; rfl
  have N0 := Fr.nil n0
  have pre0 : ∀ t, Steps p.tables e below (s₁.setTop (mkF m 0 #[.val (.ref fo), .val (.int (4 : Int32)), .unset] [])) t → Steps p.tables e below (s₁.setTop (entryFrame m #[(.ref fo), (.int (4 : Int32))] 3)) t := fun t k => castTop (own_ef_rm1 m fo) k
  have K1 : ∀ t, Steps p.tables e below (s₁.setTop (mkF m 1 #[.val (.ref fo), .val (.int (4 : Int32)), .unset] [(.ref fo)])) t → Steps p.tables e below (s₁.setTop (entryFrame m #[(.ref fo), (.int (4 : Int32))] 3)) t := fun t k => pre0 t (by
    show Steps p.tables e below (s₁.setTop (mkF m 0 #[.val (.ref fo), .val (.int (4 : Int32)), .unset] [])) t
    refine XS.aloadN X0.here hx rfl (hb hby own_d1_0) rfl rfl ?_
    exact k)
  obtain ⟨T2, X2, e2, st2⟩ := initO X0 hx hZ hown (hw _ (List.mem_of_getElem? (i := 6) rfl)) (hw _ (List.mem_of_getElem? (i := 7) rfl)) (hw _ (List.mem_of_getElem? (i := 8) rfl)) e0 (g := (mkF m 1 #[.val (.ref fo), .val (.int (4 : Int32)), .unset] [(.ref fo)])) rfl (by rw [hml]; rfl) rfl (hb hby own_d1_1) (by decide) (W := 0) (by show 2 * 0 + _ ≤ _; exact Nat.le_of_eq rfl) (by decide)
  have K3 : ∀ t, Steps p.tables e below (T2.setTop (mkF m 4 #[.val (.ref fo), .val (.int (4 : Int32)), .unset] [])) t → Steps p.tables e below (s₁.setTop (entryFrame m #[(.ref fo), (.int (4 : Int32))] 3)) t := fun t k => K1 t (st2 _ k)
  have K4 : ∀ t, Steps p.tables e below (T2.setTop (mkF m 6 #[.val (.ref fo), .val (.int (4 : Int32)), .unset] [(.int (4 : Int32)), (.ref fo)])) t → Steps p.tables e below (s₁.setTop (entryFrame m #[(.ref fo), (.int (4 : Int32))] 3)) t := fun t k => K3 t (by
    show Steps p.tables e below (T2.setTop (mkF m 4 #[.val (.ref fo), .val (.int (4 : Int32)), .unset] [])) t
    refine XS.aloadN X2.here hx rfl (hb hby own_d1_4) rfl rfl ?_
    show Steps p.tables e below (T2.setTop (mkF m 5 #[.val (.ref fo), .val (.int (4 : Int32)), .unset] [(.ref fo)])) t
    refine XS.iloadN X2.here hx rfl (hb hby own_d1_5) rfl ?_
    exact k)
  obtain ⟨T5, h5, k5, X5, e5, E5, A5, st5⟩ := newP X2 hx hZ (hw _ (List.mem_of_getElem? (i := 9) rfl)) e2 (g := (mkF m 6 #[.val (.ref fo), .val (.int (4 : Int32)), .unset] [(.int (4 : Int32)), (.ref fo)])) rfl (hb hby own_d1_6) rfl (by decide) (cap := 4) (by decide) (by decide) (by decide) (by decide)
  obtain ⟨b5, g5⟩ : ∃ z, z = h0.size := ⟨_, rfl⟩
  rw [← g5] at A5 st5
  have ne6 : fo ≠ b5 := Nat.ne_of_lt (Nat.lt_of_lt_of_le P_0.lt (Nat.le_of_eq g5.symm))
  have gb7 : n0 ≤ b5 := Nat.le_trans Z0 (Nat.le_of_eq g5.symm)
  have sb8 : h0.size ≤ b5 := Nat.le_trans (Keep.refl h0 [fo]).1 (Nat.le_of_eq g5.symm)
  have F9 := P_0.ext E5
  have F10 := P_1.ext E5
  have Z11 : n0 ≤ h5.size := Nat.le_trans Z0 E5.1
  have Kp12 : Keep h0 h5 [fo] := Keep.ext (Keep.refl h0 [fo]) E5
  have V13 : own_Arf Z h5 b5 .int (4 : Int32) (fun _ => 0) := own_Arf.new A5 (by decide) rfl
  have K14 : ∀ t, Steps p.tables e below (T5.setTop (mkF m 8 #[.val (.ref fo), .val (.int (4 : Int32)), .unset] [(.ref b5), (.ref fo)])) t → Steps p.tables e below (s₁.setTop (entryFrame m #[(.ref fo), (.int (4 : Int32))] 3)) t := fun t k => K4 t (st5 _ k)
  obtain ⟨T15, h15, X15, e15, W15, st15⟩ := putF X5 hx hZ hown (host := "") (Or.inl (hw _ (List.mem_of_getElem? (i := 10) rfl))) Via.refl e5 F10 F9 (Or.inr ⟨(hw _ (List.mem_of_getElem? (i := 11) rfl)), rfl, hnm⟩) (hw _ (List.mem_of_getElem? (i := 1) rfl)) (ty := (.array .int)) (by decide) rfl rfl (g := (mkF m 8 #[.val (.ref fo), .val (.int (4 : Int32)), .unset] [(.ref b5), (.ref fo)])) rfl rfl (hb hby own_d1_8)
  have F16 := F10.same W15
  have Kp17 : Keep h0 h15 [fo] := Keep.wr Kp12 W15 (Or.inl (List.mem_of_getElem? (i := 0) rfl))
  have Z18 : n0 ≤ h15.size := Nat.le_trans Z11 (Keep.of_wr W15).1
  have N19 := Fr.snoc X15 N0 P_2
  have F20 := F9.wr W15
  have F21 := V13.other W15 (Ne.symm ne6)
  have K22 : ∀ t, Steps p.tables e below (T15.setTop (mkF m 11 #[.val (.ref fo), .val (.int (4 : Int32)), .unset] [])) t → Steps p.tables e below (s₁.setTop (entryFrame m #[(.ref fo), (.int (4 : Int32))] 3)) t := fun t k => K14 t (st15 _ k)
  have q24 := (by decide : (0 : Int32).toInt = 0)
  have q25 := (by decide : (4 : Int32).toInt = 4)
  have hc23 : (0 : Int32) < (4 : Int32) := by rw [Int32.lt_iff_toInt_lt]; omega
  have q26 : (0 : Int32).toInt < (4 : Int32).toInt := Int32.lt_iff_toInt_lt.mp hc23
  have K27 : ∀ t, Steps p.tables e below (T15.setTop (mkF m 19 #[.val (.ref fo), .val (.int (4 : Int32)), .val (.int (0 : Int32))] [(.ref fo)])) t → Steps p.tables e below (s₁.setTop (entryFrame m #[(.ref fo), (.int (4 : Int32))] 3)) t := fun t k => K22 t (by
    show Steps p.tables e below (T15.setTop (mkF m 11 #[.val (.ref fo), .val (.int (4 : Int32)), .unset] [])) t
    refine XS.iconst X15.here hx rfl (hb hby own_d1_11) ?_
    show Steps p.tables e below (T15.setTop (mkF m 12 #[.val (.ref fo), .val (.int (4 : Int32)), .unset] [(.int (0 : Int32))])) t
    refine XS.istoreN X15.here hx rfl (hb hby own_d1_12) rfl (l' := #[.val (.ref fo), .val (.int (4 : Int32)), .val (.int (0 : Int32))]) rfl ?_
    show Steps p.tables e below (T15.setTop (mkF m 13 #[.val (.ref fo), .val (.int (4 : Int32)), .val (.int (0 : Int32))] [])) t
    refine XS.iloadN X15.here hx rfl (hb hby own_d1_13) rfl ?_
    show Steps p.tables e below (T15.setTop (mkF m 14 #[.val (.ref fo), .val (.int (4 : Int32)), .val (.int (0 : Int32))] [(.int (0 : Int32))])) t
    refine XS.iloadN X15.here hx rfl (hb hby own_d1_14) rfl ?_
    show Steps p.tables e below (T15.setTop (mkF m 15 #[.val (.ref fo), .val (.int (4 : Int32)), .val (.int (0 : Int32))] [(.int (4 : Int32)), (.int (0 : Int32))])) t
    refine XS.icmpNo X15.here hx rfl (hb hby own_d1_15) rfl (tlt hc23).2.1 ?_
    show Steps p.tables e below (T15.setTop (mkF m 18 #[.val (.ref fo), .val (.int (4 : Int32)), .val (.int (0 : Int32))] [])) t
    refine XS.aloadN X15.here hx rfl (hb hby own_d1_18) rfl rfl ?_
    exact k)
  obtain ⟨T28, X28, e28, st28⟩ := getF X15 hx hZ hown (host := "") (Or.inl (hw _ (List.mem_of_getElem? (i := 10) rfl))) Via.refl e15 F16 (g := (mkF m 19 #[.val (.ref fo), .val (.int (4 : Int32)), .val (.int (0 : Int32))] [(.ref fo)])) rfl rfl (hb hby own_d1_19)
  have K29 : ∀ t, Steps p.tables e below (T28.setTop (mkF m 22 #[.val (.ref fo), .val (.int (4 : Int32)), .val (.int (0 : Int32))] [(.ref b5)])) t → Steps p.tables e below (s₁.setTop (entryFrame m #[(.ref fo), (.int (4 : Int32))] 3)) t := fun t k => K27 t (st28 _ k)
  have K30 : ∀ t, Steps p.tables e below (T28.setTop (mkF m 24 #[.val (.ref fo), .val (.int (4 : Int32)), .val (.int (0 : Int32))] [(.int (0 : Int32)), (.int (0 : Int32)), (.ref b5)])) t → Steps p.tables e below (s₁.setTop (entryFrame m #[(.ref fo), (.int (4 : Int32))] 3)) t := fun t k => K29 t (by
    show Steps p.tables e below (T28.setTop (mkF m 22 #[.val (.ref fo), .val (.int (4 : Int32)), .val (.int (0 : Int32))] [(.ref b5)])) t
    refine XS.iloadN X28.here hx rfl (hb hby own_d1_22) rfl ?_
    show Steps p.tables e below (T28.setTop (mkF m 23 #[.val (.ref fo), .val (.int (4 : Int32)), .val (.int (0 : Int32))] [(.int (0 : Int32)), (.ref b5)])) t
    refine XS.iloadN X28.here hx rfl (hb hby own_d1_23) rfl ?_
    exact k)
  have q32 : ¬ (0 : Int32) < 0 ∧ (0 : Int32) < (4 : Int32) := by rw [Int32.lt_iff_toInt_lt, Int32.lt_iff_toInt_lt]; have q0 : (0 : Int32).toInt = 0 := rfl; omega
  obtain ⟨cl31, Ar31, S31, N31, Hs31⟩ := id F21
  have hin31 : ¬ ((0 : Int32) < 0 ∨ cl31.slots.size ≤ ((0 : Int32)).toNatClampNeg) := inb_of S31 q32
  obtain ⟨T31, h31, X31, e31, W31, st31⟩ := stI X28 hx hZ e28 Ar31 (j := (0 : Int32)) hin31 (g := (mkF m 24 #[.val (.ref fo), .val (.int (4 : Int32)), .val (.int (0 : Int32))] [(.int (0 : Int32)), (.int (0 : Int32)), (.ref b5)])) rfl rfl (hb hby own_d1_24)
  obtain ⟨f34, hf34⟩ : ∃ fnew : Nat → Int32, fnew = fun i => if i = 0 then (0 : Int32) else (fun _ => 0) i := ⟨_, rfl⟩
  have V33 : own_Arf Z h31 b5 .int (4 : Int32) f34 := own_Arf.set Ar31 S31 N31 Hs31 W31 rfl hf34
  have Kp35 : Keep h0 h31 [fo] := Keep.wr Kp17 W31 (Or.inr sb8)
  have Z36 : n0 ≤ h31.size := Nat.le_trans Z18 (Keep.of_wr W31).1
  have N37 := Fr.snoc X31 N19 gb7
  have F38 := F20.wr W31
  have F39 := F16.other W31 (Or.inl ne6)
  have K40 : ∀ t, Steps p.tables e below (T31.setTop (mkF m 25 #[.val (.ref fo), .val (.int (4 : Int32)), .val (.int (0 : Int32))] [])) t → Steps p.tables e below (s₁.setTop (entryFrame m #[(.ref fo), (.int (4 : Int32))] 3)) t := fun t k => K30 t (st31 _ k)
  have q42 := (by decide : (1 : Int32).toInt = 1)
  have hc41 : (1 : Int32) < (4 : Int32) := by rw [Int32.lt_iff_toInt_lt]; omega
  have q43 : (1 : Int32).toInt < (4 : Int32).toInt := Int32.lt_iff_toInt_lt.mp hc41
  have K44 : ∀ t, Steps p.tables e below (T31.setTop (mkF m 19 #[.val (.ref fo), .val (.int (4 : Int32)), .val (.int (1 : Int32))] [(.ref fo)])) t → Steps p.tables e below (s₁.setTop (entryFrame m #[(.ref fo), (.int (4 : Int32))] 3)) t := fun t k => K40 t (by
    show Steps p.tables e below (T31.setTop (mkF m 25 #[.val (.ref fo), .val (.int (4 : Int32)), .val (.int (0 : Int32))] [])) t
    refine XS.iinc X31.here hx rfl (hb hby own_d1_25) rfl (l' := #[.val (.ref fo), .val (.int (4 : Int32)), .val (.int (1 : Int32))]) rfl ?_
    show Steps p.tables e below (T31.setTop (mkF m 28 #[.val (.ref fo), .val (.int (4 : Int32)), .val (.int (1 : Int32))] [])) t
    refine XS.goto X31.here hx rfl (pc0 := 28) (pc' := 13) rfl (hb hby own_d1_28) (by decide) (by decide) ?_
    show Steps p.tables e below (T31.setTop (mkF m 13 #[.val (.ref fo), .val (.int (4 : Int32)), .val (.int (1 : Int32))] [])) t
    refine XS.iloadN X31.here hx rfl (hb hby own_d1_13) rfl ?_
    show Steps p.tables e below (T31.setTop (mkF m 14 #[.val (.ref fo), .val (.int (4 : Int32)), .val (.int (1 : Int32))] [(.int (1 : Int32))])) t
    refine XS.iloadN X31.here hx rfl (hb hby own_d1_14) rfl ?_
    show Steps p.tables e below (T31.setTop (mkF m 15 #[.val (.ref fo), .val (.int (4 : Int32)), .val (.int (1 : Int32))] [(.int (4 : Int32)), (.int (1 : Int32))])) t
    refine XS.icmpNo X31.here hx rfl (hb hby own_d1_15) rfl (tlt hc41).2.1 ?_
    show Steps p.tables e below (T31.setTop (mkF m 18 #[.val (.ref fo), .val (.int (4 : Int32)), .val (.int (1 : Int32))] [])) t
    refine XS.aloadN X31.here hx rfl (hb hby own_d1_18) rfl rfl ?_
    exact k)
  obtain ⟨T45, X45, e45, st45⟩ := getF X31 hx hZ hown (host := "") (Or.inl (hw _ (List.mem_of_getElem? (i := 10) rfl))) Via.refl e31 F39 (g := (mkF m 19 #[.val (.ref fo), .val (.int (4 : Int32)), .val (.int (1 : Int32))] [(.ref fo)])) rfl rfl (hb hby own_d1_19)
  have K46 : ∀ t, Steps p.tables e below (T45.setTop (mkF m 22 #[.val (.ref fo), .val (.int (4 : Int32)), .val (.int (1 : Int32))] [(.ref b5)])) t → Steps p.tables e below (s₁.setTop (entryFrame m #[(.ref fo), (.int (4 : Int32))] 3)) t := fun t k => K44 t (st45 _ k)
  have K47 : ∀ t, Steps p.tables e below (T45.setTop (mkF m 24 #[.val (.ref fo), .val (.int (4 : Int32)), .val (.int (1 : Int32))] [(.int (1 : Int32)), (.int (1 : Int32)), (.ref b5)])) t → Steps p.tables e below (s₁.setTop (entryFrame m #[(.ref fo), (.int (4 : Int32))] 3)) t := fun t k => K46 t (by
    show Steps p.tables e below (T45.setTop (mkF m 22 #[.val (.ref fo), .val (.int (4 : Int32)), .val (.int (1 : Int32))] [(.ref b5)])) t
    refine XS.iloadN X45.here hx rfl (hb hby own_d1_22) rfl ?_
    show Steps p.tables e below (T45.setTop (mkF m 23 #[.val (.ref fo), .val (.int (4 : Int32)), .val (.int (1 : Int32))] [(.int (1 : Int32)), (.ref b5)])) t
    refine XS.iloadN X45.here hx rfl (hb hby own_d1_23) rfl ?_
    exact k)
  have q49 : ¬ (1 : Int32) < 0 ∧ (1 : Int32) < (4 : Int32) := by rw [Int32.lt_iff_toInt_lt, Int32.lt_iff_toInt_lt]; have q0 : (0 : Int32).toInt = 0 := rfl; omega
  obtain ⟨cl48, Ar48, S48, N48, Hs48⟩ := id V33
  have hin48 : ¬ ((1 : Int32) < 0 ∨ cl48.slots.size ≤ ((1 : Int32)).toNatClampNeg) := inb_of S48 q49
  obtain ⟨T48, h48, X48, e48, W48, st48⟩ := stI X45 hx hZ e45 Ar48 (j := (1 : Int32)) hin48 (g := (mkF m 24 #[.val (.ref fo), .val (.int (4 : Int32)), .val (.int (1 : Int32))] [(.int (1 : Int32)), (.int (1 : Int32)), (.ref b5)])) rfl rfl (hb hby own_d1_24)
  obtain ⟨f51, hf51⟩ : ∃ fnew : Nat → Int32, fnew = fun i => if i = 1 then (1 : Int32) else f34 i := ⟨_, rfl⟩
  have V50 : own_Arf Z h48 b5 .int (4 : Int32) f51 := own_Arf.set Ar48 S48 N48 Hs48 W48 rfl hf51
  have Kp52 : Keep h0 h48 [fo] := Keep.wr Kp35 W48 (Or.inr sb8)
  have Z53 : n0 ≤ h48.size := Nat.le_trans Z36 (Keep.of_wr W48).1
  have N54 := Fr.snoc X48 N37 gb7
  have F55 := F38.wr W48
  have F56 := F39.other W48 (Or.inl ne6)
  have K57 : ∀ t, Steps p.tables e below (T48.setTop (mkF m 25 #[.val (.ref fo), .val (.int (4 : Int32)), .val (.int (1 : Int32))] [])) t → Steps p.tables e below (s₁.setTop (entryFrame m #[(.ref fo), (.int (4 : Int32))] 3)) t := fun t k => K47 t (st48 _ k)
  have q59 := (by decide : (2 : Int32).toInt = 2)
  have hc58 : (2 : Int32) < (4 : Int32) := by rw [Int32.lt_iff_toInt_lt]; omega
  have q60 : (2 : Int32).toInt < (4 : Int32).toInt := Int32.lt_iff_toInt_lt.mp hc58
  have K61 : ∀ t, Steps p.tables e below (T48.setTop (mkF m 19 #[.val (.ref fo), .val (.int (4 : Int32)), .val (.int (2 : Int32))] [(.ref fo)])) t → Steps p.tables e below (s₁.setTop (entryFrame m #[(.ref fo), (.int (4 : Int32))] 3)) t := fun t k => K57 t (by
    show Steps p.tables e below (T48.setTop (mkF m 25 #[.val (.ref fo), .val (.int (4 : Int32)), .val (.int (1 : Int32))] [])) t
    refine XS.iinc X48.here hx rfl (hb hby own_d1_25) rfl (l' := #[.val (.ref fo), .val (.int (4 : Int32)), .val (.int (2 : Int32))]) rfl ?_
    show Steps p.tables e below (T48.setTop (mkF m 28 #[.val (.ref fo), .val (.int (4 : Int32)), .val (.int (2 : Int32))] [])) t
    refine XS.goto X48.here hx rfl (pc0 := 28) (pc' := 13) rfl (hb hby own_d1_28) (by decide) (by decide) ?_
    show Steps p.tables e below (T48.setTop (mkF m 13 #[.val (.ref fo), .val (.int (4 : Int32)), .val (.int (2 : Int32))] [])) t
    refine XS.iloadN X48.here hx rfl (hb hby own_d1_13) rfl ?_
    show Steps p.tables e below (T48.setTop (mkF m 14 #[.val (.ref fo), .val (.int (4 : Int32)), .val (.int (2 : Int32))] [(.int (2 : Int32))])) t
    refine XS.iloadN X48.here hx rfl (hb hby own_d1_14) rfl ?_
    show Steps p.tables e below (T48.setTop (mkF m 15 #[.val (.ref fo), .val (.int (4 : Int32)), .val (.int (2 : Int32))] [(.int (4 : Int32)), (.int (2 : Int32))])) t
    refine XS.icmpNo X48.here hx rfl (hb hby own_d1_15) rfl (tlt hc58).2.1 ?_
    show Steps p.tables e below (T48.setTop (mkF m 18 #[.val (.ref fo), .val (.int (4 : Int32)), .val (.int (2 : Int32))] [])) t
    refine XS.aloadN X48.here hx rfl (hb hby own_d1_18) rfl rfl ?_
    exact k)
  obtain ⟨T62, X62, e62, st62⟩ := getF X48 hx hZ hown (host := "") (Or.inl (hw _ (List.mem_of_getElem? (i := 10) rfl))) Via.refl e48 F56 (g := (mkF m 19 #[.val (.ref fo), .val (.int (4 : Int32)), .val (.int (2 : Int32))] [(.ref fo)])) rfl rfl (hb hby own_d1_19)
  have K63 : ∀ t, Steps p.tables e below (T62.setTop (mkF m 22 #[.val (.ref fo), .val (.int (4 : Int32)), .val (.int (2 : Int32))] [(.ref b5)])) t → Steps p.tables e below (s₁.setTop (entryFrame m #[(.ref fo), (.int (4 : Int32))] 3)) t := fun t k => K61 t (st62 _ k)
  have K64 : ∀ t, Steps p.tables e below (T62.setTop (mkF m 24 #[.val (.ref fo), .val (.int (4 : Int32)), .val (.int (2 : Int32))] [(.int (2 : Int32)), (.int (2 : Int32)), (.ref b5)])) t → Steps p.tables e below (s₁.setTop (entryFrame m #[(.ref fo), (.int (4 : Int32))] 3)) t := fun t k => K63 t (by
    show Steps p.tables e below (T62.setTop (mkF m 22 #[.val (.ref fo), .val (.int (4 : Int32)), .val (.int (2 : Int32))] [(.ref b5)])) t
    refine XS.iloadN X62.here hx rfl (hb hby own_d1_22) rfl ?_
    show Steps p.tables e below (T62.setTop (mkF m 23 #[.val (.ref fo), .val (.int (4 : Int32)), .val (.int (2 : Int32))] [(.int (2 : Int32)), (.ref b5)])) t
    refine XS.iloadN X62.here hx rfl (hb hby own_d1_23) rfl ?_
    exact k)
  have q66 : ¬ (2 : Int32) < 0 ∧ (2 : Int32) < (4 : Int32) := by rw [Int32.lt_iff_toInt_lt, Int32.lt_iff_toInt_lt]; have q0 : (0 : Int32).toInt = 0 := rfl; omega
  obtain ⟨cl65, Ar65, S65, N65, Hs65⟩ := id V50
  have hin65 : ¬ ((2 : Int32) < 0 ∨ cl65.slots.size ≤ ((2 : Int32)).toNatClampNeg) := inb_of S65 q66
  obtain ⟨T65, h65, X65, e65, W65, st65⟩ := stI X62 hx hZ e62 Ar65 (j := (2 : Int32)) hin65 (g := (mkF m 24 #[.val (.ref fo), .val (.int (4 : Int32)), .val (.int (2 : Int32))] [(.int (2 : Int32)), (.int (2 : Int32)), (.ref b5)])) rfl rfl (hb hby own_d1_24)
  obtain ⟨f68, hf68⟩ : ∃ fnew : Nat → Int32, fnew = fun i => if i = 2 then (2 : Int32) else f51 i := ⟨_, rfl⟩
  have V67 : own_Arf Z h65 b5 .int (4 : Int32) f68 := own_Arf.set Ar65 S65 N65 Hs65 W65 rfl hf68
  have Kp69 : Keep h0 h65 [fo] := Keep.wr Kp52 W65 (Or.inr sb8)
  have Z70 : n0 ≤ h65.size := Nat.le_trans Z53 (Keep.of_wr W65).1
  have N71 := Fr.snoc X65 N54 gb7
  have F72 := F55.wr W65
  have F73 := F56.other W65 (Or.inl ne6)
  have K74 : ∀ t, Steps p.tables e below (T65.setTop (mkF m 25 #[.val (.ref fo), .val (.int (4 : Int32)), .val (.int (2 : Int32))] [])) t → Steps p.tables e below (s₁.setTop (entryFrame m #[(.ref fo), (.int (4 : Int32))] 3)) t := fun t k => K64 t (st65 _ k)
  have q76 := (by decide : (3 : Int32).toInt = 3)
  have hc75 : (3 : Int32) < (4 : Int32) := by rw [Int32.lt_iff_toInt_lt]; omega
  have q77 : (3 : Int32).toInt < (4 : Int32).toInt := Int32.lt_iff_toInt_lt.mp hc75
  have K78 : ∀ t, Steps p.tables e below (T65.setTop (mkF m 19 #[.val (.ref fo), .val (.int (4 : Int32)), .val (.int (3 : Int32))] [(.ref fo)])) t → Steps p.tables e below (s₁.setTop (entryFrame m #[(.ref fo), (.int (4 : Int32))] 3)) t := fun t k => K74 t (by
    show Steps p.tables e below (T65.setTop (mkF m 25 #[.val (.ref fo), .val (.int (4 : Int32)), .val (.int (2 : Int32))] [])) t
    refine XS.iinc X65.here hx rfl (hb hby own_d1_25) rfl (l' := #[.val (.ref fo), .val (.int (4 : Int32)), .val (.int (3 : Int32))]) rfl ?_
    show Steps p.tables e below (T65.setTop (mkF m 28 #[.val (.ref fo), .val (.int (4 : Int32)), .val (.int (3 : Int32))] [])) t
    refine XS.goto X65.here hx rfl (pc0 := 28) (pc' := 13) rfl (hb hby own_d1_28) (by decide) (by decide) ?_
    show Steps p.tables e below (T65.setTop (mkF m 13 #[.val (.ref fo), .val (.int (4 : Int32)), .val (.int (3 : Int32))] [])) t
    refine XS.iloadN X65.here hx rfl (hb hby own_d1_13) rfl ?_
    show Steps p.tables e below (T65.setTop (mkF m 14 #[.val (.ref fo), .val (.int (4 : Int32)), .val (.int (3 : Int32))] [(.int (3 : Int32))])) t
    refine XS.iloadN X65.here hx rfl (hb hby own_d1_14) rfl ?_
    show Steps p.tables e below (T65.setTop (mkF m 15 #[.val (.ref fo), .val (.int (4 : Int32)), .val (.int (3 : Int32))] [(.int (4 : Int32)), (.int (3 : Int32))])) t
    refine XS.icmpNo X65.here hx rfl (hb hby own_d1_15) rfl (tlt hc75).2.1 ?_
    show Steps p.tables e below (T65.setTop (mkF m 18 #[.val (.ref fo), .val (.int (4 : Int32)), .val (.int (3 : Int32))] [])) t
    refine XS.aloadN X65.here hx rfl (hb hby own_d1_18) rfl rfl ?_
    exact k)
  obtain ⟨T79, X79, e79, st79⟩ := getF X65 hx hZ hown (host := "") (Or.inl (hw _ (List.mem_of_getElem? (i := 10) rfl))) Via.refl e65 F73 (g := (mkF m 19 #[.val (.ref fo), .val (.int (4 : Int32)), .val (.int (3 : Int32))] [(.ref fo)])) rfl rfl (hb hby own_d1_19)
  have K80 : ∀ t, Steps p.tables e below (T79.setTop (mkF m 22 #[.val (.ref fo), .val (.int (4 : Int32)), .val (.int (3 : Int32))] [(.ref b5)])) t → Steps p.tables e below (s₁.setTop (entryFrame m #[(.ref fo), (.int (4 : Int32))] 3)) t := fun t k => K78 t (st79 _ k)
  have K81 : ∀ t, Steps p.tables e below (T79.setTop (mkF m 24 #[.val (.ref fo), .val (.int (4 : Int32)), .val (.int (3 : Int32))] [(.int (3 : Int32)), (.int (3 : Int32)), (.ref b5)])) t → Steps p.tables e below (s₁.setTop (entryFrame m #[(.ref fo), (.int (4 : Int32))] 3)) t := fun t k => K80 t (by
    show Steps p.tables e below (T79.setTop (mkF m 22 #[.val (.ref fo), .val (.int (4 : Int32)), .val (.int (3 : Int32))] [(.ref b5)])) t
    refine XS.iloadN X79.here hx rfl (hb hby own_d1_22) rfl ?_
    show Steps p.tables e below (T79.setTop (mkF m 23 #[.val (.ref fo), .val (.int (4 : Int32)), .val (.int (3 : Int32))] [(.int (3 : Int32)), (.ref b5)])) t
    refine XS.iloadN X79.here hx rfl (hb hby own_d1_23) rfl ?_
    exact k)
  have q83 : ¬ (3 : Int32) < 0 ∧ (3 : Int32) < (4 : Int32) := by rw [Int32.lt_iff_toInt_lt, Int32.lt_iff_toInt_lt]; have q0 : (0 : Int32).toInt = 0 := rfl; omega
  obtain ⟨cl82, Ar82, S82, N82, Hs82⟩ := id V67
  have hin82 : ¬ ((3 : Int32) < 0 ∨ cl82.slots.size ≤ ((3 : Int32)).toNatClampNeg) := inb_of S82 q83
  obtain ⟨T82, h82, X82, e82, W82, st82⟩ := stI X79 hx hZ e79 Ar82 (j := (3 : Int32)) hin82 (g := (mkF m 24 #[.val (.ref fo), .val (.int (4 : Int32)), .val (.int (3 : Int32))] [(.int (3 : Int32)), (.int (3 : Int32)), (.ref b5)])) rfl rfl (hb hby own_d1_24)
  obtain ⟨f85, hf85⟩ : ∃ fnew : Nat → Int32, fnew = fun i => if i = 3 then (3 : Int32) else f68 i := ⟨_, rfl⟩
  have V84 : own_Arf Z h82 b5 .int (4 : Int32) f85 := own_Arf.set Ar82 S82 N82 Hs82 W82 rfl hf85
  have Kp86 : Keep h0 h82 [fo] := Keep.wr Kp69 W82 (Or.inr sb8)
  have Z87 : n0 ≤ h82.size := Nat.le_trans Z70 (Keep.of_wr W82).1
  have N88 := Fr.snoc X82 N71 gb7
  have F89 := F72.wr W82
  have F90 := F73.other W82 (Or.inl ne6)
  have K91 : ∀ t, Steps p.tables e below (T82.setTop (mkF m 25 #[.val (.ref fo), .val (.int (4 : Int32)), .val (.int (3 : Int32))] [])) t → Steps p.tables e below (s₁.setTop (entryFrame m #[(.ref fo), (.int (4 : Int32))] 3)) t := fun t k => K81 t (st82 _ k)
  have hc92 : ¬ ((4 : Int32) < (4 : Int32)) := by rw [Int32.lt_iff_toInt_lt]; omega
  have q93 : ¬ (4 : Int32).toInt < (4 : Int32).toInt := fun q => hc92 (Int32.lt_iff_toInt_lt.mpr q)
  have K94 : ∀ t, Steps p.tables e below (T82.setTop (mkF m 31 #[.val (.ref fo), .val (.int (4 : Int32)), .val (.int (4 : Int32))] [])) t → Steps p.tables e below (s₁.setTop (entryFrame m #[(.ref fo), (.int (4 : Int32))] 3)) t := fun t k => K91 t (by
    show Steps p.tables e below (T82.setTop (mkF m 25 #[.val (.ref fo), .val (.int (4 : Int32)), .val (.int (3 : Int32))] [])) t
    refine XS.iinc X82.here hx rfl (hb hby own_d1_25) rfl (l' := #[.val (.ref fo), .val (.int (4 : Int32)), .val (.int (4 : Int32))]) rfl ?_
    show Steps p.tables e below (T82.setTop (mkF m 28 #[.val (.ref fo), .val (.int (4 : Int32)), .val (.int (4 : Int32))] [])) t
    refine XS.goto X82.here hx rfl (pc0 := 28) (pc' := 13) rfl (hb hby own_d1_28) (by decide) (by decide) ?_
    show Steps p.tables e below (T82.setTop (mkF m 13 #[.val (.ref fo), .val (.int (4 : Int32)), .val (.int (4 : Int32))] [])) t
    refine XS.iloadN X82.here hx rfl (hb hby own_d1_13) rfl ?_
    show Steps p.tables e below (T82.setTop (mkF m 14 #[.val (.ref fo), .val (.int (4 : Int32)), .val (.int (4 : Int32))] [(.int (4 : Int32))])) t
    refine XS.iloadN X82.here hx rfl (hb hby own_d1_14) rfl ?_
    show Steps p.tables e below (T82.setTop (mkF m 15 #[.val (.ref fo), .val (.int (4 : Int32)), .val (.int (4 : Int32))] [(.int (4 : Int32)), (.int (4 : Int32))])) t
    refine XS.icmpYes X82.here hx rfl (pc0 := 15) (pc' := 31) rfl (hb hby own_d1_15) rfl (flt hc92).2.1 (by decide) (by decide) ?_
    exact k)
  obtain ⟨fs, hr, hrun, hended, hW, hsame⟩ := X82.leave (v := none) (fun _ => rfl)
  refine ⟨_, _, K94 _ ?_, hrun, hended, _, _, rfl, ?_, ⟨_, rfl⟩, hW, hsame.mono (by decide) (by decide)⟩
  · exact X82.returnOut hx Bd.returns (hb hby own_d1_31) hr
  · show Q_rm1 Z fo h0 n0 _ T82.heap _
    rw [e82]
    exact ⟨b5, f85, rfl, (fun i hi => by
      match i, hi with
      | 0, _ => simp [hf34, hf51, hf68, hf85]
      | 1, _ => simp [hf34, hf51, hf68, hf85]
      | 2, _ => simp [hf34, hf51, hf68, hf85]
      | 3, _ => simp [hf34, hf51, hf68, hf85]), N88, Kp86, sb8, F89, F90, V84⟩
theorem own_d4_0 : decode prog_8_method_3_code 0 = .ok (.aload_n 0, 1) := by decide +kernel
theorem own_d4_1 : decode prog_8_method_3_code 1 = .ok (.getfield 7, 3) := by decide +kernel
theorem own_d4_4 : decode prog_8_method_3_code 4 = .ok (.iload_n 1, 1) := by decide +kernel
theorem own_d4_5 : decode prog_8_method_3_code 5 = .ok (.iload_n 2, 1) := by decide +kernel
theorem own_d4_6 : decode prog_8_method_3_code 6 = .ok (.iastore, 1) := by decide +kernel
theorem own_d4_7 : decode prog_8_method_3_code 7 = .ok (.return_, 1) := by decide +kernel
def Q_rm4 (Z : State) (fo : Addr) (pc : Int32) (pp : Int32) (pa : Addr) (f : Nat → Int32) (h0 : Heap) (n0 : Nat) (v : Option Value) (h : Heap) (L : List Loc) : Prop := ∃ (f' : Nat → Int32), v = none ∧ (f' = fun i => if i = pc.toNatClampNeg then pp else f i) ∧ Fr n0 L ∧ Keep h0 h [pa] ∧ own_Arf Z h pa .int (4 : Int32) f'
theorem own_ef_rm4 (m : MethodId) (fo : Addr) (pc : Int32) (pp : Int32) : entryFrame m #[(.ref fo), (.int pc), (.int pp)] 3 = mkF m 0 #[.val (.ref fo), .val (.int pc), .val (.int pp)] [] := by first | (simp [entryFrame, mkF, argsToLocals, Value.category]; done) | rfl
set_option maxRecDepth 65536 in
set_option maxHeartbeats 40000000 in
theorem rm4 (l : Launch) (Z : State) (a0 : Array Value) (hw : ∀ d ∈ tables_1, d.before a0 Z = true) (ws : List Jvm.Cond) (fo : Addr) (pc : Int32) (pp : Int32) (pa : Addr) (f : Nat → Int32) (h0 : Heap) (n0 : Nat) (Z0 : n0 ≤ h0.size) (P_0 : Fld Z h0 fo "tersegraph/Forest" "parent" "[I" (.ref pa)) (P_1 : own_Arf Z h0 pa .int (4 : Int32) f) (P_2 : n0 ≤ pa) (P_3 : 0 ≤ pc.toInt ∧ pc.toInt < 4) :
    MetFree l (⟨"tersegraph/Forest", "attach", "(II)V"⟩ : MethodName) (head1 (Jvm.Cond.code (⟨"tersegraph/Forest", "attach", "(II)V"⟩ : MethodName) prog_8_method_3_code 3 none :: ws) ({ frames := 0, cells := 0, slots := 0, locals := 0 } : Room)) (fun a U => a = #[(.ref fo), (.int pc), (.int pp)] ∧ Z.Warmed39 U.vm ∧ U.heap = h0) (fun _ _ _ _ _ => True) (fun _ U o U' => ∃ v L, o = .returned v ∧ Q_rm4 Z fo pc pp pa f h0 n0 v U'.heap L ∧ FrameEnd U o U' L ({ frames := 0, cells := 0, slots := 0, locals := 0 } : Room).cells ({ frames := 0, cells := 0, slots := 0, locals := 0 } : Room).slots) := by
  refine MetFree.of_bodySF (plainFor_of_name own_pn0) hisR ?_
  intro p e s m args below meth c s₁ Bd hml0 hP hK
  obtain ⟨rfl, hZ, hh⟩ := hP
  have hx := Bd.exec
  have hby := Bd.bytes
  have hml : c.maxLocals = 3 := hml0
  have hown : s.vm.findClass "tersegraph/Forest" = some m.cls := findClass_of_methodNamed Bd.named
  have hnm := (name_of_methodNamed Bd.named Bd.method).1
  have X0 : Stand p l e ({ frames := 0, cells := 0, slots := 0, locals := 0 } : Room) s m #[(.ref fo), (.int pc), (.int pp)] below meth c s₁ [] 0 0 := Stand.of_body Bd
  have e0 : s₁.heap = h0 := by rw [← hh, Bd.state]; rfl
  have N0 := Fr.nil n0
  have pre0 : ∀ t, Steps p.tables e below (s₁.setTop (mkF m 0 #[.val (.ref fo), .val (.int pc), .val (.int pp)] [])) t → Steps p.tables e below (s₁.setTop (entryFrame m #[(.ref fo), (.int pc), (.int pp)] 3)) t := fun t k => castTop (own_ef_rm4 m fo pc pp) k
  have K95 : ∀ t, Steps p.tables e below (s₁.setTop (mkF m 1 #[.val (.ref fo), .val (.int pc), .val (.int pp)] [(.ref fo)])) t → Steps p.tables e below (s₁.setTop (entryFrame m #[(.ref fo), (.int pc), (.int pp)] 3)) t := fun t k => pre0 t (by
    show Steps p.tables e below (s₁.setTop (mkF m 0 #[.val (.ref fo), .val (.int pc), .val (.int pp)] [])) t
    refine XS.aloadN X0.here hx rfl (hb hby own_d4_0) rfl rfl ?_
    exact k)
  obtain ⟨T96, X96, e96, st96⟩ := getF X0 hx hZ hown (host := "") (Or.inl (hw _ (List.mem_of_getElem? (i := 10) rfl))) Via.refl e0 P_0 (g := (mkF m 1 #[.val (.ref fo), .val (.int pc), .val (.int pp)] [(.ref fo)])) rfl rfl (hb hby own_d4_1)
  have K97 : ∀ t, Steps p.tables e below (T96.setTop (mkF m 4 #[.val (.ref fo), .val (.int pc), .val (.int pp)] [(.ref pa)])) t → Steps p.tables e below (s₁.setTop (entryFrame m #[(.ref fo), (.int pc), (.int pp)] 3)) t := fun t k => K95 t (st96 _ k)
  have K98 : ∀ t, Steps p.tables e below (T96.setTop (mkF m 6 #[.val (.ref fo), .val (.int pc), .val (.int pp)] [(.int pp), (.int pc), (.ref pa)])) t → Steps p.tables e below (s₁.setTop (entryFrame m #[(.ref fo), (.int pc), (.int pp)] 3)) t := fun t k => K97 t (by
    show Steps p.tables e below (T96.setTop (mkF m 4 #[.val (.ref fo), .val (.int pc), .val (.int pp)] [(.ref pa)])) t
    refine XS.iloadN X96.here hx rfl (hb hby own_d4_4) rfl ?_
    show Steps p.tables e below (T96.setTop (mkF m 5 #[.val (.ref fo), .val (.int pc), .val (.int pp)] [(.int pc), (.ref pa)])) t
    refine XS.iloadN X96.here hx rfl (hb hby own_d4_5) rfl ?_
    exact k)
  have q100 := rng32 pc
  have q101 := (by decide : (4 : Int32).toInt = 4)
  have q102 : ¬ pc < 0 ∧ pc < (4 : Int32) := by rw [Int32.lt_iff_toInt_lt, Int32.lt_iff_toInt_lt]; have q0 : (0 : Int32).toInt = 0 := rfl; omega
  obtain ⟨cl99, Ar99, S99, N99, Hs99⟩ := id P_1
  have hin99 : ¬ (pc < 0 ∨ cl99.slots.size ≤ (pc).toNatClampNeg) := inb_of S99 q102
  obtain ⟨T99, h99, X99, e99, W99, st99⟩ := stI X96 hx hZ e96 Ar99 (j := pc) hin99 (g := (mkF m 6 #[.val (.ref fo), .val (.int pc), .val (.int pp)] [(.int pp), (.int pc), (.ref pa)])) rfl rfl (hb hby own_d4_6)
  obtain ⟨f104, hf104⟩ : ∃ fnew : Nat → Int32, fnew = fun i => if i = pc.toNatClampNeg then pp else f i := ⟨_, rfl⟩
  have V103 : own_Arf Z h99 pa .int (4 : Int32) f104 := own_Arf.set Ar99 S99 N99 Hs99 W99 rfl hf104
  have Kp105 : Keep h0 h99 [pa] := Keep.wr (Keep.refl h0 [pa]) W99 (Or.inl (List.mem_of_getElem? (i := 0) rfl))
  have Z106 : n0 ≤ h99.size := Nat.le_trans Z0 (Keep.of_wr W99).1
  have N107 := Fr.snoc X99 N0 P_2
  have K108 : ∀ t, Steps p.tables e below (T99.setTop (mkF m 7 #[.val (.ref fo), .val (.int pc), .val (.int pp)] [])) t → Steps p.tables e below (s₁.setTop (entryFrame m #[(.ref fo), (.int pc), (.int pp)] 3)) t := fun t k => K98 t (st99 _ k)
  obtain ⟨fs, hr, hrun, hended, hW, hsame⟩ := X99.leave (v := none) (fun _ => rfl)
  refine ⟨_, _, K108 _ ?_, hrun, hended, _, _, rfl, ?_, ⟨_, rfl⟩, hW, hsame.mono (by decide) (by decide)⟩
  · exact X99.returnOut hx Bd.returns (hb hby own_d4_7) hr
  · show Q_rm4 Z fo pc pp pa f h0 n0 _ T99.heap _
    rw [e99]
    exact ⟨f104, rfl, hf104, N107, Kp105, V103⟩
theorem own_d5_0 : decode method_2_code 0 = .ok (.aload_n 0, 1) := by decide +kernel
theorem own_d5_1 : decode method_2_code 1 = .ok (.iconst 0, 1) := by decide +kernel
theorem own_d5_2 : decode method_2_code 2 = .ok (.iaload, 1) := by decide +kernel
theorem own_d5_3 : decode method_2_code 3 = .ok (.iload_n 1, 1) := by decide +kernel
theorem own_d5_4 : decode method_2_code 4 = .ok (.if_icmp .ne 7, 3) := by decide +kernel
theorem own_d5_7 : decode method_2_code 7 = .ok (.aload_n 0, 1) := by decide +kernel
theorem own_d5_8 : decode method_2_code 8 = .ok (.iconst 0, 1) := by decide +kernel
theorem own_d5_9 : decode method_2_code 9 = .ok (.iload_n 2, 1) := by decide +kernel
theorem own_d5_10 : decode method_2_code 10 = .ok (.iastore, 1) := by decide +kernel
theorem own_d5_11 : decode method_2_code 11 = .ok (.aload_n 0, 1) := by decide +kernel
theorem own_d5_12 : decode method_2_code 12 = .ok (.iconst 1, 1) := by decide +kernel
theorem own_d5_13 : decode method_2_code 13 = .ok (.iaload, 1) := by decide +kernel
theorem own_d5_14 : decode method_2_code 14 = .ok (.iload_n 1, 1) := by decide +kernel
theorem own_d5_15 : decode method_2_code 15 = .ok (.if_icmp .ne 7, 3) := by decide +kernel
theorem own_d5_18 : decode method_2_code 18 = .ok (.aload_n 0, 1) := by decide +kernel
theorem own_d5_19 : decode method_2_code 19 = .ok (.iconst 1, 1) := by decide +kernel
theorem own_d5_20 : decode method_2_code 20 = .ok (.iload_n 2, 1) := by decide +kernel
theorem own_d5_21 : decode method_2_code 21 = .ok (.iastore, 1) := by decide +kernel
theorem own_d5_22 : decode method_2_code 22 = .ok (.aload_n 0, 1) := by decide +kernel
theorem own_d5_23 : decode method_2_code 23 = .ok (.iconst 2, 1) := by decide +kernel
theorem own_d5_24 : decode method_2_code 24 = .ok (.iaload, 1) := by decide +kernel
theorem own_d5_25 : decode method_2_code 25 = .ok (.iload_n 1, 1) := by decide +kernel
theorem own_d5_26 : decode method_2_code 26 = .ok (.if_icmp .ne 7, 3) := by decide +kernel
theorem own_d5_29 : decode method_2_code 29 = .ok (.aload_n 0, 1) := by decide +kernel
theorem own_d5_30 : decode method_2_code 30 = .ok (.iconst 2, 1) := by decide +kernel
theorem own_d5_31 : decode method_2_code 31 = .ok (.iload_n 2, 1) := by decide +kernel
theorem own_d5_32 : decode method_2_code 32 = .ok (.iastore, 1) := by decide +kernel
theorem own_d5_33 : decode method_2_code 33 = .ok (.aload_n 0, 1) := by decide +kernel
theorem own_d5_34 : decode method_2_code 34 = .ok (.iconst 3, 1) := by decide +kernel
theorem own_d5_35 : decode method_2_code 35 = .ok (.iaload, 1) := by decide +kernel
theorem own_d5_36 : decode method_2_code 36 = .ok (.iload_n 1, 1) := by decide +kernel
theorem own_d5_37 : decode method_2_code 37 = .ok (.if_icmp .ne 7, 3) := by decide +kernel
theorem own_d5_40 : decode method_2_code 40 = .ok (.aload_n 0, 1) := by decide +kernel
theorem own_d5_41 : decode method_2_code 41 = .ok (.iconst 3, 1) := by decide +kernel
theorem own_d5_42 : decode method_2_code 42 = .ok (.iload_n 2, 1) := by decide +kernel
theorem own_d5_43 : decode method_2_code 43 = .ok (.iastore, 1) := by decide +kernel
theorem own_d5_44 : decode method_2_code 44 = .ok (.return_, 1) := by decide +kernel
theorem own_pn1 : plainName "tersegraph/ForestRootPinLaw" = true := by first | (simp [plainName, overriddenIn]; done) | decide +kernel
def Q_rm5 (Z : State) (ra : Addr) (pf : Int32) (pt : Int32) (g : Nat → Int32) (h0 : Heap) (n0 : Nat) (v : Option Value) (h : Heap) (L : List Loc) : Prop := ∃ (g' : Nat → Int32), v = none ∧ (∀ i : Nat, i < 4 → g' i = if g i = pf then pt else g i) ∧ Fr n0 L ∧ Keep h0 h [ra] ∧ own_Arf Z h ra .int (4 : Int32) g'
theorem own_ef_rm5 (m : MethodId) (ra : Addr) (pf : Int32) (pt : Int32) : entryFrame m #[(.ref ra), (.int pf), (.int pt)] 3 = mkF m 0 #[.val (.ref ra), .val (.int pf), .val (.int pt)] [] := by first | (simp [entryFrame, mkF, argsToLocals, Value.category]; done) | rfl
set_option maxRecDepth 65536 in
set_option maxHeartbeats 40000000 in
theorem rm5 (l : Launch) (Z : State) (a0 : Array Value) (hw : ∀ d ∈ tables_1, d.before a0 Z = true) (ws : List Jvm.Cond) (ra : Addr) (pf : Int32) (pt : Int32) (g : Nat → Int32) (h0 : Heap) (n0 : Nat) (Z0 : n0 ≤ h0.size) (P_0 : own_Arf Z h0 ra .int (4 : Int32) g) (P_1 : n0 ≤ ra) :
    MetFree l (⟨"tersegraph/ForestRootPinLaw", "relabel", "([III)V"⟩ : MethodName) (head1 (Jvm.Cond.code (⟨"tersegraph/ForestRootPinLaw", "relabel", "([III)V"⟩ : MethodName) method_2_code 3 none :: ws) ({ frames := 0, cells := 0, slots := 0, locals := 0 } : Room)) (fun a U => a = #[(.ref ra), (.int pf), (.int pt)] ∧ Z.Warmed39 U.vm ∧ U.heap = h0) (fun _ _ _ _ _ => True) (fun _ U o U' => ∃ v L, o = .returned v ∧ Q_rm5 Z ra pf pt g h0 n0 v U'.heap L ∧ FrameEnd U o U' L ({ frames := 0, cells := 0, slots := 0, locals := 0 } : Room).cells ({ frames := 0, cells := 0, slots := 0, locals := 0 } : Room).slots) := by
  refine MetFree.of_bodySF (plainFor_of_name own_pn1) hisR ?_
  intro p e s m args below meth c s₁ Bd hml0 hP hK
  obtain ⟨rfl, hZ, hh⟩ := hP
  have hx := Bd.exec
  have hby := Bd.bytes
  have hml : c.maxLocals = 3 := hml0
  have hown : s.vm.findClass "tersegraph/ForestRootPinLaw" = some m.cls := findClass_of_methodNamed Bd.named
  have hnm := (name_of_methodNamed Bd.named Bd.method).1
  have X0 : Stand p l e ({ frames := 0, cells := 0, slots := 0, locals := 0 } : Room) s m #[(.ref ra), (.int pf), (.int pt)] below meth c s₁ [] 0 0 := Stand.of_body Bd
  have e0 : s₁.heap = h0 := by rw [← hh, Bd.state]; rfl
  have N0 := Fr.nil n0
  have pre0 : ∀ t, Steps p.tables e below (s₁.setTop (mkF m 0 #[.val (.ref ra), .val (.int pf), .val (.int pt)] [])) t → Steps p.tables e below (s₁.setTop (entryFrame m #[(.ref ra), (.int pf), (.int pt)] 3)) t := fun t k => castTop (own_ef_rm5 m ra pf pt) k
  have q110 := (by decide : (0 : Int32).toInt = 0)
  have q111 := (by decide : (4 : Int32).toInt = 4)
  have q112 : ¬ (0 : Int32) < 0 ∧ (0 : Int32) < (4 : Int32) := by rw [Int32.lt_iff_toInt_lt, Int32.lt_iff_toInt_lt]; have q0 : (0 : Int32).toInt = 0 := rfl; omega
  obtain ⟨cl109, Ar109, S109, N109, Hs109⟩ := id P_0
  have hin109 : ¬ ((0 : Int32) < 0 ∨ cl109.slots.size ≤ ((0 : Int32)).toNatClampNeg) := inb_of S109 q112
  have hat109 : cl109.slots[((0 : Int32)).toNatClampNeg]? = some (.int (g 0)) := own_at Hs109 S109 hin109 (rfl)
  have K114 : ∀ t, Steps p.tables e below (s₁.setTop (mkF m 4 #[.val (.ref ra), .val (.int pf), .val (.int pt)] [(.int pf), (.int (g 0))])) t → Steps p.tables e below (s₁.setTop (entryFrame m #[(.ref ra), (.int pf), (.int pt)] 3)) t := fun t k => pre0 t (by
    show Steps p.tables e below (s₁.setTop (mkF m 0 #[.val (.ref ra), .val (.int pf), .val (.int pt)] [])) t
    refine XS.aloadN X0.here hx rfl (hb hby own_d5_0) rfl rfl ?_
    show Steps p.tables e below (s₁.setTop (mkF m 1 #[.val (.ref ra), .val (.int pf), .val (.int pt)] [(.ref ra)])) t
    refine XS.iconst X0.here hx rfl (hb hby own_d5_1) ?_
    show Steps p.tables e below (s₁.setTop (mkF m 2 #[.val (.ref ra), .val (.int pf), .val (.int pt)] [(.int (0 : Int32)), (.ref ra)])) t
    refine X0.iaload hx (j := (0 : Int32)) (v := (.int (g 0))) (by rw [e0]; exact Ar109.1) (State.isArrayOf_alike hZ.alike Ar109.2.1) Ar109.2.2 hin109 hat109 (g := (mkF m 2 #[.val (.ref ra), .val (.int pf), .val (.int pt)] [(.int (0 : Int32)), (.ref ra)])) rfl rfl (hb hby own_d5_2) _ ?_
    show Steps p.tables e below (s₁.setTop (mkF m 3 #[.val (.ref ra), .val (.int pf), .val (.int pt)] [(.int (g 0))])) t
    refine XS.iloadN X0.here hx rfl (hb hby own_d5_3) rfl ?_
    exact k)
  have q115 := rng32 (g 0)
  have q116 := rng32 pf
  by_cases hc113 : (g 0) = pf
  · have q117 : (g 0).toInt = pf.toInt := congrArg Int32.toInt hc113
    have K118 : ∀ t, Steps p.tables e below (s₁.setTop (mkF m 10 #[.val (.ref ra), .val (.int pf), .val (.int pt)] [(.int pt), (.int (0 : Int32)), (.ref ra)])) t → Steps p.tables e below (s₁.setTop (entryFrame m #[(.ref ra), (.int pf), (.int pt)] 3)) t := fun t k => K114 t (by
      show Steps p.tables e below (s₁.setTop (mkF m 4 #[.val (.ref ra), .val (.int pf), .val (.int pt)] [(.int pf), (.int (g 0))])) t
      refine XS.icmpNo X0.here hx rfl (hb hby own_d5_4) rfl (teq hc113).2 ?_
      show Steps p.tables e below (s₁.setTop (mkF m 7 #[.val (.ref ra), .val (.int pf), .val (.int pt)] [])) t
      refine XS.aloadN X0.here hx rfl (hb hby own_d5_7) rfl rfl ?_
      show Steps p.tables e below (s₁.setTop (mkF m 8 #[.val (.ref ra), .val (.int pf), .val (.int pt)] [(.ref ra)])) t
      refine XS.iconst X0.here hx rfl (hb hby own_d5_8) ?_
      show Steps p.tables e below (s₁.setTop (mkF m 9 #[.val (.ref ra), .val (.int pf), .val (.int pt)] [(.int (0 : Int32)), (.ref ra)])) t
      refine XS.iloadN X0.here hx rfl (hb hby own_d5_9) rfl ?_
      exact k)
    have q120 : ¬ (0 : Int32) < 0 ∧ (0 : Int32) < (4 : Int32) := by rw [Int32.lt_iff_toInt_lt, Int32.lt_iff_toInt_lt]; have q0 : (0 : Int32).toInt = 0 := rfl; omega
    obtain ⟨cl119, Ar119, S119, N119, Hs119⟩ := id P_0
    have hin119 : ¬ ((0 : Int32) < 0 ∨ cl119.slots.size ≤ ((0 : Int32)).toNatClampNeg) := inb_of S119 q120
    obtain ⟨T119, h119, X119, e119, W119, st119⟩ := stI X0 hx hZ e0 Ar119 (j := (0 : Int32)) hin119 (g := (mkF m 10 #[.val (.ref ra), .val (.int pf), .val (.int pt)] [(.int pt), (.int (0 : Int32)), (.ref ra)])) rfl rfl (hb hby own_d5_10)
    obtain ⟨f122, hf122⟩ : ∃ fnew : Nat → Int32, fnew = fun i => if i = 0 then pt else g i := ⟨_, rfl⟩
    have V121 : own_Arf Z h119 ra .int (4 : Int32) f122 := own_Arf.set Ar119 S119 N119 Hs119 W119 rfl hf122
    have Kp123 : Keep h0 h119 [ra] := Keep.wr (Keep.refl h0 [ra]) W119 (Or.inl (List.mem_of_getElem? (i := 0) rfl))
    have Z124 : n0 ≤ h119.size := Nat.le_trans Z0 (Keep.of_wr W119).1
    have N125 := Fr.snoc X119 N0 P_1
    have K126 : ∀ t, Steps p.tables e below (T119.setTop (mkF m 11 #[.val (.ref ra), .val (.int pf), .val (.int pt)] [])) t → Steps p.tables e below (s₁.setTop (entryFrame m #[(.ref ra), (.int pf), (.int pt)] 3)) t := fun t k => K118 t (st119 _ k)
    have q128 := (by decide : (1 : Int32).toInt = 1)
    have q129 : ¬ (1 : Int32) < 0 ∧ (1 : Int32) < (4 : Int32) := by rw [Int32.lt_iff_toInt_lt, Int32.lt_iff_toInt_lt]; have q0 : (0 : Int32).toInt = 0 := rfl; omega
    obtain ⟨cl127, Ar127, S127, N127, Hs127⟩ := id V121
    have hin127 : ¬ ((1 : Int32) < 0 ∨ cl127.slots.size ≤ ((1 : Int32)).toNatClampNeg) := inb_of S127 q129
    have hat127 : cl127.slots[((1 : Int32)).toNatClampNeg]? = some (.int (g 1)) := own_at Hs127 S127 hin127 (by simp [hf122])
    have K131 : ∀ t, Steps p.tables e below (T119.setTop (mkF m 15 #[.val (.ref ra), .val (.int pf), .val (.int pt)] [(.int pf), (.int (g 1))])) t → Steps p.tables e below (s₁.setTop (entryFrame m #[(.ref ra), (.int pf), (.int pt)] 3)) t := fun t k => K126 t (by
      show Steps p.tables e below (T119.setTop (mkF m 11 #[.val (.ref ra), .val (.int pf), .val (.int pt)] [])) t
      refine XS.aloadN X119.here hx rfl (hb hby own_d5_11) rfl rfl ?_
      show Steps p.tables e below (T119.setTop (mkF m 12 #[.val (.ref ra), .val (.int pf), .val (.int pt)] [(.ref ra)])) t
      refine XS.iconst X119.here hx rfl (hb hby own_d5_12) ?_
      show Steps p.tables e below (T119.setTop (mkF m 13 #[.val (.ref ra), .val (.int pf), .val (.int pt)] [(.int (1 : Int32)), (.ref ra)])) t
      refine X119.iaload hx (j := (1 : Int32)) (v := (.int (g 1))) (by rw [e119]; exact Ar127.1) (State.isArrayOf_alike hZ.alike Ar127.2.1) Ar127.2.2 hin127 hat127 (g := (mkF m 13 #[.val (.ref ra), .val (.int pf), .val (.int pt)] [(.int (1 : Int32)), (.ref ra)])) rfl rfl (hb hby own_d5_13) _ ?_
      show Steps p.tables e below (T119.setTop (mkF m 14 #[.val (.ref ra), .val (.int pf), .val (.int pt)] [(.int (g 1))])) t
      refine XS.iloadN X119.here hx rfl (hb hby own_d5_14) rfl ?_
      exact k)
    have q132 := rng32 (g 1)
    by_cases hc130 : (g 1) = pf
    · have q133 : (g 1).toInt = pf.toInt := congrArg Int32.toInt hc130
      have K134 : ∀ t, Steps p.tables e below (T119.setTop (mkF m 21 #[.val (.ref ra), .val (.int pf), .val (.int pt)] [(.int pt), (.int (1 : Int32)), (.ref ra)])) t → Steps p.tables e below (s₁.setTop (entryFrame m #[(.ref ra), (.int pf), (.int pt)] 3)) t := fun t k => K131 t (by
        show Steps p.tables e below (T119.setTop (mkF m 15 #[.val (.ref ra), .val (.int pf), .val (.int pt)] [(.int pf), (.int (g 1))])) t
        refine XS.icmpNo X119.here hx rfl (hb hby own_d5_15) rfl (teq hc130).2 ?_
        show Steps p.tables e below (T119.setTop (mkF m 18 #[.val (.ref ra), .val (.int pf), .val (.int pt)] [])) t
        refine XS.aloadN X119.here hx rfl (hb hby own_d5_18) rfl rfl ?_
        show Steps p.tables e below (T119.setTop (mkF m 19 #[.val (.ref ra), .val (.int pf), .val (.int pt)] [(.ref ra)])) t
        refine XS.iconst X119.here hx rfl (hb hby own_d5_19) ?_
        show Steps p.tables e below (T119.setTop (mkF m 20 #[.val (.ref ra), .val (.int pf), .val (.int pt)] [(.int (1 : Int32)), (.ref ra)])) t
        refine XS.iloadN X119.here hx rfl (hb hby own_d5_20) rfl ?_
        exact k)
      have q136 : ¬ (1 : Int32) < 0 ∧ (1 : Int32) < (4 : Int32) := by rw [Int32.lt_iff_toInt_lt, Int32.lt_iff_toInt_lt]; have q0 : (0 : Int32).toInt = 0 := rfl; omega
      obtain ⟨cl135, Ar135, S135, N135, Hs135⟩ := id V121
      have hin135 : ¬ ((1 : Int32) < 0 ∨ cl135.slots.size ≤ ((1 : Int32)).toNatClampNeg) := inb_of S135 q136
      obtain ⟨T135, h135, X135, e135, W135, st135⟩ := stI X119 hx hZ e119 Ar135 (j := (1 : Int32)) hin135 (g := (mkF m 21 #[.val (.ref ra), .val (.int pf), .val (.int pt)] [(.int pt), (.int (1 : Int32)), (.ref ra)])) rfl rfl (hb hby own_d5_21)
      obtain ⟨f138, hf138⟩ : ∃ fnew : Nat → Int32, fnew = fun i => if i = 1 then pt else f122 i := ⟨_, rfl⟩
      have V137 : own_Arf Z h135 ra .int (4 : Int32) f138 := own_Arf.set Ar135 S135 N135 Hs135 W135 rfl hf138
      have Kp139 : Keep h0 h135 [ra] := Keep.wr Kp123 W135 (Or.inl (List.mem_of_getElem? (i := 0) rfl))
      have Z140 : n0 ≤ h135.size := Nat.le_trans Z124 (Keep.of_wr W135).1
      have N141 := Fr.snoc X135 N125 P_1
      have K142 : ∀ t, Steps p.tables e below (T135.setTop (mkF m 22 #[.val (.ref ra), .val (.int pf), .val (.int pt)] [])) t → Steps p.tables e below (s₁.setTop (entryFrame m #[(.ref ra), (.int pf), (.int pt)] 3)) t := fun t k => K134 t (st135 _ k)
      have q144 := (by decide : (2 : Int32).toInt = 2)
      have q145 : ¬ (2 : Int32) < 0 ∧ (2 : Int32) < (4 : Int32) := by rw [Int32.lt_iff_toInt_lt, Int32.lt_iff_toInt_lt]; have q0 : (0 : Int32).toInt = 0 := rfl; omega
      obtain ⟨cl143, Ar143, S143, N143, Hs143⟩ := id V137
      have hin143 : ¬ ((2 : Int32) < 0 ∨ cl143.slots.size ≤ ((2 : Int32)).toNatClampNeg) := inb_of S143 q145
      have hat143 : cl143.slots[((2 : Int32)).toNatClampNeg]? = some (.int (g 2)) := own_at Hs143 S143 hin143 (by simp [hf138, hf122])
      have K147 : ∀ t, Steps p.tables e below (T135.setTop (mkF m 26 #[.val (.ref ra), .val (.int pf), .val (.int pt)] [(.int pf), (.int (g 2))])) t → Steps p.tables e below (s₁.setTop (entryFrame m #[(.ref ra), (.int pf), (.int pt)] 3)) t := fun t k => K142 t (by
        show Steps p.tables e below (T135.setTop (mkF m 22 #[.val (.ref ra), .val (.int pf), .val (.int pt)] [])) t
        refine XS.aloadN X135.here hx rfl (hb hby own_d5_22) rfl rfl ?_
        show Steps p.tables e below (T135.setTop (mkF m 23 #[.val (.ref ra), .val (.int pf), .val (.int pt)] [(.ref ra)])) t
        refine XS.iconst X135.here hx rfl (hb hby own_d5_23) ?_
        show Steps p.tables e below (T135.setTop (mkF m 24 #[.val (.ref ra), .val (.int pf), .val (.int pt)] [(.int (2 : Int32)), (.ref ra)])) t
        refine X135.iaload hx (j := (2 : Int32)) (v := (.int (g 2))) (by rw [e135]; exact Ar143.1) (State.isArrayOf_alike hZ.alike Ar143.2.1) Ar143.2.2 hin143 hat143 (g := (mkF m 24 #[.val (.ref ra), .val (.int pf), .val (.int pt)] [(.int (2 : Int32)), (.ref ra)])) rfl rfl (hb hby own_d5_24) _ ?_
        show Steps p.tables e below (T135.setTop (mkF m 25 #[.val (.ref ra), .val (.int pf), .val (.int pt)] [(.int (g 2))])) t
        refine XS.iloadN X135.here hx rfl (hb hby own_d5_25) rfl ?_
        exact k)
      have q148 := rng32 (g 2)
      by_cases hc146 : (g 2) = pf
      · have q149 : (g 2).toInt = pf.toInt := congrArg Int32.toInt hc146
        have K150 : ∀ t, Steps p.tables e below (T135.setTop (mkF m 32 #[.val (.ref ra), .val (.int pf), .val (.int pt)] [(.int pt), (.int (2 : Int32)), (.ref ra)])) t → Steps p.tables e below (s₁.setTop (entryFrame m #[(.ref ra), (.int pf), (.int pt)] 3)) t := fun t k => K147 t (by
          show Steps p.tables e below (T135.setTop (mkF m 26 #[.val (.ref ra), .val (.int pf), .val (.int pt)] [(.int pf), (.int (g 2))])) t
          refine XS.icmpNo X135.here hx rfl (hb hby own_d5_26) rfl (teq hc146).2 ?_
          show Steps p.tables e below (T135.setTop (mkF m 29 #[.val (.ref ra), .val (.int pf), .val (.int pt)] [])) t
          refine XS.aloadN X135.here hx rfl (hb hby own_d5_29) rfl rfl ?_
          show Steps p.tables e below (T135.setTop (mkF m 30 #[.val (.ref ra), .val (.int pf), .val (.int pt)] [(.ref ra)])) t
          refine XS.iconst X135.here hx rfl (hb hby own_d5_30) ?_
          show Steps p.tables e below (T135.setTop (mkF m 31 #[.val (.ref ra), .val (.int pf), .val (.int pt)] [(.int (2 : Int32)), (.ref ra)])) t
          refine XS.iloadN X135.here hx rfl (hb hby own_d5_31) rfl ?_
          exact k)
        have q152 : ¬ (2 : Int32) < 0 ∧ (2 : Int32) < (4 : Int32) := by rw [Int32.lt_iff_toInt_lt, Int32.lt_iff_toInt_lt]; have q0 : (0 : Int32).toInt = 0 := rfl; omega
        obtain ⟨cl151, Ar151, S151, N151, Hs151⟩ := id V137
        have hin151 : ¬ ((2 : Int32) < 0 ∨ cl151.slots.size ≤ ((2 : Int32)).toNatClampNeg) := inb_of S151 q152
        obtain ⟨T151, h151, X151, e151, W151, st151⟩ := stI X135 hx hZ e135 Ar151 (j := (2 : Int32)) hin151 (g := (mkF m 32 #[.val (.ref ra), .val (.int pf), .val (.int pt)] [(.int pt), (.int (2 : Int32)), (.ref ra)])) rfl rfl (hb hby own_d5_32)
        obtain ⟨f154, hf154⟩ : ∃ fnew : Nat → Int32, fnew = fun i => if i = 2 then pt else f138 i := ⟨_, rfl⟩
        have V153 : own_Arf Z h151 ra .int (4 : Int32) f154 := own_Arf.set Ar151 S151 N151 Hs151 W151 rfl hf154
        have Kp155 : Keep h0 h151 [ra] := Keep.wr Kp139 W151 (Or.inl (List.mem_of_getElem? (i := 0) rfl))
        have Z156 : n0 ≤ h151.size := Nat.le_trans Z140 (Keep.of_wr W151).1
        have N157 := Fr.snoc X151 N141 P_1
        have K158 : ∀ t, Steps p.tables e below (T151.setTop (mkF m 33 #[.val (.ref ra), .val (.int pf), .val (.int pt)] [])) t → Steps p.tables e below (s₁.setTop (entryFrame m #[(.ref ra), (.int pf), (.int pt)] 3)) t := fun t k => K150 t (st151 _ k)
        have q160 := (by decide : (3 : Int32).toInt = 3)
        have q161 : ¬ (3 : Int32) < 0 ∧ (3 : Int32) < (4 : Int32) := by rw [Int32.lt_iff_toInt_lt, Int32.lt_iff_toInt_lt]; have q0 : (0 : Int32).toInt = 0 := rfl; omega
        obtain ⟨cl159, Ar159, S159, N159, Hs159⟩ := id V153
        have hin159 : ¬ ((3 : Int32) < 0 ∨ cl159.slots.size ≤ ((3 : Int32)).toNatClampNeg) := inb_of S159 q161
        have hat159 : cl159.slots[((3 : Int32)).toNatClampNeg]? = some (.int (g 3)) := own_at Hs159 S159 hin159 (by simp [hf154, hf138, hf122])
        have K163 : ∀ t, Steps p.tables e below (T151.setTop (mkF m 37 #[.val (.ref ra), .val (.int pf), .val (.int pt)] [(.int pf), (.int (g 3))])) t → Steps p.tables e below (s₁.setTop (entryFrame m #[(.ref ra), (.int pf), (.int pt)] 3)) t := fun t k => K158 t (by
          show Steps p.tables e below (T151.setTop (mkF m 33 #[.val (.ref ra), .val (.int pf), .val (.int pt)] [])) t
          refine XS.aloadN X151.here hx rfl (hb hby own_d5_33) rfl rfl ?_
          show Steps p.tables e below (T151.setTop (mkF m 34 #[.val (.ref ra), .val (.int pf), .val (.int pt)] [(.ref ra)])) t
          refine XS.iconst X151.here hx rfl (hb hby own_d5_34) ?_
          show Steps p.tables e below (T151.setTop (mkF m 35 #[.val (.ref ra), .val (.int pf), .val (.int pt)] [(.int (3 : Int32)), (.ref ra)])) t
          refine X151.iaload hx (j := (3 : Int32)) (v := (.int (g 3))) (by rw [e151]; exact Ar159.1) (State.isArrayOf_alike hZ.alike Ar159.2.1) Ar159.2.2 hin159 hat159 (g := (mkF m 35 #[.val (.ref ra), .val (.int pf), .val (.int pt)] [(.int (3 : Int32)), (.ref ra)])) rfl rfl (hb hby own_d5_35) _ ?_
          show Steps p.tables e below (T151.setTop (mkF m 36 #[.val (.ref ra), .val (.int pf), .val (.int pt)] [(.int (g 3))])) t
          refine XS.iloadN X151.here hx rfl (hb hby own_d5_36) rfl ?_
          exact k)
        have q164 := rng32 (g 3)
        by_cases hc162 : (g 3) = pf
        · have q165 : (g 3).toInt = pf.toInt := congrArg Int32.toInt hc162
          have K166 : ∀ t, Steps p.tables e below (T151.setTop (mkF m 43 #[.val (.ref ra), .val (.int pf), .val (.int pt)] [(.int pt), (.int (3 : Int32)), (.ref ra)])) t → Steps p.tables e below (s₁.setTop (entryFrame m #[(.ref ra), (.int pf), (.int pt)] 3)) t := fun t k => K163 t (by
            show Steps p.tables e below (T151.setTop (mkF m 37 #[.val (.ref ra), .val (.int pf), .val (.int pt)] [(.int pf), (.int (g 3))])) t
            refine XS.icmpNo X151.here hx rfl (hb hby own_d5_37) rfl (teq hc162).2 ?_
            show Steps p.tables e below (T151.setTop (mkF m 40 #[.val (.ref ra), .val (.int pf), .val (.int pt)] [])) t
            refine XS.aloadN X151.here hx rfl (hb hby own_d5_40) rfl rfl ?_
            show Steps p.tables e below (T151.setTop (mkF m 41 #[.val (.ref ra), .val (.int pf), .val (.int pt)] [(.ref ra)])) t
            refine XS.iconst X151.here hx rfl (hb hby own_d5_41) ?_
            show Steps p.tables e below (T151.setTop (mkF m 42 #[.val (.ref ra), .val (.int pf), .val (.int pt)] [(.int (3 : Int32)), (.ref ra)])) t
            refine XS.iloadN X151.here hx rfl (hb hby own_d5_42) rfl ?_
            exact k)
          have q168 : ¬ (3 : Int32) < 0 ∧ (3 : Int32) < (4 : Int32) := by rw [Int32.lt_iff_toInt_lt, Int32.lt_iff_toInt_lt]; have q0 : (0 : Int32).toInt = 0 := rfl; omega
          obtain ⟨cl167, Ar167, S167, N167, Hs167⟩ := id V153
          have hin167 : ¬ ((3 : Int32) < 0 ∨ cl167.slots.size ≤ ((3 : Int32)).toNatClampNeg) := inb_of S167 q168
          obtain ⟨T167, h167, X167, e167, W167, st167⟩ := stI X151 hx hZ e151 Ar167 (j := (3 : Int32)) hin167 (g := (mkF m 43 #[.val (.ref ra), .val (.int pf), .val (.int pt)] [(.int pt), (.int (3 : Int32)), (.ref ra)])) rfl rfl (hb hby own_d5_43)
          obtain ⟨f170, hf170⟩ : ∃ fnew : Nat → Int32, fnew = fun i => if i = 3 then pt else f154 i := ⟨_, rfl⟩
          have V169 : own_Arf Z h167 ra .int (4 : Int32) f170 := own_Arf.set Ar167 S167 N167 Hs167 W167 rfl hf170
          have Kp171 : Keep h0 h167 [ra] := Keep.wr Kp155 W167 (Or.inl (List.mem_of_getElem? (i := 0) rfl))
          have Z172 : n0 ≤ h167.size := Nat.le_trans Z156 (Keep.of_wr W167).1
          have N173 := Fr.snoc X167 N157 P_1
          have K174 : ∀ t, Steps p.tables e below (T167.setTop (mkF m 44 #[.val (.ref ra), .val (.int pf), .val (.int pt)] [])) t → Steps p.tables e below (s₁.setTop (entryFrame m #[(.ref ra), (.int pf), (.int pt)] 3)) t := fun t k => K166 t (st167 _ k)
          obtain ⟨fs, hr, hrun, hended, hW, hsame⟩ := X167.leave (v := none) (fun _ => rfl)
          refine ⟨_, _, K174 _ ?_, hrun, hended, _, _, rfl, ?_, ⟨_, rfl⟩, hW, hsame.mono (by decide) (by decide)⟩
          · exact X167.returnOut hx Bd.returns (hb hby own_d5_44) hr
          · show Q_rm5 Z ra pf pt g h0 n0 _ T167.heap _
            rw [e167]
            exact ⟨f170, rfl, (fun i hi => by
              match i, hi with
              | 0, _ => simp [*]
              | 1, _ => simp [*]
              | 2, _ => simp [*]
              | 3, _ => simp [*]), N173, Kp171, V169⟩
        · have q175 : ¬ (g 3).toInt = pf.toInt := fun q => hc162 (Int32.toInt_inj.mp q)
          have K176 : ∀ t, Steps p.tables e below (T151.setTop (mkF m 44 #[.val (.ref ra), .val (.int pf), .val (.int pt)] [])) t → Steps p.tables e below (s₁.setTop (entryFrame m #[(.ref ra), (.int pf), (.int pt)] 3)) t := fun t k => K163 t (by
            show Steps p.tables e below (T151.setTop (mkF m 37 #[.val (.ref ra), .val (.int pf), .val (.int pt)] [(.int pf), (.int (g 3))])) t
            refine XS.icmpYes X151.here hx rfl (pc0 := 37) (pc' := 44) rfl (hb hby own_d5_37) rfl (feq hc162).2 (by decide) (by decide) ?_
            exact k)
          obtain ⟨fs, hr, hrun, hended, hW, hsame⟩ := X151.leave (v := none) (fun _ => rfl)
          refine ⟨_, _, K176 _ ?_, hrun, hended, _, _, rfl, ?_, ⟨_, rfl⟩, hW, hsame.mono (by decide) (by decide)⟩
          · exact X151.returnOut hx Bd.returns (hb hby own_d5_44) hr
          · show Q_rm5 Z ra pf pt g h0 n0 _ T151.heap _
            rw [e151]
            exact ⟨f154, rfl, (fun i hi => by
              match i, hi with
              | 0, _ => simp [*]
              | 1, _ => simp [*]
              | 2, _ => simp [*]
              | 3, _ => simp [*]), N157, Kp155, V153⟩
      · have q177 : ¬ (g 2).toInt = pf.toInt := fun q => hc146 (Int32.toInt_inj.mp q)
        have q179 := (by decide : (3 : Int32).toInt = 3)
        have q180 : ¬ (3 : Int32) < 0 ∧ (3 : Int32) < (4 : Int32) := by rw [Int32.lt_iff_toInt_lt, Int32.lt_iff_toInt_lt]; have q0 : (0 : Int32).toInt = 0 := rfl; omega
        obtain ⟨cl178, Ar178, S178, N178, Hs178⟩ := id V137
        have hin178 : ¬ ((3 : Int32) < 0 ∨ cl178.slots.size ≤ ((3 : Int32)).toNatClampNeg) := inb_of S178 q180
        have hat178 : cl178.slots[((3 : Int32)).toNatClampNeg]? = some (.int (g 3)) := own_at Hs178 S178 hin178 (by simp [hf138, hf122])
        have K182 : ∀ t, Steps p.tables e below (T135.setTop (mkF m 37 #[.val (.ref ra), .val (.int pf), .val (.int pt)] [(.int pf), (.int (g 3))])) t → Steps p.tables e below (s₁.setTop (entryFrame m #[(.ref ra), (.int pf), (.int pt)] 3)) t := fun t k => K147 t (by
          show Steps p.tables e below (T135.setTop (mkF m 26 #[.val (.ref ra), .val (.int pf), .val (.int pt)] [(.int pf), (.int (g 2))])) t
          refine XS.icmpYes X135.here hx rfl (pc0 := 26) (pc' := 33) rfl (hb hby own_d5_26) rfl (feq hc146).2 (by decide) (by decide) ?_
          show Steps p.tables e below (T135.setTop (mkF m 33 #[.val (.ref ra), .val (.int pf), .val (.int pt)] [])) t
          refine XS.aloadN X135.here hx rfl (hb hby own_d5_33) rfl rfl ?_
          show Steps p.tables e below (T135.setTop (mkF m 34 #[.val (.ref ra), .val (.int pf), .val (.int pt)] [(.ref ra)])) t
          refine XS.iconst X135.here hx rfl (hb hby own_d5_34) ?_
          show Steps p.tables e below (T135.setTop (mkF m 35 #[.val (.ref ra), .val (.int pf), .val (.int pt)] [(.int (3 : Int32)), (.ref ra)])) t
          refine X135.iaload hx (j := (3 : Int32)) (v := (.int (g 3))) (by rw [e135]; exact Ar178.1) (State.isArrayOf_alike hZ.alike Ar178.2.1) Ar178.2.2 hin178 hat178 (g := (mkF m 35 #[.val (.ref ra), .val (.int pf), .val (.int pt)] [(.int (3 : Int32)), (.ref ra)])) rfl rfl (hb hby own_d5_35) _ ?_
          show Steps p.tables e below (T135.setTop (mkF m 36 #[.val (.ref ra), .val (.int pf), .val (.int pt)] [(.int (g 3))])) t
          refine XS.iloadN X135.here hx rfl (hb hby own_d5_36) rfl ?_
          exact k)
        have q183 := rng32 (g 3)
        by_cases hc181 : (g 3) = pf
        · have q184 : (g 3).toInt = pf.toInt := congrArg Int32.toInt hc181
          have K185 : ∀ t, Steps p.tables e below (T135.setTop (mkF m 43 #[.val (.ref ra), .val (.int pf), .val (.int pt)] [(.int pt), (.int (3 : Int32)), (.ref ra)])) t → Steps p.tables e below (s₁.setTop (entryFrame m #[(.ref ra), (.int pf), (.int pt)] 3)) t := fun t k => K182 t (by
            show Steps p.tables e below (T135.setTop (mkF m 37 #[.val (.ref ra), .val (.int pf), .val (.int pt)] [(.int pf), (.int (g 3))])) t
            refine XS.icmpNo X135.here hx rfl (hb hby own_d5_37) rfl (teq hc181).2 ?_
            show Steps p.tables e below (T135.setTop (mkF m 40 #[.val (.ref ra), .val (.int pf), .val (.int pt)] [])) t
            refine XS.aloadN X135.here hx rfl (hb hby own_d5_40) rfl rfl ?_
            show Steps p.tables e below (T135.setTop (mkF m 41 #[.val (.ref ra), .val (.int pf), .val (.int pt)] [(.ref ra)])) t
            refine XS.iconst X135.here hx rfl (hb hby own_d5_41) ?_
            show Steps p.tables e below (T135.setTop (mkF m 42 #[.val (.ref ra), .val (.int pf), .val (.int pt)] [(.int (3 : Int32)), (.ref ra)])) t
            refine XS.iloadN X135.here hx rfl (hb hby own_d5_42) rfl ?_
            exact k)
          have q187 : ¬ (3 : Int32) < 0 ∧ (3 : Int32) < (4 : Int32) := by rw [Int32.lt_iff_toInt_lt, Int32.lt_iff_toInt_lt]; have q0 : (0 : Int32).toInt = 0 := rfl; omega
          obtain ⟨cl186, Ar186, S186, N186, Hs186⟩ := id V137
          have hin186 : ¬ ((3 : Int32) < 0 ∨ cl186.slots.size ≤ ((3 : Int32)).toNatClampNeg) := inb_of S186 q187
          obtain ⟨T186, h186, X186, e186, W186, st186⟩ := stI X135 hx hZ e135 Ar186 (j := (3 : Int32)) hin186 (g := (mkF m 43 #[.val (.ref ra), .val (.int pf), .val (.int pt)] [(.int pt), (.int (3 : Int32)), (.ref ra)])) rfl rfl (hb hby own_d5_43)
          obtain ⟨f189, hf189⟩ : ∃ fnew : Nat → Int32, fnew = fun i => if i = 3 then pt else f138 i := ⟨_, rfl⟩
          have V188 : own_Arf Z h186 ra .int (4 : Int32) f189 := own_Arf.set Ar186 S186 N186 Hs186 W186 rfl hf189
          have Kp190 : Keep h0 h186 [ra] := Keep.wr Kp139 W186 (Or.inl (List.mem_of_getElem? (i := 0) rfl))
          have Z191 : n0 ≤ h186.size := Nat.le_trans Z140 (Keep.of_wr W186).1
          have N192 := Fr.snoc X186 N141 P_1
          have K193 : ∀ t, Steps p.tables e below (T186.setTop (mkF m 44 #[.val (.ref ra), .val (.int pf), .val (.int pt)] [])) t → Steps p.tables e below (s₁.setTop (entryFrame m #[(.ref ra), (.int pf), (.int pt)] 3)) t := fun t k => K185 t (st186 _ k)
          obtain ⟨fs, hr, hrun, hended, hW, hsame⟩ := X186.leave (v := none) (fun _ => rfl)
          refine ⟨_, _, K193 _ ?_, hrun, hended, _, _, rfl, ?_, ⟨_, rfl⟩, hW, hsame.mono (by decide) (by decide)⟩
          · exact X186.returnOut hx Bd.returns (hb hby own_d5_44) hr
          · show Q_rm5 Z ra pf pt g h0 n0 _ T186.heap _
            rw [e186]
            exact ⟨f189, rfl, (fun i hi => by
              match i, hi with
              | 0, _ => simp [*]
              | 1, _ => simp [*]
              | 2, _ => simp [*]
              | 3, _ => simp [*]), N192, Kp190, V188⟩
        · have q194 : ¬ (g 3).toInt = pf.toInt := fun q => hc181 (Int32.toInt_inj.mp q)
          have K195 : ∀ t, Steps p.tables e below (T135.setTop (mkF m 44 #[.val (.ref ra), .val (.int pf), .val (.int pt)] [])) t → Steps p.tables e below (s₁.setTop (entryFrame m #[(.ref ra), (.int pf), (.int pt)] 3)) t := fun t k => K182 t (by
            show Steps p.tables e below (T135.setTop (mkF m 37 #[.val (.ref ra), .val (.int pf), .val (.int pt)] [(.int pf), (.int (g 3))])) t
            refine XS.icmpYes X135.here hx rfl (pc0 := 37) (pc' := 44) rfl (hb hby own_d5_37) rfl (feq hc181).2 (by decide) (by decide) ?_
            exact k)
          obtain ⟨fs, hr, hrun, hended, hW, hsame⟩ := X135.leave (v := none) (fun _ => rfl)
          refine ⟨_, _, K195 _ ?_, hrun, hended, _, _, rfl, ?_, ⟨_, rfl⟩, hW, hsame.mono (by decide) (by decide)⟩
          · exact X135.returnOut hx Bd.returns (hb hby own_d5_44) hr
          · show Q_rm5 Z ra pf pt g h0 n0 _ T135.heap _
            rw [e135]
            exact ⟨f138, rfl, (fun i hi => by
              match i, hi with
              | 0, _ => simp [*]
              | 1, _ => simp [*]
              | 2, _ => simp [*]
              | 3, _ => simp [*]), N141, Kp139, V137⟩
    · have q196 : ¬ (g 1).toInt = pf.toInt := fun q => hc130 (Int32.toInt_inj.mp q)
      have q198 := (by decide : (2 : Int32).toInt = 2)
      have q199 : ¬ (2 : Int32) < 0 ∧ (2 : Int32) < (4 : Int32) := by rw [Int32.lt_iff_toInt_lt, Int32.lt_iff_toInt_lt]; have q0 : (0 : Int32).toInt = 0 := rfl; omega
      obtain ⟨cl197, Ar197, S197, N197, Hs197⟩ := id V121
      have hin197 : ¬ ((2 : Int32) < 0 ∨ cl197.slots.size ≤ ((2 : Int32)).toNatClampNeg) := inb_of S197 q199
      have hat197 : cl197.slots[((2 : Int32)).toNatClampNeg]? = some (.int (g 2)) := own_at Hs197 S197 hin197 (by simp [hf122])
      have K201 : ∀ t, Steps p.tables e below (T119.setTop (mkF m 26 #[.val (.ref ra), .val (.int pf), .val (.int pt)] [(.int pf), (.int (g 2))])) t → Steps p.tables e below (s₁.setTop (entryFrame m #[(.ref ra), (.int pf), (.int pt)] 3)) t := fun t k => K131 t (by
        show Steps p.tables e below (T119.setTop (mkF m 15 #[.val (.ref ra), .val (.int pf), .val (.int pt)] [(.int pf), (.int (g 1))])) t
        refine XS.icmpYes X119.here hx rfl (pc0 := 15) (pc' := 22) rfl (hb hby own_d5_15) rfl (feq hc130).2 (by decide) (by decide) ?_
        show Steps p.tables e below (T119.setTop (mkF m 22 #[.val (.ref ra), .val (.int pf), .val (.int pt)] [])) t
        refine XS.aloadN X119.here hx rfl (hb hby own_d5_22) rfl rfl ?_
        show Steps p.tables e below (T119.setTop (mkF m 23 #[.val (.ref ra), .val (.int pf), .val (.int pt)] [(.ref ra)])) t
        refine XS.iconst X119.here hx rfl (hb hby own_d5_23) ?_
        show Steps p.tables e below (T119.setTop (mkF m 24 #[.val (.ref ra), .val (.int pf), .val (.int pt)] [(.int (2 : Int32)), (.ref ra)])) t
        refine X119.iaload hx (j := (2 : Int32)) (v := (.int (g 2))) (by rw [e119]; exact Ar197.1) (State.isArrayOf_alike hZ.alike Ar197.2.1) Ar197.2.2 hin197 hat197 (g := (mkF m 24 #[.val (.ref ra), .val (.int pf), .val (.int pt)] [(.int (2 : Int32)), (.ref ra)])) rfl rfl (hb hby own_d5_24) _ ?_
        show Steps p.tables e below (T119.setTop (mkF m 25 #[.val (.ref ra), .val (.int pf), .val (.int pt)] [(.int (g 2))])) t
        refine XS.iloadN X119.here hx rfl (hb hby own_d5_25) rfl ?_
        exact k)
      have q202 := rng32 (g 2)
      by_cases hc200 : (g 2) = pf
      · have q203 : (g 2).toInt = pf.toInt := congrArg Int32.toInt hc200
        have K204 : ∀ t, Steps p.tables e below (T119.setTop (mkF m 32 #[.val (.ref ra), .val (.int pf), .val (.int pt)] [(.int pt), (.int (2 : Int32)), (.ref ra)])) t → Steps p.tables e below (s₁.setTop (entryFrame m #[(.ref ra), (.int pf), (.int pt)] 3)) t := fun t k => K201 t (by
          show Steps p.tables e below (T119.setTop (mkF m 26 #[.val (.ref ra), .val (.int pf), .val (.int pt)] [(.int pf), (.int (g 2))])) t
          refine XS.icmpNo X119.here hx rfl (hb hby own_d5_26) rfl (teq hc200).2 ?_
          show Steps p.tables e below (T119.setTop (mkF m 29 #[.val (.ref ra), .val (.int pf), .val (.int pt)] [])) t
          refine XS.aloadN X119.here hx rfl (hb hby own_d5_29) rfl rfl ?_
          show Steps p.tables e below (T119.setTop (mkF m 30 #[.val (.ref ra), .val (.int pf), .val (.int pt)] [(.ref ra)])) t
          refine XS.iconst X119.here hx rfl (hb hby own_d5_30) ?_
          show Steps p.tables e below (T119.setTop (mkF m 31 #[.val (.ref ra), .val (.int pf), .val (.int pt)] [(.int (2 : Int32)), (.ref ra)])) t
          refine XS.iloadN X119.here hx rfl (hb hby own_d5_31) rfl ?_
          exact k)
        have q206 : ¬ (2 : Int32) < 0 ∧ (2 : Int32) < (4 : Int32) := by rw [Int32.lt_iff_toInt_lt, Int32.lt_iff_toInt_lt]; have q0 : (0 : Int32).toInt = 0 := rfl; omega
        obtain ⟨cl205, Ar205, S205, N205, Hs205⟩ := id V121
        have hin205 : ¬ ((2 : Int32) < 0 ∨ cl205.slots.size ≤ ((2 : Int32)).toNatClampNeg) := inb_of S205 q206
        obtain ⟨T205, h205, X205, e205, W205, st205⟩ := stI X119 hx hZ e119 Ar205 (j := (2 : Int32)) hin205 (g := (mkF m 32 #[.val (.ref ra), .val (.int pf), .val (.int pt)] [(.int pt), (.int (2 : Int32)), (.ref ra)])) rfl rfl (hb hby own_d5_32)
        obtain ⟨f208, hf208⟩ : ∃ fnew : Nat → Int32, fnew = fun i => if i = 2 then pt else f122 i := ⟨_, rfl⟩
        have V207 : own_Arf Z h205 ra .int (4 : Int32) f208 := own_Arf.set Ar205 S205 N205 Hs205 W205 rfl hf208
        have Kp209 : Keep h0 h205 [ra] := Keep.wr Kp123 W205 (Or.inl (List.mem_of_getElem? (i := 0) rfl))
        have Z210 : n0 ≤ h205.size := Nat.le_trans Z124 (Keep.of_wr W205).1
        have N211 := Fr.snoc X205 N125 P_1
        have K212 : ∀ t, Steps p.tables e below (T205.setTop (mkF m 33 #[.val (.ref ra), .val (.int pf), .val (.int pt)] [])) t → Steps p.tables e below (s₁.setTop (entryFrame m #[(.ref ra), (.int pf), (.int pt)] 3)) t := fun t k => K204 t (st205 _ k)
        have q214 := (by decide : (3 : Int32).toInt = 3)
        have q215 : ¬ (3 : Int32) < 0 ∧ (3 : Int32) < (4 : Int32) := by rw [Int32.lt_iff_toInt_lt, Int32.lt_iff_toInt_lt]; have q0 : (0 : Int32).toInt = 0 := rfl; omega
        obtain ⟨cl213, Ar213, S213, N213, Hs213⟩ := id V207
        have hin213 : ¬ ((3 : Int32) < 0 ∨ cl213.slots.size ≤ ((3 : Int32)).toNatClampNeg) := inb_of S213 q215
        have hat213 : cl213.slots[((3 : Int32)).toNatClampNeg]? = some (.int (g 3)) := own_at Hs213 S213 hin213 (by simp [hf208, hf122])
        have K217 : ∀ t, Steps p.tables e below (T205.setTop (mkF m 37 #[.val (.ref ra), .val (.int pf), .val (.int pt)] [(.int pf), (.int (g 3))])) t → Steps p.tables e below (s₁.setTop (entryFrame m #[(.ref ra), (.int pf), (.int pt)] 3)) t := fun t k => K212 t (by
          show Steps p.tables e below (T205.setTop (mkF m 33 #[.val (.ref ra), .val (.int pf), .val (.int pt)] [])) t
          refine XS.aloadN X205.here hx rfl (hb hby own_d5_33) rfl rfl ?_
          show Steps p.tables e below (T205.setTop (mkF m 34 #[.val (.ref ra), .val (.int pf), .val (.int pt)] [(.ref ra)])) t
          refine XS.iconst X205.here hx rfl (hb hby own_d5_34) ?_
          show Steps p.tables e below (T205.setTop (mkF m 35 #[.val (.ref ra), .val (.int pf), .val (.int pt)] [(.int (3 : Int32)), (.ref ra)])) t
          refine X205.iaload hx (j := (3 : Int32)) (v := (.int (g 3))) (by rw [e205]; exact Ar213.1) (State.isArrayOf_alike hZ.alike Ar213.2.1) Ar213.2.2 hin213 hat213 (g := (mkF m 35 #[.val (.ref ra), .val (.int pf), .val (.int pt)] [(.int (3 : Int32)), (.ref ra)])) rfl rfl (hb hby own_d5_35) _ ?_
          show Steps p.tables e below (T205.setTop (mkF m 36 #[.val (.ref ra), .val (.int pf), .val (.int pt)] [(.int (g 3))])) t
          refine XS.iloadN X205.here hx rfl (hb hby own_d5_36) rfl ?_
          exact k)
        have q218 := rng32 (g 3)
        by_cases hc216 : (g 3) = pf
        · have q219 : (g 3).toInt = pf.toInt := congrArg Int32.toInt hc216
          have K220 : ∀ t, Steps p.tables e below (T205.setTop (mkF m 43 #[.val (.ref ra), .val (.int pf), .val (.int pt)] [(.int pt), (.int (3 : Int32)), (.ref ra)])) t → Steps p.tables e below (s₁.setTop (entryFrame m #[(.ref ra), (.int pf), (.int pt)] 3)) t := fun t k => K217 t (by
            show Steps p.tables e below (T205.setTop (mkF m 37 #[.val (.ref ra), .val (.int pf), .val (.int pt)] [(.int pf), (.int (g 3))])) t
            refine XS.icmpNo X205.here hx rfl (hb hby own_d5_37) rfl (teq hc216).2 ?_
            show Steps p.tables e below (T205.setTop (mkF m 40 #[.val (.ref ra), .val (.int pf), .val (.int pt)] [])) t
            refine XS.aloadN X205.here hx rfl (hb hby own_d5_40) rfl rfl ?_
            show Steps p.tables e below (T205.setTop (mkF m 41 #[.val (.ref ra), .val (.int pf), .val (.int pt)] [(.ref ra)])) t
            refine XS.iconst X205.here hx rfl (hb hby own_d5_41) ?_
            show Steps p.tables e below (T205.setTop (mkF m 42 #[.val (.ref ra), .val (.int pf), .val (.int pt)] [(.int (3 : Int32)), (.ref ra)])) t
            refine XS.iloadN X205.here hx rfl (hb hby own_d5_42) rfl ?_
            exact k)
          have q222 : ¬ (3 : Int32) < 0 ∧ (3 : Int32) < (4 : Int32) := by rw [Int32.lt_iff_toInt_lt, Int32.lt_iff_toInt_lt]; have q0 : (0 : Int32).toInt = 0 := rfl; omega
          obtain ⟨cl221, Ar221, S221, N221, Hs221⟩ := id V207
          have hin221 : ¬ ((3 : Int32) < 0 ∨ cl221.slots.size ≤ ((3 : Int32)).toNatClampNeg) := inb_of S221 q222
          obtain ⟨T221, h221, X221, e221, W221, st221⟩ := stI X205 hx hZ e205 Ar221 (j := (3 : Int32)) hin221 (g := (mkF m 43 #[.val (.ref ra), .val (.int pf), .val (.int pt)] [(.int pt), (.int (3 : Int32)), (.ref ra)])) rfl rfl (hb hby own_d5_43)
          obtain ⟨f224, hf224⟩ : ∃ fnew : Nat → Int32, fnew = fun i => if i = 3 then pt else f208 i := ⟨_, rfl⟩
          have V223 : own_Arf Z h221 ra .int (4 : Int32) f224 := own_Arf.set Ar221 S221 N221 Hs221 W221 rfl hf224
          have Kp225 : Keep h0 h221 [ra] := Keep.wr Kp209 W221 (Or.inl (List.mem_of_getElem? (i := 0) rfl))
          have Z226 : n0 ≤ h221.size := Nat.le_trans Z210 (Keep.of_wr W221).1
          have N227 := Fr.snoc X221 N211 P_1
          have K228 : ∀ t, Steps p.tables e below (T221.setTop (mkF m 44 #[.val (.ref ra), .val (.int pf), .val (.int pt)] [])) t → Steps p.tables e below (s₁.setTop (entryFrame m #[(.ref ra), (.int pf), (.int pt)] 3)) t := fun t k => K220 t (st221 _ k)
          obtain ⟨fs, hr, hrun, hended, hW, hsame⟩ := X221.leave (v := none) (fun _ => rfl)
          refine ⟨_, _, K228 _ ?_, hrun, hended, _, _, rfl, ?_, ⟨_, rfl⟩, hW, hsame.mono (by decide) (by decide)⟩
          · exact X221.returnOut hx Bd.returns (hb hby own_d5_44) hr
          · show Q_rm5 Z ra pf pt g h0 n0 _ T221.heap _
            rw [e221]
            exact ⟨f224, rfl, (fun i hi => by
              match i, hi with
              | 0, _ => simp [*]
              | 1, _ => simp [*]
              | 2, _ => simp [*]
              | 3, _ => simp [*]), N227, Kp225, V223⟩
        · have q229 : ¬ (g 3).toInt = pf.toInt := fun q => hc216 (Int32.toInt_inj.mp q)
          have K230 : ∀ t, Steps p.tables e below (T205.setTop (mkF m 44 #[.val (.ref ra), .val (.int pf), .val (.int pt)] [])) t → Steps p.tables e below (s₁.setTop (entryFrame m #[(.ref ra), (.int pf), (.int pt)] 3)) t := fun t k => K217 t (by
            show Steps p.tables e below (T205.setTop (mkF m 37 #[.val (.ref ra), .val (.int pf), .val (.int pt)] [(.int pf), (.int (g 3))])) t
            refine XS.icmpYes X205.here hx rfl (pc0 := 37) (pc' := 44) rfl (hb hby own_d5_37) rfl (feq hc216).2 (by decide) (by decide) ?_
            exact k)
          obtain ⟨fs, hr, hrun, hended, hW, hsame⟩ := X205.leave (v := none) (fun _ => rfl)
          refine ⟨_, _, K230 _ ?_, hrun, hended, _, _, rfl, ?_, ⟨_, rfl⟩, hW, hsame.mono (by decide) (by decide)⟩
          · exact X205.returnOut hx Bd.returns (hb hby own_d5_44) hr
          · show Q_rm5 Z ra pf pt g h0 n0 _ T205.heap _
            rw [e205]
            exact ⟨f208, rfl, (fun i hi => by
              match i, hi with
              | 0, _ => simp [*]
              | 1, _ => simp [*]
              | 2, _ => simp [*]
              | 3, _ => simp [*]), N211, Kp209, V207⟩
      · have q231 : ¬ (g 2).toInt = pf.toInt := fun q => hc200 (Int32.toInt_inj.mp q)
        have q233 := (by decide : (3 : Int32).toInt = 3)
        have q234 : ¬ (3 : Int32) < 0 ∧ (3 : Int32) < (4 : Int32) := by rw [Int32.lt_iff_toInt_lt, Int32.lt_iff_toInt_lt]; have q0 : (0 : Int32).toInt = 0 := rfl; omega
        obtain ⟨cl232, Ar232, S232, N232, Hs232⟩ := id V121
        have hin232 : ¬ ((3 : Int32) < 0 ∨ cl232.slots.size ≤ ((3 : Int32)).toNatClampNeg) := inb_of S232 q234
        have hat232 : cl232.slots[((3 : Int32)).toNatClampNeg]? = some (.int (g 3)) := own_at Hs232 S232 hin232 (by simp [hf122])
        have K236 : ∀ t, Steps p.tables e below (T119.setTop (mkF m 37 #[.val (.ref ra), .val (.int pf), .val (.int pt)] [(.int pf), (.int (g 3))])) t → Steps p.tables e below (s₁.setTop (entryFrame m #[(.ref ra), (.int pf), (.int pt)] 3)) t := fun t k => K201 t (by
          show Steps p.tables e below (T119.setTop (mkF m 26 #[.val (.ref ra), .val (.int pf), .val (.int pt)] [(.int pf), (.int (g 2))])) t
          refine XS.icmpYes X119.here hx rfl (pc0 := 26) (pc' := 33) rfl (hb hby own_d5_26) rfl (feq hc200).2 (by decide) (by decide) ?_
          show Steps p.tables e below (T119.setTop (mkF m 33 #[.val (.ref ra), .val (.int pf), .val (.int pt)] [])) t
          refine XS.aloadN X119.here hx rfl (hb hby own_d5_33) rfl rfl ?_
          show Steps p.tables e below (T119.setTop (mkF m 34 #[.val (.ref ra), .val (.int pf), .val (.int pt)] [(.ref ra)])) t
          refine XS.iconst X119.here hx rfl (hb hby own_d5_34) ?_
          show Steps p.tables e below (T119.setTop (mkF m 35 #[.val (.ref ra), .val (.int pf), .val (.int pt)] [(.int (3 : Int32)), (.ref ra)])) t
          refine X119.iaload hx (j := (3 : Int32)) (v := (.int (g 3))) (by rw [e119]; exact Ar232.1) (State.isArrayOf_alike hZ.alike Ar232.2.1) Ar232.2.2 hin232 hat232 (g := (mkF m 35 #[.val (.ref ra), .val (.int pf), .val (.int pt)] [(.int (3 : Int32)), (.ref ra)])) rfl rfl (hb hby own_d5_35) _ ?_
          show Steps p.tables e below (T119.setTop (mkF m 36 #[.val (.ref ra), .val (.int pf), .val (.int pt)] [(.int (g 3))])) t
          refine XS.iloadN X119.here hx rfl (hb hby own_d5_36) rfl ?_
          exact k)
        have q237 := rng32 (g 3)
        by_cases hc235 : (g 3) = pf
        · have q238 : (g 3).toInt = pf.toInt := congrArg Int32.toInt hc235
          have K239 : ∀ t, Steps p.tables e below (T119.setTop (mkF m 43 #[.val (.ref ra), .val (.int pf), .val (.int pt)] [(.int pt), (.int (3 : Int32)), (.ref ra)])) t → Steps p.tables e below (s₁.setTop (entryFrame m #[(.ref ra), (.int pf), (.int pt)] 3)) t := fun t k => K236 t (by
            show Steps p.tables e below (T119.setTop (mkF m 37 #[.val (.ref ra), .val (.int pf), .val (.int pt)] [(.int pf), (.int (g 3))])) t
            refine XS.icmpNo X119.here hx rfl (hb hby own_d5_37) rfl (teq hc235).2 ?_
            show Steps p.tables e below (T119.setTop (mkF m 40 #[.val (.ref ra), .val (.int pf), .val (.int pt)] [])) t
            refine XS.aloadN X119.here hx rfl (hb hby own_d5_40) rfl rfl ?_
            show Steps p.tables e below (T119.setTop (mkF m 41 #[.val (.ref ra), .val (.int pf), .val (.int pt)] [(.ref ra)])) t
            refine XS.iconst X119.here hx rfl (hb hby own_d5_41) ?_
            show Steps p.tables e below (T119.setTop (mkF m 42 #[.val (.ref ra), .val (.int pf), .val (.int pt)] [(.int (3 : Int32)), (.ref ra)])) t
            refine XS.iloadN X119.here hx rfl (hb hby own_d5_42) rfl ?_
            exact k)
          have q241 : ¬ (3 : Int32) < 0 ∧ (3 : Int32) < (4 : Int32) := by rw [Int32.lt_iff_toInt_lt, Int32.lt_iff_toInt_lt]; have q0 : (0 : Int32).toInt = 0 := rfl; omega
          obtain ⟨cl240, Ar240, S240, N240, Hs240⟩ := id V121
          have hin240 : ¬ ((3 : Int32) < 0 ∨ cl240.slots.size ≤ ((3 : Int32)).toNatClampNeg) := inb_of S240 q241
          obtain ⟨T240, h240, X240, e240, W240, st240⟩ := stI X119 hx hZ e119 Ar240 (j := (3 : Int32)) hin240 (g := (mkF m 43 #[.val (.ref ra), .val (.int pf), .val (.int pt)] [(.int pt), (.int (3 : Int32)), (.ref ra)])) rfl rfl (hb hby own_d5_43)
          obtain ⟨f243, hf243⟩ : ∃ fnew : Nat → Int32, fnew = fun i => if i = 3 then pt else f122 i := ⟨_, rfl⟩
          have V242 : own_Arf Z h240 ra .int (4 : Int32) f243 := own_Arf.set Ar240 S240 N240 Hs240 W240 rfl hf243
          have Kp244 : Keep h0 h240 [ra] := Keep.wr Kp123 W240 (Or.inl (List.mem_of_getElem? (i := 0) rfl))
          have Z245 : n0 ≤ h240.size := Nat.le_trans Z124 (Keep.of_wr W240).1
          have N246 := Fr.snoc X240 N125 P_1
          have K247 : ∀ t, Steps p.tables e below (T240.setTop (mkF m 44 #[.val (.ref ra), .val (.int pf), .val (.int pt)] [])) t → Steps p.tables e below (s₁.setTop (entryFrame m #[(.ref ra), (.int pf), (.int pt)] 3)) t := fun t k => K239 t (st240 _ k)
          obtain ⟨fs, hr, hrun, hended, hW, hsame⟩ := X240.leave (v := none) (fun _ => rfl)
          refine ⟨_, _, K247 _ ?_, hrun, hended, _, _, rfl, ?_, ⟨_, rfl⟩, hW, hsame.mono (by decide) (by decide)⟩
          · exact X240.returnOut hx Bd.returns (hb hby own_d5_44) hr
          · show Q_rm5 Z ra pf pt g h0 n0 _ T240.heap _
            rw [e240]
            exact ⟨f243, rfl, (fun i hi => by
              match i, hi with
              | 0, _ => simp [*]
              | 1, _ => simp [*]
              | 2, _ => simp [*]
              | 3, _ => simp [*]), N246, Kp244, V242⟩
        · have q248 : ¬ (g 3).toInt = pf.toInt := fun q => hc235 (Int32.toInt_inj.mp q)
          have K249 : ∀ t, Steps p.tables e below (T119.setTop (mkF m 44 #[.val (.ref ra), .val (.int pf), .val (.int pt)] [])) t → Steps p.tables e below (s₁.setTop (entryFrame m #[(.ref ra), (.int pf), (.int pt)] 3)) t := fun t k => K236 t (by
            show Steps p.tables e below (T119.setTop (mkF m 37 #[.val (.ref ra), .val (.int pf), .val (.int pt)] [(.int pf), (.int (g 3))])) t
            refine XS.icmpYes X119.here hx rfl (pc0 := 37) (pc' := 44) rfl (hb hby own_d5_37) rfl (feq hc235).2 (by decide) (by decide) ?_
            exact k)
          obtain ⟨fs, hr, hrun, hended, hW, hsame⟩ := X119.leave (v := none) (fun _ => rfl)
          refine ⟨_, _, K249 _ ?_, hrun, hended, _, _, rfl, ?_, ⟨_, rfl⟩, hW, hsame.mono (by decide) (by decide)⟩
          · exact X119.returnOut hx Bd.returns (hb hby own_d5_44) hr
          · show Q_rm5 Z ra pf pt g h0 n0 _ T119.heap _
            rw [e119]
            exact ⟨f122, rfl, (fun i hi => by
              match i, hi with
              | 0, _ => simp [*]
              | 1, _ => simp [*]
              | 2, _ => simp [*]
              | 3, _ => simp [*]), N125, Kp123, V121⟩
  · have q250 : ¬ (g 0).toInt = pf.toInt := fun q => hc113 (Int32.toInt_inj.mp q)
    have q252 := (by decide : (1 : Int32).toInt = 1)
    have q253 : ¬ (1 : Int32) < 0 ∧ (1 : Int32) < (4 : Int32) := by rw [Int32.lt_iff_toInt_lt, Int32.lt_iff_toInt_lt]; have q0 : (0 : Int32).toInt = 0 := rfl; omega
    obtain ⟨cl251, Ar251, S251, N251, Hs251⟩ := id P_0
    have hin251 : ¬ ((1 : Int32) < 0 ∨ cl251.slots.size ≤ ((1 : Int32)).toNatClampNeg) := inb_of S251 q253
    have hat251 : cl251.slots[((1 : Int32)).toNatClampNeg]? = some (.int (g 1)) := own_at Hs251 S251 hin251 (rfl)
    have K255 : ∀ t, Steps p.tables e below (s₁.setTop (mkF m 15 #[.val (.ref ra), .val (.int pf), .val (.int pt)] [(.int pf), (.int (g 1))])) t → Steps p.tables e below (s₁.setTop (entryFrame m #[(.ref ra), (.int pf), (.int pt)] 3)) t := fun t k => K114 t (by
      show Steps p.tables e below (s₁.setTop (mkF m 4 #[.val (.ref ra), .val (.int pf), .val (.int pt)] [(.int pf), (.int (g 0))])) t
      refine XS.icmpYes X0.here hx rfl (pc0 := 4) (pc' := 11) rfl (hb hby own_d5_4) rfl (feq hc113).2 (by decide) (by decide) ?_
      show Steps p.tables e below (s₁.setTop (mkF m 11 #[.val (.ref ra), .val (.int pf), .val (.int pt)] [])) t
      refine XS.aloadN X0.here hx rfl (hb hby own_d5_11) rfl rfl ?_
      show Steps p.tables e below (s₁.setTop (mkF m 12 #[.val (.ref ra), .val (.int pf), .val (.int pt)] [(.ref ra)])) t
      refine XS.iconst X0.here hx rfl (hb hby own_d5_12) ?_
      show Steps p.tables e below (s₁.setTop (mkF m 13 #[.val (.ref ra), .val (.int pf), .val (.int pt)] [(.int (1 : Int32)), (.ref ra)])) t
      refine X0.iaload hx (j := (1 : Int32)) (v := (.int (g 1))) (by rw [e0]; exact Ar251.1) (State.isArrayOf_alike hZ.alike Ar251.2.1) Ar251.2.2 hin251 hat251 (g := (mkF m 13 #[.val (.ref ra), .val (.int pf), .val (.int pt)] [(.int (1 : Int32)), (.ref ra)])) rfl rfl (hb hby own_d5_13) _ ?_
      show Steps p.tables e below (s₁.setTop (mkF m 14 #[.val (.ref ra), .val (.int pf), .val (.int pt)] [(.int (g 1))])) t
      refine XS.iloadN X0.here hx rfl (hb hby own_d5_14) rfl ?_
      exact k)
    have q256 := rng32 (g 1)
    by_cases hc254 : (g 1) = pf
    · have q257 : (g 1).toInt = pf.toInt := congrArg Int32.toInt hc254
      have K258 : ∀ t, Steps p.tables e below (s₁.setTop (mkF m 21 #[.val (.ref ra), .val (.int pf), .val (.int pt)] [(.int pt), (.int (1 : Int32)), (.ref ra)])) t → Steps p.tables e below (s₁.setTop (entryFrame m #[(.ref ra), (.int pf), (.int pt)] 3)) t := fun t k => K255 t (by
        show Steps p.tables e below (s₁.setTop (mkF m 15 #[.val (.ref ra), .val (.int pf), .val (.int pt)] [(.int pf), (.int (g 1))])) t
        refine XS.icmpNo X0.here hx rfl (hb hby own_d5_15) rfl (teq hc254).2 ?_
        show Steps p.tables e below (s₁.setTop (mkF m 18 #[.val (.ref ra), .val (.int pf), .val (.int pt)] [])) t
        refine XS.aloadN X0.here hx rfl (hb hby own_d5_18) rfl rfl ?_
        show Steps p.tables e below (s₁.setTop (mkF m 19 #[.val (.ref ra), .val (.int pf), .val (.int pt)] [(.ref ra)])) t
        refine XS.iconst X0.here hx rfl (hb hby own_d5_19) ?_
        show Steps p.tables e below (s₁.setTop (mkF m 20 #[.val (.ref ra), .val (.int pf), .val (.int pt)] [(.int (1 : Int32)), (.ref ra)])) t
        refine XS.iloadN X0.here hx rfl (hb hby own_d5_20) rfl ?_
        exact k)
      have q260 : ¬ (1 : Int32) < 0 ∧ (1 : Int32) < (4 : Int32) := by rw [Int32.lt_iff_toInt_lt, Int32.lt_iff_toInt_lt]; have q0 : (0 : Int32).toInt = 0 := rfl; omega
      obtain ⟨cl259, Ar259, S259, N259, Hs259⟩ := id P_0
      have hin259 : ¬ ((1 : Int32) < 0 ∨ cl259.slots.size ≤ ((1 : Int32)).toNatClampNeg) := inb_of S259 q260
      obtain ⟨T259, h259, X259, e259, W259, st259⟩ := stI X0 hx hZ e0 Ar259 (j := (1 : Int32)) hin259 (g := (mkF m 21 #[.val (.ref ra), .val (.int pf), .val (.int pt)] [(.int pt), (.int (1 : Int32)), (.ref ra)])) rfl rfl (hb hby own_d5_21)
      obtain ⟨f262, hf262⟩ : ∃ fnew : Nat → Int32, fnew = fun i => if i = 1 then pt else g i := ⟨_, rfl⟩
      have V261 : own_Arf Z h259 ra .int (4 : Int32) f262 := own_Arf.set Ar259 S259 N259 Hs259 W259 rfl hf262
      have Kp263 : Keep h0 h259 [ra] := Keep.wr (Keep.refl h0 [ra]) W259 (Or.inl (List.mem_of_getElem? (i := 0) rfl))
      have Z264 : n0 ≤ h259.size := Nat.le_trans Z0 (Keep.of_wr W259).1
      have N265 := Fr.snoc X259 N0 P_1
      have K266 : ∀ t, Steps p.tables e below (T259.setTop (mkF m 22 #[.val (.ref ra), .val (.int pf), .val (.int pt)] [])) t → Steps p.tables e below (s₁.setTop (entryFrame m #[(.ref ra), (.int pf), (.int pt)] 3)) t := fun t k => K258 t (st259 _ k)
      have q268 := (by decide : (2 : Int32).toInt = 2)
      have q269 : ¬ (2 : Int32) < 0 ∧ (2 : Int32) < (4 : Int32) := by rw [Int32.lt_iff_toInt_lt, Int32.lt_iff_toInt_lt]; have q0 : (0 : Int32).toInt = 0 := rfl; omega
      obtain ⟨cl267, Ar267, S267, N267, Hs267⟩ := id V261
      have hin267 : ¬ ((2 : Int32) < 0 ∨ cl267.slots.size ≤ ((2 : Int32)).toNatClampNeg) := inb_of S267 q269
      have hat267 : cl267.slots[((2 : Int32)).toNatClampNeg]? = some (.int (g 2)) := own_at Hs267 S267 hin267 (by simp [hf262])
      have K271 : ∀ t, Steps p.tables e below (T259.setTop (mkF m 26 #[.val (.ref ra), .val (.int pf), .val (.int pt)] [(.int pf), (.int (g 2))])) t → Steps p.tables e below (s₁.setTop (entryFrame m #[(.ref ra), (.int pf), (.int pt)] 3)) t := fun t k => K266 t (by
        show Steps p.tables e below (T259.setTop (mkF m 22 #[.val (.ref ra), .val (.int pf), .val (.int pt)] [])) t
        refine XS.aloadN X259.here hx rfl (hb hby own_d5_22) rfl rfl ?_
        show Steps p.tables e below (T259.setTop (mkF m 23 #[.val (.ref ra), .val (.int pf), .val (.int pt)] [(.ref ra)])) t
        refine XS.iconst X259.here hx rfl (hb hby own_d5_23) ?_
        show Steps p.tables e below (T259.setTop (mkF m 24 #[.val (.ref ra), .val (.int pf), .val (.int pt)] [(.int (2 : Int32)), (.ref ra)])) t
        refine X259.iaload hx (j := (2 : Int32)) (v := (.int (g 2))) (by rw [e259]; exact Ar267.1) (State.isArrayOf_alike hZ.alike Ar267.2.1) Ar267.2.2 hin267 hat267 (g := (mkF m 24 #[.val (.ref ra), .val (.int pf), .val (.int pt)] [(.int (2 : Int32)), (.ref ra)])) rfl rfl (hb hby own_d5_24) _ ?_
        show Steps p.tables e below (T259.setTop (mkF m 25 #[.val (.ref ra), .val (.int pf), .val (.int pt)] [(.int (g 2))])) t
        refine XS.iloadN X259.here hx rfl (hb hby own_d5_25) rfl ?_
        exact k)
      have q272 := rng32 (g 2)
      by_cases hc270 : (g 2) = pf
      · have q273 : (g 2).toInt = pf.toInt := congrArg Int32.toInt hc270
        have K274 : ∀ t, Steps p.tables e below (T259.setTop (mkF m 32 #[.val (.ref ra), .val (.int pf), .val (.int pt)] [(.int pt), (.int (2 : Int32)), (.ref ra)])) t → Steps p.tables e below (s₁.setTop (entryFrame m #[(.ref ra), (.int pf), (.int pt)] 3)) t := fun t k => K271 t (by
          show Steps p.tables e below (T259.setTop (mkF m 26 #[.val (.ref ra), .val (.int pf), .val (.int pt)] [(.int pf), (.int (g 2))])) t
          refine XS.icmpNo X259.here hx rfl (hb hby own_d5_26) rfl (teq hc270).2 ?_
          show Steps p.tables e below (T259.setTop (mkF m 29 #[.val (.ref ra), .val (.int pf), .val (.int pt)] [])) t
          refine XS.aloadN X259.here hx rfl (hb hby own_d5_29) rfl rfl ?_
          show Steps p.tables e below (T259.setTop (mkF m 30 #[.val (.ref ra), .val (.int pf), .val (.int pt)] [(.ref ra)])) t
          refine XS.iconst X259.here hx rfl (hb hby own_d5_30) ?_
          show Steps p.tables e below (T259.setTop (mkF m 31 #[.val (.ref ra), .val (.int pf), .val (.int pt)] [(.int (2 : Int32)), (.ref ra)])) t
          refine XS.iloadN X259.here hx rfl (hb hby own_d5_31) rfl ?_
          exact k)
        have q276 : ¬ (2 : Int32) < 0 ∧ (2 : Int32) < (4 : Int32) := by rw [Int32.lt_iff_toInt_lt, Int32.lt_iff_toInt_lt]; have q0 : (0 : Int32).toInt = 0 := rfl; omega
        obtain ⟨cl275, Ar275, S275, N275, Hs275⟩ := id V261
        have hin275 : ¬ ((2 : Int32) < 0 ∨ cl275.slots.size ≤ ((2 : Int32)).toNatClampNeg) := inb_of S275 q276
        obtain ⟨T275, h275, X275, e275, W275, st275⟩ := stI X259 hx hZ e259 Ar275 (j := (2 : Int32)) hin275 (g := (mkF m 32 #[.val (.ref ra), .val (.int pf), .val (.int pt)] [(.int pt), (.int (2 : Int32)), (.ref ra)])) rfl rfl (hb hby own_d5_32)
        obtain ⟨f278, hf278⟩ : ∃ fnew : Nat → Int32, fnew = fun i => if i = 2 then pt else f262 i := ⟨_, rfl⟩
        have V277 : own_Arf Z h275 ra .int (4 : Int32) f278 := own_Arf.set Ar275 S275 N275 Hs275 W275 rfl hf278
        have Kp279 : Keep h0 h275 [ra] := Keep.wr Kp263 W275 (Or.inl (List.mem_of_getElem? (i := 0) rfl))
        have Z280 : n0 ≤ h275.size := Nat.le_trans Z264 (Keep.of_wr W275).1
        have N281 := Fr.snoc X275 N265 P_1
        have K282 : ∀ t, Steps p.tables e below (T275.setTop (mkF m 33 #[.val (.ref ra), .val (.int pf), .val (.int pt)] [])) t → Steps p.tables e below (s₁.setTop (entryFrame m #[(.ref ra), (.int pf), (.int pt)] 3)) t := fun t k => K274 t (st275 _ k)
        have q284 := (by decide : (3 : Int32).toInt = 3)
        have q285 : ¬ (3 : Int32) < 0 ∧ (3 : Int32) < (4 : Int32) := by rw [Int32.lt_iff_toInt_lt, Int32.lt_iff_toInt_lt]; have q0 : (0 : Int32).toInt = 0 := rfl; omega
        obtain ⟨cl283, Ar283, S283, N283, Hs283⟩ := id V277
        have hin283 : ¬ ((3 : Int32) < 0 ∨ cl283.slots.size ≤ ((3 : Int32)).toNatClampNeg) := inb_of S283 q285
        have hat283 : cl283.slots[((3 : Int32)).toNatClampNeg]? = some (.int (g 3)) := own_at Hs283 S283 hin283 (by simp [hf278, hf262])
        have K287 : ∀ t, Steps p.tables e below (T275.setTop (mkF m 37 #[.val (.ref ra), .val (.int pf), .val (.int pt)] [(.int pf), (.int (g 3))])) t → Steps p.tables e below (s₁.setTop (entryFrame m #[(.ref ra), (.int pf), (.int pt)] 3)) t := fun t k => K282 t (by
          show Steps p.tables e below (T275.setTop (mkF m 33 #[.val (.ref ra), .val (.int pf), .val (.int pt)] [])) t
          refine XS.aloadN X275.here hx rfl (hb hby own_d5_33) rfl rfl ?_
          show Steps p.tables e below (T275.setTop (mkF m 34 #[.val (.ref ra), .val (.int pf), .val (.int pt)] [(.ref ra)])) t
          refine XS.iconst X275.here hx rfl (hb hby own_d5_34) ?_
          show Steps p.tables e below (T275.setTop (mkF m 35 #[.val (.ref ra), .val (.int pf), .val (.int pt)] [(.int (3 : Int32)), (.ref ra)])) t
          refine X275.iaload hx (j := (3 : Int32)) (v := (.int (g 3))) (by rw [e275]; exact Ar283.1) (State.isArrayOf_alike hZ.alike Ar283.2.1) Ar283.2.2 hin283 hat283 (g := (mkF m 35 #[.val (.ref ra), .val (.int pf), .val (.int pt)] [(.int (3 : Int32)), (.ref ra)])) rfl rfl (hb hby own_d5_35) _ ?_
          show Steps p.tables e below (T275.setTop (mkF m 36 #[.val (.ref ra), .val (.int pf), .val (.int pt)] [(.int (g 3))])) t
          refine XS.iloadN X275.here hx rfl (hb hby own_d5_36) rfl ?_
          exact k)
        have q288 := rng32 (g 3)
        by_cases hc286 : (g 3) = pf
        · have q289 : (g 3).toInt = pf.toInt := congrArg Int32.toInt hc286
          have K290 : ∀ t, Steps p.tables e below (T275.setTop (mkF m 43 #[.val (.ref ra), .val (.int pf), .val (.int pt)] [(.int pt), (.int (3 : Int32)), (.ref ra)])) t → Steps p.tables e below (s₁.setTop (entryFrame m #[(.ref ra), (.int pf), (.int pt)] 3)) t := fun t k => K287 t (by
            show Steps p.tables e below (T275.setTop (mkF m 37 #[.val (.ref ra), .val (.int pf), .val (.int pt)] [(.int pf), (.int (g 3))])) t
            refine XS.icmpNo X275.here hx rfl (hb hby own_d5_37) rfl (teq hc286).2 ?_
            show Steps p.tables e below (T275.setTop (mkF m 40 #[.val (.ref ra), .val (.int pf), .val (.int pt)] [])) t
            refine XS.aloadN X275.here hx rfl (hb hby own_d5_40) rfl rfl ?_
            show Steps p.tables e below (T275.setTop (mkF m 41 #[.val (.ref ra), .val (.int pf), .val (.int pt)] [(.ref ra)])) t
            refine XS.iconst X275.here hx rfl (hb hby own_d5_41) ?_
            show Steps p.tables e below (T275.setTop (mkF m 42 #[.val (.ref ra), .val (.int pf), .val (.int pt)] [(.int (3 : Int32)), (.ref ra)])) t
            refine XS.iloadN X275.here hx rfl (hb hby own_d5_42) rfl ?_
            exact k)
          have q292 : ¬ (3 : Int32) < 0 ∧ (3 : Int32) < (4 : Int32) := by rw [Int32.lt_iff_toInt_lt, Int32.lt_iff_toInt_lt]; have q0 : (0 : Int32).toInt = 0 := rfl; omega
          obtain ⟨cl291, Ar291, S291, N291, Hs291⟩ := id V277
          have hin291 : ¬ ((3 : Int32) < 0 ∨ cl291.slots.size ≤ ((3 : Int32)).toNatClampNeg) := inb_of S291 q292
          obtain ⟨T291, h291, X291, e291, W291, st291⟩ := stI X275 hx hZ e275 Ar291 (j := (3 : Int32)) hin291 (g := (mkF m 43 #[.val (.ref ra), .val (.int pf), .val (.int pt)] [(.int pt), (.int (3 : Int32)), (.ref ra)])) rfl rfl (hb hby own_d5_43)
          obtain ⟨f294, hf294⟩ : ∃ fnew : Nat → Int32, fnew = fun i => if i = 3 then pt else f278 i := ⟨_, rfl⟩
          have V293 : own_Arf Z h291 ra .int (4 : Int32) f294 := own_Arf.set Ar291 S291 N291 Hs291 W291 rfl hf294
          have Kp295 : Keep h0 h291 [ra] := Keep.wr Kp279 W291 (Or.inl (List.mem_of_getElem? (i := 0) rfl))
          have Z296 : n0 ≤ h291.size := Nat.le_trans Z280 (Keep.of_wr W291).1
          have N297 := Fr.snoc X291 N281 P_1
          have K298 : ∀ t, Steps p.tables e below (T291.setTop (mkF m 44 #[.val (.ref ra), .val (.int pf), .val (.int pt)] [])) t → Steps p.tables e below (s₁.setTop (entryFrame m #[(.ref ra), (.int pf), (.int pt)] 3)) t := fun t k => K290 t (st291 _ k)
          obtain ⟨fs, hr, hrun, hended, hW, hsame⟩ := X291.leave (v := none) (fun _ => rfl)
          refine ⟨_, _, K298 _ ?_, hrun, hended, _, _, rfl, ?_, ⟨_, rfl⟩, hW, hsame.mono (by decide) (by decide)⟩
          · exact X291.returnOut hx Bd.returns (hb hby own_d5_44) hr
          · show Q_rm5 Z ra pf pt g h0 n0 _ T291.heap _
            rw [e291]
            exact ⟨f294, rfl, (fun i hi => by
              match i, hi with
              | 0, _ => simp [*]
              | 1, _ => simp [*]
              | 2, _ => simp [*]
              | 3, _ => simp [*]), N297, Kp295, V293⟩
        · have q299 : ¬ (g 3).toInt = pf.toInt := fun q => hc286 (Int32.toInt_inj.mp q)
          have K300 : ∀ t, Steps p.tables e below (T275.setTop (mkF m 44 #[.val (.ref ra), .val (.int pf), .val (.int pt)] [])) t → Steps p.tables e below (s₁.setTop (entryFrame m #[(.ref ra), (.int pf), (.int pt)] 3)) t := fun t k => K287 t (by
            show Steps p.tables e below (T275.setTop (mkF m 37 #[.val (.ref ra), .val (.int pf), .val (.int pt)] [(.int pf), (.int (g 3))])) t
            refine XS.icmpYes X275.here hx rfl (pc0 := 37) (pc' := 44) rfl (hb hby own_d5_37) rfl (feq hc286).2 (by decide) (by decide) ?_
            exact k)
          obtain ⟨fs, hr, hrun, hended, hW, hsame⟩ := X275.leave (v := none) (fun _ => rfl)
          refine ⟨_, _, K300 _ ?_, hrun, hended, _, _, rfl, ?_, ⟨_, rfl⟩, hW, hsame.mono (by decide) (by decide)⟩
          · exact X275.returnOut hx Bd.returns (hb hby own_d5_44) hr
          · show Q_rm5 Z ra pf pt g h0 n0 _ T275.heap _
            rw [e275]
            exact ⟨f278, rfl, (fun i hi => by
              match i, hi with
              | 0, _ => simp [*]
              | 1, _ => simp [*]
              | 2, _ => simp [*]
              | 3, _ => simp [*]), N281, Kp279, V277⟩
      · have q301 : ¬ (g 2).toInt = pf.toInt := fun q => hc270 (Int32.toInt_inj.mp q)
        have q303 := (by decide : (3 : Int32).toInt = 3)
        have q304 : ¬ (3 : Int32) < 0 ∧ (3 : Int32) < (4 : Int32) := by rw [Int32.lt_iff_toInt_lt, Int32.lt_iff_toInt_lt]; have q0 : (0 : Int32).toInt = 0 := rfl; omega
        obtain ⟨cl302, Ar302, S302, N302, Hs302⟩ := id V261
        have hin302 : ¬ ((3 : Int32) < 0 ∨ cl302.slots.size ≤ ((3 : Int32)).toNatClampNeg) := inb_of S302 q304
        have hat302 : cl302.slots[((3 : Int32)).toNatClampNeg]? = some (.int (g 3)) := own_at Hs302 S302 hin302 (by simp [hf262])
        have K306 : ∀ t, Steps p.tables e below (T259.setTop (mkF m 37 #[.val (.ref ra), .val (.int pf), .val (.int pt)] [(.int pf), (.int (g 3))])) t → Steps p.tables e below (s₁.setTop (entryFrame m #[(.ref ra), (.int pf), (.int pt)] 3)) t := fun t k => K271 t (by
          show Steps p.tables e below (T259.setTop (mkF m 26 #[.val (.ref ra), .val (.int pf), .val (.int pt)] [(.int pf), (.int (g 2))])) t
          refine XS.icmpYes X259.here hx rfl (pc0 := 26) (pc' := 33) rfl (hb hby own_d5_26) rfl (feq hc270).2 (by decide) (by decide) ?_
          show Steps p.tables e below (T259.setTop (mkF m 33 #[.val (.ref ra), .val (.int pf), .val (.int pt)] [])) t
          refine XS.aloadN X259.here hx rfl (hb hby own_d5_33) rfl rfl ?_
          show Steps p.tables e below (T259.setTop (mkF m 34 #[.val (.ref ra), .val (.int pf), .val (.int pt)] [(.ref ra)])) t
          refine XS.iconst X259.here hx rfl (hb hby own_d5_34) ?_
          show Steps p.tables e below (T259.setTop (mkF m 35 #[.val (.ref ra), .val (.int pf), .val (.int pt)] [(.int (3 : Int32)), (.ref ra)])) t
          refine X259.iaload hx (j := (3 : Int32)) (v := (.int (g 3))) (by rw [e259]; exact Ar302.1) (State.isArrayOf_alike hZ.alike Ar302.2.1) Ar302.2.2 hin302 hat302 (g := (mkF m 35 #[.val (.ref ra), .val (.int pf), .val (.int pt)] [(.int (3 : Int32)), (.ref ra)])) rfl rfl (hb hby own_d5_35) _ ?_
          show Steps p.tables e below (T259.setTop (mkF m 36 #[.val (.ref ra), .val (.int pf), .val (.int pt)] [(.int (g 3))])) t
          refine XS.iloadN X259.here hx rfl (hb hby own_d5_36) rfl ?_
          exact k)
        have q307 := rng32 (g 3)
        by_cases hc305 : (g 3) = pf
        · have q308 : (g 3).toInt = pf.toInt := congrArg Int32.toInt hc305
          have K309 : ∀ t, Steps p.tables e below (T259.setTop (mkF m 43 #[.val (.ref ra), .val (.int pf), .val (.int pt)] [(.int pt), (.int (3 : Int32)), (.ref ra)])) t → Steps p.tables e below (s₁.setTop (entryFrame m #[(.ref ra), (.int pf), (.int pt)] 3)) t := fun t k => K306 t (by
            show Steps p.tables e below (T259.setTop (mkF m 37 #[.val (.ref ra), .val (.int pf), .val (.int pt)] [(.int pf), (.int (g 3))])) t
            refine XS.icmpNo X259.here hx rfl (hb hby own_d5_37) rfl (teq hc305).2 ?_
            show Steps p.tables e below (T259.setTop (mkF m 40 #[.val (.ref ra), .val (.int pf), .val (.int pt)] [])) t
            refine XS.aloadN X259.here hx rfl (hb hby own_d5_40) rfl rfl ?_
            show Steps p.tables e below (T259.setTop (mkF m 41 #[.val (.ref ra), .val (.int pf), .val (.int pt)] [(.ref ra)])) t
            refine XS.iconst X259.here hx rfl (hb hby own_d5_41) ?_
            show Steps p.tables e below (T259.setTop (mkF m 42 #[.val (.ref ra), .val (.int pf), .val (.int pt)] [(.int (3 : Int32)), (.ref ra)])) t
            refine XS.iloadN X259.here hx rfl (hb hby own_d5_42) rfl ?_
            exact k)
          have q311 : ¬ (3 : Int32) < 0 ∧ (3 : Int32) < (4 : Int32) := by rw [Int32.lt_iff_toInt_lt, Int32.lt_iff_toInt_lt]; have q0 : (0 : Int32).toInt = 0 := rfl; omega
          obtain ⟨cl310, Ar310, S310, N310, Hs310⟩ := id V261
          have hin310 : ¬ ((3 : Int32) < 0 ∨ cl310.slots.size ≤ ((3 : Int32)).toNatClampNeg) := inb_of S310 q311
          obtain ⟨T310, h310, X310, e310, W310, st310⟩ := stI X259 hx hZ e259 Ar310 (j := (3 : Int32)) hin310 (g := (mkF m 43 #[.val (.ref ra), .val (.int pf), .val (.int pt)] [(.int pt), (.int (3 : Int32)), (.ref ra)])) rfl rfl (hb hby own_d5_43)
          obtain ⟨f313, hf313⟩ : ∃ fnew : Nat → Int32, fnew = fun i => if i = 3 then pt else f262 i := ⟨_, rfl⟩
          have V312 : own_Arf Z h310 ra .int (4 : Int32) f313 := own_Arf.set Ar310 S310 N310 Hs310 W310 rfl hf313
          have Kp314 : Keep h0 h310 [ra] := Keep.wr Kp263 W310 (Or.inl (List.mem_of_getElem? (i := 0) rfl))
          have Z315 : n0 ≤ h310.size := Nat.le_trans Z264 (Keep.of_wr W310).1
          have N316 := Fr.snoc X310 N265 P_1
          have K317 : ∀ t, Steps p.tables e below (T310.setTop (mkF m 44 #[.val (.ref ra), .val (.int pf), .val (.int pt)] [])) t → Steps p.tables e below (s₁.setTop (entryFrame m #[(.ref ra), (.int pf), (.int pt)] 3)) t := fun t k => K309 t (st310 _ k)
          obtain ⟨fs, hr, hrun, hended, hW, hsame⟩ := X310.leave (v := none) (fun _ => rfl)
          refine ⟨_, _, K317 _ ?_, hrun, hended, _, _, rfl, ?_, ⟨_, rfl⟩, hW, hsame.mono (by decide) (by decide)⟩
          · exact X310.returnOut hx Bd.returns (hb hby own_d5_44) hr
          · show Q_rm5 Z ra pf pt g h0 n0 _ T310.heap _
            rw [e310]
            exact ⟨f313, rfl, (fun i hi => by
              match i, hi with
              | 0, _ => simp [*]
              | 1, _ => simp [*]
              | 2, _ => simp [*]
              | 3, _ => simp [*]), N316, Kp314, V312⟩
        · have q318 : ¬ (g 3).toInt = pf.toInt := fun q => hc305 (Int32.toInt_inj.mp q)
          have K319 : ∀ t, Steps p.tables e below (T259.setTop (mkF m 44 #[.val (.ref ra), .val (.int pf), .val (.int pt)] [])) t → Steps p.tables e below (s₁.setTop (entryFrame m #[(.ref ra), (.int pf), (.int pt)] 3)) t := fun t k => K306 t (by
            show Steps p.tables e below (T259.setTop (mkF m 37 #[.val (.ref ra), .val (.int pf), .val (.int pt)] [(.int pf), (.int (g 3))])) t
            refine XS.icmpYes X259.here hx rfl (pc0 := 37) (pc' := 44) rfl (hb hby own_d5_37) rfl (feq hc305).2 (by decide) (by decide) ?_
            exact k)
          obtain ⟨fs, hr, hrun, hended, hW, hsame⟩ := X259.leave (v := none) (fun _ => rfl)
          refine ⟨_, _, K319 _ ?_, hrun, hended, _, _, rfl, ?_, ⟨_, rfl⟩, hW, hsame.mono (by decide) (by decide)⟩
          · exact X259.returnOut hx Bd.returns (hb hby own_d5_44) hr
          · show Q_rm5 Z ra pf pt g h0 n0 _ T259.heap _
            rw [e259]
            exact ⟨f262, rfl, (fun i hi => by
              match i, hi with
              | 0, _ => simp [*]
              | 1, _ => simp [*]
              | 2, _ => simp [*]
              | 3, _ => simp [*]), N265, Kp263, V261⟩
    · have q320 : ¬ (g 1).toInt = pf.toInt := fun q => hc254 (Int32.toInt_inj.mp q)
      have q322 := (by decide : (2 : Int32).toInt = 2)
      have q323 : ¬ (2 : Int32) < 0 ∧ (2 : Int32) < (4 : Int32) := by rw [Int32.lt_iff_toInt_lt, Int32.lt_iff_toInt_lt]; have q0 : (0 : Int32).toInt = 0 := rfl; omega
      obtain ⟨cl321, Ar321, S321, N321, Hs321⟩ := id P_0
      have hin321 : ¬ ((2 : Int32) < 0 ∨ cl321.slots.size ≤ ((2 : Int32)).toNatClampNeg) := inb_of S321 q323
      have hat321 : cl321.slots[((2 : Int32)).toNatClampNeg]? = some (.int (g 2)) := own_at Hs321 S321 hin321 (rfl)
      have K325 : ∀ t, Steps p.tables e below (s₁.setTop (mkF m 26 #[.val (.ref ra), .val (.int pf), .val (.int pt)] [(.int pf), (.int (g 2))])) t → Steps p.tables e below (s₁.setTop (entryFrame m #[(.ref ra), (.int pf), (.int pt)] 3)) t := fun t k => K255 t (by
        show Steps p.tables e below (s₁.setTop (mkF m 15 #[.val (.ref ra), .val (.int pf), .val (.int pt)] [(.int pf), (.int (g 1))])) t
        refine XS.icmpYes X0.here hx rfl (pc0 := 15) (pc' := 22) rfl (hb hby own_d5_15) rfl (feq hc254).2 (by decide) (by decide) ?_
        show Steps p.tables e below (s₁.setTop (mkF m 22 #[.val (.ref ra), .val (.int pf), .val (.int pt)] [])) t
        refine XS.aloadN X0.here hx rfl (hb hby own_d5_22) rfl rfl ?_
        show Steps p.tables e below (s₁.setTop (mkF m 23 #[.val (.ref ra), .val (.int pf), .val (.int pt)] [(.ref ra)])) t
        refine XS.iconst X0.here hx rfl (hb hby own_d5_23) ?_
        show Steps p.tables e below (s₁.setTop (mkF m 24 #[.val (.ref ra), .val (.int pf), .val (.int pt)] [(.int (2 : Int32)), (.ref ra)])) t
        refine X0.iaload hx (j := (2 : Int32)) (v := (.int (g 2))) (by rw [e0]; exact Ar321.1) (State.isArrayOf_alike hZ.alike Ar321.2.1) Ar321.2.2 hin321 hat321 (g := (mkF m 24 #[.val (.ref ra), .val (.int pf), .val (.int pt)] [(.int (2 : Int32)), (.ref ra)])) rfl rfl (hb hby own_d5_24) _ ?_
        show Steps p.tables e below (s₁.setTop (mkF m 25 #[.val (.ref ra), .val (.int pf), .val (.int pt)] [(.int (g 2))])) t
        refine XS.iloadN X0.here hx rfl (hb hby own_d5_25) rfl ?_
        exact k)
      have q326 := rng32 (g 2)
      by_cases hc324 : (g 2) = pf
      · have q327 : (g 2).toInt = pf.toInt := congrArg Int32.toInt hc324
        have K328 : ∀ t, Steps p.tables e below (s₁.setTop (mkF m 32 #[.val (.ref ra), .val (.int pf), .val (.int pt)] [(.int pt), (.int (2 : Int32)), (.ref ra)])) t → Steps p.tables e below (s₁.setTop (entryFrame m #[(.ref ra), (.int pf), (.int pt)] 3)) t := fun t k => K325 t (by
          show Steps p.tables e below (s₁.setTop (mkF m 26 #[.val (.ref ra), .val (.int pf), .val (.int pt)] [(.int pf), (.int (g 2))])) t
          refine XS.icmpNo X0.here hx rfl (hb hby own_d5_26) rfl (teq hc324).2 ?_
          show Steps p.tables e below (s₁.setTop (mkF m 29 #[.val (.ref ra), .val (.int pf), .val (.int pt)] [])) t
          refine XS.aloadN X0.here hx rfl (hb hby own_d5_29) rfl rfl ?_
          show Steps p.tables e below (s₁.setTop (mkF m 30 #[.val (.ref ra), .val (.int pf), .val (.int pt)] [(.ref ra)])) t
          refine XS.iconst X0.here hx rfl (hb hby own_d5_30) ?_
          show Steps p.tables e below (s₁.setTop (mkF m 31 #[.val (.ref ra), .val (.int pf), .val (.int pt)] [(.int (2 : Int32)), (.ref ra)])) t
          refine XS.iloadN X0.here hx rfl (hb hby own_d5_31) rfl ?_
          exact k)
        have q330 : ¬ (2 : Int32) < 0 ∧ (2 : Int32) < (4 : Int32) := by rw [Int32.lt_iff_toInt_lt, Int32.lt_iff_toInt_lt]; have q0 : (0 : Int32).toInt = 0 := rfl; omega
        obtain ⟨cl329, Ar329, S329, N329, Hs329⟩ := id P_0
        have hin329 : ¬ ((2 : Int32) < 0 ∨ cl329.slots.size ≤ ((2 : Int32)).toNatClampNeg) := inb_of S329 q330
        obtain ⟨T329, h329, X329, e329, W329, st329⟩ := stI X0 hx hZ e0 Ar329 (j := (2 : Int32)) hin329 (g := (mkF m 32 #[.val (.ref ra), .val (.int pf), .val (.int pt)] [(.int pt), (.int (2 : Int32)), (.ref ra)])) rfl rfl (hb hby own_d5_32)
        obtain ⟨f332, hf332⟩ : ∃ fnew : Nat → Int32, fnew = fun i => if i = 2 then pt else g i := ⟨_, rfl⟩
        have V331 : own_Arf Z h329 ra .int (4 : Int32) f332 := own_Arf.set Ar329 S329 N329 Hs329 W329 rfl hf332
        have Kp333 : Keep h0 h329 [ra] := Keep.wr (Keep.refl h0 [ra]) W329 (Or.inl (List.mem_of_getElem? (i := 0) rfl))
        have Z334 : n0 ≤ h329.size := Nat.le_trans Z0 (Keep.of_wr W329).1
        have N335 := Fr.snoc X329 N0 P_1
        have K336 : ∀ t, Steps p.tables e below (T329.setTop (mkF m 33 #[.val (.ref ra), .val (.int pf), .val (.int pt)] [])) t → Steps p.tables e below (s₁.setTop (entryFrame m #[(.ref ra), (.int pf), (.int pt)] 3)) t := fun t k => K328 t (st329 _ k)
        have q338 := (by decide : (3 : Int32).toInt = 3)
        have q339 : ¬ (3 : Int32) < 0 ∧ (3 : Int32) < (4 : Int32) := by rw [Int32.lt_iff_toInt_lt, Int32.lt_iff_toInt_lt]; have q0 : (0 : Int32).toInt = 0 := rfl; omega
        obtain ⟨cl337, Ar337, S337, N337, Hs337⟩ := id V331
        have hin337 : ¬ ((3 : Int32) < 0 ∨ cl337.slots.size ≤ ((3 : Int32)).toNatClampNeg) := inb_of S337 q339
        have hat337 : cl337.slots[((3 : Int32)).toNatClampNeg]? = some (.int (g 3)) := own_at Hs337 S337 hin337 (by simp [hf332])
        have K341 : ∀ t, Steps p.tables e below (T329.setTop (mkF m 37 #[.val (.ref ra), .val (.int pf), .val (.int pt)] [(.int pf), (.int (g 3))])) t → Steps p.tables e below (s₁.setTop (entryFrame m #[(.ref ra), (.int pf), (.int pt)] 3)) t := fun t k => K336 t (by
          show Steps p.tables e below (T329.setTop (mkF m 33 #[.val (.ref ra), .val (.int pf), .val (.int pt)] [])) t
          refine XS.aloadN X329.here hx rfl (hb hby own_d5_33) rfl rfl ?_
          show Steps p.tables e below (T329.setTop (mkF m 34 #[.val (.ref ra), .val (.int pf), .val (.int pt)] [(.ref ra)])) t
          refine XS.iconst X329.here hx rfl (hb hby own_d5_34) ?_
          show Steps p.tables e below (T329.setTop (mkF m 35 #[.val (.ref ra), .val (.int pf), .val (.int pt)] [(.int (3 : Int32)), (.ref ra)])) t
          refine X329.iaload hx (j := (3 : Int32)) (v := (.int (g 3))) (by rw [e329]; exact Ar337.1) (State.isArrayOf_alike hZ.alike Ar337.2.1) Ar337.2.2 hin337 hat337 (g := (mkF m 35 #[.val (.ref ra), .val (.int pf), .val (.int pt)] [(.int (3 : Int32)), (.ref ra)])) rfl rfl (hb hby own_d5_35) _ ?_
          show Steps p.tables e below (T329.setTop (mkF m 36 #[.val (.ref ra), .val (.int pf), .val (.int pt)] [(.int (g 3))])) t
          refine XS.iloadN X329.here hx rfl (hb hby own_d5_36) rfl ?_
          exact k)
        have q342 := rng32 (g 3)
        by_cases hc340 : (g 3) = pf
        · have q343 : (g 3).toInt = pf.toInt := congrArg Int32.toInt hc340
          have K344 : ∀ t, Steps p.tables e below (T329.setTop (mkF m 43 #[.val (.ref ra), .val (.int pf), .val (.int pt)] [(.int pt), (.int (3 : Int32)), (.ref ra)])) t → Steps p.tables e below (s₁.setTop (entryFrame m #[(.ref ra), (.int pf), (.int pt)] 3)) t := fun t k => K341 t (by
            show Steps p.tables e below (T329.setTop (mkF m 37 #[.val (.ref ra), .val (.int pf), .val (.int pt)] [(.int pf), (.int (g 3))])) t
            refine XS.icmpNo X329.here hx rfl (hb hby own_d5_37) rfl (teq hc340).2 ?_
            show Steps p.tables e below (T329.setTop (mkF m 40 #[.val (.ref ra), .val (.int pf), .val (.int pt)] [])) t
            refine XS.aloadN X329.here hx rfl (hb hby own_d5_40) rfl rfl ?_
            show Steps p.tables e below (T329.setTop (mkF m 41 #[.val (.ref ra), .val (.int pf), .val (.int pt)] [(.ref ra)])) t
            refine XS.iconst X329.here hx rfl (hb hby own_d5_41) ?_
            show Steps p.tables e below (T329.setTop (mkF m 42 #[.val (.ref ra), .val (.int pf), .val (.int pt)] [(.int (3 : Int32)), (.ref ra)])) t
            refine XS.iloadN X329.here hx rfl (hb hby own_d5_42) rfl ?_
            exact k)
          have q346 : ¬ (3 : Int32) < 0 ∧ (3 : Int32) < (4 : Int32) := by rw [Int32.lt_iff_toInt_lt, Int32.lt_iff_toInt_lt]; have q0 : (0 : Int32).toInt = 0 := rfl; omega
          obtain ⟨cl345, Ar345, S345, N345, Hs345⟩ := id V331
          have hin345 : ¬ ((3 : Int32) < 0 ∨ cl345.slots.size ≤ ((3 : Int32)).toNatClampNeg) := inb_of S345 q346
          obtain ⟨T345, h345, X345, e345, W345, st345⟩ := stI X329 hx hZ e329 Ar345 (j := (3 : Int32)) hin345 (g := (mkF m 43 #[.val (.ref ra), .val (.int pf), .val (.int pt)] [(.int pt), (.int (3 : Int32)), (.ref ra)])) rfl rfl (hb hby own_d5_43)
          obtain ⟨f348, hf348⟩ : ∃ fnew : Nat → Int32, fnew = fun i => if i = 3 then pt else f332 i := ⟨_, rfl⟩
          have V347 : own_Arf Z h345 ra .int (4 : Int32) f348 := own_Arf.set Ar345 S345 N345 Hs345 W345 rfl hf348
          have Kp349 : Keep h0 h345 [ra] := Keep.wr Kp333 W345 (Or.inl (List.mem_of_getElem? (i := 0) rfl))
          have Z350 : n0 ≤ h345.size := Nat.le_trans Z334 (Keep.of_wr W345).1
          have N351 := Fr.snoc X345 N335 P_1
          have K352 : ∀ t, Steps p.tables e below (T345.setTop (mkF m 44 #[.val (.ref ra), .val (.int pf), .val (.int pt)] [])) t → Steps p.tables e below (s₁.setTop (entryFrame m #[(.ref ra), (.int pf), (.int pt)] 3)) t := fun t k => K344 t (st345 _ k)
          obtain ⟨fs, hr, hrun, hended, hW, hsame⟩ := X345.leave (v := none) (fun _ => rfl)
          refine ⟨_, _, K352 _ ?_, hrun, hended, _, _, rfl, ?_, ⟨_, rfl⟩, hW, hsame.mono (by decide) (by decide)⟩
          · exact X345.returnOut hx Bd.returns (hb hby own_d5_44) hr
          · show Q_rm5 Z ra pf pt g h0 n0 _ T345.heap _
            rw [e345]
            exact ⟨f348, rfl, (fun i hi => by
              match i, hi with
              | 0, _ => simp [*]
              | 1, _ => simp [*]
              | 2, _ => simp [*]
              | 3, _ => simp [*]), N351, Kp349, V347⟩
        · have q353 : ¬ (g 3).toInt = pf.toInt := fun q => hc340 (Int32.toInt_inj.mp q)
          have K354 : ∀ t, Steps p.tables e below (T329.setTop (mkF m 44 #[.val (.ref ra), .val (.int pf), .val (.int pt)] [])) t → Steps p.tables e below (s₁.setTop (entryFrame m #[(.ref ra), (.int pf), (.int pt)] 3)) t := fun t k => K341 t (by
            show Steps p.tables e below (T329.setTop (mkF m 37 #[.val (.ref ra), .val (.int pf), .val (.int pt)] [(.int pf), (.int (g 3))])) t
            refine XS.icmpYes X329.here hx rfl (pc0 := 37) (pc' := 44) rfl (hb hby own_d5_37) rfl (feq hc340).2 (by decide) (by decide) ?_
            exact k)
          obtain ⟨fs, hr, hrun, hended, hW, hsame⟩ := X329.leave (v := none) (fun _ => rfl)
          refine ⟨_, _, K354 _ ?_, hrun, hended, _, _, rfl, ?_, ⟨_, rfl⟩, hW, hsame.mono (by decide) (by decide)⟩
          · exact X329.returnOut hx Bd.returns (hb hby own_d5_44) hr
          · show Q_rm5 Z ra pf pt g h0 n0 _ T329.heap _
            rw [e329]
            exact ⟨f332, rfl, (fun i hi => by
              match i, hi with
              | 0, _ => simp [*]
              | 1, _ => simp [*]
              | 2, _ => simp [*]
              | 3, _ => simp [*]), N335, Kp333, V331⟩
      · have q355 : ¬ (g 2).toInt = pf.toInt := fun q => hc324 (Int32.toInt_inj.mp q)
        have q357 := (by decide : (3 : Int32).toInt = 3)
        have q358 : ¬ (3 : Int32) < 0 ∧ (3 : Int32) < (4 : Int32) := by rw [Int32.lt_iff_toInt_lt, Int32.lt_iff_toInt_lt]; have q0 : (0 : Int32).toInt = 0 := rfl; omega
        obtain ⟨cl356, Ar356, S356, N356, Hs356⟩ := id P_0
        have hin356 : ¬ ((3 : Int32) < 0 ∨ cl356.slots.size ≤ ((3 : Int32)).toNatClampNeg) := inb_of S356 q358
        have hat356 : cl356.slots[((3 : Int32)).toNatClampNeg]? = some (.int (g 3)) := own_at Hs356 S356 hin356 (rfl)
        have K360 : ∀ t, Steps p.tables e below (s₁.setTop (mkF m 37 #[.val (.ref ra), .val (.int pf), .val (.int pt)] [(.int pf), (.int (g 3))])) t → Steps p.tables e below (s₁.setTop (entryFrame m #[(.ref ra), (.int pf), (.int pt)] 3)) t := fun t k => K325 t (by
          show Steps p.tables e below (s₁.setTop (mkF m 26 #[.val (.ref ra), .val (.int pf), .val (.int pt)] [(.int pf), (.int (g 2))])) t
          refine XS.icmpYes X0.here hx rfl (pc0 := 26) (pc' := 33) rfl (hb hby own_d5_26) rfl (feq hc324).2 (by decide) (by decide) ?_
          show Steps p.tables e below (s₁.setTop (mkF m 33 #[.val (.ref ra), .val (.int pf), .val (.int pt)] [])) t
          refine XS.aloadN X0.here hx rfl (hb hby own_d5_33) rfl rfl ?_
          show Steps p.tables e below (s₁.setTop (mkF m 34 #[.val (.ref ra), .val (.int pf), .val (.int pt)] [(.ref ra)])) t
          refine XS.iconst X0.here hx rfl (hb hby own_d5_34) ?_
          show Steps p.tables e below (s₁.setTop (mkF m 35 #[.val (.ref ra), .val (.int pf), .val (.int pt)] [(.int (3 : Int32)), (.ref ra)])) t
          refine X0.iaload hx (j := (3 : Int32)) (v := (.int (g 3))) (by rw [e0]; exact Ar356.1) (State.isArrayOf_alike hZ.alike Ar356.2.1) Ar356.2.2 hin356 hat356 (g := (mkF m 35 #[.val (.ref ra), .val (.int pf), .val (.int pt)] [(.int (3 : Int32)), (.ref ra)])) rfl rfl (hb hby own_d5_35) _ ?_
          show Steps p.tables e below (s₁.setTop (mkF m 36 #[.val (.ref ra), .val (.int pf), .val (.int pt)] [(.int (g 3))])) t
          refine XS.iloadN X0.here hx rfl (hb hby own_d5_36) rfl ?_
          exact k)
        have q361 := rng32 (g 3)
        by_cases hc359 : (g 3) = pf
        · have q362 : (g 3).toInt = pf.toInt := congrArg Int32.toInt hc359
          have K363 : ∀ t, Steps p.tables e below (s₁.setTop (mkF m 43 #[.val (.ref ra), .val (.int pf), .val (.int pt)] [(.int pt), (.int (3 : Int32)), (.ref ra)])) t → Steps p.tables e below (s₁.setTop (entryFrame m #[(.ref ra), (.int pf), (.int pt)] 3)) t := fun t k => K360 t (by
            show Steps p.tables e below (s₁.setTop (mkF m 37 #[.val (.ref ra), .val (.int pf), .val (.int pt)] [(.int pf), (.int (g 3))])) t
            refine XS.icmpNo X0.here hx rfl (hb hby own_d5_37) rfl (teq hc359).2 ?_
            show Steps p.tables e below (s₁.setTop (mkF m 40 #[.val (.ref ra), .val (.int pf), .val (.int pt)] [])) t
            refine XS.aloadN X0.here hx rfl (hb hby own_d5_40) rfl rfl ?_
            show Steps p.tables e below (s₁.setTop (mkF m 41 #[.val (.ref ra), .val (.int pf), .val (.int pt)] [(.ref ra)])) t
            refine XS.iconst X0.here hx rfl (hb hby own_d5_41) ?_
            show Steps p.tables e below (s₁.setTop (mkF m 42 #[.val (.ref ra), .val (.int pf), .val (.int pt)] [(.int (3 : Int32)), (.ref ra)])) t
            refine XS.iloadN X0.here hx rfl (hb hby own_d5_42) rfl ?_
            exact k)
          have q365 : ¬ (3 : Int32) < 0 ∧ (3 : Int32) < (4 : Int32) := by rw [Int32.lt_iff_toInt_lt, Int32.lt_iff_toInt_lt]; have q0 : (0 : Int32).toInt = 0 := rfl; omega
          obtain ⟨cl364, Ar364, S364, N364, Hs364⟩ := id P_0
          have hin364 : ¬ ((3 : Int32) < 0 ∨ cl364.slots.size ≤ ((3 : Int32)).toNatClampNeg) := inb_of S364 q365
          obtain ⟨T364, h364, X364, e364, W364, st364⟩ := stI X0 hx hZ e0 Ar364 (j := (3 : Int32)) hin364 (g := (mkF m 43 #[.val (.ref ra), .val (.int pf), .val (.int pt)] [(.int pt), (.int (3 : Int32)), (.ref ra)])) rfl rfl (hb hby own_d5_43)
          obtain ⟨f367, hf367⟩ : ∃ fnew : Nat → Int32, fnew = fun i => if i = 3 then pt else g i := ⟨_, rfl⟩
          have V366 : own_Arf Z h364 ra .int (4 : Int32) f367 := own_Arf.set Ar364 S364 N364 Hs364 W364 rfl hf367
          have Kp368 : Keep h0 h364 [ra] := Keep.wr (Keep.refl h0 [ra]) W364 (Or.inl (List.mem_of_getElem? (i := 0) rfl))
          have Z369 : n0 ≤ h364.size := Nat.le_trans Z0 (Keep.of_wr W364).1
          have N370 := Fr.snoc X364 N0 P_1
          have K371 : ∀ t, Steps p.tables e below (T364.setTop (mkF m 44 #[.val (.ref ra), .val (.int pf), .val (.int pt)] [])) t → Steps p.tables e below (s₁.setTop (entryFrame m #[(.ref ra), (.int pf), (.int pt)] 3)) t := fun t k => K363 t (st364 _ k)
          obtain ⟨fs, hr, hrun, hended, hW, hsame⟩ := X364.leave (v := none) (fun _ => rfl)
          refine ⟨_, _, K371 _ ?_, hrun, hended, _, _, rfl, ?_, ⟨_, rfl⟩, hW, hsame.mono (by decide) (by decide)⟩
          · exact X364.returnOut hx Bd.returns (hb hby own_d5_44) hr
          · show Q_rm5 Z ra pf pt g h0 n0 _ T364.heap _
            rw [e364]
            exact ⟨f367, rfl, (fun i hi => by
              match i, hi with
              | 0, _ => simp [*]
              | 1, _ => simp [*]
              | 2, _ => simp [*]
              | 3, _ => simp [*]), N370, Kp368, V366⟩
        · have q372 : ¬ (g 3).toInt = pf.toInt := fun q => hc359 (Int32.toInt_inj.mp q)
          have K373 : ∀ t, Steps p.tables e below (s₁.setTop (mkF m 44 #[.val (.ref ra), .val (.int pf), .val (.int pt)] [])) t → Steps p.tables e below (s₁.setTop (entryFrame m #[(.ref ra), (.int pf), (.int pt)] 3)) t := fun t k => K360 t (by
            show Steps p.tables e below (s₁.setTop (mkF m 37 #[.val (.ref ra), .val (.int pf), .val (.int pt)] [(.int pf), (.int (g 3))])) t
            refine XS.icmpYes X0.here hx rfl (pc0 := 37) (pc' := 44) rfl (hb hby own_d5_37) rfl (feq hc359).2 (by decide) (by decide) ?_
            exact k)
          obtain ⟨fs, hr, hrun, hended, hW, hsame⟩ := X0.leave (v := none) (fun _ => rfl)
          refine ⟨_, _, K373 _ ?_, hrun, hended, _, _, rfl, ?_, ⟨_, rfl⟩, hW, hsame.mono (by decide) (by decide)⟩
          · exact X0.returnOut hx Bd.returns (hb hby own_d5_44) hr
          · show Q_rm5 Z ra pf pt g h0 n0 _ s₁.heap _
            rw [e0]
            exact ⟨g, rfl, (fun i hi => by
              match i, hi with
              | 0, _ => simp [*]
              | 1, _ => simp [*]
              | 2, _ => simp [*]
              | 3, _ => simp [*]), N0, (Keep.refl h0 [ra]), P_0⟩
theorem own_d6_0 : decode prog_8_method_2_code 0 = .ok (.iload_n 1, 1) := by decide +kernel
theorem own_d6_1 : decode prog_8_method_2_code 1 = .ok (.istore_n 2, 1) := by decide +kernel
theorem own_d6_2 : decode prog_8_method_2_code 2 = .ok (.aload_n 0, 1) := by decide +kernel
theorem own_d6_3 : decode prog_8_method_2_code 3 = .ok (.getfield 7, 3) := by decide +kernel
theorem own_d6_6 : decode prog_8_method_2_code 6 = .ok (.iload_n 2, 1) := by decide +kernel
theorem own_d6_7 : decode prog_8_method_2_code 7 = .ok (.iaload, 1) := by decide +kernel
theorem own_d6_8 : decode prog_8_method_2_code 8 = .ok (.iload_n 2, 1) := by decide +kernel
theorem own_d6_9 : decode prog_8_method_2_code 9 = .ok (.if_icmp .eq 30, 3) := by decide +kernel
theorem own_d6_12 : decode prog_8_method_2_code 12 = .ok (.aload_n 0, 1) := by decide +kernel
theorem own_d6_13 : decode prog_8_method_2_code 13 = .ok (.getfield 7, 3) := by decide +kernel
theorem own_d6_16 : decode prog_8_method_2_code 16 = .ok (.iload_n 2, 1) := by decide +kernel
theorem own_d6_17 : decode prog_8_method_2_code 17 = .ok (.aload_n 0, 1) := by decide +kernel
theorem own_d6_18 : decode prog_8_method_2_code 18 = .ok (.getfield 7, 3) := by decide +kernel
theorem own_d6_21 : decode prog_8_method_2_code 21 = .ok (.aload_n 0, 1) := by decide +kernel
theorem own_d6_22 : decode prog_8_method_2_code 22 = .ok (.getfield 7, 3) := by decide +kernel
theorem own_d6_25 : decode prog_8_method_2_code 25 = .ok (.iload_n 2, 1) := by decide +kernel
theorem own_d6_26 : decode prog_8_method_2_code 26 = .ok (.iaload, 1) := by decide +kernel
theorem own_d6_27 : decode prog_8_method_2_code 27 = .ok (.iaload, 1) := by decide +kernel
theorem own_d6_28 : decode prog_8_method_2_code 28 = .ok (.iastore, 1) := by decide +kernel
theorem own_d6_29 : decode prog_8_method_2_code 29 = .ok (.aload_n 0, 1) := by decide +kernel
theorem own_d6_30 : decode prog_8_method_2_code 30 = .ok (.getfield 7, 3) := by decide +kernel
theorem own_d6_33 : decode prog_8_method_2_code 33 = .ok (.iload_n 2, 1) := by decide +kernel
theorem own_d6_34 : decode prog_8_method_2_code 34 = .ok (.iaload, 1) := by decide +kernel
theorem own_d6_35 : decode prog_8_method_2_code 35 = .ok (.istore_n 2, 1) := by decide +kernel
theorem own_d6_36 : decode prog_8_method_2_code 36 = .ok (.goto (-34), 3) := by decide +kernel
theorem own_d6_39 : decode prog_8_method_2_code 39 = .ok (.iload_n 2, 1) := by decide +kernel
theorem own_d6_40 : decode prog_8_method_2_code 40 = .ok (.ireturn, 1) := by decide +kernel
def Q_rm6 (Z : State) (fo : Addr) (px : Int32) (pa : Addr) (f : Nat → Int32) (g : Nat → Int32) (D : Nat → Nat) (h0 : Heap) (n0 : Nat) (v : Option Value) (h : Heap) (L : List Loc) : Prop := ∃ (r : Int32), ∃ (f' : Nat → Int32), v = some (.int r) ∧ (r.toInt = (g px.toNatClampNeg).toInt ∧ own_good f' g D) ∧ Fr n0 L ∧ Keep h0 h [pa] ∧ own_Arf Z h pa .int (4 : Int32) f'
theorem own_ef_rm6 (m : MethodId) (fo : Addr) (px : Int32) : entryFrame m #[(.ref fo), (.int px)] 3 = mkF m 0 #[.val (.ref fo), .val (.int px), .unset] [] := by first | (simp [entryFrame, mkF, argsToLocals, Value.category]; done) | rfl
set_option maxRecDepth 65536 in
set_option maxHeartbeats 40000000 in
theorem rm6 (l : Launch) (Z : State) (a0 : Array Value) (hw : ∀ d ∈ tables_1, d.before a0 Z = true) (ws : List Jvm.Cond) (fo : Addr) (px : Int32) (pa : Addr) (f : Nat → Int32) (g : Nat → Int32) (D : Nat → Nat) (h0 : Heap) (n0 : Nat) (Z0 : n0 ≤ h0.size) (P_0 : Fld Z h0 fo "tersegraph/Forest" "parent" "[I" (.ref pa)) (P_1 : own_Arf Z h0 pa .int (4 : Int32) f) (P_2 : n0 ≤ pa) (P_3 : fo ≠ pa) (P_4 : own_good f g D) (P_5 : 0 ≤ px.toInt ∧ px.toInt < 4) :
    MetFree l (⟨"tersegraph/Forest", "root", "(I)I"⟩ : MethodName) (head1 (Jvm.Cond.code (⟨"tersegraph/Forest", "root", "(I)I"⟩ : MethodName) prog_8_method_2_code 3 (some .int) :: ws) ({ frames := 0, cells := 0, slots := 0, locals := 0 } : Room)) (fun a U => a = #[(.ref fo), (.int px)] ∧ Z.Warmed39 U.vm ∧ U.heap = h0) (fun _ _ _ _ _ => True) (fun _ U o U' => ∃ v L, o = .returned v ∧ Q_rm6 Z fo px pa f g D h0 n0 v U'.heap L ∧ FrameEnd U o U' L ({ frames := 0, cells := 0, slots := 0, locals := 0 } : Room).cells ({ frames := 0, cells := 0, slots := 0, locals := 0 } : Room).slots) := by
  refine MetFree.of_bodySF (plainFor_of_name own_pn0) hisR ?_
  intro p e s m args below meth c s₁ Bd hml0 hP hK
  obtain ⟨rfl, hZ, hh⟩ := hP
  have hx := Bd.exec
  have hby := Bd.bytes
  have hml : c.maxLocals = 3 := hml0
  have hown : s.vm.findClass "tersegraph/Forest" = some m.cls := findClass_of_methodNamed Bd.named
  have hnm := (name_of_methodNamed Bd.named Bd.method).1
  have X0 : Stand p l e ({ frames := 0, cells := 0, slots := 0, locals := 0 } : Room) s m #[(.ref fo), (.int px)] below meth c s₁ [] 0 0 := Stand.of_body Bd
  have e0 : s₁.heap = h0 := by rw [← hh, Bd.state]; rfl
  have N0 := Fr.nil n0
  have pre0 : ∀ t, Steps p.tables e below (s₁.setTop (mkF m 0 #[.val (.ref fo), .val (.int px), .unset] [])) t → Steps p.tables e below (s₁.setTop (entryFrame m #[(.ref fo), (.int px)] 3)) t := fun t k => castTop (own_ef_rm6 m fo px) k
  have K374 : ∀ t, Steps p.tables e below (s₁.setTop (mkF m 2 #[.val (.ref fo), .val (.int px), .val (.int px)] [])) t → Steps p.tables e below (s₁.setTop (entryFrame m #[(.ref fo), (.int px)] 3)) t := fun t k => pre0 t (by
    show Steps p.tables e below (s₁.setTop (mkF m 0 #[.val (.ref fo), .val (.int px), .unset] [])) t
    refine XS.iloadN X0.here hx rfl (hb hby own_d6_0) rfl ?_
    show Steps p.tables e below (s₁.setTop (mkF m 1 #[.val (.ref fo), .val (.int px), .unset] [(.int px)])) t
    refine XS.istoreN X0.here hx rfl (hb hby own_d6_1) rfl (l' := #[.val (.ref fo), .val (.int px), .val (.int px)]) rfl ?_
    exact k)
  have loop375 : ∀ (d : Nat) (T : State) (Lc : List Loc) (h : Heap) (ff : Nat → Int32) (xx : Int32), Stand p l e ({ frames := 0, cells := 0, slots := 0, locals := 0 } : Room) s m #[(.ref fo), (.int px)] below meth c T Lc 0 0 → T.heap = h → Fr n0 Lc → Keep h0 h [pa] → n0 ≤ h.size → Fld Z h fo "tersegraph/Forest" "parent" "[I" (.ref pa) → own_Arf Z h pa .int (4 : Int32) ff → (own_good ff g D ∧ 0 ≤ xx.toInt ∧ xx.toInt < 4 ∧ g xx.toNatClampNeg = g px.toNatClampNeg ∧ D xx.toNatClampNeg ≤ d) → ∃ (T' : State) (Lc' : List Loc) (h' : Heap) (ff' : Nat → Int32) (xx' : Int32), Stand p l e ({ frames := 0, cells := 0, slots := 0, locals := 0 } : Room) s m #[(.ref fo), (.int px)] below meth c T' Lc' 0 0 ∧ T'.heap = h' ∧ Fr n0 Lc' ∧ Keep h0 h' [pa] ∧ n0 ≤ h'.size ∧ Fld Z h' fo "tersegraph/Forest" "parent" "[I" (.ref pa) ∧ own_Arf Z h' pa .int (4 : Int32) ff' ∧ (own_good ff' g D ∧ xx'.toInt = (g px.toNatClampNeg).toInt) ∧ ∀ t, Steps p.tables e below (T'.setTop (mkF m 39 #[.val (.ref fo), .val (.int px), .val (.int xx')] [])) t → Steps p.tables e below (T.setTop (mkF m 2 #[.val (.ref fo), .val (.int px), .val (.int xx)] [])) t := by
    intro d
    induction d with
    | zero =>
      intro T Lc h ff xx Xl el Nl Kl Zl Fl0 Fl1 hI
      have idK : ∀ t, Steps p.tables e below (T.setTop (mkF m 2 #[.val (.ref fo), .val (.int px), .val (.int xx)] [])) t → Steps p.tables e below (T.setTop (mkF m 2 #[.val (.ref fo), .val (.int px), .val (.int xx)] [])) t := fun _ k => k
      have q376 := rng32 xx
      obtain ⟨hG, hx0, hx4, hgx, hD⟩ := hI
      have hcl := own_cl (own_nn hx0) hx4
      obtain ⟨b1, b2, b3, b4⟩ := own_bnd hG hcl
      have K377 : ∀ t, Steps p.tables e below (T.setTop (mkF m 3 #[.val (.ref fo), .val (.int px), .val (.int xx)] [(.ref fo)])) t → Steps p.tables e below (T.setTop (mkF m 2 #[.val (.ref fo), .val (.int px), .val (.int xx)] [])) t := fun t k => idK t (by
        show Steps p.tables e below (T.setTop (mkF m 2 #[.val (.ref fo), .val (.int px), .val (.int xx)] [])) t
        refine XS.aloadN Xl.here hx rfl (hb hby own_d6_2) rfl rfl ?_
        exact k)
      obtain ⟨T378, X378, e378, st378⟩ := getF Xl hx hZ hown (host := "") (Or.inl (hw _ (List.mem_of_getElem? (i := 10) rfl))) Via.refl el Fl0 (g := (mkF m 3 #[.val (.ref fo), .val (.int px), .val (.int xx)] [(.ref fo)])) rfl rfl (hb hby own_d6_3)
      have K379 : ∀ t, Steps p.tables e below (T378.setTop (mkF m 6 #[.val (.ref fo), .val (.int px), .val (.int xx)] [(.ref pa)])) t → Steps p.tables e below (T.setTop (mkF m 2 #[.val (.ref fo), .val (.int px), .val (.int xx)] [])) t := fun t k => K377 t (st378 _ k)
      have q381 := (by decide : (4 : Int32).toInt = 4)
      have q382 : ¬ xx < 0 ∧ xx < (4 : Int32) := by rw [Int32.lt_iff_toInt_lt, Int32.lt_iff_toInt_lt]; have q0 : (0 : Int32).toInt = 0 := rfl; omega
      obtain ⟨cl380, Ar380, S380, N380, Hs380⟩ := id Fl1
      have hin380 : ¬ (xx < 0 ∨ cl380.slots.size ≤ (xx).toNatClampNeg) := inb_of S380 q382
      have hat380 : cl380.slots[(xx).toNatClampNeg]? = some (.int (ff xx.toNatClampNeg)) := own_at Hs380 S380 hin380 (rfl)
      have q384 := rng32 (ff xx.toNatClampNeg)
      have hc383 : (ff xx.toNatClampNeg) = xx := own_top hG hx0 hx4 hD
      have q385 : (ff xx.toNatClampNeg).toInt = xx.toInt := congrArg Int32.toInt hc383
      have K386 : ∀ t, Steps p.tables e below (T378.setTop (mkF m 39 #[.val (.ref fo), .val (.int px), .val (.int xx)] [])) t → Steps p.tables e below (T.setTop (mkF m 2 #[.val (.ref fo), .val (.int px), .val (.int xx)] [])) t := fun t k => K379 t (by
        show Steps p.tables e below (T378.setTop (mkF m 6 #[.val (.ref fo), .val (.int px), .val (.int xx)] [(.ref pa)])) t
        refine XS.iloadN X378.here hx rfl (hb hby own_d6_6) rfl ?_
        show Steps p.tables e below (T378.setTop (mkF m 7 #[.val (.ref fo), .val (.int px), .val (.int xx)] [(.int xx), (.ref pa)])) t
        refine X378.iaload hx (j := xx) (v := (.int (ff xx.toNatClampNeg))) (by rw [e378]; exact Ar380.1) (State.isArrayOf_alike hZ.alike Ar380.2.1) Ar380.2.2 hin380 hat380 (g := (mkF m 7 #[.val (.ref fo), .val (.int px), .val (.int xx)] [(.int xx), (.ref pa)])) rfl rfl (hb hby own_d6_7) _ ?_
        show Steps p.tables e below (T378.setTop (mkF m 8 #[.val (.ref fo), .val (.int px), .val (.int xx)] [(.int (ff xx.toNatClampNeg))])) t
        refine XS.iloadN X378.here hx rfl (hb hby own_d6_8) rfl ?_
        show Steps p.tables e below (T378.setTop (mkF m 9 #[.val (.ref fo), .val (.int px), .val (.int xx)] [(.int xx), (.int (ff xx.toNatClampNeg))])) t
        refine XS.icmpYes X378.here hx rfl (pc0 := 9) (pc' := 39) rfl (hb hby own_d6_9) rfl (teq hc383).1 (by decide) (by decide) ?_
        exact k)
      exact ⟨T378, _, h, ff, xx, X378, e378, Nl, Kl, Zl, Fl0, Fl1, (by 
        exact ⟨hG, by rw [← hgx]; exact (own_root hG hx0 hx4 (own_top hG hx0 hx4 hD)).symm⟩), K386⟩
    | succ d ih =>
      intro T Lc h ff xx Xl el Nl Kl Zl Fl0 Fl1 hI
      have idK : ∀ t, Steps p.tables e below (T.setTop (mkF m 2 #[.val (.ref fo), .val (.int px), .val (.int xx)] [])) t → Steps p.tables e below (T.setTop (mkF m 2 #[.val (.ref fo), .val (.int px), .val (.int xx)] [])) t := fun _ k => k
      have q387 := rng32 xx
      obtain ⟨hG, hx0, hx4, hgx, hD⟩ := hI
      have hcl := own_cl (own_nn hx0) hx4
      obtain ⟨b1, b2, b3, b4⟩ := own_bnd hG hcl
      have K388 : ∀ t, Steps p.tables e below (T.setTop (mkF m 3 #[.val (.ref fo), .val (.int px), .val (.int xx)] [(.ref fo)])) t → Steps p.tables e below (T.setTop (mkF m 2 #[.val (.ref fo), .val (.int px), .val (.int xx)] [])) t := fun t k => idK t (by
        show Steps p.tables e below (T.setTop (mkF m 2 #[.val (.ref fo), .val (.int px), .val (.int xx)] [])) t
        refine XS.aloadN Xl.here hx rfl (hb hby own_d6_2) rfl rfl ?_
        exact k)
      obtain ⟨T389, X389, e389, st389⟩ := getF Xl hx hZ hown (host := "") (Or.inl (hw _ (List.mem_of_getElem? (i := 10) rfl))) Via.refl el Fl0 (g := (mkF m 3 #[.val (.ref fo), .val (.int px), .val (.int xx)] [(.ref fo)])) rfl rfl (hb hby own_d6_3)
      have K390 : ∀ t, Steps p.tables e below (T389.setTop (mkF m 6 #[.val (.ref fo), .val (.int px), .val (.int xx)] [(.ref pa)])) t → Steps p.tables e below (T.setTop (mkF m 2 #[.val (.ref fo), .val (.int px), .val (.int xx)] [])) t := fun t k => K388 t (st389 _ k)
      have q392 := (by decide : (4 : Int32).toInt = 4)
      have q393 : ¬ xx < 0 ∧ xx < (4 : Int32) := by rw [Int32.lt_iff_toInt_lt, Int32.lt_iff_toInt_lt]; have q0 : (0 : Int32).toInt = 0 := rfl; omega
      obtain ⟨cl391, Ar391, S391, N391, Hs391⟩ := id Fl1
      have hin391 : ¬ (xx < 0 ∨ cl391.slots.size ≤ (xx).toNatClampNeg) := inb_of S391 q393
      have hat391 : cl391.slots[(xx).toNatClampNeg]? = some (.int (ff xx.toNatClampNeg)) := own_at Hs391 S391 hin391 (rfl)
      have K395 : ∀ t, Steps p.tables e below (T389.setTop (mkF m 9 #[.val (.ref fo), .val (.int px), .val (.int xx)] [(.int xx), (.int (ff xx.toNatClampNeg))])) t → Steps p.tables e below (T.setTop (mkF m 2 #[.val (.ref fo), .val (.int px), .val (.int xx)] [])) t := fun t k => K390 t (by
        show Steps p.tables e below (T389.setTop (mkF m 6 #[.val (.ref fo), .val (.int px), .val (.int xx)] [(.ref pa)])) t
        refine XS.iloadN X389.here hx rfl (hb hby own_d6_6) rfl ?_
        show Steps p.tables e below (T389.setTop (mkF m 7 #[.val (.ref fo), .val (.int px), .val (.int xx)] [(.int xx), (.ref pa)])) t
        refine X389.iaload hx (j := xx) (v := (.int (ff xx.toNatClampNeg))) (by rw [e389]; exact Ar391.1) (State.isArrayOf_alike hZ.alike Ar391.2.1) Ar391.2.2 hin391 hat391 (g := (mkF m 7 #[.val (.ref fo), .val (.int px), .val (.int xx)] [(.int xx), (.ref pa)])) rfl rfl (hb hby own_d6_7) _ ?_
        show Steps p.tables e below (T389.setTop (mkF m 8 #[.val (.ref fo), .val (.int px), .val (.int xx)] [(.int (ff xx.toNatClampNeg))])) t
        refine XS.iloadN X389.here hx rfl (hb hby own_d6_8) rfl ?_
        exact k)
      have q396 := rng32 (ff xx.toNatClampNeg)
      by_cases hc394 : (ff xx.toNatClampNeg) = xx
      · have q397 : (ff xx.toNatClampNeg).toInt = xx.toInt := congrArg Int32.toInt hc394
        have K398 : ∀ t, Steps p.tables e below (T389.setTop (mkF m 39 #[.val (.ref fo), .val (.int px), .val (.int xx)] [])) t → Steps p.tables e below (T.setTop (mkF m 2 #[.val (.ref fo), .val (.int px), .val (.int xx)] [])) t := fun t k => K395 t (by
          show Steps p.tables e below (T389.setTop (mkF m 9 #[.val (.ref fo), .val (.int px), .val (.int xx)] [(.int xx), (.int (ff xx.toNatClampNeg))])) t
          refine XS.icmpYes X389.here hx rfl (pc0 := 9) (pc' := 39) rfl (hb hby own_d6_9) rfl (teq hc394).1 (by decide) (by decide) ?_
          exact k)
        exact ⟨T389, _, h, ff, xx, X389, e389, Nl, Kl, Zl, Fl0, Fl1, (by 
          exact ⟨hG, by rw [← hgx]; exact (own_root hG hx0 hx4 hc394).symm⟩), K398⟩
      · have q399 : ¬ (ff xx.toNatClampNeg).toInt = xx.toInt := fun q => hc394 (Int32.toInt_inj.mp q)
        have K400 : ∀ t, Steps p.tables e below (T389.setTop (mkF m 13 #[.val (.ref fo), .val (.int px), .val (.int xx)] [(.ref fo)])) t → Steps p.tables e below (T.setTop (mkF m 2 #[.val (.ref fo), .val (.int px), .val (.int xx)] [])) t := fun t k => K395 t (by
          show Steps p.tables e below (T389.setTop (mkF m 9 #[.val (.ref fo), .val (.int px), .val (.int xx)] [(.int xx), (.int (ff xx.toNatClampNeg))])) t
          refine XS.icmpNo X389.here hx rfl (hb hby own_d6_9) rfl (feq hc394).1 ?_
          show Steps p.tables e below (T389.setTop (mkF m 12 #[.val (.ref fo), .val (.int px), .val (.int xx)] [])) t
          refine XS.aloadN X389.here hx rfl (hb hby own_d6_12) rfl rfl ?_
          exact k)
        obtain ⟨T401, X401, e401, st401⟩ := getF X389 hx hZ hown (host := "") (Or.inl (hw _ (List.mem_of_getElem? (i := 10) rfl))) Via.refl e389 Fl0 (g := (mkF m 13 #[.val (.ref fo), .val (.int px), .val (.int xx)] [(.ref fo)])) rfl rfl (hb hby own_d6_13)
        have K402 : ∀ t, Steps p.tables e below (T401.setTop (mkF m 16 #[.val (.ref fo), .val (.int px), .val (.int xx)] [(.ref pa)])) t → Steps p.tables e below (T.setTop (mkF m 2 #[.val (.ref fo), .val (.int px), .val (.int xx)] [])) t := fun t k => K400 t (st401 _ k)
        have K403 : ∀ t, Steps p.tables e below (T401.setTop (mkF m 18 #[.val (.ref fo), .val (.int px), .val (.int xx)] [(.ref fo), (.int xx), (.ref pa)])) t → Steps p.tables e below (T.setTop (mkF m 2 #[.val (.ref fo), .val (.int px), .val (.int xx)] [])) t := fun t k => K402 t (by
          show Steps p.tables e below (T401.setTop (mkF m 16 #[.val (.ref fo), .val (.int px), .val (.int xx)] [(.ref pa)])) t
          refine XS.iloadN X401.here hx rfl (hb hby own_d6_16) rfl ?_
          show Steps p.tables e below (T401.setTop (mkF m 17 #[.val (.ref fo), .val (.int px), .val (.int xx)] [(.int xx), (.ref pa)])) t
          refine XS.aloadN X401.here hx rfl (hb hby own_d6_17) rfl rfl ?_
          exact k)
        obtain ⟨T404, X404, e404, st404⟩ := getF X401 hx hZ hown (host := "") (Or.inl (hw _ (List.mem_of_getElem? (i := 10) rfl))) Via.refl e401 Fl0 (g := (mkF m 18 #[.val (.ref fo), .val (.int px), .val (.int xx)] [(.ref fo), (.int xx), (.ref pa)])) rfl rfl (hb hby own_d6_18)
        have K405 : ∀ t, Steps p.tables e below (T404.setTop (mkF m 21 #[.val (.ref fo), .val (.int px), .val (.int xx)] [(.ref pa), (.int xx), (.ref pa)])) t → Steps p.tables e below (T.setTop (mkF m 2 #[.val (.ref fo), .val (.int px), .val (.int xx)] [])) t := fun t k => K403 t (st404 _ k)
        have K406 : ∀ t, Steps p.tables e below (T404.setTop (mkF m 22 #[.val (.ref fo), .val (.int px), .val (.int xx)] [(.ref fo), (.ref pa), (.int xx), (.ref pa)])) t → Steps p.tables e below (T.setTop (mkF m 2 #[.val (.ref fo), .val (.int px), .val (.int xx)] [])) t := fun t k => K405 t (by
          show Steps p.tables e below (T404.setTop (mkF m 21 #[.val (.ref fo), .val (.int px), .val (.int xx)] [(.ref pa), (.int xx), (.ref pa)])) t
          refine XS.aloadN X404.here hx rfl (hb hby own_d6_21) rfl rfl ?_
          exact k)
        obtain ⟨T407, X407, e407, st407⟩ := getF X404 hx hZ hown (host := "") (Or.inl (hw _ (List.mem_of_getElem? (i := 10) rfl))) Via.refl e404 Fl0 (g := (mkF m 22 #[.val (.ref fo), .val (.int px), .val (.int xx)] [(.ref fo), (.ref pa), (.int xx), (.ref pa)])) rfl rfl (hb hby own_d6_22)
        have K408 : ∀ t, Steps p.tables e below (T407.setTop (mkF m 25 #[.val (.ref fo), .val (.int px), .val (.int xx)] [(.ref pa), (.ref pa), (.int xx), (.ref pa)])) t → Steps p.tables e below (T.setTop (mkF m 2 #[.val (.ref fo), .val (.int px), .val (.int xx)] [])) t := fun t k => K406 t (st407 _ k)
        have q410 : ¬ xx < 0 ∧ xx < (4 : Int32) := by rw [Int32.lt_iff_toInt_lt, Int32.lt_iff_toInt_lt]; have q0 : (0 : Int32).toInt = 0 := rfl; omega
        obtain ⟨cl409, Ar409, S409, N409, Hs409⟩ := id Fl1
        have hin409 : ¬ (xx < 0 ∨ cl409.slots.size ≤ (xx).toNatClampNeg) := inb_of S409 q410
        have hat409 : cl409.slots[(xx).toNatClampNeg]? = some (.int (ff xx.toNatClampNeg)) := own_at Hs409 S409 hin409 (rfl)
        have q412 : ¬ (ff xx.toNatClampNeg) < 0 ∧ (ff xx.toNatClampNeg) < (4 : Int32) := by rw [Int32.lt_iff_toInt_lt, Int32.lt_iff_toInt_lt]; have q0 : (0 : Int32).toInt = 0 := rfl; omega
        obtain ⟨cl411, Ar411, S411, N411, Hs411⟩ := id Fl1
        have hin411 : ¬ ((ff xx.toNatClampNeg) < 0 ∨ cl411.slots.size ≤ ((ff xx.toNatClampNeg)).toNatClampNeg) := inb_of S411 q412
        have hat411 : cl411.slots[((ff xx.toNatClampNeg)).toNatClampNeg]? = some (.int (ff (ff xx.toNatClampNeg).toNatClampNeg)) := own_at Hs411 S411 hin411 (rfl)
        have K413 : ∀ t, Steps p.tables e below (T407.setTop (mkF m 28 #[.val (.ref fo), .val (.int px), .val (.int xx)] [(.int (ff (ff xx.toNatClampNeg).toNatClampNeg)), (.int xx), (.ref pa)])) t → Steps p.tables e below (T.setTop (mkF m 2 #[.val (.ref fo), .val (.int px), .val (.int xx)] [])) t := fun t k => K408 t (by
          show Steps p.tables e below (T407.setTop (mkF m 25 #[.val (.ref fo), .val (.int px), .val (.int xx)] [(.ref pa), (.ref pa), (.int xx), (.ref pa)])) t
          refine XS.iloadN X407.here hx rfl (hb hby own_d6_25) rfl ?_
          show Steps p.tables e below (T407.setTop (mkF m 26 #[.val (.ref fo), .val (.int px), .val (.int xx)] [(.int xx), (.ref pa), (.ref pa), (.int xx), (.ref pa)])) t
          refine X407.iaload hx (j := xx) (v := (.int (ff xx.toNatClampNeg))) (by rw [e407]; exact Ar409.1) (State.isArrayOf_alike hZ.alike Ar409.2.1) Ar409.2.2 hin409 hat409 (g := (mkF m 26 #[.val (.ref fo), .val (.int px), .val (.int xx)] [(.int xx), (.ref pa), (.ref pa), (.int xx), (.ref pa)])) rfl rfl (hb hby own_d6_26) _ ?_
          show Steps p.tables e below (T407.setTop (mkF m 27 #[.val (.ref fo), .val (.int px), .val (.int xx)] [(.int (ff xx.toNatClampNeg)), (.ref pa), (.int xx), (.ref pa)])) t
          refine X407.iaload hx (j := (ff xx.toNatClampNeg)) (v := (.int (ff (ff xx.toNatClampNeg).toNatClampNeg))) (by rw [e407]; exact Ar411.1) (State.isArrayOf_alike hZ.alike Ar411.2.1) Ar411.2.2 hin411 hat411 (g := (mkF m 27 #[.val (.ref fo), .val (.int px), .val (.int xx)] [(.int (ff xx.toNatClampNeg)), (.ref pa), (.int xx), (.ref pa)])) rfl rfl (hb hby own_d6_27) _ ?_
          exact k)
        have q415 : ¬ xx < 0 ∧ xx < (4 : Int32) := by rw [Int32.lt_iff_toInt_lt, Int32.lt_iff_toInt_lt]; have q0 : (0 : Int32).toInt = 0 := rfl; omega
        obtain ⟨cl414, Ar414, S414, N414, Hs414⟩ := id Fl1
        have hin414 : ¬ (xx < 0 ∨ cl414.slots.size ≤ (xx).toNatClampNeg) := inb_of S414 q415
        obtain ⟨T414, h414, X414, e414, W414, st414⟩ := stI X407 hx hZ e407 Ar414 (j := xx) hin414 (g := (mkF m 28 #[.val (.ref fo), .val (.int px), .val (.int xx)] [(.int (ff (ff xx.toNatClampNeg).toNatClampNeg)), (.int xx), (.ref pa)])) rfl rfl (hb hby own_d6_28)
        obtain ⟨f417, hf417⟩ : ∃ fnew : Nat → Int32, fnew = fun i => if i = xx.toNatClampNeg then (ff (ff xx.toNatClampNeg).toNatClampNeg) else ff i := ⟨_, rfl⟩
        have V416 : own_Arf Z h414 pa .int (4 : Int32) f417 := own_Arf.set Ar414 S414 N414 Hs414 W414 rfl hf417
        have Kp418 : Keep h0 h414 [pa] := Keep.wr Kl W414 (Or.inl (List.mem_of_getElem? (i := 0) rfl))
        have Z419 : n0 ≤ h414.size := Nat.le_trans Zl (Keep.of_wr W414).1
        have N420 := Fr.snoc X414 Nl P_2
        have F421 := Fl0.other W414 (Or.inl P_3)
        have K422 : ∀ t, Steps p.tables e below (T414.setTop (mkF m 29 #[.val (.ref fo), .val (.int px), .val (.int xx)] [])) t → Steps p.tables e below (T.setTop (mkF m 2 #[.val (.ref fo), .val (.int px), .val (.int xx)] [])) t := fun t k => K413 t (st414 _ k)
        have K423 : ∀ t, Steps p.tables e below (T414.setTop (mkF m 30 #[.val (.ref fo), .val (.int px), .val (.int xx)] [(.ref fo)])) t → Steps p.tables e below (T.setTop (mkF m 2 #[.val (.ref fo), .val (.int px), .val (.int xx)] [])) t := fun t k => K422 t (by
          show Steps p.tables e below (T414.setTop (mkF m 29 #[.val (.ref fo), .val (.int px), .val (.int xx)] [])) t
          refine XS.aloadN X414.here hx rfl (hb hby own_d6_29) rfl rfl ?_
          exact k)
        obtain ⟨T424, X424, e424, st424⟩ := getF X414 hx hZ hown (host := "") (Or.inl (hw _ (List.mem_of_getElem? (i := 10) rfl))) Via.refl e414 F421 (g := (mkF m 30 #[.val (.ref fo), .val (.int px), .val (.int xx)] [(.ref fo)])) rfl rfl (hb hby own_d6_30)
        have K425 : ∀ t, Steps p.tables e below (T424.setTop (mkF m 33 #[.val (.ref fo), .val (.int px), .val (.int xx)] [(.ref pa)])) t → Steps p.tables e below (T.setTop (mkF m 2 #[.val (.ref fo), .val (.int px), .val (.int xx)] [])) t := fun t k => K423 t (st424 _ k)
        have q427 : ¬ xx < 0 ∧ xx < (4 : Int32) := by rw [Int32.lt_iff_toInt_lt, Int32.lt_iff_toInt_lt]; have q0 : (0 : Int32).toInt = 0 := rfl; omega
        obtain ⟨cl426, Ar426, S426, N426, Hs426⟩ := id V416
        have hin426 : ¬ (xx < 0 ∨ cl426.slots.size ≤ (xx).toNatClampNeg) := inb_of S426 q427
        have hat426 : cl426.slots[(xx).toNatClampNeg]? = some (.int (f417 xx.toNatClampNeg)) := own_at Hs426 S426 hin426 (rfl)
        have K428 : ∀ t, Steps p.tables e below (T424.setTop (mkF m 2 #[.val (.ref fo), .val (.int px), .val (.int (f417 xx.toNatClampNeg))] [])) t → Steps p.tables e below (T.setTop (mkF m 2 #[.val (.ref fo), .val (.int px), .val (.int xx)] [])) t := fun t k => K425 t (by
          show Steps p.tables e below (T424.setTop (mkF m 33 #[.val (.ref fo), .val (.int px), .val (.int xx)] [(.ref pa)])) t
          refine XS.iloadN X424.here hx rfl (hb hby own_d6_33) rfl ?_
          show Steps p.tables e below (T424.setTop (mkF m 34 #[.val (.ref fo), .val (.int px), .val (.int xx)] [(.int xx), (.ref pa)])) t
          refine X424.iaload hx (j := xx) (v := (.int (f417 xx.toNatClampNeg))) (by rw [e424]; exact Ar426.1) (State.isArrayOf_alike hZ.alike Ar426.2.1) Ar426.2.2 hin426 hat426 (g := (mkF m 34 #[.val (.ref fo), .val (.int px), .val (.int xx)] [(.int xx), (.ref pa)])) rfl rfl (hb hby own_d6_34) _ ?_
          show Steps p.tables e below (T424.setTop (mkF m 35 #[.val (.ref fo), .val (.int px), .val (.int xx)] [(.int (f417 xx.toNatClampNeg))])) t
          refine XS.istoreN X424.here hx rfl (hb hby own_d6_35) rfl (l' := #[.val (.ref fo), .val (.int px), .val (.int (f417 xx.toNatClampNeg))]) rfl ?_
          show Steps p.tables e below (T424.setTop (mkF m 36 #[.val (.ref fo), .val (.int px), .val (.int (f417 xx.toNatClampNeg))] [])) t
          refine XS.goto X424.here hx rfl (pc0 := 36) (pc' := 2) rfl (hb hby own_d6_36) (by decide) (by decide) ?_
          exact k)
        have q429 := rng32 (f417 xx.toNatClampNeg)
        have hI2 : (own_good f417 g D ∧ 0 ≤ (f417 xx.toNatClampNeg).toInt ∧ (f417 xx.toNatClampNeg).toInt < 4 ∧ g (f417 xx.toNatClampNeg).toNatClampNeg = g px.toNatClampNeg ∧ D (f417 xx.toNatClampNeg).toNatClampNeg ≤ d) := by 
          obtain ⟨u1, u2, u3, u4, u5⟩ := own_half hG hx0 hx4 (fun q => hc394 q) hf417
          exact ⟨u1, u2, u3, u4.trans hgx, by omega⟩
        obtain ⟨T2, Lc2, h2', ff_2, xx_2, X2', e2', N2', K2', Z2', Fx0', Fx1', hF, kk⟩ := ih T424 _ h414 (f417) (f417 xx.toNatClampNeg) X424 e424 N420 Kp418 Z419 F421 V416 hI2
        exact ⟨T2, Lc2, h2', ff_2, xx_2, X2', e2', N2', K2', Z2', Fx0', Fx1', hF, fun t k => K428 t (kk t k)⟩
  have q431 := rng32 px
  have hI430 : (own_good f g D ∧ 0 ≤ px.toInt ∧ px.toInt < 4 ∧ g px.toNatClampNeg = g px.toNatClampNeg ∧ D px.toNatClampNeg ≤ (D px.toNatClampNeg)) := by exact ⟨P_4, P_5.1, P_5.2, rfl, Nat.le_refl _⟩
  obtain ⟨T430, Lc430, h430, ff_430, xx_430, X430, e430, N430, Kp430, Z430, Fz430_0, Fz430_1, hF430, kl430⟩ := loop375 (D px.toNatClampNeg) s₁ _ h0 (f) px X0 e0 N0 (Keep.refl h0 [pa]) Z0 P_0 P_1 hI430
  have K432 : ∀ t, Steps p.tables e below (T430.setTop (mkF m 39 #[.val (.ref fo), .val (.int px), .val (.int xx_430)] [])) t → Steps p.tables e below (s₁.setTop (entryFrame m #[(.ref fo), (.int px)] 3)) t := fun t k => K374 t (kl430 t k)
  have K433 : ∀ t, Steps p.tables e below (T430.setTop (mkF m 40 #[.val (.ref fo), .val (.int px), .val (.int xx_430)] [(.int xx_430)])) t → Steps p.tables e below (s₁.setTop (entryFrame m #[(.ref fo), (.int px)] 3)) t := fun t k => K432 t (by
    show Steps p.tables e below (T430.setTop (mkF m 39 #[.val (.ref fo), .val (.int px), .val (.int xx_430)] [])) t
    refine XS.iloadN X430.here hx rfl (hb hby own_d6_39) rfl ?_
    exact k)
  obtain ⟨fs, hr, hrun, hended, hW, hsame⟩ := X430.leave (v := some (.int xx_430)) (fun h => by rw [Bd.returns] at h; cases h)
  refine ⟨_, _, K433 _ ?_, hrun, hended, _, _, rfl, ?_, ⟨_, rfl⟩, hW, hsame.mono (by decide) (by decide)⟩
  · exact retI X430 hx Bd.returns (hb hby own_d6_40) hr
  · show Q_rm6 Z fo px pa f g D h0 n0 _ T430.heap _
    have q434 := rng32 xx_430
    rw [e430]
    exact ⟨xx_430, ff_430, rfl, ⟨hF430.2, hF430.1⟩, N430, Kp430, Fz430_1⟩
theorem own_d3_0 : decode method_3_code 0 = .ok (.aload_n 1, 1) := by decide +kernel
theorem own_d3_1 : decode method_3_code 1 = .ok (.iload_n 2, 1) := by decide +kernel
theorem own_d3_2 : decode method_3_code 2 = .ok (.iconst 3, 1) := by decide +kernel
theorem own_d3_3 : decode method_3_code 3 = .ok (.iand, 1) := by decide +kernel
theorem own_d3_4 : decode method_3_code 4 = .ok (.iaload, 1) := by decide +kernel
theorem own_d3_5 : decode method_3_code 5 = .ok (.istore_n 3, 1) := by decide +kernel
theorem own_d3_6 : decode method_3_code 6 = .ok (.aload_n 1, 1) := by decide +kernel
theorem own_d3_7 : decode method_3_code 7 = .ok (.iload_n 2, 1) := by decide +kernel
theorem own_d3_8 : decode method_3_code 8 = .ok (.iconst 2, 1) := by decide +kernel
theorem own_d3_9 : decode method_3_code 9 = .ok (.iushr, 1) := by decide +kernel
theorem own_d3_10 : decode method_3_code 10 = .ok (.iconst 3, 1) := by decide +kernel
theorem own_d3_11 : decode method_3_code 11 = .ok (.iand, 1) := by decide +kernel
theorem own_d3_12 : decode method_3_code 12 = .ok (.iaload, 1) := by decide +kernel
theorem own_d3_13 : decode method_3_code 13 = .ok (.istore 4, 2) := by decide +kernel
theorem own_d3_15 : decode method_3_code 15 = .ok (.iload_n 3, 1) := by decide +kernel
theorem own_d3_16 : decode method_3_code 16 = .ok (.iload 4, 2) := by decide +kernel
theorem own_d3_18 : decode method_3_code 18 = .ok (.if_icmp .eq 17, 3) := by decide +kernel
theorem own_d3_21 : decode method_3_code 21 = .ok (.aload_n 0, 1) := by decide +kernel
theorem own_d3_22 : decode method_3_code 22 = .ok (.iload_n 3, 1) := by decide +kernel
theorem own_d3_23 : decode method_3_code 23 = .ok (.iload 4, 2) := by decide +kernel
theorem own_d3_25 : decode method_3_code 25 = .ok (.invokevirtual 7, 3) := by decide +kernel
theorem own_d3_28 : decode method_3_code 28 = .ok (.aload_n 1, 1) := by decide +kernel
theorem own_d3_29 : decode method_3_code 29 = .ok (.iload_n 3, 1) := by decide +kernel
theorem own_d3_30 : decode method_3_code 30 = .ok (.iload 4, 2) := by decide +kernel
theorem own_d3_32 : decode method_3_code 32 = .ok (.invokestatic 13, 3) := by decide +kernel
theorem own_d3_35 : decode method_3_code 35 = .ok (.return_, 1) := by decide +kernel
theorem own_pd0 : parseMethodDescriptor "(II)V" = some ⟨[.int, .int], none⟩ := by decide +kernel
theorem own_pd1 : parseMethodDescriptor "([III)V" = some ⟨[(.array .int), .int, .int], none⟩ := by decide +kernel
def Q_rm3 (Z : State) (fo : Addr) (ra : Addr) (ps : Int32) (pa : Addr) (f : Nat → Int32) (g : Nat → Int32) (D : Nat → Nat) (h0 : Heap) (n0 : Nat) (v : Option Value) (h : Heap) (L : List Loc) : Prop := ∃ (f' : Nat → Int32), ∃ (g' : Nat → Int32), ∃ (D' : Nat → Nat), v = none ∧ (own_good f' g' D') ∧ Fr n0 L ∧ Keep h0 h [pa, ra] ∧ own_Arf Z h pa .int (4 : Int32) f' ∧ own_Arf Z h ra .int (4 : Int32) g'
theorem own_ef_rm3 (m : MethodId) (fo : Addr) (ra : Addr) (ps : Int32) : entryFrame m #[(.ref fo), (.ref ra), (.int ps)] 5 = mkF m 0 #[.val (.ref fo), .val (.ref ra), .val (.int ps), .unset, .unset] [] := by first | (simp [entryFrame, mkF, argsToLocals, Value.category]; done) | rfl
set_option maxRecDepth 65536 in
set_option maxHeartbeats 40000000 in
theorem rm3 (l : Launch) (Z : State) (a0 : Array Value) (hw : ∀ d ∈ tables_1, d.before a0 Z = true) (ws : List Jvm.Cond) (fo : Addr) (ra : Addr) (ps : Int32) (pa : Addr) (f : Nat → Int32) (g : Nat → Int32) (D : Nat → Nat) (h0 : Heap) (n0 : Nat) (Z0 : n0 ≤ h0.size) (P_0 : Exa Z h0 fo "tersegraph/Forest") (P_1 : Fld Z h0 fo "tersegraph/Forest" "parent" "[I" (.ref pa)) (P_2 : own_Arf Z h0 pa .int (4 : Int32) f) (P_3 : own_Arf Z h0 ra .int (4 : Int32) g) (P_4 : n0 ≤ pa) (P_5 : n0 ≤ ra) (P_6 : fo ≠ pa) (P_7 : fo ≠ ra) (P_8 : pa ≠ ra) (P_9 : own_good f g D) :
    MetFree l (⟨"tersegraph/ForestRootPinLaw", "join", "(Ltersegraph/Forest;[II)V"⟩ : MethodName) (head1 (Jvm.Cond.code (⟨"tersegraph/ForestRootPinLaw", "join", "(Ltersegraph/Forest;[II)V"⟩ : MethodName) method_3_code 5 none :: ws) ({ frames := 1, cells := 0, slots := 0, locals := 14 } : Room)) (fun a U => a = #[(.ref fo), (.ref ra), (.int ps)] ∧ Z.Warmed39 U.vm ∧ U.heap = h0) (fun _ _ _ _ _ => True) (fun _ U o U' => ∃ v L, o = .returned v ∧ Q_rm3 Z fo ra ps pa f g D h0 n0 v U'.heap L ∧ FrameEnd U o U' L ({ frames := 1, cells := 0, slots := 0, locals := 14 } : Room).cells ({ frames := 1, cells := 0, slots := 0, locals := 14 } : Room).slots) := by
  refine MetFree.of_bodySF (plainFor_of_name own_pn1) hisR ?_
  intro p e s m args below meth c s₁ Bd hml0 hP hK
  obtain ⟨rfl, hZ, hh⟩ := hP
  have hx := Bd.exec
  have hby := Bd.bytes
  have hml : c.maxLocals = 5 := hml0
  have hown : s.vm.findClass "tersegraph/ForestRootPinLaw" = some m.cls := findClass_of_methodNamed Bd.named
  have hnm := (name_of_methodNamed Bd.named Bd.method).1
  have X0 : Stand p l e ({ frames := 1, cells := 0, slots := 0, locals := 14 } : Room) s m #[(.ref fo), (.ref ra), (.int ps)] below meth c s₁ [] 0 0 := Stand.of_body Bd
  have e0 : s₁.heap = h0 := by rw [← hh, Bd.state]; rfl
  have N0 := Fr.nil n0
  have pre0 : ∀ t, Steps p.tables e below (s₁.setTop (mkF m 0 #[.val (.ref fo), .val (.ref ra), .val (.int ps), .unset, .unset] [])) t → Steps p.tables e below (s₁.setTop (entryFrame m #[(.ref fo), (.ref ra), (.int ps)] 5)) t := fun t k => castTop (own_ef_rm3 m fo ra ps) k
  have q435 := rng32 ps
  have q436 := (by decide : (3 : Int32).toInt = 3)
  have q437 := (show (ps &&& (3 : Int32)).toInt = ps.toInt % 4 from c_mask ps (3 : Int32) 2 (by decide) (by decide))
  have q438 := rng32 (ps &&& (3 : Int32))
  have q439 := (by decide : (2 : Int32).toInt = 2)
  have q440 := (show ((ps.toUInt32 >>> ((2 : Int32) &&& 31).toUInt32).toInt32).toInt = (ps.toInt % 4294967296) / 4 from c_iushr ps (2 : Int32) 2 rfl (by decide))
  have q441 := rng32 ((ps.toUInt32 >>> ((2 : Int32) &&& 31).toUInt32).toInt32)
  have q442 := (show (((ps.toUInt32 >>> ((2 : Int32) &&& 31).toUInt32).toInt32) &&& (3 : Int32)).toInt = ((ps.toUInt32 >>> ((2 : Int32) &&& 31).toUInt32).toInt32).toInt % 4 from c_mask ((ps.toUInt32 >>> ((2 : Int32) &&& 31).toUInt32).toInt32) (3 : Int32) 2 (by decide) (by decide))
  have q443 := rng32 (((ps.toUInt32 >>> ((2 : Int32) &&& 31).toUInt32).toInt32) &&& (3 : Int32))
  have c1 : (ps &&& (3 : Int32)).toNatClampNeg < 4 := own_cl (own_nn (by omega)) (by omega)
  obtain ⟨c1a, c1b, c1c, c1d⟩ := own_bnd P_9 c1
  have c2 : (((ps.toUInt32 >>> ((2 : Int32) &&& 31).toUInt32).toInt32) &&& (3 : Int32)).toNatClampNeg < 4 := own_cl (own_nn (by omega)) (by omega)
  obtain ⟨c2a, c2b, c2c, c2d⟩ := own_bnd P_9 c2
  have q445 := (by decide : (4 : Int32).toInt = 4)
  have q446 : ¬ (ps &&& (3 : Int32)) < 0 ∧ (ps &&& (3 : Int32)) < (4 : Int32) := by rw [Int32.lt_iff_toInt_lt, Int32.lt_iff_toInt_lt]; have q0 : (0 : Int32).toInt = 0 := rfl; omega
  obtain ⟨cl444, Ar444, S444, N444, Hs444⟩ := id P_3
  have hin444 : ¬ ((ps &&& (3 : Int32)) < 0 ∨ cl444.slots.size ≤ ((ps &&& (3 : Int32))).toNatClampNeg) := inb_of S444 q446
  have hat444 : cl444.slots[((ps &&& (3 : Int32))).toNatClampNeg]? = some (.int (g (ps &&& (3 : Int32)).toNatClampNeg)) := own_at Hs444 S444 hin444 (rfl)
  have q448 : ¬ (((ps.toUInt32 >>> ((2 : Int32) &&& 31).toUInt32).toInt32) &&& (3 : Int32)) < 0 ∧ (((ps.toUInt32 >>> ((2 : Int32) &&& 31).toUInt32).toInt32) &&& (3 : Int32)) < (4 : Int32) := by rw [Int32.lt_iff_toInt_lt, Int32.lt_iff_toInt_lt]; have q0 : (0 : Int32).toInt = 0 := rfl; omega
  obtain ⟨cl447, Ar447, S447, N447, Hs447⟩ := id P_3
  have hin447 : ¬ ((((ps.toUInt32 >>> ((2 : Int32) &&& 31).toUInt32).toInt32) &&& (3 : Int32)) < 0 ∨ cl447.slots.size ≤ ((((ps.toUInt32 >>> ((2 : Int32) &&& 31).toUInt32).toInt32) &&& (3 : Int32))).toNatClampNeg) := inb_of S447 q448
  have hat447 : cl447.slots[((((ps.toUInt32 >>> ((2 : Int32) &&& 31).toUInt32).toInt32) &&& (3 : Int32))).toNatClampNeg]? = some (.int (g (((ps.toUInt32 >>> ((2 : Int32) &&& 31).toUInt32).toInt32) &&& (3 : Int32)).toNatClampNeg)) := own_at Hs447 S447 hin447 (rfl)
  have K450 : ∀ t, Steps p.tables e below (s₁.setTop (mkF m 18 #[.val (.ref fo), .val (.ref ra), .val (.int ps), .val (.int (g (ps &&& (3 : Int32)).toNatClampNeg)), .val (.int (g (((ps.toUInt32 >>> ((2 : Int32) &&& 31).toUInt32).toInt32) &&& (3 : Int32)).toNatClampNeg))] [(.int (g (((ps.toUInt32 >>> ((2 : Int32) &&& 31).toUInt32).toInt32) &&& (3 : Int32)).toNatClampNeg)), (.int (g (ps &&& (3 : Int32)).toNatClampNeg))])) t → Steps p.tables e below (s₁.setTop (entryFrame m #[(.ref fo), (.ref ra), (.int ps)] 5)) t := fun t k => pre0 t (by
    show Steps p.tables e below (s₁.setTop (mkF m 0 #[.val (.ref fo), .val (.ref ra), .val (.int ps), .unset, .unset] [])) t
    refine XS.aloadN X0.here hx rfl (hb hby own_d3_0) rfl rfl ?_
    show Steps p.tables e below (s₁.setTop (mkF m 1 #[.val (.ref fo), .val (.ref ra), .val (.int ps), .unset, .unset] [(.ref ra)])) t
    refine XS.iloadN X0.here hx rfl (hb hby own_d3_1) rfl ?_
    show Steps p.tables e below (s₁.setTop (mkF m 2 #[.val (.ref fo), .val (.ref ra), .val (.int ps), .unset, .unset] [(.int ps), (.ref ra)])) t
    refine XS.iconst X0.here hx rfl (hb hby own_d3_2) ?_
    show Steps p.tables e below (s₁.setTop (mkF m 3 #[.val (.ref fo), .val (.ref ra), .val (.int ps), .unset, .unset] [(.int (3 : Int32)), (.int ps), (.ref ra)])) t
    refine XS.iand X0.here hx rfl (hb hby own_d3_3) rfl ?_
    show Steps p.tables e below (s₁.setTop (mkF m 4 #[.val (.ref fo), .val (.ref ra), .val (.int ps), .unset, .unset] [(.int (ps &&& (3 : Int32))), (.ref ra)])) t
    refine X0.iaload hx (j := (ps &&& (3 : Int32))) (v := (.int (g (ps &&& (3 : Int32)).toNatClampNeg))) (by rw [e0]; exact Ar444.1) (State.isArrayOf_alike hZ.alike Ar444.2.1) Ar444.2.2 hin444 hat444 (g := (mkF m 4 #[.val (.ref fo), .val (.ref ra), .val (.int ps), .unset, .unset] [(.int (ps &&& (3 : Int32))), (.ref ra)])) rfl rfl (hb hby own_d3_4) _ ?_
    show Steps p.tables e below (s₁.setTop (mkF m 5 #[.val (.ref fo), .val (.ref ra), .val (.int ps), .unset, .unset] [(.int (g (ps &&& (3 : Int32)).toNatClampNeg))])) t
    refine XS.istoreN X0.here hx rfl (hb hby own_d3_5) rfl (l' := #[.val (.ref fo), .val (.ref ra), .val (.int ps), .val (.int (g (ps &&& (3 : Int32)).toNatClampNeg)), .unset]) rfl ?_
    show Steps p.tables e below (s₁.setTop (mkF m 6 #[.val (.ref fo), .val (.ref ra), .val (.int ps), .val (.int (g (ps &&& (3 : Int32)).toNatClampNeg)), .unset] [])) t
    refine XS.aloadN X0.here hx rfl (hb hby own_d3_6) rfl rfl ?_
    show Steps p.tables e below (s₁.setTop (mkF m 7 #[.val (.ref fo), .val (.ref ra), .val (.int ps), .val (.int (g (ps &&& (3 : Int32)).toNatClampNeg)), .unset] [(.ref ra)])) t
    refine XS.iloadN X0.here hx rfl (hb hby own_d3_7) rfl ?_
    show Steps p.tables e below (s₁.setTop (mkF m 8 #[.val (.ref fo), .val (.ref ra), .val (.int ps), .val (.int (g (ps &&& (3 : Int32)).toNatClampNeg)), .unset] [(.int ps), (.ref ra)])) t
    refine XS.iconst X0.here hx rfl (hb hby own_d3_8) ?_
    show Steps p.tables e below (s₁.setTop (mkF m 9 #[.val (.ref fo), .val (.ref ra), .val (.int ps), .val (.int (g (ps &&& (3 : Int32)).toNatClampNeg)), .unset] [(.int (2 : Int32)), (.int ps), (.ref ra)])) t
    refine XS.iushr X0.here hx rfl (hb hby own_d3_9) rfl ?_
    show Steps p.tables e below (s₁.setTop (mkF m 10 #[.val (.ref fo), .val (.ref ra), .val (.int ps), .val (.int (g (ps &&& (3 : Int32)).toNatClampNeg)), .unset] [(.int ((ps.toUInt32 >>> ((2 : Int32) &&& 31).toUInt32).toInt32)), (.ref ra)])) t
    refine XS.iconst X0.here hx rfl (hb hby own_d3_10) ?_
    show Steps p.tables e below (s₁.setTop (mkF m 11 #[.val (.ref fo), .val (.ref ra), .val (.int ps), .val (.int (g (ps &&& (3 : Int32)).toNatClampNeg)), .unset] [(.int (3 : Int32)), (.int ((ps.toUInt32 >>> ((2 : Int32) &&& 31).toUInt32).toInt32)), (.ref ra)])) t
    refine XS.iand X0.here hx rfl (hb hby own_d3_11) rfl ?_
    show Steps p.tables e below (s₁.setTop (mkF m 12 #[.val (.ref fo), .val (.ref ra), .val (.int ps), .val (.int (g (ps &&& (3 : Int32)).toNatClampNeg)), .unset] [(.int (((ps.toUInt32 >>> ((2 : Int32) &&& 31).toUInt32).toInt32) &&& (3 : Int32))), (.ref ra)])) t
    refine X0.iaload hx (j := (((ps.toUInt32 >>> ((2 : Int32) &&& 31).toUInt32).toInt32) &&& (3 : Int32))) (v := (.int (g (((ps.toUInt32 >>> ((2 : Int32) &&& 31).toUInt32).toInt32) &&& (3 : Int32)).toNatClampNeg))) (by rw [e0]; exact Ar447.1) (State.isArrayOf_alike hZ.alike Ar447.2.1) Ar447.2.2 hin447 hat447 (g := (mkF m 12 #[.val (.ref fo), .val (.ref ra), .val (.int ps), .val (.int (g (ps &&& (3 : Int32)).toNatClampNeg)), .unset] [(.int (((ps.toUInt32 >>> ((2 : Int32) &&& 31).toUInt32).toInt32) &&& (3 : Int32))), (.ref ra)])) rfl rfl (hb hby own_d3_12) _ ?_
    show Steps p.tables e below (s₁.setTop (mkF m 13 #[.val (.ref fo), .val (.ref ra), .val (.int ps), .val (.int (g (ps &&& (3 : Int32)).toNatClampNeg)), .unset] [(.int (g (((ps.toUInt32 >>> ((2 : Int32) &&& 31).toUInt32).toInt32) &&& (3 : Int32)).toNatClampNeg))])) t
    refine XS.istore X0.here hx rfl (hb hby own_d3_13) rfl (l' := #[.val (.ref fo), .val (.ref ra), .val (.int ps), .val (.int (g (ps &&& (3 : Int32)).toNatClampNeg)), .val (.int (g (((ps.toUInt32 >>> ((2 : Int32) &&& 31).toUInt32).toInt32) &&& (3 : Int32)).toNatClampNeg))]) rfl ?_
    show Steps p.tables e below (s₁.setTop (mkF m 15 #[.val (.ref fo), .val (.ref ra), .val (.int ps), .val (.int (g (ps &&& (3 : Int32)).toNatClampNeg)), .val (.int (g (((ps.toUInt32 >>> ((2 : Int32) &&& 31).toUInt32).toInt32) &&& (3 : Int32)).toNatClampNeg))] [])) t
    refine XS.iloadN X0.here hx rfl (hb hby own_d3_15) rfl ?_
    show Steps p.tables e below (s₁.setTop (mkF m 16 #[.val (.ref fo), .val (.ref ra), .val (.int ps), .val (.int (g (ps &&& (3 : Int32)).toNatClampNeg)), .val (.int (g (((ps.toUInt32 >>> ((2 : Int32) &&& 31).toUInt32).toInt32) &&& (3 : Int32)).toNatClampNeg))] [(.int (g (ps &&& (3 : Int32)).toNatClampNeg))])) t
    refine XS.iload X0.here hx rfl (hb hby own_d3_16) rfl ?_
    exact k)
  have q451 := rng32 (g (ps &&& (3 : Int32)).toNatClampNeg)
  have q452 := rng32 (g (((ps.toUInt32 >>> ((2 : Int32) &&& 31).toUInt32).toInt32) &&& (3 : Int32)).toNatClampNeg)
  by_cases hc449 : (g (ps &&& (3 : Int32)).toNatClampNeg) = (g (((ps.toUInt32 >>> ((2 : Int32) &&& 31).toUInt32).toInt32) &&& (3 : Int32)).toNatClampNeg)
  · have q453 : (g (ps &&& (3 : Int32)).toNatClampNeg).toInt = (g (((ps.toUInt32 >>> ((2 : Int32) &&& 31).toUInt32).toInt32) &&& (3 : Int32)).toNatClampNeg).toInt := congrArg Int32.toInt hc449
    have K454 : ∀ t, Steps p.tables e below (s₁.setTop (mkF m 35 #[.val (.ref fo), .val (.ref ra), .val (.int ps), .val (.int (g (ps &&& (3 : Int32)).toNatClampNeg)), .val (.int (g (((ps.toUInt32 >>> ((2 : Int32) &&& 31).toUInt32).toInt32) &&& (3 : Int32)).toNatClampNeg))] [])) t → Steps p.tables e below (s₁.setTop (entryFrame m #[(.ref fo), (.ref ra), (.int ps)] 5)) t := fun t k => K450 t (by
      show Steps p.tables e below (s₁.setTop (mkF m 18 #[.val (.ref fo), .val (.ref ra), .val (.int ps), .val (.int (g (ps &&& (3 : Int32)).toNatClampNeg)), .val (.int (g (((ps.toUInt32 >>> ((2 : Int32) &&& 31).toUInt32).toInt32) &&& (3 : Int32)).toNatClampNeg))] [(.int (g (((ps.toUInt32 >>> ((2 : Int32) &&& 31).toUInt32).toInt32) &&& (3 : Int32)).toNatClampNeg)), (.int (g (ps &&& (3 : Int32)).toNatClampNeg))])) t
      refine XS.icmpYes X0.here hx rfl (pc0 := 18) (pc' := 35) rfl (hb hby own_d3_18) rfl (teq hc449).1 (by decide) (by decide) ?_
      exact k)
    obtain ⟨fs, hr, hrun, hended, hW, hsame⟩ := X0.leave (v := none) (fun _ => rfl)
    refine ⟨_, _, K454 _ ?_, hrun, hended, _, _, rfl, ?_, ⟨_, rfl⟩, hW, hsame.mono (by decide) (by decide)⟩
    · exact X0.returnOut hx Bd.returns (hb hby own_d3_35) hr
    · show Q_rm3 Z fo ra ps pa f g D h0 n0 _ s₁.heap _
      rw [e0]
      exact ⟨f, g, D, rfl, P_9, N0, (Keep.refl h0 [pa, ra]), P_2, P_3⟩
  · have q455 : ¬ (g (ps &&& (3 : Int32)).toNatClampNeg).toInt = (g (((ps.toUInt32 >>> ((2 : Int32) &&& 31).toUInt32).toInt32) &&& (3 : Int32)).toNatClampNeg).toInt := fun q => hc449 (Int32.toInt_inj.mp q)
    have K456 : ∀ t, Steps p.tables e below (s₁.setTop (mkF m 25 #[.val (.ref fo), .val (.ref ra), .val (.int ps), .val (.int (g (ps &&& (3 : Int32)).toNatClampNeg)), .val (.int (g (((ps.toUInt32 >>> ((2 : Int32) &&& 31).toUInt32).toInt32) &&& (3 : Int32)).toNatClampNeg))] [(.int (g (((ps.toUInt32 >>> ((2 : Int32) &&& 31).toUInt32).toInt32) &&& (3 : Int32)).toNatClampNeg)), (.int (g (ps &&& (3 : Int32)).toNatClampNeg)), (.ref fo)])) t → Steps p.tables e below (s₁.setTop (entryFrame m #[(.ref fo), (.ref ra), (.int ps)] 5)) t := fun t k => K450 t (by
      show Steps p.tables e below (s₁.setTop (mkF m 18 #[.val (.ref fo), .val (.ref ra), .val (.int ps), .val (.int (g (ps &&& (3 : Int32)).toNatClampNeg)), .val (.int (g (((ps.toUInt32 >>> ((2 : Int32) &&& 31).toUInt32).toInt32) &&& (3 : Int32)).toNatClampNeg))] [(.int (g (((ps.toUInt32 >>> ((2 : Int32) &&& 31).toUInt32).toInt32) &&& (3 : Int32)).toNatClampNeg)), (.int (g (ps &&& (3 : Int32)).toNatClampNeg))])) t
      refine XS.icmpNo X0.here hx rfl (hb hby own_d3_18) rfl (feq hc449).1 ?_
      show Steps p.tables e below (s₁.setTop (mkF m 21 #[.val (.ref fo), .val (.ref ra), .val (.int ps), .val (.int (g (ps &&& (3 : Int32)).toNatClampNeg)), .val (.int (g (((ps.toUInt32 >>> ((2 : Int32) &&& 31).toUInt32).toInt32) &&& (3 : Int32)).toNatClampNeg))] [])) t
      refine XS.aloadN X0.here hx rfl (hb hby own_d3_21) rfl rfl ?_
      show Steps p.tables e below (s₁.setTop (mkF m 22 #[.val (.ref fo), .val (.ref ra), .val (.int ps), .val (.int (g (ps &&& (3 : Int32)).toNatClampNeg)), .val (.int (g (((ps.toUInt32 >>> ((2 : Int32) &&& 31).toUInt32).toInt32) &&& (3 : Int32)).toNatClampNeg))] [(.ref fo)])) t
      refine XS.iloadN X0.here hx rfl (hb hby own_d3_22) rfl ?_
      show Steps p.tables e below (s₁.setTop (mkF m 23 #[.val (.ref fo), .val (.ref ra), .val (.int ps), .val (.int (g (ps &&& (3 : Int32)).toNatClampNeg)), .val (.int (g (((ps.toUInt32 >>> ((2 : Int32) &&& 31).toUInt32).toInt32) &&& (3 : Int32)).toNatClampNeg))] [(.int (g (ps &&& (3 : Int32)).toNatClampNeg)), (.ref fo)])) t
      refine XS.iload X0.here hx rfl (hb hby own_d3_23) rfl ?_
      exact k)
    have q457 : 0 ≤ (g (ps &&& (3 : Int32)).toNatClampNeg).toInt ∧ (g (ps &&& (3 : Int32)).toNatClampNeg).toInt < 4 := by omega
    obtain ⟨cq458, kq458, q458a, q458b, q458c⟩ := isOf hZ e0 P_0
    obtain ⟨_, _, ⟨T458, L458, kk458, nn458⟩, -, X458, ⟨Lc458, hQ458, l458, y458, z458⟩, st458⟩ := X0.virtualBack hx (y := (⟨"tersegraph/Forest", "attach", "(II)V"⟩ : MethodName)) (z := (⟨"tersegraph/Forest", "attach", "(II)V"⟩ : MethodName)) hown (mvT hZ (hw _ (List.mem_of_getElem? (i := 16) rfl))) (mvT hZ (hw _ (List.mem_of_getElem? (i := 17) rfl))) (notFace_of_selects (args := #[]) (mvT hZ (hw _ (List.mem_of_getElem? (i := 19) rfl)))) (mvT hZ (hw _ (List.mem_of_getElem? (i := 19) rfl))) (mvT hZ (hw _ (List.mem_of_getElem? (i := 18) rfl))) (by decide) (backOf (W := 0) (rm4 l Z a0 hw [] fo (g (ps &&& (3 : Int32)).toNatClampNeg) (g (((ps.toUInt32 >>> ((2 : Int32) &&& 31).toUInt32).toInt32) &&& (3 : Int32)).toNatClampNeg) pa f h0 n0 Z0 P_1 P_2 P_4 q457) hZ (hw _ (List.mem_of_getElem? (i := 20) rfl)) (hw _ (List.mem_of_getElem? (i := 2) rfl)) (by decide) (by decide)) q458a q458c (g := (mkF m 25 #[.val (.ref fo), .val (.ref ra), .val (.int ps), .val (.int (g (ps &&& (3 : Int32)).toNatClampNeg)), .val (.int (g (((ps.toUInt32 >>> ((2 : Int32) &&& 31).toUInt32).toInt32) &&& (3 : Int32)).toNatClampNeg))] [(.int (g (((ps.toUInt32 >>> ((2 : Int32) &&& 31).toUInt32).toInt32) &&& (3 : Int32)).toNatClampNeg)), (.int (g (ps &&& (3 : Int32)).toNatClampNeg)), (.ref fo)])) rfl (by rw [hml]; rfl) (Steps.refl _) (argsL := [(.int (g (ps &&& (3 : Int32)).toNatClampNeg)), (.int (g (((ps.toUInt32 >>> ((2 : Int32) &&& 31).toUInt32).toInt32) &&& (3 : Int32)).toNatClampNeg))]) (rest := []) (lenOf own_pd0 rfl) rfl (by show 2 * 0 + _ ≤ _; exact Nat.le_of_eq rfl) (hb hby own_d3_25) (fun _ _ => ⟨rfl, e0, (by decide : 0 + 0 ≤ _), (by decide : 0 + 0 ≤ _)⟩)
    dsimp only [Pt.U, Pt.locs, Pt.cells, Pt.slots] at X458 l458 y458 z458 st458 hQ458
    subst l458 y458 z458
    obtain ⟨f'_458, rfl, Sp458, Nq458, Kc458, Pc458_0⟩ := hQ458
    have N459 := Fr.app N0 Nq458
    obtain ⟨h458, e458⟩ : ∃ z, z = T458.heap := ⟨_, rfl⟩
    rw [← e458] at Kc458 Pc458_0
    have F460 := P_0.keep Kc458
    have F461 := P_1.keep Kc458 (ninS P_6 nin0)
    have F462 := P_3.keep Kc458 (ninS (Ne.symm P_8) nin0)
    have Kp463 : Keep h0 h458 [pa, ra] := Keep.trans (Keep.refl h0 [pa, ra]) Kc458 (allS (Or.inl (List.mem_of_getElem? (i := 0) rfl)) all0)
    have Z464 : n0 ≤ h458.size := Nat.le_trans Z0 Kc458.1
    have K465 : ∀ t, Steps p.tables e below (T458.setTop (mkF m 28 #[.val (.ref fo), .val (.ref ra), .val (.int ps), .val (.int (g (ps &&& (3 : Int32)).toNatClampNeg)), .val (.int (g (((ps.toUInt32 >>> ((2 : Int32) &&& 31).toUInt32).toInt32) &&& (3 : Int32)).toNatClampNeg))] [])) t → Steps p.tables e below (s₁.setTop (entryFrame m #[(.ref fo), (.ref ra), (.int ps)] 5)) t := fun t k => K456 t (st458.trans k)
    have K466 : ∀ t, Steps p.tables e below (T458.setTop (mkF m 32 #[.val (.ref fo), .val (.ref ra), .val (.int ps), .val (.int (g (ps &&& (3 : Int32)).toNatClampNeg)), .val (.int (g (((ps.toUInt32 >>> ((2 : Int32) &&& 31).toUInt32).toInt32) &&& (3 : Int32)).toNatClampNeg))] [(.int (g (((ps.toUInt32 >>> ((2 : Int32) &&& 31).toUInt32).toInt32) &&& (3 : Int32)).toNatClampNeg)), (.int (g (ps &&& (3 : Int32)).toNatClampNeg)), (.ref ra)])) t → Steps p.tables e below (s₁.setTop (entryFrame m #[(.ref fo), (.ref ra), (.int ps)] 5)) t := fun t k => K465 t (by
      show Steps p.tables e below (T458.setTop (mkF m 28 #[.val (.ref fo), .val (.ref ra), .val (.int ps), .val (.int (g (ps &&& (3 : Int32)).toNatClampNeg)), .val (.int (g (((ps.toUInt32 >>> ((2 : Int32) &&& 31).toUInt32).toInt32) &&& (3 : Int32)).toNatClampNeg))] [])) t
      refine XS.aloadN X458.here hx rfl (hb hby own_d3_28) rfl rfl ?_
      show Steps p.tables e below (T458.setTop (mkF m 29 #[.val (.ref fo), .val (.ref ra), .val (.int ps), .val (.int (g (ps &&& (3 : Int32)).toNatClampNeg)), .val (.int (g (((ps.toUInt32 >>> ((2 : Int32) &&& 31).toUInt32).toInt32) &&& (3 : Int32)).toNatClampNeg))] [(.ref ra)])) t
      refine XS.iloadN X458.here hx rfl (hb hby own_d3_29) rfl ?_
      show Steps p.tables e below (T458.setTop (mkF m 30 #[.val (.ref fo), .val (.ref ra), .val (.int ps), .val (.int (g (ps &&& (3 : Int32)).toNatClampNeg)), .val (.int (g (((ps.toUInt32 >>> ((2 : Int32) &&& 31).toUInt32).toInt32) &&& (3 : Int32)).toNatClampNeg))] [(.int (g (ps &&& (3 : Int32)).toNatClampNeg)), (.ref ra)])) t
      refine XS.iload X458.here hx rfl (hb hby own_d3_30) rfl ?_
      exact k)
    obtain ⟨_, _, ⟨T467, L467, kk467, nn467⟩, -, X467, ⟨Lc467, hQ467, l467, y467, z467⟩, st467⟩ := Jvm.LawKit.callS X458 hx (y := (⟨"tersegraph/ForestRootPinLaw", "relabel", "([III)V"⟩ : MethodName)) hown (mvT hZ (hw _ (List.mem_of_getElem? (i := 21) rfl))) (mvT hZ (hw _ (List.mem_of_getElem? (i := 22) rfl))) (mvT hZ (hw _ (List.mem_of_getElem? (i := 14) rfl))) (mvT hZ (hw _ (List.mem_of_getElem? (i := 23) rfl))) (by decide) (backOf (W := 0) (rm5 l Z a0 hw [] ra (g (ps &&& (3 : Int32)).toNatClampNeg) (g (((ps.toUInt32 >>> ((2 : Int32) &&& 31).toUInt32).toInt32) &&& (3 : Int32)).toNatClampNeg) g h458 n0 Z464 F462 P_5) hZ (hw _ (List.mem_of_getElem? (i := 23) rfl)) (hw _ (List.mem_of_getElem? (i := 14) rfl)) (by decide) (by decide)) (g := (mkF m 32 #[.val (.ref fo), .val (.ref ra), .val (.int ps), .val (.int (g (ps &&& (3 : Int32)).toNatClampNeg)), .val (.int (g (((ps.toUInt32 >>> ((2 : Int32) &&& 31).toUInt32).toInt32) &&& (3 : Int32)).toNatClampNeg))] [(.int (g (((ps.toUInt32 >>> ((2 : Int32) &&& 31).toUInt32).toInt32) &&& (3 : Int32)).toNatClampNeg)), (.int (g (ps &&& (3 : Int32)).toNatClampNeg)), (.ref ra)])) rfl (by rw [hml]; rfl) (argsL := [(.ref ra), (.int (g (ps &&& (3 : Int32)).toNatClampNeg)), (.int (g (((ps.toUInt32 >>> ((2 : Int32) &&& 31).toUInt32).toInt32) &&& (3 : Int32)).toNatClampNeg))]) (rest := []) (lenOf own_pd1 rfl) rfl (by show 2 * 0 + _ ≤ _; exact Nat.le_of_eq rfl) (hb hby own_d3_32) (fun _ _ => ⟨rfl, e458.symm, (by decide : 0 + 0 ≤ _), (by decide : 0 + 0 ≤ _)⟩)
    dsimp only [Pt.U, Pt.locs, Pt.cells, Pt.slots] at X467 l467 y467 z467 st467 hQ467
    subst l467 y467 z467
    obtain ⟨g'_467, rfl, Sp467, Nq467, Kc467, Pc467_0⟩ := hQ467
    have N468 := Fr.app N459 Nq467
    obtain ⟨h467, e467⟩ : ∃ z, z = T467.heap := ⟨_, rfl⟩
    rw [← e467] at Kc467 Pc467_0
    have F469 := F460.keep Kc467
    have F470 := F461.keep Kc467 (ninS P_7 nin0)
    have F471 := Pc458_0.keep Kc467 (ninS P_8 nin0)
    have Kp472 : Keep h0 h467 [pa, ra] := Keep.trans Kp463 Kc467 (allS (Or.inl (List.mem_of_getElem? (i := 1) rfl)) all0)
    have Z473 : n0 ≤ h467.size := Nat.le_trans Z464 Kc467.1
    have K474 : ∀ t, Steps p.tables e below (T467.setTop (mkF m 35 #[.val (.ref fo), .val (.ref ra), .val (.int ps), .val (.int (g (ps &&& (3 : Int32)).toNatClampNeg)), .val (.int (g (((ps.toUInt32 >>> ((2 : Int32) &&& 31).toUInt32).toInt32) &&& (3 : Int32)).toNatClampNeg))] [])) t → Steps p.tables e below (s₁.setTop (entryFrame m #[(.ref fo), (.ref ra), (.int ps)] 5)) t := fun t k => K466 t (st467 _ k)
    obtain ⟨fs, hr, hrun, hended, hW, hsame⟩ := X467.leave (v := none) (fun _ => rfl)
    refine ⟨_, _, K474 _ ?_, hrun, hended, _, _, rfl, ?_, ⟨_, rfl⟩, hW, hsame.mono (by decide) (by decide)⟩
    · exact X467.returnOut hx Bd.returns (hb hby own_d3_35) hr
    · show Q_rm3 Z fo ra ps pa f g D h0 n0 _ T467.heap _
      rw [e467.symm]
      exact ⟨f'_458, g'_467, _, rfl, (own_link P_9 c1 c2 hc449 Sp458 Sp467), N468, Kp472, F471, Pc467_0⟩
theorem own_pd2 : parseMethodDescriptor "(I)V" = some ⟨[.int], none⟩ := by decide +kernel
theorem own_pd3 : parseMethodDescriptor "(Ltersegraph/Forest;[II)V" = some ⟨[(.object "tersegraph/Forest"), (.array .int), .int], none⟩ := by decide +kernel
theorem own_pd4 : parseMethodDescriptor "(I)I" = some ⟨[.int], some .int⟩ := by decide +kernel
def Q_rm0 (Z : State) (x0 : Int32) (x1 : Int32) (x2 : Int32) (x3 : Int32) (h0 : Heap) (n0 : Nat) (v : Option Value) (h : Heap) (L : List Loc) : Prop := v = some (.int (1 : Int32)) ∧ (True) ∧ Fr n0 L ∧ Keep h0 h []
theorem own_ef_rm0 (m : MethodId) (x0 : Int32) (x1 : Int32) (x2 : Int32) (x3 : Int32) : entryFrame m #[(.int x0), (.int x1), (.int x2), (.int x3)] maxLocals = mkF m 0 #[.val (.int x0), .val (.int x1), .val (.int x2), .val (.int x3), .unset, .unset, .unset, .unset, .unset, .unset, .unset, .unset, .unset, .unset] [] := by first | (simp [entryFrame, mkF, argsToLocals, Value.category, maxLocals]; done) | rfl
set_option maxRecDepth 65536 in
set_option maxHeartbeats 40000000 in
theorem rm0 (l : Launch) (Z : State) (a0 : Array Value) (hw : ∀ d ∈ tables_1, d.before a0 Z = true) (ws : List Jvm.Cond) (x0 : Int32) (x1 : Int32) (x2 : Int32) (x3 : Int32) (h0 : Heap) (n0 : Nat) (Z0 : n0 ≤ h0.size) :
    MetFree l x (head1 (Jvm.Cond.code x code maxLocals ret :: ws) room_1) (fun a U => a = #[(.int x0), (.int x1), (.int x2), (.int x3)] ∧ Z.Warmed39 U.vm ∧ U.heap = h0) (fun _ _ _ _ _ => True) (fun _ U o U' => ∃ v L, o = .returned v ∧ Q_rm0 Z x0 x1 x2 x3 h0 n0 v U'.heap L ∧ FrameEnd U o U' L room_1.cells room_1.slots) := by
  refine MetFree.of_bodySF (plainFor_of_name own_pn1) hisR ?_
  intro p e s m args below meth c s₁ Bd hml0 hP hK
  obtain ⟨rfl, hZ, hh⟩ := hP
  have hx := Bd.exec
  have hby := Bd.bytes
  have hml : c.maxLocals = 14 := hml0
  have hown : s.vm.findClass "tersegraph/ForestRootPinLaw" = some m.cls := findClass_of_methodNamed Bd.named
  have hnm := (name_of_methodNamed Bd.named Bd.method).1
  have X0 : Stand p l e room_1 s m #[(.int x0), (.int x1), (.int x2), (.int x3)] below meth c s₁ [] 0 0 := Stand.of_body Bd
  have e0 : s₁.heap = h0 := by rw [← hh, Bd.state]; rfl
  have N0 := Fr.nil n0
  have pre0 : ∀ t, Steps p.tables e below (s₁.setTop (mkF m 0 #[.val (.int x0), .val (.int x1), .val (.int x2), .val (.int x3), .unset, .unset, .unset, .unset, .unset, .unset, .unset, .unset, .unset, .unset] [])) t → Steps p.tables e below (s₁.setTop (entryFrame m #[(.int x0), (.int x1), (.int x2), (.int x3)] maxLocals)) t := fun t k => castTop (own_ef_rm0 m x0 x1 x2 x3) k
  obtain ⟨T475, h475, X475, e475, E475, A475, D475, M475, st475⟩ := newO X0 hx hZ hown (hw _ (List.mem_of_getElem? (i := 0) rfl)) (hw _ (List.mem_of_getElem? (i := 1) rfl)) (hw _ (List.mem_of_getElem? (i := 2) rfl)) e0 (g := (mkF m 0 #[.val (.int x0), .val (.int x1), .val (.int x2), .val (.int x3), .unset, .unset, .unset, .unset, .unset, .unset, .unset, .unset, .unset, .unset] [])) rfl (hb hby at_0) (by decide) (by decide)
  obtain ⟨b475, g475⟩ : ∃ z, z = h0.size := ⟨_, rfl⟩
  rw [← g475] at A475 D475 M475 st475
  have gb476 : n0 ≤ b475 := Nat.le_trans Z0 (Nat.le_of_eq g475.symm)
  have sb477 : h0.size ≤ b475 := Nat.le_trans (Keep.refl h0 []).1 (Nat.le_of_eq g475.symm)
  have Z478 : n0 ≤ h475.size := Nat.le_trans Z0 E475.1
  have Kp479 : Keep h0 h475 [] := Keep.ext (Keep.refl h0 []) E475
  have F480 : Fld Z h475 b475 "tersegraph/Forest" "parent" "[I" .null := D475 (Or.inr (hw _ (List.mem_of_getElem? (i := 11) rfl))) (ty := (.array .int)) (by decide)
  have K481 : ∀ t, Steps p.tables e below (T475.setTop (mkF m 3 #[.val (.int x0), .val (.int x1), .val (.int x2), .val (.int x3), .unset, .unset, .unset, .unset, .unset, .unset, .unset, .unset, .unset, .unset] [(.ref b475)])) t → Steps p.tables e below (s₁.setTop (entryFrame m #[(.int x0), (.int x1), (.int x2), (.int x3)] maxLocals)) t := fun t k => pre0 t (st475 _ k)
  have K482 : ∀ t, Steps p.tables e below (T475.setTop (mkF m 5 #[.val (.int x0), .val (.int x1), .val (.int x2), .val (.int x3), .unset, .unset, .unset, .unset, .unset, .unset, .unset, .unset, .unset, .unset] [(.int (4 : Int32)), (.ref b475), (.ref b475)])) t → Steps p.tables e below (s₁.setTop (entryFrame m #[(.int x0), (.int x1), (.int x2), (.int x3)] maxLocals)) t := fun t k => K481 t (by
    show Steps p.tables e below (T475.setTop (mkF m 3 #[.val (.int x0), .val (.int x1), .val (.int x2), .val (.int x3), .unset, .unset, .unset, .unset, .unset, .unset, .unset, .unset, .unset, .unset] [(.ref b475)])) t
    refine XS.dup X475.here hx rfl (hb hby at_3) rfl rfl ?_
    show Steps p.tables e below (T475.setTop (mkF m 4 #[.val (.int x0), .val (.int x1), .val (.int x2), .val (.int x3), .unset, .unset, .unset, .unset, .unset, .unset, .unset, .unset, .unset, .unset] [(.ref b475), (.ref b475)])) t
    refine XS.iconst X475.here hx rfl (hb hby at_4) ?_
    exact k)
  have q483 := (by decide : (4 : Int32).toInt = 4)
  obtain ⟨_, _, ⟨T484, L484, kk484, nn484⟩, -, X484, ⟨Lc484, hQ484, l484, y484, z484⟩, st484⟩ := X475.specialBack hx (y := (⟨"tersegraph/Forest", "<init>", "(I)V"⟩ : MethodName)) rfl hown (mvT hZ (hw _ (List.mem_of_getElem? (i := 3) rfl))) (mvT hZ (hw _ (List.mem_of_getElem? (i := 4) rfl))) (mvT hZ (hw _ (List.mem_of_getElem? (i := 5) rfl))) (by decide) (backOf (W := 1) (rm1 l Z a0 hw [] b475 h475 n0 Z478 A475 F480 gb476) hZ (hw _ (List.mem_of_getElem? (i := 5) rfl)) (hw _ (List.mem_of_getElem? (i := 2) rfl)) (by decide) (by decide)) (g := (mkF m 5 #[.val (.int x0), .val (.int x1), .val (.int x2), .val (.int x3), .unset, .unset, .unset, .unset, .unset, .unset, .unset, .unset, .unset, .unset] [(.int (4 : Int32)), (.ref b475), (.ref b475)])) rfl (by rw [hml]; rfl) (Steps.refl _) (a := b475) (argsL := [(.int (4 : Int32))]) (rest := [(.ref b475)]) (lenOf own_pd2 rfl) rfl (by show 2 * 0 + _ ≤ _; exact Nat.le_of_eq rfl) (hb hby at_5) (fun _ _ => ⟨rfl, e475, (by decide : 1 + 1 ≤ _), (by decide : 1 + 4 ≤ _)⟩)
  dsimp only [Pt.U, Pt.locs, Pt.cells, Pt.slots] at X484 l484 y484 z484 st484 hQ484
  subst l484 y484 z484
  obtain ⟨pa_484, f_484, rfl, Sp484, Nq484, Kc484, Pc484_0, Pc484_1, Pc484_2, Pc484_3⟩ := hQ484
  have N485 := Fr.app N0 Nq484
  obtain ⟨h484, e484⟩ : ∃ z, z = T484.heap := ⟨_, rfl⟩
  rw [← e484] at Kc484 Pc484_1 Pc484_2 Pc484_3
  have ne486 : b475 ≠ pa_484 := Nat.ne_of_lt (Nat.lt_of_lt_of_le A475.lt Pc484_0)
  have sb487 : h0.size ≤ pa_484 := Nat.le_trans Kp479.1 Pc484_0
  have gb488 : n0 ≤ pa_484 := Nat.le_trans Z478 Pc484_0
  have F489 := A475.keep Kc484
  have Kp490 : Keep h0 h484 [] := Keep.trans Kp479 Kc484 (allS (Or.inr sb477) all0)
  have Z491 : n0 ≤ h484.size := Nat.le_trans Z478 Kc484.1
  have K492 : ∀ t, Steps p.tables e below (T484.setTop (mkF m 8 #[.val (.int x0), .val (.int x1), .val (.int x2), .val (.int x3), .unset, .unset, .unset, .unset, .unset, .unset, .unset, .unset, .unset, .unset] [(.ref b475)])) t → Steps p.tables e below (s₁.setTop (entryFrame m #[(.int x0), (.int x1), (.int x2), (.int x3)] maxLocals)) t := fun t k => K482 t (st484.trans k)
  have K493 : ∀ t, Steps p.tables e below (T484.setTop (mkF m 11 #[.val (.int x0), .val (.int x1), .val (.int x2), .val (.int x3), .val (.ref b475), .unset, .unset, .unset, .unset, .unset, .unset, .unset, .unset, .unset] [(.int (4 : Int32))])) t → Steps p.tables e below (s₁.setTop (entryFrame m #[(.int x0), (.int x1), (.int x2), (.int x3)] maxLocals)) t := fun t k => K492 t (by
    show Steps p.tables e below (T484.setTop (mkF m 8 #[.val (.int x0), .val (.int x1), .val (.int x2), .val (.int x3), .unset, .unset, .unset, .unset, .unset, .unset, .unset, .unset, .unset, .unset] [(.ref b475)])) t
    refine XS.astore X484.here hx rfl (hb hby at_8) rfl rfl (l' := #[.val (.int x0), .val (.int x1), .val (.int x2), .val (.int x3), .val (.ref b475), .unset, .unset, .unset, .unset, .unset, .unset, .unset, .unset, .unset]) rfl ?_
    show Steps p.tables e below (T484.setTop (mkF m 10 #[.val (.int x0), .val (.int x1), .val (.int x2), .val (.int x3), .val (.ref b475), .unset, .unset, .unset, .unset, .unset, .unset, .unset, .unset, .unset] [])) t
    refine XS.iconst X484.here hx rfl (hb hby at_10) ?_
    exact k)
  obtain ⟨T494, h494, k494, X494, e494, E494, A494, st494⟩ := newP X484 hx hZ (hw _ (List.mem_of_getElem? (i := 9) rfl)) e484.symm (g := (mkF m 11 #[.val (.int x0), .val (.int x1), .val (.int x2), .val (.int x3), .val (.ref b475), .unset, .unset, .unset, .unset, .unset, .unset, .unset, .unset, .unset] [(.int (4 : Int32))])) rfl (hb hby at_11) rfl (by decide) (cap := 4) (by decide) (by decide) (by decide) (by decide)
  obtain ⟨b494, g494⟩ : ∃ z, z = h484.size := ⟨_, rfl⟩
  rw [← g494] at A494 st494
  have ne495 : b475 ≠ b494 := Nat.ne_of_lt (Nat.lt_of_lt_of_le Pc484_1.lt (Nat.le_of_eq g494.symm))
  have ne496 : pa_484 ≠ b494 := Nat.ne_of_lt (Nat.lt_of_lt_of_le Pc484_3.lt (Nat.le_of_eq g494.symm))
  have gb497 : n0 ≤ b494 := Nat.le_trans Z491 (Nat.le_of_eq g494.symm)
  have sb498 : h0.size ≤ b494 := Nat.le_trans Kp490.1 (Nat.le_of_eq g494.symm)
  have F499 := Pc484_1.ext E494
  have F500 := Pc484_2.ext E494
  have F501 := Pc484_3.ext E494
  have Z502 : n0 ≤ h494.size := Nat.le_trans Z491 E494.1
  have Kp503 : Keep h0 h494 [] := Keep.ext Kp490 E494
  have V504 : own_Arf Z h494 b494 .int (4 : Int32) (fun _ => 0) := own_Arf.new A494 (by decide) rfl
  have K505 : ∀ t, Steps p.tables e below (T494.setTop (mkF m 13 #[.val (.int x0), .val (.int x1), .val (.int x2), .val (.int x3), .val (.ref b475), .unset, .unset, .unset, .unset, .unset, .unset, .unset, .unset, .unset] [(.ref b494)])) t → Steps p.tables e below (s₁.setTop (entryFrame m #[(.int x0), (.int x1), (.int x2), (.int x3)] maxLocals)) t := fun t k => K493 t (st494 _ k)
  have K506 : ∀ t, Steps p.tables e below (T494.setTop (mkF m 19 #[.val (.int x0), .val (.int x1), .val (.int x2), .val (.int x3), .val (.ref b475), .val (.ref b494), .unset, .unset, .unset, .unset, .unset, .unset, .unset, .unset] [(.int (0 : Int32)), (.int (0 : Int32)), (.ref b494)])) t → Steps p.tables e below (s₁.setTop (entryFrame m #[(.int x0), (.int x1), (.int x2), (.int x3)] maxLocals)) t := fun t k => K505 t (by
    show Steps p.tables e below (T494.setTop (mkF m 13 #[.val (.int x0), .val (.int x1), .val (.int x2), .val (.int x3), .val (.ref b475), .unset, .unset, .unset, .unset, .unset, .unset, .unset, .unset, .unset] [(.ref b494)])) t
    refine XS.astore X494.here hx rfl (hb hby at_13) rfl rfl (l' := #[.val (.int x0), .val (.int x1), .val (.int x2), .val (.int x3), .val (.ref b475), .val (.ref b494), .unset, .unset, .unset, .unset, .unset, .unset, .unset, .unset]) rfl ?_
    show Steps p.tables e below (T494.setTop (mkF m 15 #[.val (.int x0), .val (.int x1), .val (.int x2), .val (.int x3), .val (.ref b475), .val (.ref b494), .unset, .unset, .unset, .unset, .unset, .unset, .unset, .unset] [])) t
    refine XS.aload X494.here hx rfl (hb hby at_15) rfl rfl ?_
    show Steps p.tables e below (T494.setTop (mkF m 17 #[.val (.int x0), .val (.int x1), .val (.int x2), .val (.int x3), .val (.ref b475), .val (.ref b494), .unset, .unset, .unset, .unset, .unset, .unset, .unset, .unset] [(.ref b494)])) t
    refine XS.iconst X494.here hx rfl (hb hby at_17) ?_
    show Steps p.tables e below (T494.setTop (mkF m 18 #[.val (.int x0), .val (.int x1), .val (.int x2), .val (.int x3), .val (.ref b475), .val (.ref b494), .unset, .unset, .unset, .unset, .unset, .unset, .unset, .unset] [(.int (0 : Int32)), (.ref b494)])) t
    refine XS.iconst X494.here hx rfl (hb hby at_18) ?_
    exact k)
  have q508 := (by decide : (0 : Int32).toInt = 0)
  have q509 : ¬ (0 : Int32) < 0 ∧ (0 : Int32) < (4 : Int32) := by rw [Int32.lt_iff_toInt_lt, Int32.lt_iff_toInt_lt]; have q0 : (0 : Int32).toInt = 0 := rfl; omega
  obtain ⟨cl507, Ar507, S507, N507, Hs507⟩ := id V504
  have hin507 : ¬ ((0 : Int32) < 0 ∨ cl507.slots.size ≤ ((0 : Int32)).toNatClampNeg) := inb_of S507 q509
  obtain ⟨T507, h507, X507, e507, W507, st507⟩ := stI X494 hx hZ e494 Ar507 (j := (0 : Int32)) hin507 (g := (mkF m 19 #[.val (.int x0), .val (.int x1), .val (.int x2), .val (.int x3), .val (.ref b475), .val (.ref b494), .unset, .unset, .unset, .unset, .unset, .unset, .unset, .unset] [(.int (0 : Int32)), (.int (0 : Int32)), (.ref b494)])) rfl rfl (hb hby at_19)
  obtain ⟨f511, hf511⟩ : ∃ fnew : Nat → Int32, fnew = fun i => if i = 0 then (0 : Int32) else (fun _ => 0) i := ⟨_, rfl⟩
  have V510 : own_Arf Z h507 b494 .int (4 : Int32) f511 := own_Arf.set Ar507 S507 N507 Hs507 W507 rfl hf511
  have Kp512 : Keep h0 h507 [] := Keep.wr Kp503 W507 (Or.inr sb498)
  have Z513 : n0 ≤ h507.size := Nat.le_trans Z502 (Keep.of_wr W507).1
  have N514 := Fr.snoc X507 N485 gb497
  have F515 := F499.wr W507
  have F516 := F500.other W507 (Or.inl ne495)
  have F517 := F501.other W507 ne496
  have K518 : ∀ t, Steps p.tables e below (T507.setTop (mkF m 20 #[.val (.int x0), .val (.int x1), .val (.int x2), .val (.int x3), .val (.ref b475), .val (.ref b494), .unset, .unset, .unset, .unset, .unset, .unset, .unset, .unset] [])) t → Steps p.tables e below (s₁.setTop (entryFrame m #[(.int x0), (.int x1), (.int x2), (.int x3)] maxLocals)) t := fun t k => K506 t (st507 _ k)
  have K519 : ∀ t, Steps p.tables e below (T507.setTop (mkF m 24 #[.val (.int x0), .val (.int x1), .val (.int x2), .val (.int x3), .val (.ref b475), .val (.ref b494), .unset, .unset, .unset, .unset, .unset, .unset, .unset, .unset] [(.int (1 : Int32)), (.int (1 : Int32)), (.ref b494)])) t → Steps p.tables e below (s₁.setTop (entryFrame m #[(.int x0), (.int x1), (.int x2), (.int x3)] maxLocals)) t := fun t k => K518 t (by
    show Steps p.tables e below (T507.setTop (mkF m 20 #[.val (.int x0), .val (.int x1), .val (.int x2), .val (.int x3), .val (.ref b475), .val (.ref b494), .unset, .unset, .unset, .unset, .unset, .unset, .unset, .unset] [])) t
    refine XS.aload X507.here hx rfl (hb hby at_20) rfl rfl ?_
    show Steps p.tables e below (T507.setTop (mkF m 22 #[.val (.int x0), .val (.int x1), .val (.int x2), .val (.int x3), .val (.ref b475), .val (.ref b494), .unset, .unset, .unset, .unset, .unset, .unset, .unset, .unset] [(.ref b494)])) t
    refine XS.iconst X507.here hx rfl (hb hby at_22) ?_
    show Steps p.tables e below (T507.setTop (mkF m 23 #[.val (.int x0), .val (.int x1), .val (.int x2), .val (.int x3), .val (.ref b475), .val (.ref b494), .unset, .unset, .unset, .unset, .unset, .unset, .unset, .unset] [(.int (1 : Int32)), (.ref b494)])) t
    refine XS.iconst X507.here hx rfl (hb hby at_23) ?_
    exact k)
  have q521 := (by decide : (1 : Int32).toInt = 1)
  have q522 : ¬ (1 : Int32) < 0 ∧ (1 : Int32) < (4 : Int32) := by rw [Int32.lt_iff_toInt_lt, Int32.lt_iff_toInt_lt]; have q0 : (0 : Int32).toInt = 0 := rfl; omega
  obtain ⟨cl520, Ar520, S520, N520, Hs520⟩ := id V510
  have hin520 : ¬ ((1 : Int32) < 0 ∨ cl520.slots.size ≤ ((1 : Int32)).toNatClampNeg) := inb_of S520 q522
  obtain ⟨T520, h520, X520, e520, W520, st520⟩ := stI X507 hx hZ e507 Ar520 (j := (1 : Int32)) hin520 (g := (mkF m 24 #[.val (.int x0), .val (.int x1), .val (.int x2), .val (.int x3), .val (.ref b475), .val (.ref b494), .unset, .unset, .unset, .unset, .unset, .unset, .unset, .unset] [(.int (1 : Int32)), (.int (1 : Int32)), (.ref b494)])) rfl rfl (hb hby at_24)
  obtain ⟨f524, hf524⟩ : ∃ fnew : Nat → Int32, fnew = fun i => if i = 1 then (1 : Int32) else f511 i := ⟨_, rfl⟩
  have V523 : own_Arf Z h520 b494 .int (4 : Int32) f524 := own_Arf.set Ar520 S520 N520 Hs520 W520 rfl hf524
  have Kp525 : Keep h0 h520 [] := Keep.wr Kp512 W520 (Or.inr sb498)
  have Z526 : n0 ≤ h520.size := Nat.le_trans Z513 (Keep.of_wr W520).1
  have N527 := Fr.snoc X520 N514 gb497
  have F528 := F515.wr W520
  have F529 := F516.other W520 (Or.inl ne495)
  have F530 := F517.other W520 ne496
  have K531 : ∀ t, Steps p.tables e below (T520.setTop (mkF m 25 #[.val (.int x0), .val (.int x1), .val (.int x2), .val (.int x3), .val (.ref b475), .val (.ref b494), .unset, .unset, .unset, .unset, .unset, .unset, .unset, .unset] [])) t → Steps p.tables e below (s₁.setTop (entryFrame m #[(.int x0), (.int x1), (.int x2), (.int x3)] maxLocals)) t := fun t k => K519 t (st520 _ k)
  have K532 : ∀ t, Steps p.tables e below (T520.setTop (mkF m 29 #[.val (.int x0), .val (.int x1), .val (.int x2), .val (.int x3), .val (.ref b475), .val (.ref b494), .unset, .unset, .unset, .unset, .unset, .unset, .unset, .unset] [(.int (2 : Int32)), (.int (2 : Int32)), (.ref b494)])) t → Steps p.tables e below (s₁.setTop (entryFrame m #[(.int x0), (.int x1), (.int x2), (.int x3)] maxLocals)) t := fun t k => K531 t (by
    show Steps p.tables e below (T520.setTop (mkF m 25 #[.val (.int x0), .val (.int x1), .val (.int x2), .val (.int x3), .val (.ref b475), .val (.ref b494), .unset, .unset, .unset, .unset, .unset, .unset, .unset, .unset] [])) t
    refine XS.aload X520.here hx rfl (hb hby at_25) rfl rfl ?_
    show Steps p.tables e below (T520.setTop (mkF m 27 #[.val (.int x0), .val (.int x1), .val (.int x2), .val (.int x3), .val (.ref b475), .val (.ref b494), .unset, .unset, .unset, .unset, .unset, .unset, .unset, .unset] [(.ref b494)])) t
    refine XS.iconst X520.here hx rfl (hb hby at_27) ?_
    show Steps p.tables e below (T520.setTop (mkF m 28 #[.val (.int x0), .val (.int x1), .val (.int x2), .val (.int x3), .val (.ref b475), .val (.ref b494), .unset, .unset, .unset, .unset, .unset, .unset, .unset, .unset] [(.int (2 : Int32)), (.ref b494)])) t
    refine XS.iconst X520.here hx rfl (hb hby at_28) ?_
    exact k)
  have q534 := (by decide : (2 : Int32).toInt = 2)
  have q535 : ¬ (2 : Int32) < 0 ∧ (2 : Int32) < (4 : Int32) := by rw [Int32.lt_iff_toInt_lt, Int32.lt_iff_toInt_lt]; have q0 : (0 : Int32).toInt = 0 := rfl; omega
  obtain ⟨cl533, Ar533, S533, N533, Hs533⟩ := id V523
  have hin533 : ¬ ((2 : Int32) < 0 ∨ cl533.slots.size ≤ ((2 : Int32)).toNatClampNeg) := inb_of S533 q535
  obtain ⟨T533, h533, X533, e533, W533, st533⟩ := stI X520 hx hZ e520 Ar533 (j := (2 : Int32)) hin533 (g := (mkF m 29 #[.val (.int x0), .val (.int x1), .val (.int x2), .val (.int x3), .val (.ref b475), .val (.ref b494), .unset, .unset, .unset, .unset, .unset, .unset, .unset, .unset] [(.int (2 : Int32)), (.int (2 : Int32)), (.ref b494)])) rfl rfl (hb hby at_29)
  obtain ⟨f537, hf537⟩ : ∃ fnew : Nat → Int32, fnew = fun i => if i = 2 then (2 : Int32) else f524 i := ⟨_, rfl⟩
  have V536 : own_Arf Z h533 b494 .int (4 : Int32) f537 := own_Arf.set Ar533 S533 N533 Hs533 W533 rfl hf537
  have Kp538 : Keep h0 h533 [] := Keep.wr Kp525 W533 (Or.inr sb498)
  have Z539 : n0 ≤ h533.size := Nat.le_trans Z526 (Keep.of_wr W533).1
  have N540 := Fr.snoc X533 N527 gb497
  have F541 := F528.wr W533
  have F542 := F529.other W533 (Or.inl ne495)
  have F543 := F530.other W533 ne496
  have K544 : ∀ t, Steps p.tables e below (T533.setTop (mkF m 30 #[.val (.int x0), .val (.int x1), .val (.int x2), .val (.int x3), .val (.ref b475), .val (.ref b494), .unset, .unset, .unset, .unset, .unset, .unset, .unset, .unset] [])) t → Steps p.tables e below (s₁.setTop (entryFrame m #[(.int x0), (.int x1), (.int x2), (.int x3)] maxLocals)) t := fun t k => K532 t (st533 _ k)
  have K545 : ∀ t, Steps p.tables e below (T533.setTop (mkF m 34 #[.val (.int x0), .val (.int x1), .val (.int x2), .val (.int x3), .val (.ref b475), .val (.ref b494), .unset, .unset, .unset, .unset, .unset, .unset, .unset, .unset] [(.int (3 : Int32)), (.int (3 : Int32)), (.ref b494)])) t → Steps p.tables e below (s₁.setTop (entryFrame m #[(.int x0), (.int x1), (.int x2), (.int x3)] maxLocals)) t := fun t k => K544 t (by
    show Steps p.tables e below (T533.setTop (mkF m 30 #[.val (.int x0), .val (.int x1), .val (.int x2), .val (.int x3), .val (.ref b475), .val (.ref b494), .unset, .unset, .unset, .unset, .unset, .unset, .unset, .unset] [])) t
    refine XS.aload X533.here hx rfl (hb hby at_30) rfl rfl ?_
    show Steps p.tables e below (T533.setTop (mkF m 32 #[.val (.int x0), .val (.int x1), .val (.int x2), .val (.int x3), .val (.ref b475), .val (.ref b494), .unset, .unset, .unset, .unset, .unset, .unset, .unset, .unset] [(.ref b494)])) t
    refine XS.iconst X533.here hx rfl (hb hby at_32) ?_
    show Steps p.tables e below (T533.setTop (mkF m 33 #[.val (.int x0), .val (.int x1), .val (.int x2), .val (.int x3), .val (.ref b475), .val (.ref b494), .unset, .unset, .unset, .unset, .unset, .unset, .unset, .unset] [(.int (3 : Int32)), (.ref b494)])) t
    refine XS.iconst X533.here hx rfl (hb hby at_33) ?_
    exact k)
  have q547 := (by decide : (3 : Int32).toInt = 3)
  have q548 : ¬ (3 : Int32) < 0 ∧ (3 : Int32) < (4 : Int32) := by rw [Int32.lt_iff_toInt_lt, Int32.lt_iff_toInt_lt]; have q0 : (0 : Int32).toInt = 0 := rfl; omega
  obtain ⟨cl546, Ar546, S546, N546, Hs546⟩ := id V536
  have hin546 : ¬ ((3 : Int32) < 0 ∨ cl546.slots.size ≤ ((3 : Int32)).toNatClampNeg) := inb_of S546 q548
  obtain ⟨T546, h546, X546, e546, W546, st546⟩ := stI X533 hx hZ e533 Ar546 (j := (3 : Int32)) hin546 (g := (mkF m 34 #[.val (.int x0), .val (.int x1), .val (.int x2), .val (.int x3), .val (.ref b475), .val (.ref b494), .unset, .unset, .unset, .unset, .unset, .unset, .unset, .unset] [(.int (3 : Int32)), (.int (3 : Int32)), (.ref b494)])) rfl rfl (hb hby at_34)
  obtain ⟨f550, hf550⟩ : ∃ fnew : Nat → Int32, fnew = fun i => if i = 3 then (3 : Int32) else f537 i := ⟨_, rfl⟩
  have V549 : own_Arf Z h546 b494 .int (4 : Int32) f550 := own_Arf.set Ar546 S546 N546 Hs546 W546 rfl hf550
  have Kp551 : Keep h0 h546 [] := Keep.wr Kp538 W546 (Or.inr sb498)
  have Z552 : n0 ≤ h546.size := Nat.le_trans Z539 (Keep.of_wr W546).1
  have N553 := Fr.snoc X546 N540 gb497
  have F554 := F541.wr W546
  have F555 := F542.other W546 (Or.inl ne495)
  have F556 := F543.other W546 ne496
  have K557 : ∀ t, Steps p.tables e below (T546.setTop (mkF m 35 #[.val (.int x0), .val (.int x1), .val (.int x2), .val (.int x3), .val (.ref b475), .val (.ref b494), .unset, .unset, .unset, .unset, .unset, .unset, .unset, .unset] [])) t → Steps p.tables e below (s₁.setTop (entryFrame m #[(.int x0), (.int x1), (.int x2), (.int x3)] maxLocals)) t := fun t k => K545 t (st546 _ k)
  have hg0 : ∀ i : Nat, i < 4 → (f550 i).toInt = (i : Int) := fun i hi => by
    match i, hi with
    | 0, _ => simp [hf511, hf524, hf537, hf550]
    | 1, _ => simp [hf511, hf524, hf537, hf550]
    | 2, _ => simp [hf511, hf524, hf537, hf550]
    | 3, _ => simp [hf511, hf524, hf537, hf550]
  have hgood := own_start Sp484 hg0
  have K558 : ∀ t, Steps p.tables e below (T546.setTop (mkF m 40 #[.val (.int x0), .val (.int x1), .val (.int x2), .val (.int x3), .val (.ref b475), .val (.ref b494), .unset, .unset, .unset, .unset, .unset, .unset, .unset, .unset] [(.int x0), (.ref b494), (.ref b475)])) t → Steps p.tables e below (s₁.setTop (entryFrame m #[(.int x0), (.int x1), (.int x2), (.int x3)] maxLocals)) t := fun t k => K557 t (by
    show Steps p.tables e below (T546.setTop (mkF m 35 #[.val (.int x0), .val (.int x1), .val (.int x2), .val (.int x3), .val (.ref b475), .val (.ref b494), .unset, .unset, .unset, .unset, .unset, .unset, .unset, .unset] [])) t
    refine XS.aload X546.here hx rfl (hb hby at_35) rfl rfl ?_
    show Steps p.tables e below (T546.setTop (mkF m 37 #[.val (.int x0), .val (.int x1), .val (.int x2), .val (.int x3), .val (.ref b475), .val (.ref b494), .unset, .unset, .unset, .unset, .unset, .unset, .unset, .unset] [(.ref b475)])) t
    refine XS.aload X546.here hx rfl (hb hby at_37) rfl rfl ?_
    show Steps p.tables e below (T546.setTop (mkF m 39 #[.val (.int x0), .val (.int x1), .val (.int x2), .val (.int x3), .val (.ref b475), .val (.ref b494), .unset, .unset, .unset, .unset, .unset, .unset, .unset, .unset] [(.ref b494), (.ref b475)])) t
    refine XS.iloadN X546.here hx rfl (hb hby at_39) rfl ?_
    exact k)
  have q559 := rng32 x0
  obtain ⟨_, _, ⟨T560, L560, kk560, nn560⟩, -, X560, ⟨Lc560, hQ560, l560, y560, z560⟩, st560⟩ := Jvm.LawKit.callS X546 hx (y := (⟨"tersegraph/ForestRootPinLaw", "join", "(Ltersegraph/Forest;[II)V"⟩ : MethodName)) hown (mvT hZ (hw _ (List.mem_of_getElem? (i := 12) rfl))) (mvT hZ (hw _ (List.mem_of_getElem? (i := 13) rfl))) (mvT hZ (hw _ (List.mem_of_getElem? (i := 14) rfl))) (mvT hZ (hw _ (List.mem_of_getElem? (i := 15) rfl))) (by decide) (backOf (W := 0) (rm3 l Z a0 hw [] b475 b494 x0 pa_484 f_484 f550 (fun _ => 0) h546 n0 Z552 F554 F555 F556 V549 gb488 gb497 ne486 ne495 ne496 hgood) hZ (hw _ (List.mem_of_getElem? (i := 15) rfl)) (hw _ (List.mem_of_getElem? (i := 14) rfl)) (by decide) (by decide)) (g := (mkF m 40 #[.val (.int x0), .val (.int x1), .val (.int x2), .val (.int x3), .val (.ref b475), .val (.ref b494), .unset, .unset, .unset, .unset, .unset, .unset, .unset, .unset] [(.int x0), (.ref b494), (.ref b475)])) rfl (by rw [hml]; rfl) (argsL := [(.ref b475), (.ref b494), (.int x0)]) (rest := []) (lenOf own_pd3 rfl) rfl (by show 2 * 0 + _ ≤ _; exact Nat.le_of_eq rfl) (hb hby at_40) (fun _ _ => ⟨rfl, e546, (by decide : 3 + 0 ≤ _), (by decide : 9 + 0 ≤ _)⟩)
  dsimp only [Pt.U, Pt.locs, Pt.cells, Pt.slots] at X560 l560 y560 z560 st560 hQ560
  subst l560 y560 z560
  obtain ⟨f'_560, g'_560, D'_560, rfl, Sp560, Nq560, Kc560, Pc560_0, Pc560_1⟩ := hQ560
  have N561 := Fr.app N553 Nq560
  obtain ⟨h560, e560⟩ : ∃ z, z = T560.heap := ⟨_, rfl⟩
  rw [← e560] at Kc560 Pc560_0 Pc560_1
  have F562 := F554.keep Kc560
  have F563 := F555.keep Kc560 (ninS ne486 (ninS ne495 nin0))
  have Kp564 : Keep h0 h560 [] := Keep.trans Kp551 Kc560 (allS (Or.inr sb487) (allS (Or.inr sb498) all0))
  have Z565 : n0 ≤ h560.size := Nat.le_trans Z552 Kc560.1
  have K566 : ∀ t, Steps p.tables e below (T560.setTop (mkF m 43 #[.val (.int x0), .val (.int x1), .val (.int x2), .val (.int x3), .val (.ref b475), .val (.ref b494), .unset, .unset, .unset, .unset, .unset, .unset, .unset, .unset] [])) t → Steps p.tables e below (s₁.setTop (entryFrame m #[(.int x0), (.int x1), (.int x2), (.int x3)] maxLocals)) t := fun t k => K558 t (st560 _ k)
  have K567 : ∀ t, Steps p.tables e below (T560.setTop (mkF m 48 #[.val (.int x0), .val (.int x1), .val (.int x2), .val (.int x3), .val (.ref b475), .val (.ref b494), .unset, .unset, .unset, .unset, .unset, .unset, .unset, .unset] [(.int x1), (.ref b494), (.ref b475)])) t → Steps p.tables e below (s₁.setTop (entryFrame m #[(.int x0), (.int x1), (.int x2), (.int x3)] maxLocals)) t := fun t k => K566 t (by
    show Steps p.tables e below (T560.setTop (mkF m 43 #[.val (.int x0), .val (.int x1), .val (.int x2), .val (.int x3), .val (.ref b475), .val (.ref b494), .unset, .unset, .unset, .unset, .unset, .unset, .unset, .unset] [])) t
    refine XS.aload X560.here hx rfl (hb hby at_43) rfl rfl ?_
    show Steps p.tables e below (T560.setTop (mkF m 45 #[.val (.int x0), .val (.int x1), .val (.int x2), .val (.int x3), .val (.ref b475), .val (.ref b494), .unset, .unset, .unset, .unset, .unset, .unset, .unset, .unset] [(.ref b475)])) t
    refine XS.aload X560.here hx rfl (hb hby at_45) rfl rfl ?_
    show Steps p.tables e below (T560.setTop (mkF m 47 #[.val (.int x0), .val (.int x1), .val (.int x2), .val (.int x3), .val (.ref b475), .val (.ref b494), .unset, .unset, .unset, .unset, .unset, .unset, .unset, .unset] [(.ref b494), (.ref b475)])) t
    refine XS.iloadN X560.here hx rfl (hb hby at_47) rfl ?_
    exact k)
  have q568 := rng32 x1
  obtain ⟨_, _, ⟨T569, L569, kk569, nn569⟩, -, X569, ⟨Lc569, hQ569, l569, y569, z569⟩, st569⟩ := Jvm.LawKit.callS X560 hx (y := (⟨"tersegraph/ForestRootPinLaw", "join", "(Ltersegraph/Forest;[II)V"⟩ : MethodName)) hown (mvT hZ (hw _ (List.mem_of_getElem? (i := 12) rfl))) (mvT hZ (hw _ (List.mem_of_getElem? (i := 13) rfl))) (mvT hZ (hw _ (List.mem_of_getElem? (i := 14) rfl))) (mvT hZ (hw _ (List.mem_of_getElem? (i := 15) rfl))) (by decide) (backOf (W := 0) (rm3 l Z a0 hw [] b475 b494 x1 pa_484 f'_560 g'_560 D'_560 h560 n0 Z565 F562 F563 Pc560_0 Pc560_1 gb488 gb497 ne486 ne495 ne496 Sp560) hZ (hw _ (List.mem_of_getElem? (i := 15) rfl)) (hw _ (List.mem_of_getElem? (i := 14) rfl)) (by decide) (by decide)) (g := (mkF m 48 #[.val (.int x0), .val (.int x1), .val (.int x2), .val (.int x3), .val (.ref b475), .val (.ref b494), .unset, .unset, .unset, .unset, .unset, .unset, .unset, .unset] [(.int x1), (.ref b494), (.ref b475)])) rfl (by rw [hml]; rfl) (argsL := [(.ref b475), (.ref b494), (.int x1)]) (rest := []) (lenOf own_pd3 rfl) rfl (by show 2 * 0 + _ ≤ _; exact Nat.le_of_eq rfl) (hb hby at_48) (fun _ _ => ⟨rfl, e560.symm, (by decide : 3 + 0 ≤ _), (by decide : 9 + 0 ≤ _)⟩)
  dsimp only [Pt.U, Pt.locs, Pt.cells, Pt.slots] at X569 l569 y569 z569 st569 hQ569
  subst l569 y569 z569
  obtain ⟨f'_569, g'_569, D'_569, rfl, Sp569, Nq569, Kc569, Pc569_0, Pc569_1⟩ := hQ569
  have N570 := Fr.app N561 Nq569
  obtain ⟨h569, e569⟩ : ∃ z, z = T569.heap := ⟨_, rfl⟩
  rw [← e569] at Kc569 Pc569_0 Pc569_1
  have F571 := F562.keep Kc569
  have F572 := F563.keep Kc569 (ninS ne486 (ninS ne495 nin0))
  have Kp573 : Keep h0 h569 [] := Keep.trans Kp564 Kc569 (allS (Or.inr sb487) (allS (Or.inr sb498) all0))
  have Z574 : n0 ≤ h569.size := Nat.le_trans Z565 Kc569.1
  have K575 : ∀ t, Steps p.tables e below (T569.setTop (mkF m 51 #[.val (.int x0), .val (.int x1), .val (.int x2), .val (.int x3), .val (.ref b475), .val (.ref b494), .unset, .unset, .unset, .unset, .unset, .unset, .unset, .unset] [])) t → Steps p.tables e below (s₁.setTop (entryFrame m #[(.int x0), (.int x1), (.int x2), (.int x3)] maxLocals)) t := fun t k => K567 t (st569 _ k)
  have K576 : ∀ t, Steps p.tables e below (T569.setTop (mkF m 60 #[.val (.int x0), .val (.int x1), .val (.int x2), .val (.int x3), .val (.ref b475), .val (.ref b494), .val (.int (x3 &&& (3 : Int32))), .unset, .unset, .unset, .unset, .unset, .unset, .unset] [(.int (x3 &&& (3 : Int32))), (.ref b475)])) t → Steps p.tables e below (s₁.setTop (entryFrame m #[(.int x0), (.int x1), (.int x2), (.int x3)] maxLocals)) t := fun t k => K575 t (by
    show Steps p.tables e below (T569.setTop (mkF m 51 #[.val (.int x0), .val (.int x1), .val (.int x2), .val (.int x3), .val (.ref b475), .val (.ref b494), .unset, .unset, .unset, .unset, .unset, .unset, .unset, .unset] [])) t
    refine XS.iloadN X569.here hx rfl (hb hby at_51) rfl ?_
    show Steps p.tables e below (T569.setTop (mkF m 52 #[.val (.int x0), .val (.int x1), .val (.int x2), .val (.int x3), .val (.ref b475), .val (.ref b494), .unset, .unset, .unset, .unset, .unset, .unset, .unset, .unset] [(.int x3)])) t
    refine XS.iconst X569.here hx rfl (hb hby at_52) ?_
    show Steps p.tables e below (T569.setTop (mkF m 53 #[.val (.int x0), .val (.int x1), .val (.int x2), .val (.int x3), .val (.ref b475), .val (.ref b494), .unset, .unset, .unset, .unset, .unset, .unset, .unset, .unset] [(.int (3 : Int32)), (.int x3)])) t
    refine XS.iand X569.here hx rfl (hb hby at_53) rfl ?_
    show Steps p.tables e below (T569.setTop (mkF m 54 #[.val (.int x0), .val (.int x1), .val (.int x2), .val (.int x3), .val (.ref b475), .val (.ref b494), .unset, .unset, .unset, .unset, .unset, .unset, .unset, .unset] [(.int (x3 &&& (3 : Int32)))])) t
    refine XS.istore X569.here hx rfl (hb hby at_54) rfl (l' := #[.val (.int x0), .val (.int x1), .val (.int x2), .val (.int x3), .val (.ref b475), .val (.ref b494), .val (.int (x3 &&& (3 : Int32))), .unset, .unset, .unset, .unset, .unset, .unset, .unset]) rfl ?_
    show Steps p.tables e below (T569.setTop (mkF m 56 #[.val (.int x0), .val (.int x1), .val (.int x2), .val (.int x3), .val (.ref b475), .val (.ref b494), .val (.int (x3 &&& (3 : Int32))), .unset, .unset, .unset, .unset, .unset, .unset, .unset] [])) t
    refine XS.aload X569.here hx rfl (hb hby at_56) rfl rfl ?_
    show Steps p.tables e below (T569.setTop (mkF m 58 #[.val (.int x0), .val (.int x1), .val (.int x2), .val (.int x3), .val (.ref b475), .val (.ref b494), .val (.int (x3 &&& (3 : Int32))), .unset, .unset, .unset, .unset, .unset, .unset, .unset] [(.ref b475)])) t
    refine XS.iload X569.here hx rfl (hb hby at_58) rfl ?_
    exact k)
  have q577 := rng32 x3
  have q578 := (show (x3 &&& (3 : Int32)).toInt = x3.toInt % 4 from c_mask x3 (3 : Int32) 2 (by decide) (by decide))
  have q579 := rng32 (x3 &&& (3 : Int32))
  have q580 : 0 ≤ (x3 &&& (3 : Int32)).toInt ∧ (x3 &&& (3 : Int32)).toInt < 4 := by omega
  obtain ⟨cq581, kq581, q581a, q581b, q581c⟩ := isOf hZ e569.symm F571
  obtain ⟨_, _, ⟨T581, L581, kk581, nn581⟩, -, X581, ⟨Lc581, hQ581, l581, y581, z581⟩, st581⟩ := X569.virtualBack hx (y := (⟨"tersegraph/Forest", "root", "(I)I"⟩ : MethodName)) (z := (⟨"tersegraph/Forest", "root", "(I)I"⟩ : MethodName)) hown (mvT hZ (hw _ (List.mem_of_getElem? (i := 24) rfl))) (mvT hZ (hw _ (List.mem_of_getElem? (i := 25) rfl))) (notFace_of_selects (args := #[]) (mvT hZ (hw _ (List.mem_of_getElem? (i := 27) rfl)))) (mvT hZ (hw _ (List.mem_of_getElem? (i := 27) rfl))) (mvT hZ (hw _ (List.mem_of_getElem? (i := 26) rfl))) (by decide) (backOf (W := 0) (rm6 l Z a0 hw [] b475 (x3 &&& (3 : Int32)) pa_484 f'_569 g'_569 D'_569 h569 n0 Z574 F572 Pc569_0 gb488 ne486 Sp569 q580) hZ (hw _ (List.mem_of_getElem? (i := 28) rfl)) (hw _ (List.mem_of_getElem? (i := 2) rfl)) (by decide) (by decide)) q581a q581c (g := (mkF m 60 #[.val (.int x0), .val (.int x1), .val (.int x2), .val (.int x3), .val (.ref b475), .val (.ref b494), .val (.int (x3 &&& (3 : Int32))), .unset, .unset, .unset, .unset, .unset, .unset, .unset] [(.int (x3 &&& (3 : Int32))), (.ref b475)])) rfl (by rw [hml]; rfl) (Steps.refl _) (argsL := [(.int (x3 &&& (3 : Int32)))]) (rest := []) (lenOf own_pd4 rfl) rfl (by show 2 * 0 + _ ≤ _; exact Nat.le_of_eq rfl) (hb hby at_60) (fun _ _ => ⟨rfl, e569.symm, (by decide : 3 + 0 ≤ _), (by decide : 9 + 0 ≤ _)⟩)
  dsimp only [Pt.U, Pt.locs, Pt.cells, Pt.slots] at X581 l581 y581 z581 st581 hQ581
  subst l581 y581 z581
  obtain ⟨r_581, f'_581, rfl, Sp581, Nq581, Kc581, Pc581_0⟩ := hQ581
  have N582 := Fr.app N570 Nq581
  obtain ⟨h581, e581⟩ : ∃ z, z = T581.heap := ⟨_, rfl⟩
  rw [← e581] at Kc581 Pc581_0
  have F583 := F571.keep Kc581
  have F584 := F572.keep Kc581 (ninS ne486 nin0)
  have F585 := Pc569_1.keep Kc581 (ninS (Ne.symm ne496) nin0)
  have Kp586 : Keep h0 h581 [] := Keep.trans Kp573 Kc581 (allS (Or.inr sb487) all0)
  have Z587 : n0 ≤ h581.size := Nat.le_trans Z574 Kc581.1
  have K588 : ∀ t, Steps p.tables e below (T581.setTop (mkF m 63 #[.val (.int x0), .val (.int x1), .val (.int x2), .val (.int x3), .val (.ref b475), .val (.ref b494), .val (.int (x3 &&& (3 : Int32))), .unset, .unset, .unset, .unset, .unset, .unset, .unset] [(.int r_581)])) t → Steps p.tables e below (s₁.setTop (entryFrame m #[(.int x0), (.int x1), (.int x2), (.int x3)] maxLocals)) t := fun t k => K576 t (st581.trans k)
  have q590 : ¬ (x3 &&& (3 : Int32)) < 0 ∧ (x3 &&& (3 : Int32)) < (4 : Int32) := by rw [Int32.lt_iff_toInt_lt, Int32.lt_iff_toInt_lt]; have q0 : (0 : Int32).toInt = 0 := rfl; omega
  obtain ⟨cl589, Ar589, S589, N589, Hs589⟩ := id F585
  have hin589 : ¬ ((x3 &&& (3 : Int32)) < 0 ∨ cl589.slots.size ≤ ((x3 &&& (3 : Int32))).toNatClampNeg) := inb_of S589 q590
  have hat589 : cl589.slots[((x3 &&& (3 : Int32))).toNatClampNeg]? = some (.int (g'_569 (x3 &&& (3 : Int32)).toNatClampNeg)) := own_at Hs589 S589 hin589 (rfl)
  have q592 := rng32 r_581
  have q593 := rng32 (g'_569 (x3 &&& (3 : Int32)).toNatClampNeg)
  have hc591 : r_581 = (g'_569 (x3 &&& (3 : Int32)).toNatClampNeg) := Int32.toInt_inj.mp (by omega)
  have q594 : r_581.toInt = (g'_569 (x3 &&& (3 : Int32)).toNatClampNeg).toInt := congrArg Int32.toInt hc591
  have K595 : ∀ t, Steps p.tables e below (T581.setTop (mkF m 83 #[.val (.int x0), .val (.int x1), .val (.int x2), .val (.int x3), .val (.ref b475), .val (.ref b494), .val (.int (x3 &&& (3 : Int32))), .val (.int (1 : Int32)), .unset, .unset, .unset, .unset, .unset, .unset] [(.int x2), (.ref b494), (.ref b475)])) t → Steps p.tables e below (s₁.setTop (entryFrame m #[(.int x0), (.int x1), (.int x2), (.int x3)] maxLocals)) t := fun t k => K588 t (by
    show Steps p.tables e below (T581.setTop (mkF m 63 #[.val (.int x0), .val (.int x1), .val (.int x2), .val (.int x3), .val (.ref b475), .val (.ref b494), .val (.int (x3 &&& (3 : Int32))), .unset, .unset, .unset, .unset, .unset, .unset, .unset] [(.int r_581)])) t
    refine XS.aload X581.here hx rfl (hb hby at_63) rfl rfl ?_
    show Steps p.tables e below (T581.setTop (mkF m 65 #[.val (.int x0), .val (.int x1), .val (.int x2), .val (.int x3), .val (.ref b475), .val (.ref b494), .val (.int (x3 &&& (3 : Int32))), .unset, .unset, .unset, .unset, .unset, .unset, .unset] [(.ref b494), (.int r_581)])) t
    refine XS.iload X581.here hx rfl (hb hby at_65) rfl ?_
    show Steps p.tables e below (T581.setTop (mkF m 67 #[.val (.int x0), .val (.int x1), .val (.int x2), .val (.int x3), .val (.ref b475), .val (.ref b494), .val (.int (x3 &&& (3 : Int32))), .unset, .unset, .unset, .unset, .unset, .unset, .unset] [(.int (x3 &&& (3 : Int32))), (.ref b494), (.int r_581)])) t
    refine X581.iaload hx (j := (x3 &&& (3 : Int32))) (v := (.int (g'_569 (x3 &&& (3 : Int32)).toNatClampNeg))) (by rw [e581.symm]; exact Ar589.1) (State.isArrayOf_alike hZ.alike Ar589.2.1) Ar589.2.2 hin589 hat589 (g := (mkF m 67 #[.val (.int x0), .val (.int x1), .val (.int x2), .val (.int x3), .val (.ref b475), .val (.ref b494), .val (.int (x3 &&& (3 : Int32))), .unset, .unset, .unset, .unset, .unset, .unset, .unset] [(.int (x3 &&& (3 : Int32))), (.ref b494), (.int r_581)])) rfl rfl (hb hby at_67) _ ?_
    show Steps p.tables e below (T581.setTop (mkF m 68 #[.val (.int x0), .val (.int x1), .val (.int x2), .val (.int x3), .val (.ref b475), .val (.ref b494), .val (.int (x3 &&& (3 : Int32))), .unset, .unset, .unset, .unset, .unset, .unset, .unset] [(.int (g'_569 (x3 &&& (3 : Int32)).toNatClampNeg)), (.int r_581)])) t
    refine XS.icmpNo X581.here hx rfl (hb hby at_68) rfl (teq hc591).2 ?_
    show Steps p.tables e below (T581.setTop (mkF m 71 #[.val (.int x0), .val (.int x1), .val (.int x2), .val (.int x3), .val (.ref b475), .val (.ref b494), .val (.int (x3 &&& (3 : Int32))), .unset, .unset, .unset, .unset, .unset, .unset, .unset] [])) t
    refine XS.iconst X581.here hx rfl (hb hby at_71) ?_
    show Steps p.tables e below (T581.setTop (mkF m 72 #[.val (.int x0), .val (.int x1), .val (.int x2), .val (.int x3), .val (.ref b475), .val (.ref b494), .val (.int (x3 &&& (3 : Int32))), .unset, .unset, .unset, .unset, .unset, .unset, .unset] [(.int (1 : Int32))])) t
    refine XS.goto X581.here hx rfl (pc0 := 72) (pc' := 76) rfl (hb hby at_72) (by decide) (by decide) ?_
    show Steps p.tables e below (T581.setTop (mkF m 76 #[.val (.int x0), .val (.int x1), .val (.int x2), .val (.int x3), .val (.ref b475), .val (.ref b494), .val (.int (x3 &&& (3 : Int32))), .unset, .unset, .unset, .unset, .unset, .unset, .unset] [(.int (1 : Int32))])) t
    refine XS.istore X581.here hx rfl (hb hby at_76) rfl (l' := #[.val (.int x0), .val (.int x1), .val (.int x2), .val (.int x3), .val (.ref b475), .val (.ref b494), .val (.int (x3 &&& (3 : Int32))), .val (.int (1 : Int32)), .unset, .unset, .unset, .unset, .unset, .unset]) rfl ?_
    show Steps p.tables e below (T581.setTop (mkF m 78 #[.val (.int x0), .val (.int x1), .val (.int x2), .val (.int x3), .val (.ref b475), .val (.ref b494), .val (.int (x3 &&& (3 : Int32))), .val (.int (1 : Int32)), .unset, .unset, .unset, .unset, .unset, .unset] [])) t
    refine XS.aload X581.here hx rfl (hb hby at_78) rfl rfl ?_
    show Steps p.tables e below (T581.setTop (mkF m 80 #[.val (.int x0), .val (.int x1), .val (.int x2), .val (.int x3), .val (.ref b475), .val (.ref b494), .val (.int (x3 &&& (3 : Int32))), .val (.int (1 : Int32)), .unset, .unset, .unset, .unset, .unset, .unset] [(.ref b475)])) t
    refine XS.aload X581.here hx rfl (hb hby at_80) rfl rfl ?_
    show Steps p.tables e below (T581.setTop (mkF m 82 #[.val (.int x0), .val (.int x1), .val (.int x2), .val (.int x3), .val (.ref b475), .val (.ref b494), .val (.int (x3 &&& (3 : Int32))), .val (.int (1 : Int32)), .unset, .unset, .unset, .unset, .unset, .unset] [(.ref b494), (.ref b475)])) t
    refine XS.iloadN X581.here hx rfl (hb hby at_82) rfl ?_
    exact k)
  have q596 := rng32 x2
  obtain ⟨_, _, ⟨T597, L597, kk597, nn597⟩, -, X597, ⟨Lc597, hQ597, l597, y597, z597⟩, st597⟩ := Jvm.LawKit.callS X581 hx (y := (⟨"tersegraph/ForestRootPinLaw", "join", "(Ltersegraph/Forest;[II)V"⟩ : MethodName)) hown (mvT hZ (hw _ (List.mem_of_getElem? (i := 12) rfl))) (mvT hZ (hw _ (List.mem_of_getElem? (i := 13) rfl))) (mvT hZ (hw _ (List.mem_of_getElem? (i := 14) rfl))) (mvT hZ (hw _ (List.mem_of_getElem? (i := 15) rfl))) (by decide) (backOf (W := 0) (rm3 l Z a0 hw [] b475 b494 x2 pa_484 f'_581 g'_569 D'_569 h581 n0 Z587 F583 F584 Pc581_0 F585 gb488 gb497 ne486 ne495 ne496 Sp581.2) hZ (hw _ (List.mem_of_getElem? (i := 15) rfl)) (hw _ (List.mem_of_getElem? (i := 14) rfl)) (by decide) (by decide)) (g := (mkF m 83 #[.val (.int x0), .val (.int x1), .val (.int x2), .val (.int x3), .val (.ref b475), .val (.ref b494), .val (.int (x3 &&& (3 : Int32))), .val (.int (1 : Int32)), .unset, .unset, .unset, .unset, .unset, .unset] [(.int x2), (.ref b494), (.ref b475)])) rfl (by rw [hml]; rfl) (argsL := [(.ref b475), (.ref b494), (.int x2)]) (rest := []) (lenOf own_pd3 rfl) rfl (by show 2 * 0 + _ ≤ _; exact Nat.le_of_eq rfl) (hb hby at_83) (fun _ _ => ⟨rfl, e581.symm, (by decide : 3 + 0 ≤ _), (by decide : 9 + 0 ≤ _)⟩)
  dsimp only [Pt.U, Pt.locs, Pt.cells, Pt.slots] at X597 l597 y597 z597 st597 hQ597
  subst l597 y597 z597
  obtain ⟨f'_597, g'_597, D'_597, rfl, Sp597, Nq597, Kc597, Pc597_0, Pc597_1⟩ := hQ597
  have N598 := Fr.app N582 Nq597
  obtain ⟨h597, e597⟩ : ∃ z, z = T597.heap := ⟨_, rfl⟩
  rw [← e597] at Kc597 Pc597_0 Pc597_1
  have F599 := F583.keep Kc597
  have F600 := F584.keep Kc597 (ninS ne486 (ninS ne495 nin0))
  have Kp601 : Keep h0 h597 [] := Keep.trans Kp586 Kc597 (allS (Or.inr sb487) (allS (Or.inr sb498) all0))
  have Z602 : n0 ≤ h597.size := Nat.le_trans Z587 Kc597.1
  have K603 : ∀ t, Steps p.tables e below (T597.setTop (mkF m 86 #[.val (.int x0), .val (.int x1), .val (.int x2), .val (.int x3), .val (.ref b475), .val (.ref b494), .val (.int (x3 &&& (3 : Int32))), .val (.int (1 : Int32)), .unset, .unset, .unset, .unset, .unset, .unset] [])) t → Steps p.tables e below (s₁.setTop (entryFrame m #[(.int x0), (.int x1), (.int x2), (.int x3)] maxLocals)) t := fun t k => K595 t (st597 _ k)
  have K604 : ∀ t, Steps p.tables e below (T597.setTop (mkF m 97 #[.val (.int x0), .val (.int x1), .val (.int x2), .val (.int x3), .val (.ref b475), .val (.ref b494), .val (.int (x3 &&& (3 : Int32))), .val (.int (1 : Int32)), .val (.int (((x3.toUInt32 >>> ((2 : Int32) &&& 31).toUInt32).toInt32) &&& (3 : Int32))), .unset, .unset, .unset, .unset, .unset] [(.int (((x3.toUInt32 >>> ((2 : Int32) &&& 31).toUInt32).toInt32) &&& (3 : Int32))), (.ref b475)])) t → Steps p.tables e below (s₁.setTop (entryFrame m #[(.int x0), (.int x1), (.int x2), (.int x3)] maxLocals)) t := fun t k => K603 t (by
    show Steps p.tables e below (T597.setTop (mkF m 86 #[.val (.int x0), .val (.int x1), .val (.int x2), .val (.int x3), .val (.ref b475), .val (.ref b494), .val (.int (x3 &&& (3 : Int32))), .val (.int (1 : Int32)), .unset, .unset, .unset, .unset, .unset, .unset] [])) t
    refine XS.iloadN X597.here hx rfl (hb hby at_86) rfl ?_
    show Steps p.tables e below (T597.setTop (mkF m 87 #[.val (.int x0), .val (.int x1), .val (.int x2), .val (.int x3), .val (.ref b475), .val (.ref b494), .val (.int (x3 &&& (3 : Int32))), .val (.int (1 : Int32)), .unset, .unset, .unset, .unset, .unset, .unset] [(.int x3)])) t
    refine XS.iconst X597.here hx rfl (hb hby at_87) ?_
    show Steps p.tables e below (T597.setTop (mkF m 88 #[.val (.int x0), .val (.int x1), .val (.int x2), .val (.int x3), .val (.ref b475), .val (.ref b494), .val (.int (x3 &&& (3 : Int32))), .val (.int (1 : Int32)), .unset, .unset, .unset, .unset, .unset, .unset] [(.int (2 : Int32)), (.int x3)])) t
    refine XS.iushr X597.here hx rfl (hb hby at_88) rfl ?_
    show Steps p.tables e below (T597.setTop (mkF m 89 #[.val (.int x0), .val (.int x1), .val (.int x2), .val (.int x3), .val (.ref b475), .val (.ref b494), .val (.int (x3 &&& (3 : Int32))), .val (.int (1 : Int32)), .unset, .unset, .unset, .unset, .unset, .unset] [(.int ((x3.toUInt32 >>> ((2 : Int32) &&& 31).toUInt32).toInt32))])) t
    refine XS.iconst X597.here hx rfl (hb hby at_89) ?_
    show Steps p.tables e below (T597.setTop (mkF m 90 #[.val (.int x0), .val (.int x1), .val (.int x2), .val (.int x3), .val (.ref b475), .val (.ref b494), .val (.int (x3 &&& (3 : Int32))), .val (.int (1 : Int32)), .unset, .unset, .unset, .unset, .unset, .unset] [(.int (3 : Int32)), (.int ((x3.toUInt32 >>> ((2 : Int32) &&& 31).toUInt32).toInt32))])) t
    refine XS.iand X597.here hx rfl (hb hby at_90) rfl ?_
    show Steps p.tables e below (T597.setTop (mkF m 91 #[.val (.int x0), .val (.int x1), .val (.int x2), .val (.int x3), .val (.ref b475), .val (.ref b494), .val (.int (x3 &&& (3 : Int32))), .val (.int (1 : Int32)), .unset, .unset, .unset, .unset, .unset, .unset] [(.int (((x3.toUInt32 >>> ((2 : Int32) &&& 31).toUInt32).toInt32) &&& (3 : Int32)))])) t
    refine XS.istore X597.here hx rfl (hb hby at_91) rfl (l' := #[.val (.int x0), .val (.int x1), .val (.int x2), .val (.int x3), .val (.ref b475), .val (.ref b494), .val (.int (x3 &&& (3 : Int32))), .val (.int (1 : Int32)), .val (.int (((x3.toUInt32 >>> ((2 : Int32) &&& 31).toUInt32).toInt32) &&& (3 : Int32))), .unset, .unset, .unset, .unset, .unset]) rfl ?_
    show Steps p.tables e below (T597.setTop (mkF m 93 #[.val (.int x0), .val (.int x1), .val (.int x2), .val (.int x3), .val (.ref b475), .val (.ref b494), .val (.int (x3 &&& (3 : Int32))), .val (.int (1 : Int32)), .val (.int (((x3.toUInt32 >>> ((2 : Int32) &&& 31).toUInt32).toInt32) &&& (3 : Int32))), .unset, .unset, .unset, .unset, .unset] [])) t
    refine XS.aload X597.here hx rfl (hb hby at_93) rfl rfl ?_
    show Steps p.tables e below (T597.setTop (mkF m 95 #[.val (.int x0), .val (.int x1), .val (.int x2), .val (.int x3), .val (.ref b475), .val (.ref b494), .val (.int (x3 &&& (3 : Int32))), .val (.int (1 : Int32)), .val (.int (((x3.toUInt32 >>> ((2 : Int32) &&& 31).toUInt32).toInt32) &&& (3 : Int32))), .unset, .unset, .unset, .unset, .unset] [(.ref b475)])) t
    refine XS.iload X597.here hx rfl (hb hby at_95) rfl ?_
    exact k)
  have q605 := (show ((x3.toUInt32 >>> ((2 : Int32) &&& 31).toUInt32).toInt32).toInt = (x3.toInt % 4294967296) / 4 from c_iushr x3 (2 : Int32) 2 rfl (by decide))
  have q606 := rng32 ((x3.toUInt32 >>> ((2 : Int32) &&& 31).toUInt32).toInt32)
  have q607 := (show (((x3.toUInt32 >>> ((2 : Int32) &&& 31).toUInt32).toInt32) &&& (3 : Int32)).toInt = ((x3.toUInt32 >>> ((2 : Int32) &&& 31).toUInt32).toInt32).toInt % 4 from c_mask ((x3.toUInt32 >>> ((2 : Int32) &&& 31).toUInt32).toInt32) (3 : Int32) 2 (by decide) (by decide))
  have q608 := rng32 (((x3.toUInt32 >>> ((2 : Int32) &&& 31).toUInt32).toInt32) &&& (3 : Int32))
  have q609 : 0 ≤ (((x3.toUInt32 >>> ((2 : Int32) &&& 31).toUInt32).toInt32) &&& (3 : Int32)).toInt ∧ (((x3.toUInt32 >>> ((2 : Int32) &&& 31).toUInt32).toInt32) &&& (3 : Int32)).toInt < 4 := by omega
  obtain ⟨cq610, kq610, q610a, q610b, q610c⟩ := isOf hZ e597.symm F599
  obtain ⟨_, _, ⟨T610, L610, kk610, nn610⟩, -, X610, ⟨Lc610, hQ610, l610, y610, z610⟩, st610⟩ := X597.virtualBack hx (y := (⟨"tersegraph/Forest", "root", "(I)I"⟩ : MethodName)) (z := (⟨"tersegraph/Forest", "root", "(I)I"⟩ : MethodName)) hown (mvT hZ (hw _ (List.mem_of_getElem? (i := 24) rfl))) (mvT hZ (hw _ (List.mem_of_getElem? (i := 25) rfl))) (notFace_of_selects (args := #[]) (mvT hZ (hw _ (List.mem_of_getElem? (i := 27) rfl)))) (mvT hZ (hw _ (List.mem_of_getElem? (i := 27) rfl))) (mvT hZ (hw _ (List.mem_of_getElem? (i := 26) rfl))) (by decide) (backOf (W := 0) (rm6 l Z a0 hw [] b475 (((x3.toUInt32 >>> ((2 : Int32) &&& 31).toUInt32).toInt32) &&& (3 : Int32)) pa_484 f'_597 g'_597 D'_597 h597 n0 Z602 F600 Pc597_0 gb488 ne486 Sp597 q609) hZ (hw _ (List.mem_of_getElem? (i := 28) rfl)) (hw _ (List.mem_of_getElem? (i := 2) rfl)) (by decide) (by decide)) q610a q610c (g := (mkF m 97 #[.val (.int x0), .val (.int x1), .val (.int x2), .val (.int x3), .val (.ref b475), .val (.ref b494), .val (.int (x3 &&& (3 : Int32))), .val (.int (1 : Int32)), .val (.int (((x3.toUInt32 >>> ((2 : Int32) &&& 31).toUInt32).toInt32) &&& (3 : Int32))), .unset, .unset, .unset, .unset, .unset] [(.int (((x3.toUInt32 >>> ((2 : Int32) &&& 31).toUInt32).toInt32) &&& (3 : Int32))), (.ref b475)])) rfl (by rw [hml]; rfl) (Steps.refl _) (argsL := [(.int (((x3.toUInt32 >>> ((2 : Int32) &&& 31).toUInt32).toInt32) &&& (3 : Int32)))]) (rest := []) (lenOf own_pd4 rfl) rfl (by show 2 * 0 + _ ≤ _; exact Nat.le_of_eq rfl) (hb hby at_97) (fun _ _ => ⟨rfl, e597.symm, (by decide : 3 + 0 ≤ _), (by decide : 9 + 0 ≤ _)⟩)
  dsimp only [Pt.U, Pt.locs, Pt.cells, Pt.slots] at X610 l610 y610 z610 st610 hQ610
  subst l610 y610 z610
  obtain ⟨r_610, f'_610, rfl, Sp610, Nq610, Kc610, Pc610_0⟩ := hQ610
  have N611 := Fr.app N598 Nq610
  obtain ⟨h610, e610⟩ : ∃ z, z = T610.heap := ⟨_, rfl⟩
  rw [← e610] at Kc610 Pc610_0
  have F612 := F599.keep Kc610
  have F613 := F600.keep Kc610 (ninS ne486 nin0)
  have F614 := Pc597_1.keep Kc610 (ninS (Ne.symm ne496) nin0)
  have Kp615 : Keep h0 h610 [] := Keep.trans Kp601 Kc610 (allS (Or.inr sb487) all0)
  have Z616 : n0 ≤ h610.size := Nat.le_trans Z602 Kc610.1
  have K617 : ∀ t, Steps p.tables e below (T610.setTop (mkF m 100 #[.val (.int x0), .val (.int x1), .val (.int x2), .val (.int x3), .val (.ref b475), .val (.ref b494), .val (.int (x3 &&& (3 : Int32))), .val (.int (1 : Int32)), .val (.int (((x3.toUInt32 >>> ((2 : Int32) &&& 31).toUInt32).toInt32) &&& (3 : Int32))), .unset, .unset, .unset, .unset, .unset] [(.int r_610)])) t → Steps p.tables e below (s₁.setTop (entryFrame m #[(.int x0), (.int x1), (.int x2), (.int x3)] maxLocals)) t := fun t k => K604 t (st610.trans k)
  have q619 : ¬ (((x3.toUInt32 >>> ((2 : Int32) &&& 31).toUInt32).toInt32) &&& (3 : Int32)) < 0 ∧ (((x3.toUInt32 >>> ((2 : Int32) &&& 31).toUInt32).toInt32) &&& (3 : Int32)) < (4 : Int32) := by rw [Int32.lt_iff_toInt_lt, Int32.lt_iff_toInt_lt]; have q0 : (0 : Int32).toInt = 0 := rfl; omega
  obtain ⟨cl618, Ar618, S618, N618, Hs618⟩ := id F614
  have hin618 : ¬ ((((x3.toUInt32 >>> ((2 : Int32) &&& 31).toUInt32).toInt32) &&& (3 : Int32)) < 0 ∨ cl618.slots.size ≤ ((((x3.toUInt32 >>> ((2 : Int32) &&& 31).toUInt32).toInt32) &&& (3 : Int32))).toNatClampNeg) := inb_of S618 q619
  have hat618 : cl618.slots[((((x3.toUInt32 >>> ((2 : Int32) &&& 31).toUInt32).toInt32) &&& (3 : Int32))).toNatClampNeg]? = some (.int (g'_597 (((x3.toUInt32 >>> ((2 : Int32) &&& 31).toUInt32).toInt32) &&& (3 : Int32)).toNatClampNeg)) := own_at Hs618 S618 hin618 (rfl)
  have q621 := rng32 r_610
  have q622 := rng32 (g'_597 (((x3.toUInt32 >>> ((2 : Int32) &&& 31).toUInt32).toInt32) &&& (3 : Int32)).toNatClampNeg)
  have hc620 : r_610 = (g'_597 (((x3.toUInt32 >>> ((2 : Int32) &&& 31).toUInt32).toInt32) &&& (3 : Int32)).toNatClampNeg) := Int32.toInt_inj.mp (by omega)
  have q623 : r_610.toInt = (g'_597 (((x3.toUInt32 >>> ((2 : Int32) &&& 31).toUInt32).toInt32) &&& (3 : Int32)).toNatClampNeg).toInt := congrArg Int32.toInt hc620
  have K624 : ∀ t, Steps p.tables e below (T610.setTop (mkF m 118 #[.val (.int x0), .val (.int x1), .val (.int x2), .val (.int x3), .val (.ref b475), .val (.ref b494), .val (.int (x3 &&& (3 : Int32))), .val (.int (1 : Int32)), .val (.int (((x3.toUInt32 >>> ((2 : Int32) &&& 31).toUInt32).toInt32) &&& (3 : Int32))), .val (.int (1 : Int32)), .unset, .unset, .unset, .unset] [(.int (0 : Int32)), (.ref b475)])) t → Steps p.tables e below (s₁.setTop (entryFrame m #[(.int x0), (.int x1), (.int x2), (.int x3)] maxLocals)) t := fun t k => K617 t (by
    show Steps p.tables e below (T610.setTop (mkF m 100 #[.val (.int x0), .val (.int x1), .val (.int x2), .val (.int x3), .val (.ref b475), .val (.ref b494), .val (.int (x3 &&& (3 : Int32))), .val (.int (1 : Int32)), .val (.int (((x3.toUInt32 >>> ((2 : Int32) &&& 31).toUInt32).toInt32) &&& (3 : Int32))), .unset, .unset, .unset, .unset, .unset] [(.int r_610)])) t
    refine XS.aload X610.here hx rfl (hb hby at_100) rfl rfl ?_
    show Steps p.tables e below (T610.setTop (mkF m 102 #[.val (.int x0), .val (.int x1), .val (.int x2), .val (.int x3), .val (.ref b475), .val (.ref b494), .val (.int (x3 &&& (3 : Int32))), .val (.int (1 : Int32)), .val (.int (((x3.toUInt32 >>> ((2 : Int32) &&& 31).toUInt32).toInt32) &&& (3 : Int32))), .unset, .unset, .unset, .unset, .unset] [(.ref b494), (.int r_610)])) t
    refine XS.iload X610.here hx rfl (hb hby at_102) rfl ?_
    show Steps p.tables e below (T610.setTop (mkF m 104 #[.val (.int x0), .val (.int x1), .val (.int x2), .val (.int x3), .val (.ref b475), .val (.ref b494), .val (.int (x3 &&& (3 : Int32))), .val (.int (1 : Int32)), .val (.int (((x3.toUInt32 >>> ((2 : Int32) &&& 31).toUInt32).toInt32) &&& (3 : Int32))), .unset, .unset, .unset, .unset, .unset] [(.int (((x3.toUInt32 >>> ((2 : Int32) &&& 31).toUInt32).toInt32) &&& (3 : Int32))), (.ref b494), (.int r_610)])) t
    refine X610.iaload hx (j := (((x3.toUInt32 >>> ((2 : Int32) &&& 31).toUInt32).toInt32) &&& (3 : Int32))) (v := (.int (g'_597 (((x3.toUInt32 >>> ((2 : Int32) &&& 31).toUInt32).toInt32) &&& (3 : Int32)).toNatClampNeg))) (by rw [e610.symm]; exact Ar618.1) (State.isArrayOf_alike hZ.alike Ar618.2.1) Ar618.2.2 hin618 hat618 (g := (mkF m 104 #[.val (.int x0), .val (.int x1), .val (.int x2), .val (.int x3), .val (.ref b475), .val (.ref b494), .val (.int (x3 &&& (3 : Int32))), .val (.int (1 : Int32)), .val (.int (((x3.toUInt32 >>> ((2 : Int32) &&& 31).toUInt32).toInt32) &&& (3 : Int32))), .unset, .unset, .unset, .unset, .unset] [(.int (((x3.toUInt32 >>> ((2 : Int32) &&& 31).toUInt32).toInt32) &&& (3 : Int32))), (.ref b494), (.int r_610)])) rfl rfl (hb hby at_104) _ ?_
    show Steps p.tables e below (T610.setTop (mkF m 105 #[.val (.int x0), .val (.int x1), .val (.int x2), .val (.int x3), .val (.ref b475), .val (.ref b494), .val (.int (x3 &&& (3 : Int32))), .val (.int (1 : Int32)), .val (.int (((x3.toUInt32 >>> ((2 : Int32) &&& 31).toUInt32).toInt32) &&& (3 : Int32))), .unset, .unset, .unset, .unset, .unset] [(.int (g'_597 (((x3.toUInt32 >>> ((2 : Int32) &&& 31).toUInt32).toInt32) &&& (3 : Int32)).toNatClampNeg)), (.int r_610)])) t
    refine XS.icmpNo X610.here hx rfl (hb hby at_105) rfl (teq hc620).2 ?_
    show Steps p.tables e below (T610.setTop (mkF m 108 #[.val (.int x0), .val (.int x1), .val (.int x2), .val (.int x3), .val (.ref b475), .val (.ref b494), .val (.int (x3 &&& (3 : Int32))), .val (.int (1 : Int32)), .val (.int (((x3.toUInt32 >>> ((2 : Int32) &&& 31).toUInt32).toInt32) &&& (3 : Int32))), .unset, .unset, .unset, .unset, .unset] [])) t
    refine XS.iconst X610.here hx rfl (hb hby at_108) ?_
    show Steps p.tables e below (T610.setTop (mkF m 109 #[.val (.int x0), .val (.int x1), .val (.int x2), .val (.int x3), .val (.ref b475), .val (.ref b494), .val (.int (x3 &&& (3 : Int32))), .val (.int (1 : Int32)), .val (.int (((x3.toUInt32 >>> ((2 : Int32) &&& 31).toUInt32).toInt32) &&& (3 : Int32))), .unset, .unset, .unset, .unset, .unset] [(.int (1 : Int32))])) t
    refine XS.goto X610.here hx rfl (pc0 := 109) (pc' := 113) rfl (hb hby at_109) (by decide) (by decide) ?_
    show Steps p.tables e below (T610.setTop (mkF m 113 #[.val (.int x0), .val (.int x1), .val (.int x2), .val (.int x3), .val (.ref b475), .val (.ref b494), .val (.int (x3 &&& (3 : Int32))), .val (.int (1 : Int32)), .val (.int (((x3.toUInt32 >>> ((2 : Int32) &&& 31).toUInt32).toInt32) &&& (3 : Int32))), .unset, .unset, .unset, .unset, .unset] [(.int (1 : Int32))])) t
    refine XS.istore X610.here hx rfl (hb hby at_113) rfl (l' := #[.val (.int x0), .val (.int x1), .val (.int x2), .val (.int x3), .val (.ref b475), .val (.ref b494), .val (.int (x3 &&& (3 : Int32))), .val (.int (1 : Int32)), .val (.int (((x3.toUInt32 >>> ((2 : Int32) &&& 31).toUInt32).toInt32) &&& (3 : Int32))), .val (.int (1 : Int32)), .unset, .unset, .unset, .unset]) rfl ?_
    show Steps p.tables e below (T610.setTop (mkF m 115 #[.val (.int x0), .val (.int x1), .val (.int x2), .val (.int x3), .val (.ref b475), .val (.ref b494), .val (.int (x3 &&& (3 : Int32))), .val (.int (1 : Int32)), .val (.int (((x3.toUInt32 >>> ((2 : Int32) &&& 31).toUInt32).toInt32) &&& (3 : Int32))), .val (.int (1 : Int32)), .unset, .unset, .unset, .unset] [])) t
    refine XS.aload X610.here hx rfl (hb hby at_115) rfl rfl ?_
    show Steps p.tables e below (T610.setTop (mkF m 117 #[.val (.int x0), .val (.int x1), .val (.int x2), .val (.int x3), .val (.ref b475), .val (.ref b494), .val (.int (x3 &&& (3 : Int32))), .val (.int (1 : Int32)), .val (.int (((x3.toUInt32 >>> ((2 : Int32) &&& 31).toUInt32).toInt32) &&& (3 : Int32))), .val (.int (1 : Int32)), .unset, .unset, .unset, .unset] [(.ref b475)])) t
    refine XS.iconst X610.here hx rfl (hb hby at_117) ?_
    exact k)
  have q625 : 0 ≤ (0 : Int32).toInt ∧ (0 : Int32).toInt < 4 := by omega
  obtain ⟨cq626, kq626, q626a, q626b, q626c⟩ := isOf hZ e610.symm F612
  obtain ⟨_, _, ⟨T626, L626, kk626, nn626⟩, -, X626, ⟨Lc626, hQ626, l626, y626, z626⟩, st626⟩ := X610.virtualBack hx (y := (⟨"tersegraph/Forest", "root", "(I)I"⟩ : MethodName)) (z := (⟨"tersegraph/Forest", "root", "(I)I"⟩ : MethodName)) hown (mvT hZ (hw _ (List.mem_of_getElem? (i := 24) rfl))) (mvT hZ (hw _ (List.mem_of_getElem? (i := 25) rfl))) (notFace_of_selects (args := #[]) (mvT hZ (hw _ (List.mem_of_getElem? (i := 27) rfl)))) (mvT hZ (hw _ (List.mem_of_getElem? (i := 27) rfl))) (mvT hZ (hw _ (List.mem_of_getElem? (i := 26) rfl))) (by decide) (backOf (W := 0) (rm6 l Z a0 hw [] b475 (0 : Int32) pa_484 f'_610 g'_597 D'_597 h610 n0 Z616 F613 Pc610_0 gb488 ne486 Sp610.2 q625) hZ (hw _ (List.mem_of_getElem? (i := 28) rfl)) (hw _ (List.mem_of_getElem? (i := 2) rfl)) (by decide) (by decide)) q626a q626c (g := (mkF m 118 #[.val (.int x0), .val (.int x1), .val (.int x2), .val (.int x3), .val (.ref b475), .val (.ref b494), .val (.int (x3 &&& (3 : Int32))), .val (.int (1 : Int32)), .val (.int (((x3.toUInt32 >>> ((2 : Int32) &&& 31).toUInt32).toInt32) &&& (3 : Int32))), .val (.int (1 : Int32)), .unset, .unset, .unset, .unset] [(.int (0 : Int32)), (.ref b475)])) rfl (by rw [hml]; rfl) (Steps.refl _) (argsL := [(.int (0 : Int32))]) (rest := []) (lenOf own_pd4 rfl) rfl (by show 2 * 0 + _ ≤ _; exact Nat.le_of_eq rfl) (hb hby at_118) (fun _ _ => ⟨rfl, e610.symm, (by decide : 3 + 0 ≤ _), (by decide : 9 + 0 ≤ _)⟩)
  dsimp only [Pt.U, Pt.locs, Pt.cells, Pt.slots] at X626 l626 y626 z626 st626 hQ626
  subst l626 y626 z626
  obtain ⟨r_626, f'_626, rfl, Sp626, Nq626, Kc626, Pc626_0⟩ := hQ626
  have N627 := Fr.app N611 Nq626
  obtain ⟨h626, e626⟩ : ∃ z, z = T626.heap := ⟨_, rfl⟩
  rw [← e626] at Kc626 Pc626_0
  have F628 := F612.keep Kc626
  have F629 := F613.keep Kc626 (ninS ne486 nin0)
  have F630 := F614.keep Kc626 (ninS (Ne.symm ne496) nin0)
  have Kp631 : Keep h0 h626 [] := Keep.trans Kp615 Kc626 (allS (Or.inr sb487) all0)
  have Z632 : n0 ≤ h626.size := Nat.le_trans Z616 Kc626.1
  have K633 : ∀ t, Steps p.tables e below (T626.setTop (mkF m 121 #[.val (.int x0), .val (.int x1), .val (.int x2), .val (.int x3), .val (.ref b475), .val (.ref b494), .val (.int (x3 &&& (3 : Int32))), .val (.int (1 : Int32)), .val (.int (((x3.toUInt32 >>> ((2 : Int32) &&& 31).toUInt32).toInt32) &&& (3 : Int32))), .val (.int (1 : Int32)), .unset, .unset, .unset, .unset] [(.int r_626)])) t → Steps p.tables e below (s₁.setTop (entryFrame m #[(.int x0), (.int x1), (.int x2), (.int x3)] maxLocals)) t := fun t k => K624 t (st626.trans k)
  have Sq0 : r_626.toInt = (g'_597 0).toInt := Sp626.1
  have K634 : ∀ t, Steps p.tables e below (T626.setTop (mkF m 126 #[.val (.int x0), .val (.int x1), .val (.int x2), .val (.int x3), .val (.ref b475), .val (.ref b494), .val (.int (x3 &&& (3 : Int32))), .val (.int (1 : Int32)), .val (.int (((x3.toUInt32 >>> ((2 : Int32) &&& 31).toUInt32).toInt32) &&& (3 : Int32))), .val (.int (1 : Int32)), .val (.int r_626), .unset, .unset, .unset] [(.int (1 : Int32)), (.ref b475)])) t → Steps p.tables e below (s₁.setTop (entryFrame m #[(.int x0), (.int x1), (.int x2), (.int x3)] maxLocals)) t := fun t k => K633 t (by
    show Steps p.tables e below (T626.setTop (mkF m 121 #[.val (.int x0), .val (.int x1), .val (.int x2), .val (.int x3), .val (.ref b475), .val (.ref b494), .val (.int (x3 &&& (3 : Int32))), .val (.int (1 : Int32)), .val (.int (((x3.toUInt32 >>> ((2 : Int32) &&& 31).toUInt32).toInt32) &&& (3 : Int32))), .val (.int (1 : Int32)), .unset, .unset, .unset, .unset] [(.int r_626)])) t
    refine XS.istore X626.here hx rfl (hb hby at_121) rfl (l' := #[.val (.int x0), .val (.int x1), .val (.int x2), .val (.int x3), .val (.ref b475), .val (.ref b494), .val (.int (x3 &&& (3 : Int32))), .val (.int (1 : Int32)), .val (.int (((x3.toUInt32 >>> ((2 : Int32) &&& 31).toUInt32).toInt32) &&& (3 : Int32))), .val (.int (1 : Int32)), .val (.int r_626), .unset, .unset, .unset]) rfl ?_
    show Steps p.tables e below (T626.setTop (mkF m 123 #[.val (.int x0), .val (.int x1), .val (.int x2), .val (.int x3), .val (.ref b475), .val (.ref b494), .val (.int (x3 &&& (3 : Int32))), .val (.int (1 : Int32)), .val (.int (((x3.toUInt32 >>> ((2 : Int32) &&& 31).toUInt32).toInt32) &&& (3 : Int32))), .val (.int (1 : Int32)), .val (.int r_626), .unset, .unset, .unset] [])) t
    refine XS.aload X626.here hx rfl (hb hby at_123) rfl rfl ?_
    show Steps p.tables e below (T626.setTop (mkF m 125 #[.val (.int x0), .val (.int x1), .val (.int x2), .val (.int x3), .val (.ref b475), .val (.ref b494), .val (.int (x3 &&& (3 : Int32))), .val (.int (1 : Int32)), .val (.int (((x3.toUInt32 >>> ((2 : Int32) &&& 31).toUInt32).toInt32) &&& (3 : Int32))), .val (.int (1 : Int32)), .val (.int r_626), .unset, .unset, .unset] [(.ref b475)])) t
    refine XS.iconst X626.here hx rfl (hb hby at_125) ?_
    exact k)
  have q635 : 0 ≤ (1 : Int32).toInt ∧ (1 : Int32).toInt < 4 := by omega
  obtain ⟨cq636, kq636, q636a, q636b, q636c⟩ := isOf hZ e626.symm F628
  obtain ⟨_, _, ⟨T636, L636, kk636, nn636⟩, -, X636, ⟨Lc636, hQ636, l636, y636, z636⟩, st636⟩ := X626.virtualBack hx (y := (⟨"tersegraph/Forest", "root", "(I)I"⟩ : MethodName)) (z := (⟨"tersegraph/Forest", "root", "(I)I"⟩ : MethodName)) hown (mvT hZ (hw _ (List.mem_of_getElem? (i := 24) rfl))) (mvT hZ (hw _ (List.mem_of_getElem? (i := 25) rfl))) (notFace_of_selects (args := #[]) (mvT hZ (hw _ (List.mem_of_getElem? (i := 27) rfl)))) (mvT hZ (hw _ (List.mem_of_getElem? (i := 27) rfl))) (mvT hZ (hw _ (List.mem_of_getElem? (i := 26) rfl))) (by decide) (backOf (W := 0) (rm6 l Z a0 hw [] b475 (1 : Int32) pa_484 f'_626 g'_597 D'_597 h626 n0 Z632 F629 Pc626_0 gb488 ne486 Sp626.2 q635) hZ (hw _ (List.mem_of_getElem? (i := 28) rfl)) (hw _ (List.mem_of_getElem? (i := 2) rfl)) (by decide) (by decide)) q636a q636c (g := (mkF m 126 #[.val (.int x0), .val (.int x1), .val (.int x2), .val (.int x3), .val (.ref b475), .val (.ref b494), .val (.int (x3 &&& (3 : Int32))), .val (.int (1 : Int32)), .val (.int (((x3.toUInt32 >>> ((2 : Int32) &&& 31).toUInt32).toInt32) &&& (3 : Int32))), .val (.int (1 : Int32)), .val (.int r_626), .unset, .unset, .unset] [(.int (1 : Int32)), (.ref b475)])) rfl (by rw [hml]; rfl) (Steps.refl _) (argsL := [(.int (1 : Int32))]) (rest := []) (lenOf own_pd4 rfl) rfl (by show 2 * 0 + _ ≤ _; exact Nat.le_of_eq rfl) (hb hby at_126) (fun _ _ => ⟨rfl, e626.symm, (by decide : 3 + 0 ≤ _), (by decide : 9 + 0 ≤ _)⟩)
  dsimp only [Pt.U, Pt.locs, Pt.cells, Pt.slots] at X636 l636 y636 z636 st636 hQ636
  subst l636 y636 z636
  obtain ⟨r_636, f'_636, rfl, Sp636, Nq636, Kc636, Pc636_0⟩ := hQ636
  have N637 := Fr.app N627 Nq636
  obtain ⟨h636, e636⟩ : ∃ z, z = T636.heap := ⟨_, rfl⟩
  rw [← e636] at Kc636 Pc636_0
  have F638 := F628.keep Kc636
  have F639 := F629.keep Kc636 (ninS ne486 nin0)
  have F640 := F630.keep Kc636 (ninS (Ne.symm ne496) nin0)
  have Kp641 : Keep h0 h636 [] := Keep.trans Kp631 Kc636 (allS (Or.inr sb487) all0)
  have Z642 : n0 ≤ h636.size := Nat.le_trans Z632 Kc636.1
  have K643 : ∀ t, Steps p.tables e below (T636.setTop (mkF m 129 #[.val (.int x0), .val (.int x1), .val (.int x2), .val (.int x3), .val (.ref b475), .val (.ref b494), .val (.int (x3 &&& (3 : Int32))), .val (.int (1 : Int32)), .val (.int (((x3.toUInt32 >>> ((2 : Int32) &&& 31).toUInt32).toInt32) &&& (3 : Int32))), .val (.int (1 : Int32)), .val (.int r_626), .unset, .unset, .unset] [(.int r_636)])) t → Steps p.tables e below (s₁.setTop (entryFrame m #[(.int x0), (.int x1), (.int x2), (.int x3)] maxLocals)) t := fun t k => K634 t (st636.trans k)
  have Sq1 : r_636.toInt = (g'_597 1).toInt := Sp636.1
  have K644 : ∀ t, Steps p.tables e below (T636.setTop (mkF m 134 #[.val (.int x0), .val (.int x1), .val (.int x2), .val (.int x3), .val (.ref b475), .val (.ref b494), .val (.int (x3 &&& (3 : Int32))), .val (.int (1 : Int32)), .val (.int (((x3.toUInt32 >>> ((2 : Int32) &&& 31).toUInt32).toInt32) &&& (3 : Int32))), .val (.int (1 : Int32)), .val (.int r_626), .val (.int r_636), .unset, .unset] [(.int (2 : Int32)), (.ref b475)])) t → Steps p.tables e below (s₁.setTop (entryFrame m #[(.int x0), (.int x1), (.int x2), (.int x3)] maxLocals)) t := fun t k => K643 t (by
    show Steps p.tables e below (T636.setTop (mkF m 129 #[.val (.int x0), .val (.int x1), .val (.int x2), .val (.int x3), .val (.ref b475), .val (.ref b494), .val (.int (x3 &&& (3 : Int32))), .val (.int (1 : Int32)), .val (.int (((x3.toUInt32 >>> ((2 : Int32) &&& 31).toUInt32).toInt32) &&& (3 : Int32))), .val (.int (1 : Int32)), .val (.int r_626), .unset, .unset, .unset] [(.int r_636)])) t
    refine XS.istore X636.here hx rfl (hb hby at_129) rfl (l' := #[.val (.int x0), .val (.int x1), .val (.int x2), .val (.int x3), .val (.ref b475), .val (.ref b494), .val (.int (x3 &&& (3 : Int32))), .val (.int (1 : Int32)), .val (.int (((x3.toUInt32 >>> ((2 : Int32) &&& 31).toUInt32).toInt32) &&& (3 : Int32))), .val (.int (1 : Int32)), .val (.int r_626), .val (.int r_636), .unset, .unset]) rfl ?_
    show Steps p.tables e below (T636.setTop (mkF m 131 #[.val (.int x0), .val (.int x1), .val (.int x2), .val (.int x3), .val (.ref b475), .val (.ref b494), .val (.int (x3 &&& (3 : Int32))), .val (.int (1 : Int32)), .val (.int (((x3.toUInt32 >>> ((2 : Int32) &&& 31).toUInt32).toInt32) &&& (3 : Int32))), .val (.int (1 : Int32)), .val (.int r_626), .val (.int r_636), .unset, .unset] [])) t
    refine XS.aload X636.here hx rfl (hb hby at_131) rfl rfl ?_
    show Steps p.tables e below (T636.setTop (mkF m 133 #[.val (.int x0), .val (.int x1), .val (.int x2), .val (.int x3), .val (.ref b475), .val (.ref b494), .val (.int (x3 &&& (3 : Int32))), .val (.int (1 : Int32)), .val (.int (((x3.toUInt32 >>> ((2 : Int32) &&& 31).toUInt32).toInt32) &&& (3 : Int32))), .val (.int (1 : Int32)), .val (.int r_626), .val (.int r_636), .unset, .unset] [(.ref b475)])) t
    refine XS.iconst X636.here hx rfl (hb hby at_133) ?_
    exact k)
  have q645 : 0 ≤ (2 : Int32).toInt ∧ (2 : Int32).toInt < 4 := by omega
  obtain ⟨cq646, kq646, q646a, q646b, q646c⟩ := isOf hZ e636.symm F638
  obtain ⟨_, _, ⟨T646, L646, kk646, nn646⟩, -, X646, ⟨Lc646, hQ646, l646, y646, z646⟩, st646⟩ := X636.virtualBack hx (y := (⟨"tersegraph/Forest", "root", "(I)I"⟩ : MethodName)) (z := (⟨"tersegraph/Forest", "root", "(I)I"⟩ : MethodName)) hown (mvT hZ (hw _ (List.mem_of_getElem? (i := 24) rfl))) (mvT hZ (hw _ (List.mem_of_getElem? (i := 25) rfl))) (notFace_of_selects (args := #[]) (mvT hZ (hw _ (List.mem_of_getElem? (i := 27) rfl)))) (mvT hZ (hw _ (List.mem_of_getElem? (i := 27) rfl))) (mvT hZ (hw _ (List.mem_of_getElem? (i := 26) rfl))) (by decide) (backOf (W := 0) (rm6 l Z a0 hw [] b475 (2 : Int32) pa_484 f'_636 g'_597 D'_597 h636 n0 Z642 F639 Pc636_0 gb488 ne486 Sp636.2 q645) hZ (hw _ (List.mem_of_getElem? (i := 28) rfl)) (hw _ (List.mem_of_getElem? (i := 2) rfl)) (by decide) (by decide)) q646a q646c (g := (mkF m 134 #[.val (.int x0), .val (.int x1), .val (.int x2), .val (.int x3), .val (.ref b475), .val (.ref b494), .val (.int (x3 &&& (3 : Int32))), .val (.int (1 : Int32)), .val (.int (((x3.toUInt32 >>> ((2 : Int32) &&& 31).toUInt32).toInt32) &&& (3 : Int32))), .val (.int (1 : Int32)), .val (.int r_626), .val (.int r_636), .unset, .unset] [(.int (2 : Int32)), (.ref b475)])) rfl (by rw [hml]; rfl) (Steps.refl _) (argsL := [(.int (2 : Int32))]) (rest := []) (lenOf own_pd4 rfl) rfl (by show 2 * 0 + _ ≤ _; exact Nat.le_of_eq rfl) (hb hby at_134) (fun _ _ => ⟨rfl, e636.symm, (by decide : 3 + 0 ≤ _), (by decide : 9 + 0 ≤ _)⟩)
  dsimp only [Pt.U, Pt.locs, Pt.cells, Pt.slots] at X646 l646 y646 z646 st646 hQ646
  subst l646 y646 z646
  obtain ⟨r_646, f'_646, rfl, Sp646, Nq646, Kc646, Pc646_0⟩ := hQ646
  have N647 := Fr.app N637 Nq646
  obtain ⟨h646, e646⟩ : ∃ z, z = T646.heap := ⟨_, rfl⟩
  rw [← e646] at Kc646 Pc646_0
  have F648 := F638.keep Kc646
  have F649 := F639.keep Kc646 (ninS ne486 nin0)
  have F650 := F640.keep Kc646 (ninS (Ne.symm ne496) nin0)
  have Kp651 : Keep h0 h646 [] := Keep.trans Kp641 Kc646 (allS (Or.inr sb487) all0)
  have Z652 : n0 ≤ h646.size := Nat.le_trans Z642 Kc646.1
  have K653 : ∀ t, Steps p.tables e below (T646.setTop (mkF m 137 #[.val (.int x0), .val (.int x1), .val (.int x2), .val (.int x3), .val (.ref b475), .val (.ref b494), .val (.int (x3 &&& (3 : Int32))), .val (.int (1 : Int32)), .val (.int (((x3.toUInt32 >>> ((2 : Int32) &&& 31).toUInt32).toInt32) &&& (3 : Int32))), .val (.int (1 : Int32)), .val (.int r_626), .val (.int r_636), .unset, .unset] [(.int r_646)])) t → Steps p.tables e below (s₁.setTop (entryFrame m #[(.int x0), (.int x1), (.int x2), (.int x3)] maxLocals)) t := fun t k => K644 t (st646.trans k)
  have Sq2 : r_646.toInt = (g'_597 2).toInt := Sp646.1
  have K654 : ∀ t, Steps p.tables e below (T646.setTop (mkF m 142 #[.val (.int x0), .val (.int x1), .val (.int x2), .val (.int x3), .val (.ref b475), .val (.ref b494), .val (.int (x3 &&& (3 : Int32))), .val (.int (1 : Int32)), .val (.int (((x3.toUInt32 >>> ((2 : Int32) &&& 31).toUInt32).toInt32) &&& (3 : Int32))), .val (.int (1 : Int32)), .val (.int r_626), .val (.int r_636), .val (.int r_646), .unset] [(.int (3 : Int32)), (.ref b475)])) t → Steps p.tables e below (s₁.setTop (entryFrame m #[(.int x0), (.int x1), (.int x2), (.int x3)] maxLocals)) t := fun t k => K653 t (by
    show Steps p.tables e below (T646.setTop (mkF m 137 #[.val (.int x0), .val (.int x1), .val (.int x2), .val (.int x3), .val (.ref b475), .val (.ref b494), .val (.int (x3 &&& (3 : Int32))), .val (.int (1 : Int32)), .val (.int (((x3.toUInt32 >>> ((2 : Int32) &&& 31).toUInt32).toInt32) &&& (3 : Int32))), .val (.int (1 : Int32)), .val (.int r_626), .val (.int r_636), .unset, .unset] [(.int r_646)])) t
    refine XS.istore X646.here hx rfl (hb hby at_137) rfl (l' := #[.val (.int x0), .val (.int x1), .val (.int x2), .val (.int x3), .val (.ref b475), .val (.ref b494), .val (.int (x3 &&& (3 : Int32))), .val (.int (1 : Int32)), .val (.int (((x3.toUInt32 >>> ((2 : Int32) &&& 31).toUInt32).toInt32) &&& (3 : Int32))), .val (.int (1 : Int32)), .val (.int r_626), .val (.int r_636), .val (.int r_646), .unset]) rfl ?_
    show Steps p.tables e below (T646.setTop (mkF m 139 #[.val (.int x0), .val (.int x1), .val (.int x2), .val (.int x3), .val (.ref b475), .val (.ref b494), .val (.int (x3 &&& (3 : Int32))), .val (.int (1 : Int32)), .val (.int (((x3.toUInt32 >>> ((2 : Int32) &&& 31).toUInt32).toInt32) &&& (3 : Int32))), .val (.int (1 : Int32)), .val (.int r_626), .val (.int r_636), .val (.int r_646), .unset] [])) t
    refine XS.aload X646.here hx rfl (hb hby at_139) rfl rfl ?_
    show Steps p.tables e below (T646.setTop (mkF m 141 #[.val (.int x0), .val (.int x1), .val (.int x2), .val (.int x3), .val (.ref b475), .val (.ref b494), .val (.int (x3 &&& (3 : Int32))), .val (.int (1 : Int32)), .val (.int (((x3.toUInt32 >>> ((2 : Int32) &&& 31).toUInt32).toInt32) &&& (3 : Int32))), .val (.int (1 : Int32)), .val (.int r_626), .val (.int r_636), .val (.int r_646), .unset] [(.ref b475)])) t
    refine XS.iconst X646.here hx rfl (hb hby at_141) ?_
    exact k)
  have q655 : 0 ≤ (3 : Int32).toInt ∧ (3 : Int32).toInt < 4 := by omega
  obtain ⟨cq656, kq656, q656a, q656b, q656c⟩ := isOf hZ e646.symm F648
  obtain ⟨_, _, ⟨T656, L656, kk656, nn656⟩, -, X656, ⟨Lc656, hQ656, l656, y656, z656⟩, st656⟩ := X646.virtualBack hx (y := (⟨"tersegraph/Forest", "root", "(I)I"⟩ : MethodName)) (z := (⟨"tersegraph/Forest", "root", "(I)I"⟩ : MethodName)) hown (mvT hZ (hw _ (List.mem_of_getElem? (i := 24) rfl))) (mvT hZ (hw _ (List.mem_of_getElem? (i := 25) rfl))) (notFace_of_selects (args := #[]) (mvT hZ (hw _ (List.mem_of_getElem? (i := 27) rfl)))) (mvT hZ (hw _ (List.mem_of_getElem? (i := 27) rfl))) (mvT hZ (hw _ (List.mem_of_getElem? (i := 26) rfl))) (by decide) (backOf (W := 0) (rm6 l Z a0 hw [] b475 (3 : Int32) pa_484 f'_646 g'_597 D'_597 h646 n0 Z652 F649 Pc646_0 gb488 ne486 Sp646.2 q655) hZ (hw _ (List.mem_of_getElem? (i := 28) rfl)) (hw _ (List.mem_of_getElem? (i := 2) rfl)) (by decide) (by decide)) q656a q656c (g := (mkF m 142 #[.val (.int x0), .val (.int x1), .val (.int x2), .val (.int x3), .val (.ref b475), .val (.ref b494), .val (.int (x3 &&& (3 : Int32))), .val (.int (1 : Int32)), .val (.int (((x3.toUInt32 >>> ((2 : Int32) &&& 31).toUInt32).toInt32) &&& (3 : Int32))), .val (.int (1 : Int32)), .val (.int r_626), .val (.int r_636), .val (.int r_646), .unset] [(.int (3 : Int32)), (.ref b475)])) rfl (by rw [hml]; rfl) (Steps.refl _) (argsL := [(.int (3 : Int32))]) (rest := []) (lenOf own_pd4 rfl) rfl (by show 2 * 0 + _ ≤ _; exact Nat.le_of_eq rfl) (hb hby at_142) (fun _ _ => ⟨rfl, e646.symm, (by decide : 3 + 0 ≤ _), (by decide : 9 + 0 ≤ _)⟩)
  dsimp only [Pt.U, Pt.locs, Pt.cells, Pt.slots] at X656 l656 y656 z656 st656 hQ656
  subst l656 y656 z656
  obtain ⟨r_656, f'_656, rfl, Sp656, Nq656, Kc656, Pc656_0⟩ := hQ656
  have N657 := Fr.app N647 Nq656
  obtain ⟨h656, e656⟩ : ∃ z, z = T656.heap := ⟨_, rfl⟩
  rw [← e656] at Kc656 Pc656_0
  have F658 := F648.keep Kc656
  have F659 := F649.keep Kc656 (ninS ne486 nin0)
  have F660 := F650.keep Kc656 (ninS (Ne.symm ne496) nin0)
  have Kp661 : Keep h0 h656 [] := Keep.trans Kp651 Kc656 (allS (Or.inr sb487) all0)
  have Z662 : n0 ≤ h656.size := Nat.le_trans Z652 Kc656.1
  have K663 : ∀ t, Steps p.tables e below (T656.setTop (mkF m 145 #[.val (.int x0), .val (.int x1), .val (.int x2), .val (.int x3), .val (.ref b475), .val (.ref b494), .val (.int (x3 &&& (3 : Int32))), .val (.int (1 : Int32)), .val (.int (((x3.toUInt32 >>> ((2 : Int32) &&& 31).toUInt32).toInt32) &&& (3 : Int32))), .val (.int (1 : Int32)), .val (.int r_626), .val (.int r_636), .val (.int r_646), .unset] [(.int r_656)])) t → Steps p.tables e below (s₁.setTop (entryFrame m #[(.int x0), (.int x1), (.int x2), (.int x3)] maxLocals)) t := fun t k => K654 t (st656.trans k)
  have Sq3 : r_656.toInt = (g'_597 3).toInt := Sp656.1
  have hc664 : ¬ ((1 : Int32) = (0 : Int32)) := fun q => by have q2 := congrArg Int32.toInt q; omega
  have q665 : ¬ (1 : Int32).toInt = (0 : Int32).toInt := fun q => hc664 (Int32.toInt_inj.mp q)
  have hc666 : ¬ ((1 : Int32) = (0 : Int32)) := fun q => by have q2 := congrArg Int32.toInt q; omega
  have q667 : ¬ (1 : Int32).toInt = (0 : Int32).toInt := fun q => hc666 (Int32.toInt_inj.mp q)
  have q669 : ¬ (0 : Int32) < 0 ∧ (0 : Int32) < (4 : Int32) := by rw [Int32.lt_iff_toInt_lt, Int32.lt_iff_toInt_lt]; have q0 : (0 : Int32).toInt = 0 := rfl; omega
  obtain ⟨cl668, Ar668, S668, N668, Hs668⟩ := id F660
  have hin668 : ¬ ((0 : Int32) < 0 ∨ cl668.slots.size ≤ ((0 : Int32)).toNatClampNeg) := inb_of S668 q669
  have hat668 : cl668.slots[((0 : Int32)).toNatClampNeg]? = some (.int (g'_597 0)) := own_at Hs668 S668 hin668 (rfl)
  have q671 := rng32 r_626
  have q672 := rng32 (g'_597 0)
  have hc670 : r_626 = (g'_597 0) := Int32.toInt_inj.mp (by omega)
  have q673 : r_626.toInt = (g'_597 0).toInt := congrArg Int32.toInt hc670
  have q675 : ¬ (1 : Int32) < 0 ∧ (1 : Int32) < (4 : Int32) := by rw [Int32.lt_iff_toInt_lt, Int32.lt_iff_toInt_lt]; have q0 : (0 : Int32).toInt = 0 := rfl; omega
  obtain ⟨cl674, Ar674, S674, N674, Hs674⟩ := id F660
  have hin674 : ¬ ((1 : Int32) < 0 ∨ cl674.slots.size ≤ ((1 : Int32)).toNatClampNeg) := inb_of S674 q675
  have hat674 : cl674.slots[((1 : Int32)).toNatClampNeg]? = some (.int (g'_597 1)) := own_at Hs674 S674 hin674 (rfl)
  have q677 := rng32 r_636
  have q678 := rng32 (g'_597 1)
  have hc676 : r_636 = (g'_597 1) := Int32.toInt_inj.mp (by omega)
  have q679 : r_636.toInt = (g'_597 1).toInt := congrArg Int32.toInt hc676
  have q681 : ¬ (2 : Int32) < 0 ∧ (2 : Int32) < (4 : Int32) := by rw [Int32.lt_iff_toInt_lt, Int32.lt_iff_toInt_lt]; have q0 : (0 : Int32).toInt = 0 := rfl; omega
  obtain ⟨cl680, Ar680, S680, N680, Hs680⟩ := id F660
  have hin680 : ¬ ((2 : Int32) < 0 ∨ cl680.slots.size ≤ ((2 : Int32)).toNatClampNeg) := inb_of S680 q681
  have hat680 : cl680.slots[((2 : Int32)).toNatClampNeg]? = some (.int (g'_597 2)) := own_at Hs680 S680 hin680 (rfl)
  have q683 := rng32 r_646
  have q684 := rng32 (g'_597 2)
  have hc682 : r_646 = (g'_597 2) := Int32.toInt_inj.mp (by omega)
  have q685 : r_646.toInt = (g'_597 2).toInt := congrArg Int32.toInt hc682
  have q687 : ¬ (3 : Int32) < 0 ∧ (3 : Int32) < (4 : Int32) := by rw [Int32.lt_iff_toInt_lt, Int32.lt_iff_toInt_lt]; have q0 : (0 : Int32).toInt = 0 := rfl; omega
  obtain ⟨cl686, Ar686, S686, N686, Hs686⟩ := id F660
  have hin686 : ¬ ((3 : Int32) < 0 ∨ cl686.slots.size ≤ ((3 : Int32)).toNatClampNeg) := inb_of S686 q687
  have hat686 : cl686.slots[((3 : Int32)).toNatClampNeg]? = some (.int (g'_597 3)) := own_at Hs686 S686 hin686 (rfl)
  have q689 := rng32 r_656
  have q690 := rng32 (g'_597 3)
  have hc688 : r_656 = (g'_597 3) := Int32.toInt_inj.mp (by omega)
  have q691 : r_656.toInt = (g'_597 3).toInt := congrArg Int32.toInt hc688
  have K692 : ∀ t, Steps p.tables e below (T656.setTop (mkF m 198 #[.val (.int x0), .val (.int x1), .val (.int x2), .val (.int x3), .val (.ref b475), .val (.ref b494), .val (.int (x3 &&& (3 : Int32))), .val (.int (1 : Int32)), .val (.int (((x3.toUInt32 >>> ((2 : Int32) &&& 31).toUInt32).toInt32) &&& (3 : Int32))), .val (.int (1 : Int32)), .val (.int r_626), .val (.int r_636), .val (.int r_646), .val (.int r_656)] [(.int (1 : Int32))])) t → Steps p.tables e below (s₁.setTop (entryFrame m #[(.int x0), (.int x1), (.int x2), (.int x3)] maxLocals)) t := fun t k => K663 t (by
    show Steps p.tables e below (T656.setTop (mkF m 145 #[.val (.int x0), .val (.int x1), .val (.int x2), .val (.int x3), .val (.ref b475), .val (.ref b494), .val (.int (x3 &&& (3 : Int32))), .val (.int (1 : Int32)), .val (.int (((x3.toUInt32 >>> ((2 : Int32) &&& 31).toUInt32).toInt32) &&& (3 : Int32))), .val (.int (1 : Int32)), .val (.int r_626), .val (.int r_636), .val (.int r_646), .unset] [(.int r_656)])) t
    refine XS.istore X656.here hx rfl (hb hby at_145) rfl (l' := #[.val (.int x0), .val (.int x1), .val (.int x2), .val (.int x3), .val (.ref b475), .val (.ref b494), .val (.int (x3 &&& (3 : Int32))), .val (.int (1 : Int32)), .val (.int (((x3.toUInt32 >>> ((2 : Int32) &&& 31).toUInt32).toInt32) &&& (3 : Int32))), .val (.int (1 : Int32)), .val (.int r_626), .val (.int r_636), .val (.int r_646), .val (.int r_656)]) rfl ?_
    show Steps p.tables e below (T656.setTop (mkF m 147 #[.val (.int x0), .val (.int x1), .val (.int x2), .val (.int x3), .val (.ref b475), .val (.ref b494), .val (.int (x3 &&& (3 : Int32))), .val (.int (1 : Int32)), .val (.int (((x3.toUInt32 >>> ((2 : Int32) &&& 31).toUInt32).toInt32) &&& (3 : Int32))), .val (.int (1 : Int32)), .val (.int r_626), .val (.int r_636), .val (.int r_646), .val (.int r_656)] [])) t
    refine XS.iload X656.here hx rfl (hb hby at_147) rfl ?_
    show Steps p.tables e below (T656.setTop (mkF m 149 #[.val (.int x0), .val (.int x1), .val (.int x2), .val (.int x3), .val (.ref b475), .val (.ref b494), .val (.int (x3 &&& (3 : Int32))), .val (.int (1 : Int32)), .val (.int (((x3.toUInt32 >>> ((2 : Int32) &&& 31).toUInt32).toInt32) &&& (3 : Int32))), .val (.int (1 : Int32)), .val (.int r_626), .val (.int r_636), .val (.int r_646), .val (.int r_656)] [(.int (1 : Int32))])) t
    refine XS.ifNo X656.here hx rfl (hb hby at_149) rfl ((if0 _ _).trans (feq hc664).1) ?_
    show Steps p.tables e below (T656.setTop (mkF m 152 #[.val (.int x0), .val (.int x1), .val (.int x2), .val (.int x3), .val (.ref b475), .val (.ref b494), .val (.int (x3 &&& (3 : Int32))), .val (.int (1 : Int32)), .val (.int (((x3.toUInt32 >>> ((2 : Int32) &&& 31).toUInt32).toInt32) &&& (3 : Int32))), .val (.int (1 : Int32)), .val (.int r_626), .val (.int r_636), .val (.int r_646), .val (.int r_656)] [])) t
    refine XS.iload X656.here hx rfl (hb hby at_152) rfl ?_
    show Steps p.tables e below (T656.setTop (mkF m 154 #[.val (.int x0), .val (.int x1), .val (.int x2), .val (.int x3), .val (.ref b475), .val (.ref b494), .val (.int (x3 &&& (3 : Int32))), .val (.int (1 : Int32)), .val (.int (((x3.toUInt32 >>> ((2 : Int32) &&& 31).toUInt32).toInt32) &&& (3 : Int32))), .val (.int (1 : Int32)), .val (.int r_626), .val (.int r_636), .val (.int r_646), .val (.int r_656)] [(.int (1 : Int32))])) t
    refine XS.ifNo X656.here hx rfl (hb hby at_154) rfl ((if0 _ _).trans (feq hc666).1) ?_
    show Steps p.tables e below (T656.setTop (mkF m 157 #[.val (.int x0), .val (.int x1), .val (.int x2), .val (.int x3), .val (.ref b475), .val (.ref b494), .val (.int (x3 &&& (3 : Int32))), .val (.int (1 : Int32)), .val (.int (((x3.toUInt32 >>> ((2 : Int32) &&& 31).toUInt32).toInt32) &&& (3 : Int32))), .val (.int (1 : Int32)), .val (.int r_626), .val (.int r_636), .val (.int r_646), .val (.int r_656)] [])) t
    refine XS.iload X656.here hx rfl (hb hby at_157) rfl ?_
    show Steps p.tables e below (T656.setTop (mkF m 159 #[.val (.int x0), .val (.int x1), .val (.int x2), .val (.int x3), .val (.ref b475), .val (.ref b494), .val (.int (x3 &&& (3 : Int32))), .val (.int (1 : Int32)), .val (.int (((x3.toUInt32 >>> ((2 : Int32) &&& 31).toUInt32).toInt32) &&& (3 : Int32))), .val (.int (1 : Int32)), .val (.int r_626), .val (.int r_636), .val (.int r_646), .val (.int r_656)] [(.int r_626)])) t
    refine XS.aload X656.here hx rfl (hb hby at_159) rfl rfl ?_
    show Steps p.tables e below (T656.setTop (mkF m 161 #[.val (.int x0), .val (.int x1), .val (.int x2), .val (.int x3), .val (.ref b475), .val (.ref b494), .val (.int (x3 &&& (3 : Int32))), .val (.int (1 : Int32)), .val (.int (((x3.toUInt32 >>> ((2 : Int32) &&& 31).toUInt32).toInt32) &&& (3 : Int32))), .val (.int (1 : Int32)), .val (.int r_626), .val (.int r_636), .val (.int r_646), .val (.int r_656)] [(.ref b494), (.int r_626)])) t
    refine XS.iconst X656.here hx rfl (hb hby at_161) ?_
    show Steps p.tables e below (T656.setTop (mkF m 162 #[.val (.int x0), .val (.int x1), .val (.int x2), .val (.int x3), .val (.ref b475), .val (.ref b494), .val (.int (x3 &&& (3 : Int32))), .val (.int (1 : Int32)), .val (.int (((x3.toUInt32 >>> ((2 : Int32) &&& 31).toUInt32).toInt32) &&& (3 : Int32))), .val (.int (1 : Int32)), .val (.int r_626), .val (.int r_636), .val (.int r_646), .val (.int r_656)] [(.int (0 : Int32)), (.ref b494), (.int r_626)])) t
    refine X656.iaload hx (j := (0 : Int32)) (v := (.int (g'_597 0))) (by rw [e656.symm]; exact Ar668.1) (State.isArrayOf_alike hZ.alike Ar668.2.1) Ar668.2.2 hin668 hat668 (g := (mkF m 162 #[.val (.int x0), .val (.int x1), .val (.int x2), .val (.int x3), .val (.ref b475), .val (.ref b494), .val (.int (x3 &&& (3 : Int32))), .val (.int (1 : Int32)), .val (.int (((x3.toUInt32 >>> ((2 : Int32) &&& 31).toUInt32).toInt32) &&& (3 : Int32))), .val (.int (1 : Int32)), .val (.int r_626), .val (.int r_636), .val (.int r_646), .val (.int r_656)] [(.int (0 : Int32)), (.ref b494), (.int r_626)])) rfl rfl (hb hby at_162) _ ?_
    show Steps p.tables e below (T656.setTop (mkF m 163 #[.val (.int x0), .val (.int x1), .val (.int x2), .val (.int x3), .val (.ref b475), .val (.ref b494), .val (.int (x3 &&& (3 : Int32))), .val (.int (1 : Int32)), .val (.int (((x3.toUInt32 >>> ((2 : Int32) &&& 31).toUInt32).toInt32) &&& (3 : Int32))), .val (.int (1 : Int32)), .val (.int r_626), .val (.int r_636), .val (.int r_646), .val (.int r_656)] [(.int (g'_597 0)), (.int r_626)])) t
    refine XS.icmpNo X656.here hx rfl (hb hby at_163) rfl (teq hc670).2 ?_
    show Steps p.tables e below (T656.setTop (mkF m 166 #[.val (.int x0), .val (.int x1), .val (.int x2), .val (.int x3), .val (.ref b475), .val (.ref b494), .val (.int (x3 &&& (3 : Int32))), .val (.int (1 : Int32)), .val (.int (((x3.toUInt32 >>> ((2 : Int32) &&& 31).toUInt32).toInt32) &&& (3 : Int32))), .val (.int (1 : Int32)), .val (.int r_626), .val (.int r_636), .val (.int r_646), .val (.int r_656)] [])) t
    refine XS.iload X656.here hx rfl (hb hby at_166) rfl ?_
    show Steps p.tables e below (T656.setTop (mkF m 168 #[.val (.int x0), .val (.int x1), .val (.int x2), .val (.int x3), .val (.ref b475), .val (.ref b494), .val (.int (x3 &&& (3 : Int32))), .val (.int (1 : Int32)), .val (.int (((x3.toUInt32 >>> ((2 : Int32) &&& 31).toUInt32).toInt32) &&& (3 : Int32))), .val (.int (1 : Int32)), .val (.int r_626), .val (.int r_636), .val (.int r_646), .val (.int r_656)] [(.int r_636)])) t
    refine XS.aload X656.here hx rfl (hb hby at_168) rfl rfl ?_
    show Steps p.tables e below (T656.setTop (mkF m 170 #[.val (.int x0), .val (.int x1), .val (.int x2), .val (.int x3), .val (.ref b475), .val (.ref b494), .val (.int (x3 &&& (3 : Int32))), .val (.int (1 : Int32)), .val (.int (((x3.toUInt32 >>> ((2 : Int32) &&& 31).toUInt32).toInt32) &&& (3 : Int32))), .val (.int (1 : Int32)), .val (.int r_626), .val (.int r_636), .val (.int r_646), .val (.int r_656)] [(.ref b494), (.int r_636)])) t
    refine XS.iconst X656.here hx rfl (hb hby at_170) ?_
    show Steps p.tables e below (T656.setTop (mkF m 171 #[.val (.int x0), .val (.int x1), .val (.int x2), .val (.int x3), .val (.ref b475), .val (.ref b494), .val (.int (x3 &&& (3 : Int32))), .val (.int (1 : Int32)), .val (.int (((x3.toUInt32 >>> ((2 : Int32) &&& 31).toUInt32).toInt32) &&& (3 : Int32))), .val (.int (1 : Int32)), .val (.int r_626), .val (.int r_636), .val (.int r_646), .val (.int r_656)] [(.int (1 : Int32)), (.ref b494), (.int r_636)])) t
    refine X656.iaload hx (j := (1 : Int32)) (v := (.int (g'_597 1))) (by rw [e656.symm]; exact Ar674.1) (State.isArrayOf_alike hZ.alike Ar674.2.1) Ar674.2.2 hin674 hat674 (g := (mkF m 171 #[.val (.int x0), .val (.int x1), .val (.int x2), .val (.int x3), .val (.ref b475), .val (.ref b494), .val (.int (x3 &&& (3 : Int32))), .val (.int (1 : Int32)), .val (.int (((x3.toUInt32 >>> ((2 : Int32) &&& 31).toUInt32).toInt32) &&& (3 : Int32))), .val (.int (1 : Int32)), .val (.int r_626), .val (.int r_636), .val (.int r_646), .val (.int r_656)] [(.int (1 : Int32)), (.ref b494), (.int r_636)])) rfl rfl (hb hby at_171) _ ?_
    show Steps p.tables e below (T656.setTop (mkF m 172 #[.val (.int x0), .val (.int x1), .val (.int x2), .val (.int x3), .val (.ref b475), .val (.ref b494), .val (.int (x3 &&& (3 : Int32))), .val (.int (1 : Int32)), .val (.int (((x3.toUInt32 >>> ((2 : Int32) &&& 31).toUInt32).toInt32) &&& (3 : Int32))), .val (.int (1 : Int32)), .val (.int r_626), .val (.int r_636), .val (.int r_646), .val (.int r_656)] [(.int (g'_597 1)), (.int r_636)])) t
    refine XS.icmpNo X656.here hx rfl (hb hby at_172) rfl (teq hc676).2 ?_
    show Steps p.tables e below (T656.setTop (mkF m 175 #[.val (.int x0), .val (.int x1), .val (.int x2), .val (.int x3), .val (.ref b475), .val (.ref b494), .val (.int (x3 &&& (3 : Int32))), .val (.int (1 : Int32)), .val (.int (((x3.toUInt32 >>> ((2 : Int32) &&& 31).toUInt32).toInt32) &&& (3 : Int32))), .val (.int (1 : Int32)), .val (.int r_626), .val (.int r_636), .val (.int r_646), .val (.int r_656)] [])) t
    refine XS.iload X656.here hx rfl (hb hby at_175) rfl ?_
    show Steps p.tables e below (T656.setTop (mkF m 177 #[.val (.int x0), .val (.int x1), .val (.int x2), .val (.int x3), .val (.ref b475), .val (.ref b494), .val (.int (x3 &&& (3 : Int32))), .val (.int (1 : Int32)), .val (.int (((x3.toUInt32 >>> ((2 : Int32) &&& 31).toUInt32).toInt32) &&& (3 : Int32))), .val (.int (1 : Int32)), .val (.int r_626), .val (.int r_636), .val (.int r_646), .val (.int r_656)] [(.int r_646)])) t
    refine XS.aload X656.here hx rfl (hb hby at_177) rfl rfl ?_
    show Steps p.tables e below (T656.setTop (mkF m 179 #[.val (.int x0), .val (.int x1), .val (.int x2), .val (.int x3), .val (.ref b475), .val (.ref b494), .val (.int (x3 &&& (3 : Int32))), .val (.int (1 : Int32)), .val (.int (((x3.toUInt32 >>> ((2 : Int32) &&& 31).toUInt32).toInt32) &&& (3 : Int32))), .val (.int (1 : Int32)), .val (.int r_626), .val (.int r_636), .val (.int r_646), .val (.int r_656)] [(.ref b494), (.int r_646)])) t
    refine XS.iconst X656.here hx rfl (hb hby at_179) ?_
    show Steps p.tables e below (T656.setTop (mkF m 180 #[.val (.int x0), .val (.int x1), .val (.int x2), .val (.int x3), .val (.ref b475), .val (.ref b494), .val (.int (x3 &&& (3 : Int32))), .val (.int (1 : Int32)), .val (.int (((x3.toUInt32 >>> ((2 : Int32) &&& 31).toUInt32).toInt32) &&& (3 : Int32))), .val (.int (1 : Int32)), .val (.int r_626), .val (.int r_636), .val (.int r_646), .val (.int r_656)] [(.int (2 : Int32)), (.ref b494), (.int r_646)])) t
    refine X656.iaload hx (j := (2 : Int32)) (v := (.int (g'_597 2))) (by rw [e656.symm]; exact Ar680.1) (State.isArrayOf_alike hZ.alike Ar680.2.1) Ar680.2.2 hin680 hat680 (g := (mkF m 180 #[.val (.int x0), .val (.int x1), .val (.int x2), .val (.int x3), .val (.ref b475), .val (.ref b494), .val (.int (x3 &&& (3 : Int32))), .val (.int (1 : Int32)), .val (.int (((x3.toUInt32 >>> ((2 : Int32) &&& 31).toUInt32).toInt32) &&& (3 : Int32))), .val (.int (1 : Int32)), .val (.int r_626), .val (.int r_636), .val (.int r_646), .val (.int r_656)] [(.int (2 : Int32)), (.ref b494), (.int r_646)])) rfl rfl (hb hby at_180) _ ?_
    show Steps p.tables e below (T656.setTop (mkF m 181 #[.val (.int x0), .val (.int x1), .val (.int x2), .val (.int x3), .val (.ref b475), .val (.ref b494), .val (.int (x3 &&& (3 : Int32))), .val (.int (1 : Int32)), .val (.int (((x3.toUInt32 >>> ((2 : Int32) &&& 31).toUInt32).toInt32) &&& (3 : Int32))), .val (.int (1 : Int32)), .val (.int r_626), .val (.int r_636), .val (.int r_646), .val (.int r_656)] [(.int (g'_597 2)), (.int r_646)])) t
    refine XS.icmpNo X656.here hx rfl (hb hby at_181) rfl (teq hc682).2 ?_
    show Steps p.tables e below (T656.setTop (mkF m 184 #[.val (.int x0), .val (.int x1), .val (.int x2), .val (.int x3), .val (.ref b475), .val (.ref b494), .val (.int (x3 &&& (3 : Int32))), .val (.int (1 : Int32)), .val (.int (((x3.toUInt32 >>> ((2 : Int32) &&& 31).toUInt32).toInt32) &&& (3 : Int32))), .val (.int (1 : Int32)), .val (.int r_626), .val (.int r_636), .val (.int r_646), .val (.int r_656)] [])) t
    refine XS.iload X656.here hx rfl (hb hby at_184) rfl ?_
    show Steps p.tables e below (T656.setTop (mkF m 186 #[.val (.int x0), .val (.int x1), .val (.int x2), .val (.int x3), .val (.ref b475), .val (.ref b494), .val (.int (x3 &&& (3 : Int32))), .val (.int (1 : Int32)), .val (.int (((x3.toUInt32 >>> ((2 : Int32) &&& 31).toUInt32).toInt32) &&& (3 : Int32))), .val (.int (1 : Int32)), .val (.int r_626), .val (.int r_636), .val (.int r_646), .val (.int r_656)] [(.int r_656)])) t
    refine XS.aload X656.here hx rfl (hb hby at_186) rfl rfl ?_
    show Steps p.tables e below (T656.setTop (mkF m 188 #[.val (.int x0), .val (.int x1), .val (.int x2), .val (.int x3), .val (.ref b475), .val (.ref b494), .val (.int (x3 &&& (3 : Int32))), .val (.int (1 : Int32)), .val (.int (((x3.toUInt32 >>> ((2 : Int32) &&& 31).toUInt32).toInt32) &&& (3 : Int32))), .val (.int (1 : Int32)), .val (.int r_626), .val (.int r_636), .val (.int r_646), .val (.int r_656)] [(.ref b494), (.int r_656)])) t
    refine XS.iconst X656.here hx rfl (hb hby at_188) ?_
    show Steps p.tables e below (T656.setTop (mkF m 189 #[.val (.int x0), .val (.int x1), .val (.int x2), .val (.int x3), .val (.ref b475), .val (.ref b494), .val (.int (x3 &&& (3 : Int32))), .val (.int (1 : Int32)), .val (.int (((x3.toUInt32 >>> ((2 : Int32) &&& 31).toUInt32).toInt32) &&& (3 : Int32))), .val (.int (1 : Int32)), .val (.int r_626), .val (.int r_636), .val (.int r_646), .val (.int r_656)] [(.int (3 : Int32)), (.ref b494), (.int r_656)])) t
    refine X656.iaload hx (j := (3 : Int32)) (v := (.int (g'_597 3))) (by rw [e656.symm]; exact Ar686.1) (State.isArrayOf_alike hZ.alike Ar686.2.1) Ar686.2.2 hin686 hat686 (g := (mkF m 189 #[.val (.int x0), .val (.int x1), .val (.int x2), .val (.int x3), .val (.ref b475), .val (.ref b494), .val (.int (x3 &&& (3 : Int32))), .val (.int (1 : Int32)), .val (.int (((x3.toUInt32 >>> ((2 : Int32) &&& 31).toUInt32).toInt32) &&& (3 : Int32))), .val (.int (1 : Int32)), .val (.int r_626), .val (.int r_636), .val (.int r_646), .val (.int r_656)] [(.int (3 : Int32)), (.ref b494), (.int r_656)])) rfl rfl (hb hby at_189) _ ?_
    show Steps p.tables e below (T656.setTop (mkF m 190 #[.val (.int x0), .val (.int x1), .val (.int x2), .val (.int x3), .val (.ref b475), .val (.ref b494), .val (.int (x3 &&& (3 : Int32))), .val (.int (1 : Int32)), .val (.int (((x3.toUInt32 >>> ((2 : Int32) &&& 31).toUInt32).toInt32) &&& (3 : Int32))), .val (.int (1 : Int32)), .val (.int r_626), .val (.int r_636), .val (.int r_646), .val (.int r_656)] [(.int (g'_597 3)), (.int r_656)])) t
    refine XS.icmpNo X656.here hx rfl (hb hby at_190) rfl (teq hc688).2 ?_
    show Steps p.tables e below (T656.setTop (mkF m 193 #[.val (.int x0), .val (.int x1), .val (.int x2), .val (.int x3), .val (.ref b475), .val (.ref b494), .val (.int (x3 &&& (3 : Int32))), .val (.int (1 : Int32)), .val (.int (((x3.toUInt32 >>> ((2 : Int32) &&& 31).toUInt32).toInt32) &&& (3 : Int32))), .val (.int (1 : Int32)), .val (.int r_626), .val (.int r_636), .val (.int r_646), .val (.int r_656)] [])) t
    refine XS.iconst X656.here hx rfl (hb hby at_193) ?_
    show Steps p.tables e below (T656.setTop (mkF m 194 #[.val (.int x0), .val (.int x1), .val (.int x2), .val (.int x3), .val (.ref b475), .val (.ref b494), .val (.int (x3 &&& (3 : Int32))), .val (.int (1 : Int32)), .val (.int (((x3.toUInt32 >>> ((2 : Int32) &&& 31).toUInt32).toInt32) &&& (3 : Int32))), .val (.int (1 : Int32)), .val (.int r_626), .val (.int r_636), .val (.int r_646), .val (.int r_656)] [(.int (1 : Int32))])) t
    refine XS.goto X656.here hx rfl (pc0 := 194) (pc' := 198) rfl (hb hby at_194) (by decide) (by decide) ?_
    exact k)
  obtain ⟨fs, hr, hrun, hended, hW, hsame⟩ := X656.leave (v := some (.int (1 : Int32))) (fun h => by rw [Bd.returns] at h; cases h)
  refine ⟨_, _, K692 _ ?_, hrun, hended, _, _, rfl, ?_, ⟨_, rfl⟩, hW, hsame.mono (by decide) (by decide)⟩
  · exact retN X656 hx (t := .boolean) Bd.returns (by simp) (hb hby at_198) hr
  · show Q_rm0 Z x0 x1 x2 x3 h0 n0 _ T656.heap _
    rw [e656.symm]
    exact ⟨rfl, (by trivial), N657, Kp661⟩
set_option maxRecDepth 65536 in
set_option maxHeartbeats 40000000 in
theorem comes_1 {Post : Tables → Env → Array Value → State → Outcome → State → Prop} (hpost : ∀ tb e args s v u, (limb_1_1.after args s (.returned v) u = true ∧ limb_1_2.after args s (.returned v) u = true ∧ True) → FrameEnd s (.returned v) u (Jvm.fieldLocs frame_1_writes args s ++ Jvm.arrayLocs frame_1_arrays args s ++ Jvm.staticLocs frame_1_statics s) 16 128 → Post tb e args s (.returned v) u) :
    ArmFor flags0 classFile x code maxLocals ret World_1 tables_1 room_1 Calls_1 rest_1 Pre_1 Post := by
  intro l hfl _ _ p e ha hc hk s m args below hf hA hF happ hP
  obtain ⟨hcalls, hrest, hpre⟩ := hP
  obtain ⟨-, -, -, hnamed, -, -, -, hat⟩ := (Spec.applies_iff hf).mp happ
  obtain ⟨hg, hn⟩ := and_e (Cond.before_iff.mp (show (Jvm.Cond.and given_1 narrow_1).before args s = true from hpre))
  obtain ⟨gg1, gg2⟩ := and_e hg
  obtain ⟨gg3, gg4⟩ := and_e gg2
  obtain ⟨gg5, gg6⟩ := and_e gg4
  obtain ⟨gg7, gg8⟩ := and_e gg6
  obtain ⟨w0, w1, w2, w3, rfl⟩ : ∃ w0 w1 w2 w3 : Value, args = #[w0, w1, w2, w3] := by
    have hs : args.size = 4 := by simpa [Cond.value, given_1] using gg1
    obtain ⟨L⟩ := args
    match L, hs with
    | [w0, w1, w2, w3], _ => exact ⟨w0, w1, w2, w3, rfl⟩
  have hw := fun d (hd : d ∈ tables_1) => atoms_spec (ws := Jvm.Cond.code x code maxLocals ret :: tables_1) hat d (List.mem_cons_of_mem _ hd)
  obtain ⟨i0, ei0⟩ := is_v gg3
  obtain rfl : w0 = (.int i0) := Option.some.inj ei0
  obtain ⟨i1, ei1⟩ := is_v gg5
  obtain rfl : w1 = (.int i1) := Option.some.inj ei1
  obtain ⟨i2, ei2⟩ := is_v gg7
  obtain rfl : w2 = (.int i2) := Option.some.inj ei2
  obtain ⟨i3, ei3⟩ := is_v gg8
  obtain rfl : w3 = (.int i3) := Option.some.inj ei3
  obtain ⟨n, o, h1, h2, h3, _, L, rfl, ⟨rfl, -, N, -⟩, hq⟩ := rm0 l s _ hw tables_1 i0 i1 i2 i3 s.heap s.heap.size (Nat.le_refl _) p e ha hc hk s m _ below hf ((Spec.applies_iff_loose hf).mp happ).1 ⟨rfl, State.Warmed39.refl s, rfl⟩ trivial
  refine ⟨n, _, h1, h2, h3, hpost _ _ _ _ _ _ ⟨Cond.after_iff.mpr rfl, Cond.after_iff.mpr (eq_i res_at (Term.int_eval (1)) rfl), trivial⟩ ⟨hq.1, hq.2.1, (hq.2.2.sift fun y hy => Or.inr (N y hy)).mono (by decide) (by decide)⟩⟩
theorem main_1_1 : Claimed_1_1 := comes_1 fun _ _ _ _ _ _ h hF => ⟨h.1, hF⟩
theorem main_1_2 : Claimed_1_2 := comes_1 fun _ _ _ _ _ _ h hF => ⟨h.2.1, hF⟩
end Jvm.Pilot.@@N@@
namespace Jvm.Pilot.@@N@@
open Jvm Jvm.ClassFile Sem Op Lib Jvm.Free Jvm.Stand Jvm.Pilot.@@N@@.Jvm.D
/-! MADE BY PROGRAM (witnessworld.py) out of the Statement's table words and the real class files: 9 classes; the members and pool entries that the words name. The judged class is class 1, her method 3. -/
namespace start1
open Jvm.ClassFile
def u (s : String) : CpInfo := .utf8 (stringToUtf16 s)
/-- a pool by its gaps: so many unusable entries, then the entry; so many at the end -/
def gap : Nat → List CpInfo → List CpInfo
  | 0, r => r
  | n + 1, r => .unusable :: gap n r
def poolList (es : List (Nat × CpInfo)) (last : Nat) : List CpInfo := es.foldr (fun e r => gap e.1 (e.2 :: r)) (gap last [])
def pool (es : List (Nat × CpInfo)) (last : Nat) : Array CpInfo := ⟨poolList es last⟩
def fileOf (pool : Array CpInfo) (this : Nat) (attrs : Array Attribute := #[]) (ms : Array MethodInfo := #[]) (fl : Nat := 33) (sup : Nat := 0) (ifs : Array Nat := #[]) (fds : Array FieldInfo := #[]) : ClassFile where
  minorVersion := 0
  majorVersion := 65
  constantPool := pool
  accessFlags := fl
  thisClass := this
  superClass := sup
  interfaces := ifs
  fields := fds
  methods := ms
  attributes := attrs
def plain (name : String) (sup : Option ClassId) : Class where
  name := name
  kind := .ordinary
  loader := none
  accessFlags := 33
  super := sup
  interfaces := #[]
  cf := none
  fields := #[]
  methods := #[]
  instanceTypes := #[]
  staticTypes := #[]
  resolved := #[]
  callSites := []
  init := .initialized
  statics := none
  mirror := none

def pool0 : Array CpInfo := pool [(5, u "<init>"), (0, u "()V"), (1, .class_ 10), (1, u "java/lang/Object")] 113

def k0c0 : Code := { maxStack := 0, maxLocals := 1, code := object_method_1_code, exceptionTable := #[], attributes := #[] }
def k0m0 : Method := { name := "<init>", desc := "()V", sig := { parameters := [], returnType := none }, accessFlags := 1, code := some k0c0 }
/-- java/lang/Object -/
def k0 : Class := { plain "java/lang/Object" none with
  accessFlags := 33
  interfaces := #[]
  cf := some (fileOf pool0 8 #[] #[{ accessFlags := 1, nameIndex := 5, descriptorIndex := 6, attributes := #[] }] 33 0 #[] #[])
  fields := #[]
  methods := #[k0m0]
  instanceTypes := #[]
  staticTypes := #[]
  resolved := Array.replicate 124 none
  statics := none }

def pool1 : Array CpInfo := pool [(2, .class_ 4), (1, u "java/lang/Object"), (0, u "<init>"), (0, u "()V"), (0, .methodref 8 9), (0, .class_ 10), (0, .nameAndType 11 12), (0, u "tersegraph/Forest"), (0, u "attach"), (0, u "(II)V"), (0, .methodref 14 15), (0, .class_ 16), (0, .nameAndType 17 18), (0, u "tersegraph/ForestRootPinLaw"), (0, u "relabel"), (0, u "([III)V"), (0, .methodref 8 20), (0, .nameAndType 5 21), (0, u "(I)V"), (0, .methodref 14 23), (0, .nameAndType 24 25), (0, u "join"), (0, u "(Ltersegraph/Forest;[II)V"), (0, .methodref 8 27), (0, .nameAndType 28 29), (0, u "root"), (0, u "(I)I"), (3, u "law"), (0, u "(IIII)Z")] 4

def k1m0 : Method := { name := "<init>", desc := "()V", sig := { parameters := [], returnType := none }, accessFlags := 1, code := none }
def k1c1 : Code := { maxStack := 3, maxLocals := 3, code := method_2_code, exceptionTable := #[], attributes := #[] }
def k1m1 : Method := { name := "relabel", desc := "([III)V", sig := { parameters := [(.array .int), .int, .int], returnType := none }, accessFlags := 10, code := some k1c1 }
def k1c2 : Code := { maxStack := 3, maxLocals := 5, code := method_3_code, exceptionTable := #[], attributes := #[] }
def k1m2 : Method := { name := "join", desc := "(Ltersegraph/Forest;[II)V", sig := { parameters := [(.object "tersegraph/Forest"), (.array .int), .int], returnType := none }, accessFlags := 10, code := some k1c2 }
def k1c3 : Code := { maxStack := 3, maxLocals := 14, code := code, exceptionTable := #[], attributes := #[] }
def k1m3 : Method := { name := "law", desc := "(IIII)Z", sig := { parameters := [.int, .int, .int, .int], returnType := some .boolean }, accessFlags := 9, code := some k1c3 }
/-- tersegraph/ForestRootPinLaw -/
def k1 : Class := { plain "tersegraph/ForestRootPinLaw" (some 0) with
  accessFlags := 49
  interfaces := #[]
  cf := some (fileOf pool1 14 #[] #[{ accessFlags := 1, nameIndex := 5, descriptorIndex := 6, attributes := #[] }, { accessFlags := 10, nameIndex := 17, descriptorIndex := 18, attributes := #[] }, { accessFlags := 10, nameIndex := 24, descriptorIndex := 25, attributes := #[] }, { accessFlags := 9, nameIndex := 33, descriptorIndex := 34, attributes := #[] }] 49 2 #[] #[])
  fields := #[]
  methods := #[k1m0, k1m1, k1m2, k1m3]
  instanceTypes := #[]
  staticTypes := #[]
  resolved := Array.replicate 39 none
  statics := none }

def pool2 : Array CpInfo := pool [(1, .methodref 2 3), (0, .class_ 4), (0, .nameAndType 5 6), (0, u "java/lang/Object"), (0, u "<init>"), (0, u "()V"), (0, .fieldref 8 9), (0, .class_ 10), (0, .nameAndType 11 12), (0, u "tersegraph/Forest"), (0, u "parent"), (0, u "[I"), (0, u "(I)V"), (3, u "root"), (0, u "(I)I"), (0, u "attach"), (0, u "(II)V")] 2

def k2c0 : Code := { maxStack := 3, maxLocals := 3, code := prog_8_method_1_code, exceptionTable := #[], attributes := #[] }
def k2m0 : Method := { name := "<init>", desc := "(I)V", sig := { parameters := [.int], returnType := none }, accessFlags := 0, code := some k2c0 }
def k2c1 : Code := { maxStack := 5, maxLocals := 3, code := prog_8_method_2_code, exceptionTable := #[], attributes := #[] }
def k2m1 : Method := { name := "root", desc := "(I)I", sig := { parameters := [.int], returnType := some .int }, accessFlags := 0, code := some k2c1 }
def k2c2 : Code := { maxStack := 3, maxLocals := 3, code := prog_8_method_3_code, exceptionTable := #[], attributes := #[] }
def k2m2 : Method := { name := "attach", desc := "(II)V", sig := { parameters := [.int, .int], returnType := none }, accessFlags := 0, code := some k2c2 }
/-- tersegraph/Forest -/
def k2 : Class := { plain "tersegraph/Forest" (some 0) with
  accessFlags := 48
  interfaces := #[]
  cf := some (fileOf pool2 8 #[] #[{ accessFlags := 0, nameIndex := 5, descriptorIndex := 13, attributes := #[] }, { accessFlags := 0, nameIndex := 17, descriptorIndex := 18, attributes := #[] }, { accessFlags := 0, nameIndex := 19, descriptorIndex := 20, attributes := #[] }] 48 2 #[] #[{ accessFlags := 18, nameIndex := 11, descriptorIndex := 12, attributes := #[] }])
  fields := #[{ name := "parent", type := (.array .int), accessFlags := 18, slot := 0, constantValue := 0 }]
  methods := #[k2m0, k2m1, k2m2]
  instanceTypes := #[(.array .int)]
  staticTypes := #[]
  resolved := Array.replicate 23 none
  statics := none }

def pool3 : Array CpInfo := pool [(1, u "java/lang/Cloneable"), (0, .class_ 1), (0, u "java/lang/Object"), (0, .class_ 3)] 3

/-- java/lang/Cloneable -/
def k3 : Class := { plain "java/lang/Cloneable" (some 0) with
  accessFlags := 1537
  interfaces := #[]
  cf := some (fileOf pool3 2 #[] #[] 1537 4 #[] #[])
  fields := #[]
  methods := #[]
  instanceTypes := #[]
  staticTypes := #[]
  resolved := Array.replicate 8 none
  statics := none }

def pool4 : Array CpInfo := pool [(1, u "java/io/Serializable"), (0, .class_ 1), (0, u "java/lang/Object"), (0, .class_ 3)] 3

/-- java/io/Serializable -/
def k4 : Class := { plain "java/io/Serializable" (some 0) with
  accessFlags := 1537
  interfaces := #[]
  cf := some (fileOf pool4 2 #[] #[] 1537 4 #[] #[])
  fields := #[]
  methods := #[]
  instanceTypes := #[]
  staticTypes := #[]
  resolved := Array.replicate 8 none
  statics := none }

/-- the primitive byte -/
def k5 : Class := { plain "byte" none with kind := .primitive 'B', accessFlags := 0x411 }
/-- [B -/
def k6 : Class := { plain "[B" (some 0) with kind := .array 5 .byte, interfaces := #[3, 4], accessFlags := 1041 }

/-- the primitive int -/
def k7 : Class := { plain "int" none with kind := .primitive 'I', accessFlags := 0x411 }
/-- [I -/
def k8 : Class := { plain "[I" (some 0) with kind := .array 7 .int, interfaces := #[3, 4], accessFlags := 1041 }

def heap : Heap := #[]
def classes : Array Class := #[k0, k1, k2, k3, k4, k5, k6, k7, k8]
def interned : List (Array UInt16 × Addr) := []
def slotsUsed : Nat := 0
def theMethod : MethodId := ⟨1, 3⟩
def args0 : Array Value := #[.int 5, .int 7, .int 9, .int 3]
def aboutOver (below : List Frame) : State where
  vm := { classes := classes, interned := interned.toArray }
  heap := heap
  slotsUsed := slotsUsed
  threads := #[{ frames := .invoking theMethod args0 :: below }]
def below0 : List Frame := [.native { method := ⟨0, 0⟩, args := #[] }]
def about1 : State := aboutOver below0
def p0 : Program := .bare "" "" ""
def e0 : Env := launch0.env 0 0 0
theorem w_frames : about1.frames = Frame.invoking theMethod args0 :: below0 := rfl
set_option maxRecDepth 65536 in
theorem w_args : argsFit about1.vm theMethod args0 = true := by decide +kernel
set_option maxRecDepth 65536 in
theorem w_heap : heapFits about1 = true := by decide +kernel
set_option maxRecDepth 65536 in
theorem w_runnable : about1.curStatus? = some .runnable := by decide +kernel
set_option maxRecDepth 65536 in
theorem w_alone : about1.alone = true := by decide +kernel
set_option maxRecDepth 65536 in
theorem w_named : about1.methodNamed? x = some theMethod := by decide +kernel
set_option maxRecDepth 65536 in
theorem w_hears : about1.hears theMethod below0 = true := by decide +kernel
set_option maxRecDepth 65536 in
theorem w_ripe : about1.ripe theMethod args0 below0 = true := by decide +kernel
theorem w_running : about1.status = .running := rfl
set_option maxRecDepth 65536 in
theorem w_room : about1.hasRoom e0.platform room_1 = true :=
  launch0.hasRoom_least _ room_1 (by decide +kernel) (by decide +kernel) (by decide +kernel) (by decide +kernel) (by decide +kernel) (by decide +kernel)
theorem allAtoms_all (ts : List Jvm.Cond) (a : Array Jvm.Value) (st : Jvm.State) : (allAtoms ts).before a st = ts.all (fun c => c.before a st) := by
  induction ts with
  | nil => rfl
  | cons c t ih =>
    show (Jvm.Cond.and c (allAtoms t)).before a st = _
    rw [Jvm.Cond.before_and, ih, List.all_cons]
def words1 : List Jvm.Cond := Jvm.Cond.code x code maxLocals ret :: tables_1
/-- a 'code' word, met by the world's own term for the bytes: nothing is compared byte by byte -/
theorem code_word {y : MethodName} {bytes : ByteArray} {mx : Nat} {rt : Option FieldType} {a : Array Value} {s : State} {m : MethodId} {meth : Method} {c : Code} (h1 : s.methodNamed? y = some m) (h2 : s.vm.method? m = some meth) (h3 : meth.code = some c) (h4 : c.code = bytes)
    (h5 : (c.maxLocals == mx && c.exceptionTable.isEmpty && decide (c.maxStack ≤ mostOperands) && decide (meth.sig.returnType = rt) && !meth.locks && decide (parseMethodDescriptor y.desc = some meth.sig)) = true) : (Jvm.Cond.code y bytes mx rt).before a s = true := by
  simp only [Bool.and_eq_true, beq_iff_eq, Bool.not_eq_true', decide_eq_true_eq] at h5
  obtain ⟨⟨⟨⟨⟨g1, g2⟩, g3⟩, g4⟩, g5⟩, g6⟩ := h5
  simp [Cond.before, Cond.holds, Cond.value, h1, h2, h3, h4, g1, g2, g3, g4, g5, g6]
def isCode : Jvm.Cond → Bool
  | .code _ _ _ _ => true
  | _ => false
theorem all_split {L : List Jvm.Cond} {P : Jvm.Cond → Bool} (h1 : L.all (fun c => isCode c || P c) = true) (h2 : ∀ c ∈ L.filter isCode, P c = true) : L.all P = true := by
  refine List.all_eq_true.mpr fun c hc => ?_
  have h := List.all_eq_true.mp h1 c hc
  rcases Bool.eq_false_or_eq_true (isCode c) with hi | hi
  · exact h2 c (List.mem_filter.mpr ⟨hc, hi⟩)
  · simpa [hi] using h
set_option maxRecDepth 65536 in
theorem w_c0 : (Jvm.Cond.code x code maxLocals ret).before args0 about1 = true := code_word (m := ⟨1, 3⟩) (meth := k1m3) (c := k1c3) (by decide +kernel) rfl rfl rfl (by decide +kernel)
set_option maxRecDepth 65536 in
theorem w_c1 : (Jvm.Cond.code ({ cls := "tersegraph/Forest", name := "<init>", desc := "(I)V" } : Jvm.MethodName) prog_8_method_1_code (3 : Nat) (Option.none : Option Jvm.ClassFile.FieldType)).before args0 about1 = true := code_word (m := ⟨2, 0⟩) (meth := k2m0) (c := k2c0) (by decide +kernel) rfl rfl rfl (by decide +kernel)
set_option maxRecDepth 65536 in
theorem w_c2 : (Jvm.Cond.code ({ cls := "java/lang/Object", name := "<init>", desc := "()V" } : Jvm.MethodName) object_method_1_code (1 : Nat) (Option.none : Option Jvm.ClassFile.FieldType)).before args0 about1 = true := code_word (m := ⟨0, 0⟩) (meth := k0m0) (c := k0c0) (by decide +kernel) rfl rfl rfl (by decide +kernel)
set_option maxRecDepth 65536 in
theorem w_c3 : (Jvm.Cond.code ({ cls := "tersegraph/ForestRootPinLaw", name := "join", desc := "(Ltersegraph/Forest;[II)V" } : Jvm.MethodName) method_3_code (5 : Nat) (Option.none : Option Jvm.ClassFile.FieldType)).before args0 about1 = true := code_word (m := ⟨1, 2⟩) (meth := k1m2) (c := k1c2) (by decide +kernel) rfl rfl rfl (by decide +kernel)
set_option maxRecDepth 65536 in
theorem w_c4 : (Jvm.Cond.code ({ cls := "tersegraph/Forest", name := "attach", desc := "(II)V" } : Jvm.MethodName) prog_8_method_3_code (3 : Nat) (Option.none : Option Jvm.ClassFile.FieldType)).before args0 about1 = true := code_word (m := ⟨2, 2⟩) (meth := k2m2) (c := k2c2) (by decide +kernel) rfl rfl rfl (by decide +kernel)
set_option maxRecDepth 65536 in
theorem w_c5 : (Jvm.Cond.code ({ cls := "tersegraph/ForestRootPinLaw", name := "relabel", desc := "([III)V" } : Jvm.MethodName) method_2_code (3 : Nat) (Option.none : Option Jvm.ClassFile.FieldType)).before args0 about1 = true := code_word (m := ⟨1, 1⟩) (meth := k1m1) (c := k1c1) (by decide +kernel) rfl rfl rfl (by decide +kernel)
set_option maxRecDepth 65536 in
theorem w_c6 : (Jvm.Cond.code ({ cls := "tersegraph/Forest", name := "root", desc := "(I)I" } : Jvm.MethodName) prog_8_method_2_code (3 : Nat) (Option.some Jvm.ClassFile.FieldType.int)).before args0 about1 = true := code_word (m := ⟨2, 1⟩) (meth := k2m1) (c := k2c1) (by decide +kernel) rfl rfl rfl (by decide +kernel)
def codes1 : List Jvm.Cond := [Jvm.Cond.code x code maxLocals ret, Jvm.Cond.code ({ cls := "tersegraph/Forest", name := "<init>", desc := "(I)V" } : Jvm.MethodName) prog_8_method_1_code (3 : Nat) (Option.none : Option Jvm.ClassFile.FieldType), Jvm.Cond.code ({ cls := "java/lang/Object", name := "<init>", desc := "()V" } : Jvm.MethodName) object_method_1_code (1 : Nat) (Option.none : Option Jvm.ClassFile.FieldType), Jvm.Cond.code ({ cls := "tersegraph/ForestRootPinLaw", name := "join", desc := "(Ltersegraph/Forest;[II)V" } : Jvm.MethodName) method_3_code (5 : Nat) (Option.none : Option Jvm.ClassFile.FieldType), Jvm.Cond.code ({ cls := "tersegraph/Forest", name := "attach", desc := "(II)V" } : Jvm.MethodName) prog_8_method_3_code (3 : Nat) (Option.none : Option Jvm.ClassFile.FieldType), Jvm.Cond.code ({ cls := "tersegraph/ForestRootPinLaw", name := "relabel", desc := "([III)V" } : Jvm.MethodName) method_2_code (3 : Nat) (Option.none : Option Jvm.ClassFile.FieldType), Jvm.Cond.code ({ cls := "tersegraph/Forest", name := "root", desc := "(I)I" } : Jvm.MethodName) prog_8_method_2_code (3 : Nat) (Option.some Jvm.ClassFile.FieldType.int)]
set_option maxRecDepth 65536 in
theorem codes_eq : words1.filter isCode = codes1 := rfl
theorem w_codes : ∀ c ∈ words1.filter isCode, c.before args0 about1 = true := by
  rw [codes_eq]
  intro c hc
  simp only [codes1, List.mem_cons, List.not_mem_nil, or_false] at hc
  rcases hc with rfl | rfl | rfl | rfl | rfl | rfl | rfl
  · exact w_c0
  · exact w_c1
  · exact w_c2
  · exact w_c3
  · exact w_c4
  · exact w_c5
  · exact w_c6
set_option maxRecDepth 65536 in
theorem w_t1 : (words1.take 24).all (fun c => isCode c || c.before args0 about1) = true := by decide +kernel
set_option maxRecDepth 65536 in
theorem w_t2 : (words1.drop 24).all (fun c => isCode c || c.before args0 about1) = true := by decide +kernel
theorem w_tables : (allAtoms (Jvm.Cond.code x code maxLocals ret :: tables_1)).before args0 about1 = true := by
  rw [allAtoms_all]
  show words1.all (fun c => c.before args0 about1) = true
  refine all_split ?_ w_codes
  rw [← List.take_append_drop 24 words1, List.all_append, w_t1, w_t2]
  rfl
set_option maxRecDepth 65536 in
theorem w_case : (Jvm.Cond.and given_1 narrow_1).before args0 about1 = true := by decide +kernel
theorem w_applies : (headSpec (Jvm.Cond.code x code maxLocals ret :: tables_1) room_1).applies x e0.platform about1 = true :=
  (Spec.applies_iff w_frames).mpr ⟨w_running, w_runnable, w_alone, w_named, w_hears, w_ripe, w_room, w_tables⟩
theorem atStart : AtStart classFile x code maxLocals ret World_1 tables_1 room_1 Calls_1 rest_1 Pre_1 launch0 p0 e0 about1 theMethod args0 below0 :=
  ⟨lists_1, trivial, launch0.admits_env _ _ _, launch0.least_env, fairChoices_fair.cas, fairChoices_fair.clock, w_frames, w_args, w_heap, w_applies, trivial, trivial, w_case⟩
end start1
theorem witness_1 : WitnessClaimed_1 := ⟨start1.p0, start1.e0, start1.about1, start1.theMethod, start1.args0, start1.below0, start1.atStart⟩
end Jvm.Pilot.@@N@@
