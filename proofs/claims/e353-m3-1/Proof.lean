import JvmDerived
import JvmDerived.Pilot.@@N@@Statement
import JvmDerived.Pilot.@@N@@Code
set_option linter.unusedVariables false
set_option linter.unusedSimpArgs false
namespace Jvm.RoadKit
open Sem ClassFile Op Lib Jvm.Stand Jvm.Free Jvm.LawKit
section New
variable {p : Program} {l : Launch} {e : Env} {R : Room} {s : State} {m : MethodId} {args : Array Value} {below : List Frame} {meth : Method} {c : Code} {T : State} {locs : List Loc} {cells slots : Nat}
theorem retI (X : Stand p l e R s m args below meth c T locs cells slots) (hx : p.tables.exec = Jvm.exec) {pc : Nat} {Ls : Array Slot} {z : Int32} {rest : List Value} (hret : meth.sig.returnType = some .int) (hd : decode c.code pc = .ok (.ireturn, 1)) {fs : List Frame}
    (hl : ∀ (f : JFrame) (acts : List Action), f.method = m → f.locked = none → f.entered = [] → (doReturn e (T.setTop f) acts (some (.int z))).1 = T.setFrames fs) : Steps p.tables e below (T.setTop (mkF m pc Ls (.int z :: rest))) (T.setFrames fs) := by
  have hm' : T.vm.method? m = some meth := X.method'
  have hn : narrow .int (.int z) = .int z := rfl
  show Steps p.tables e below (T.setTop { method := m, pc := pc, locals := Ls, stack := _ :: rest, locked := none }) _
  jvm_step X.here [X.here.top, hx, hd, hm', hret, hn]
  first | (intro acts; rw [hl _ acts rfl rfl rfl]) | rw [hl _ _ rfl rfl rfl]
  exact Steps.refl _
end New
end Jvm.RoadKit
namespace Jvm.Pilot.@@N@@
open Jvm Jvm.ClassFile Sem Op Lib Jvm.Free Jvm.Stand Jvm.LawKit Jvm.RoadKit Bundle Jvm.Pilot.@@N@@.Jvm.D
def own_A (Z : State) (h : Heap) (a : Addr) (n : Nat) (f : Nat → Int32) : Prop := ∃ c : Cell, Arr Z h a c .int ∧ c.slots.size = n ∧ ∀ j, j < n → c.slots[j]? = some (.int (f j))
def own_upd (f : Nat → Int32) (i : Nat) (x : Int32) : Nat → Int32 := fun j => if j = i then x else f j
section OwnA
variable {Z : State} {h h' : Heap} {a b : Addr} {n : Nat} {f g : Nat → Int32} {sl : Nat} {v : Value} {ws : List Addr} {c : Cell} {j x z : Int32}
theorem own_A.lt (F : own_A Z h a n f) : a < h.size := by obtain ⟨c, A, -⟩ := F; exact A.lt
theorem own_A.ext (F : own_A Z h a n f) (E : Ext h h') : own_A Z h' a n f := by obtain ⟨c, A, r⟩ := F; exact ⟨c, A.ext E, r⟩
theorem own_A.other (F : own_A Z h b n f) (W : Wr h h' a sl v) (q : b ≠ a) : own_A Z h' b n f := by obtain ⟨c, A, r⟩ := F; exact ⟨c, A.other W q, r⟩
theorem own_A.keep (F : own_A Z h a n f) (K : Keep h h' ws) (q : a ∉ ws) : own_A Z h' a n f := by obtain ⟨c, A, r⟩ := F; exact ⟨c, ⟨K.2.1 a c A.1 q, A.2⟩, r⟩
theorem own_A.set {i : Nat} (F : own_A Z h a n f) (W : Wr h h' a i (.int x)) : own_A Z h' a n (own_upd f i x) := by
  obtain ⟨c, A, S, H⟩ := F
  have hi : i < c.slots.size := by obtain ⟨c2, e1, -, e3, -⟩ := W; cases A.1.symm.trans e1; exact e3
  refine ⟨_, A.same W, by rw [sz_set]; exact S, fun k hk => ?_⟩
  by_cases u : k = i
  · subst u; simp [Cell.setSlot, own_upd, hi]
  · simp only [Cell.setSlot, own_upd, if_neg u]; rw [Array.getElem?_setIfInBounds_ne (Ne.symm u)]; exact H k hk
theorem own_A.congr (F : own_A Z h a n f) (q : ∀ j, j < n → f j = g j) : own_A Z h a n g := by obtain ⟨c, A, S, H⟩ := F; exact ⟨c, A, S, fun j hj => by rw [← q j hj]; exact H j hj⟩
theorem own_A.new {k : ClassId} (A : Arr Z h a (newA k .int z) .int) (e : z.toNatClampNeg = n) : own_A Z h a n (fun _ => 0) := ⟨_, A, by rw [sz_new]; exact e, fun i hi => by simp [newA, e, hi, defaultValue]⟩
theorem own_inb (S : c.slots.size = n) (q1 : ¬ j < 0) (q2 : j.toNatClampNeg < n) : ¬ (j < 0 ∨ c.slots.size ≤ j.toNatClampNeg) := by rw [S]; intro y; rcases y with y | y; exact q1 y; omega
theorem own_len (S : c.slots.size = n) (q : n.toInt32 = z) : c.slots.size.toInt32 = z := by rw [S]; exact q
theorem own_A.arv (F : own_A Z h a n f) (hn : n < 2 ^ 31) : ∃ k, Arv Z h a k .int (Int32.ofNat n) ((List.range n).map fun j => .int (f j)) (.int 0) := by
  obtain ⟨c, A, S, H⟩ := F
  have e : (Int32.ofNat n).toInt = n := Int32.toInt_ofNat_of_lt (by omega)
  have gt : ∀ i, i < n → ((List.range n).map fun j => Value.int (f j)).getD i (.int 0) = .int (f i) := fun i hi => by simp [List.getD_eq_getElem?_getD, hi]
  refine ⟨c.cls, c, A, rfl, by simp only [Int32.toNatClampNeg, e]; omega, by rw [Int32.lt_iff_toInt_lt, e]; show ¬ (n : Int) < 0; omega, fun i hi => ?_, fun i hi => ?_⟩
  · rw [gt i (by omega)]; exact H i (by omega)
  · rw [gt i (by omega)]; rfl
end OwnA
theorem own_ofI {m : Nat} (h : m ≤ 32) : (Int32.ofNat m).toInt = m := Int32.toInt_ofNat_of_lt (by omega)
theorem own_ofN {m : Nat} (h : m ≤ 32) : (Int32.ofNat m).toNatClampNeg = m := by simp only [Int32.toNatClampNeg, own_ofI h]; omega
theorem own_of0 {m : Nat} (h : m ≤ 32) : ¬ Int32.ofNat m < 0 := by rw [Int32.lt_iff_toInt_lt, own_ofI h]; show ¬ (m : Int) < 0; omega
theorem own_inj {m n : Nat} (hm : m ≤ 32) (hn : n ≤ 32) (e : Int32.ofNat m = Int32.ofNat n) : m = n := by
  have := congrArg Int32.toInt e; rw [own_ofI hm, own_ofI hn] at this; omega
theorem own_back {x : Int32} (h : ¬ x < 0) : Int32.ofNat x.toNatClampNeg = x := (back32 h).1
theorem own_nn {n : Int32} (h : 0 ≤ n.toInt) : ¬ n < 0 := by rw [Int32.lt_iff_toInt_lt]; have : (0 : Int32).toInt = 0 := rfl; omega
theorem own_tn {n : Int32} {k : Nat} (h : n.toInt < k) (hk : 0 < k) : n.toNatClampNeg < k := by simp only [Int32.toNatClampNeg]; omega
theorem own_gt {x y : Int32} : x < y ↔ x.toInt < y.toInt := Int32.lt_iff_toInt_lt
theorem own_z : (0 : Int32).toInt = 0 := rfl
/-- a tree of K nodes: each node's parent is smaller and has a smaller round -/
def own_tree (K : Nat) (fP fR : Nat → Int32) : Prop := fR 0 = 0 ∧ fP 0 = 0 ∧ (∀ x, x < K → ¬ fP x < 0) ∧ ∀ x, 0 < x → x < K → (fP x).toNatClampNeg < x ∧ (fR (fP x).toNatClampNeg).toInt < (fR x).toInt ∧ 0 < (fR x).toInt
theorem own_tree.lt {K : Nat} {fP fR : Nat → Int32} (T : own_tree K fP fR) (hK : 0 < K) {x : Nat} (h : x < K) : (fP x).toNatClampNeg < K := by
  by_cases u : x = 0
  · subst u; rw [T.2.1]; exact hK
  · have := (T.2.2.2 x (by omega) h).1; omega
theorem own_tree.r0 {K : Nat} {fP fR : Nat → Int32} (T : own_tree K fP fR) {x : Nat} (h : x < K) : 0 ≤ (fR x).toInt := by
  by_cases u : x = 0
  · subst u; rw [T.1]; decide
  · have := (T.2.2.2 x (by omega) h).2.2; omega
theorem own_d_prog_132_method_1_0 : decode prog_132_method_1_code 0 = .ok (.aload_n 0, 1) := by decide +kernel
theorem own_d_prog_132_method_1_1 : decode prog_132_method_1_code 1 = .ok (.invokespecial 1, 3) := by decide +kernel
theorem own_d_prog_132_method_1_4 : decode prog_132_method_1_code 4 = .ok (.aload_n 0, 1) := by decide +kernel
theorem own_d_prog_132_method_1_5 : decode prog_132_method_1_code 5 = .ok (.aload_n 1, 1) := by decide +kernel
theorem own_d_prog_132_method_1_6 : decode prog_132_method_1_code 6 = .ok (.putfield 7, 3) := by decide +kernel
theorem own_d_prog_132_method_1_9 : decode prog_132_method_1_code 9 = .ok (.aload_n 0, 1) := by decide +kernel
theorem own_d_prog_132_method_1_10 : decode prog_132_method_1_code 10 = .ok (.aload_n 2, 1) := by decide +kernel
theorem own_d_prog_132_method_1_11 : decode prog_132_method_1_code 11 = .ok (.putfield 13, 3) := by decide +kernel
theorem own_d_prog_132_method_1_14 : decode prog_132_method_1_code 14 = .ok (.aload_n 0, 1) := by decide +kernel
theorem own_d_prog_132_method_1_15 : decode prog_132_method_1_code 15 = .ok (.aload_n 3, 1) := by decide +kernel
theorem own_d_prog_132_method_1_16 : decode prog_132_method_1_code 16 = .ok (.putfield 16, 3) := by decide +kernel
theorem own_d_prog_132_method_1_19 : decode prog_132_method_1_code 19 = .ok (.return_, 1) := by decide +kernel
theorem own_pn0 : plainName "com/example/unfold/unfold/reduction/Splitting" = true := by first | (simp [plainName, overriddenIn]; done) | decide +kernel
theorem own_ef_ctor (m : MethodId) (a1 : Addr) (a2 : Addr) (a3 : Addr) (a4 : Addr) : entryFrame m #[(.ref a1), (.ref a2), (.ref a3), (.ref a4)] 4 = mkF m 0 #[.val (.ref a1), .val (.ref a2), .val (.ref a3), .val (.ref a4)] [] := by first | (simp [entryFrame, mkF, argsToLocals, Value.category]; done) | rfl
def own_Q_ctor (Z : State) (a1 : Addr) (a2 : Addr) (a3 : Addr) (a4 : Addr) (h0 : Heap) (n0 : Nat) (v : Option Value) (h : Heap) (L : List Loc) : Prop := v = none ∧ Fr n0 L ∧ Keep h0 h [a1] ∧ Fld Z h a1 "com/example/unfold/unfold/reduction/Splitting" "blocks" "[I" (.ref a2) ∧ Fld Z h a1 "com/example/unfold/unfold/reduction/Splitting" "parents" "[I" (.ref a3) ∧ Fld Z h a1 "com/example/unfold/unfold/reduction/Splitting" "rounds" "[I" (.ref a4)
set_option maxRecDepth 65536 in
set_option maxHeartbeats 40000000 in
theorem own_rm_ctor (l : Launch) (Z : State) (a0 : Array Value) (hw : ∀ d ∈ tables_1, d.before a0 Z = true) (ws : List Jvm.Cond) (a1 : Addr) (a2 : Addr) (a3 : Addr) (a4 : Addr) (h0 : Heap) (n0 : Nat) (Z0 : n0 ≤ h0.size) (E1 : Exa Z h0 a1 "com/example/unfold/unfold/reduction/Splitting") (F_blocks : Fld Z h0 a1 "com/example/unfold/unfold/reduction/Splitting" "blocks" "[I" .null) (F_parents : Fld Z h0 a1 "com/example/unfold/unfold/reduction/Splitting" "parents" "[I" .null) (F_rounds : Fld Z h0 a1 "com/example/unfold/unfold/reduction/Splitting" "rounds" "[I" .null) (g1 : n0 ≤ a1) :
    MetFree l (⟨"com/example/unfold/unfold/reduction/Splitting", "<init>", "([I[I[I)V"⟩ : MethodName) (head1 (Jvm.Cond.code (⟨"com/example/unfold/unfold/reduction/Splitting", "<init>", "([I[I[I)V"⟩ : MethodName) prog_132_method_1_code 4 none :: ws) ({ frames := 1, cells := 0, slots := 0, locals := 12 } : Room)) (fun a U => a = #[(.ref a1), (.ref a2), (.ref a3), (.ref a4)] ∧ Z.Warmed39 U.vm ∧ U.heap = h0) (fun _ _ _ _ _ => True) (fun _ U o U' => ∃ v L, o = .returned v ∧ own_Q_ctor Z a1 a2 a3 a4 h0 n0 v U'.heap L ∧ FrameEnd U o U' L ({ frames := 1, cells := 0, slots := 0, locals := 12 } : Room).cells ({ frames := 1, cells := 0, slots := 0, locals := 12 } : Room).slots) := by
  refine MetFree.of_bodySF (plainFor_of_name own_pn0) hisR ?_
  intro p e s m args below meth c s₁ Bd hml0 hP hK
  obtain ⟨rfl, hZ, hh⟩ := hP
  have hx := Bd.exec
  have hby := Bd.bytes
  have hml : c.maxLocals = 4 := hml0
  have hown : s.vm.findClass "com/example/unfold/unfold/reduction/Splitting" = some m.cls := findClass_of_methodNamed Bd.named
  have hnm := (name_of_methodNamed Bd.named Bd.method).1
  have X0 : Stand p l e ({ frames := 1, cells := 0, slots := 0, locals := 12 } : Room) s m #[(.ref a1), (.ref a2), (.ref a3), (.ref a4)] below meth c s₁ [] 0 0 := Stand.of_body Bd
  have e0 : s₁.heap = h0 := by rw [← hh, Bd.state]; rfl
  have N0 := Fr.nil n0
  have K0 : Keep h0 h0 [a1] := Keep.refl _ _
  have pre0 : ∀ t, Steps p.tables e below (s₁.setTop (mkF m 0 #[.val (.ref a1), .val (.ref a2), .val (.ref a3), .val (.ref a4)] [])) t → Steps p.tables e below (s₁.setTop (entryFrame m #[(.ref a1), (.ref a2), (.ref a3), (.ref a4)] 4)) t := fun t k => castTop (own_ef_ctor m a1 a2 a3 a4) k
  obtain ⟨T1, X1, e1, st1⟩ := initO X0 hx hZ hown (hw _ (List.mem_of_getElem? (i := 7) rfl)) (hw _ (List.mem_of_getElem? (i := 8) rfl)) (hw _ (List.mem_of_getElem? (i := 9) rfl)) e0 (g := (mkF m 1 #[.val (.ref a1), .val (.ref a2), .val (.ref a3), .val (.ref a4)] [(.ref a1)])) rfl (by rw [hml]; rfl) rfl (hb hby own_d_prog_132_method_1_1) (by decide) (W := 0) (by show 2 * 0 + _ ≤ _; exact Nat.le_of_eq rfl) (by decide)
  obtain ⟨T2, h2, X2, e2, W2, st2⟩ := putF X1 hx hZ hown (host := "") (Or.inl (hw _ (List.mem_of_getElem? (i := 10) rfl))) Via.refl e1 F_blocks E1 (Or.inr ⟨(hw _ (List.mem_of_getElem? (i := 11) rfl)), rfl, hnm⟩) (hw _ (List.mem_of_getElem? (i := 2) rfl)) (ty := (.array .int)) (by decide) rfl rfl (g := (mkF m 6 #[.val (.ref a1), .val (.ref a2), .val (.ref a3), .val (.ref a4)] [(.ref a2), (.ref a1)])) rfl rfl (hb hby own_d_prog_132_method_1_6)
  have f3 := E1.wr W2
  have f5 := F_parents.other W2 (Or.inr (slot_ne (Or.inr (hw _ (List.mem_of_getElem? (i := 13) rfl))) (Or.inr (hw _ (List.mem_of_getElem? (i := 11) rfl))) (by decide) (t := (.array .int)) (t' := (.array .int)) (by decide) (by decide)))
  have f6 := F_rounds.other W2 (Or.inr (slot_ne (Or.inr (hw _ (List.mem_of_getElem? (i := 15) rfl))) (Or.inr (hw _ (List.mem_of_getElem? (i := 11) rfl))) (by decide) (t := (.array .int)) (t' := (.array .int)) (by decide) (by decide)))
  have k7 := K0.wr W2 (Or.inl (List.mem_of_getElem? (i := 0) rfl))
  have nf8 := Fr.snoc X2 N0 g1
  have f9 := F_blocks.same W2
  obtain ⟨T10, h10, X10, e10, W10, st10⟩ := putF X2 hx hZ hown (host := "") (Or.inl (hw _ (List.mem_of_getElem? (i := 12) rfl))) Via.refl e2 f5 f3 (Or.inr ⟨(hw _ (List.mem_of_getElem? (i := 13) rfl)), rfl, hnm⟩) (hw _ (List.mem_of_getElem? (i := 2) rfl)) (ty := (.array .int)) (by decide) rfl rfl (g := (mkF m 11 #[.val (.ref a1), .val (.ref a2), .val (.ref a3), .val (.ref a4)] [(.ref a3), (.ref a1)])) rfl rfl (hb hby own_d_prog_132_method_1_11)
  have f11 := f3.wr W10
  have f12 := f9.other W10 (Or.inr (slot_ne (Or.inr (hw _ (List.mem_of_getElem? (i := 11) rfl))) (Or.inr (hw _ (List.mem_of_getElem? (i := 13) rfl))) (by decide) (t := (.array .int)) (t' := (.array .int)) (by decide) (by decide)))
  have f14 := f6.other W10 (Or.inr (slot_ne (Or.inr (hw _ (List.mem_of_getElem? (i := 15) rfl))) (Or.inr (hw _ (List.mem_of_getElem? (i := 13) rfl))) (by decide) (t := (.array .int)) (t' := (.array .int)) (by decide) (by decide)))
  have k15 := k7.wr W10 (Or.inl (List.mem_of_getElem? (i := 0) rfl))
  have nf16 := Fr.snoc X10 nf8 g1
  have f17 := f5.same W10
  obtain ⟨T18, h18, X18, e18, W18, st18⟩ := putF X10 hx hZ hown (host := "") (Or.inl (hw _ (List.mem_of_getElem? (i := 14) rfl))) Via.refl e10 f14 f11 (Or.inr ⟨(hw _ (List.mem_of_getElem? (i := 15) rfl)), rfl, hnm⟩) (hw _ (List.mem_of_getElem? (i := 2) rfl)) (ty := (.array .int)) (by decide) rfl rfl (g := (mkF m 16 #[.val (.ref a1), .val (.ref a2), .val (.ref a3), .val (.ref a4)] [(.ref a4), (.ref a1)])) rfl rfl (hb hby own_d_prog_132_method_1_16)
  have f19 := f11.wr W18
  have f20 := f12.other W18 (Or.inr (slot_ne (Or.inr (hw _ (List.mem_of_getElem? (i := 11) rfl))) (Or.inr (hw _ (List.mem_of_getElem? (i := 15) rfl))) (by decide) (t := (.array .int)) (t' := (.array .int)) (by decide) (by decide)))
  have f21 := f17.other W18 (Or.inr (slot_ne (Or.inr (hw _ (List.mem_of_getElem? (i := 13) rfl))) (Or.inr (hw _ (List.mem_of_getElem? (i := 15) rfl))) (by decide) (t := (.array .int)) (t' := (.array .int)) (by decide) (by decide)))
  have k23 := k15.wr W18 (Or.inl (List.mem_of_getElem? (i := 0) rfl))
  have nf24 := Fr.snoc X18 nf16 g1
  have f25 := f14.same W18
  have pre26 : ∀ t, Steps p.tables e below (T18.setTop (mkF m 19 #[.val (.ref a1), .val (.ref a2), .val (.ref a3), .val (.ref a4)] [])) t → Steps p.tables e below (s₁.setTop (entryFrame m #[(.ref a1), (.ref a2), (.ref a3), (.ref a4)] 4)) t := by
    intro t kt
    refine pre0 t ?_
    show Steps p.tables e below (s₁.setTop (mkF m 0 #[.val (.ref a1), .val (.ref a2), .val (.ref a3), .val (.ref a4)] [])) _
    refine XS.aloadN X0.here hx rfl (hb hby own_d_prog_132_method_1_0) rfl rfl ?_
    show Steps p.tables e below (s₁.setTop (mkF m 1 #[.val (.ref a1), .val (.ref a2), .val (.ref a3), .val (.ref a4)] [(.ref a1)])) _
    refine st1 _ ?_
    show Steps p.tables e below (T1.setTop (mkF m 4 #[.val (.ref a1), .val (.ref a2), .val (.ref a3), .val (.ref a4)] [])) _
    refine XS.aloadN X1.here hx rfl (hb hby own_d_prog_132_method_1_4) rfl rfl ?_
    show Steps p.tables e below (T1.setTop (mkF m 5 #[.val (.ref a1), .val (.ref a2), .val (.ref a3), .val (.ref a4)] [(.ref a1)])) _
    refine XS.aloadN X1.here hx rfl (hb hby own_d_prog_132_method_1_5) rfl rfl ?_
    show Steps p.tables e below (T1.setTop (mkF m 6 #[.val (.ref a1), .val (.ref a2), .val (.ref a3), .val (.ref a4)] [(.ref a2), (.ref a1)])) _
    refine st2 _ ?_
    show Steps p.tables e below (T2.setTop (mkF m 9 #[.val (.ref a1), .val (.ref a2), .val (.ref a3), .val (.ref a4)] [])) _
    refine XS.aloadN X2.here hx rfl (hb hby own_d_prog_132_method_1_9) rfl rfl ?_
    show Steps p.tables e below (T2.setTop (mkF m 10 #[.val (.ref a1), .val (.ref a2), .val (.ref a3), .val (.ref a4)] [(.ref a1)])) _
    refine XS.aloadN X2.here hx rfl (hb hby own_d_prog_132_method_1_10) rfl rfl ?_
    show Steps p.tables e below (T2.setTop (mkF m 11 #[.val (.ref a1), .val (.ref a2), .val (.ref a3), .val (.ref a4)] [(.ref a3), (.ref a1)])) _
    refine st10 _ ?_
    show Steps p.tables e below (T10.setTop (mkF m 14 #[.val (.ref a1), .val (.ref a2), .val (.ref a3), .val (.ref a4)] [])) _
    refine XS.aloadN X10.here hx rfl (hb hby own_d_prog_132_method_1_14) rfl rfl ?_
    show Steps p.tables e below (T10.setTop (mkF m 15 #[.val (.ref a1), .val (.ref a2), .val (.ref a3), .val (.ref a4)] [(.ref a1)])) _
    refine XS.aloadN X10.here hx rfl (hb hby own_d_prog_132_method_1_15) rfl rfl ?_
    show Steps p.tables e below (T10.setTop (mkF m 16 #[.val (.ref a1), .val (.ref a2), .val (.ref a3), .val (.ref a4)] [(.ref a4), (.ref a1)])) _
    refine st18 _ ?_
    exact kt
  obtain ⟨fs, hr, hrun, hended, hW, hsame⟩ := X18.leave (v := none) (fun _ => rfl)
  refine ⟨_, _, pre26 _ ?_, hrun, hended, _, _, rfl, ?_, ⟨_, rfl⟩, hW, hsame.mono (by decide) (by decide)⟩
  · show Steps p.tables e below (T18.setTop (mkF m 19 #[.val (.ref a1), .val (.ref a2), .val (.ref a3), .val (.ref a4)] [])) _
    exact X18.returnOut hx Bd.returns (hb hby own_d_prog_132_method_1_19) hr
  · show own_Q_ctor Z a1 a2 a3 a4 h0 n0 (none) T18.heap _
    rw [e18]
    exact ⟨rfl, nf24, k23, f20, f21, f25⟩
def own_v2 (x0 x1 : Int32) : Nat → Int32
  | 0 => x0
  | _ => x1
def own_v4 (x0 x1 x2 x3 : Int32) : Nat → Int32
  | 0 => x0
  | 1 => x1
  | 2 => x2
  | _ => x3
def own_blk (fP fR : Nat → Int32) (r : Int32) : Nat → Nat → Nat
  | 0, x => x
  | k + 1, x => if r < fR x then own_blk fP fR r k (fP x).toNatClampNeg else x
def own_anc (fP : Nat → Int32) (c : Int32) (s : Nat) : Int32 := if c = Int32.ofNat s ∨ c = fP s ∨ c = fP (fP s).toNatClampNeg ∨ c = fP (fP (fP s).toNatClampNeg).toNatClampNeg then 1 else 0
theorem own_x0 {fP fR : Nat → Int32} {r : Int32} {x : Nat} (T : own_tree 4 fP fR) (hr : ¬ r < 0) (h : r < fR x) : 0 < x := by
  by_cases u : x = 0
  · subst u; rw [T.1] at h; exact absurd h hr
  · omega
theorem own_plain {fP fR : Nat → Int32} {r : Int32} {s : Nat} (T : own_tree 4 fP fR) (hr : ¬ r < 0) (hs : s < 4) :
    own_blk fP fR r 4 s < 4 ∧ own_anc fP (Int32.ofNat (own_blk fP fR r 4 s)) s = 1 ∧ ¬ r < fR (own_blk fP fR r 4 s) ∧ ∀ x, x < 4 → own_anc fP (Int32.ofNat x) s = 0 ∨ r < fR x ∨ ¬ fR (own_blk fP fR r 4 s) < fR x := by
  have step : ∀ x, x < 4 → (fP x).toNatClampNeg < 4 ∧ (x = 0 ∨ (fP x).toNatClampNeg < x) ∧ (fR (fP x).toNatClampNeg).toInt ≤ (fR x).toInt ∧ Int32.ofNat (fP x).toNatClampNeg = fP x := fun x hx => by
    refine ⟨T.lt (by decide) hx, ?_, ?_, own_back (T.2.2.1 x hx)⟩
    · by_cases u : x = 0
      · exact Or.inl u
      · exact Or.inr (T.2.2.2 x (by omega) hx).1
    · by_cases u : x = 0
      · subst u; rw [T.2.1]; exact Int.le_refl _
      · have := (T.2.2.2 x (by omega) hx).2.1; omega
  obtain ⟨a1, a2, a3, a4⟩ := step s hs
  generalize hc1 : (fP s).toNatClampNeg = c1 at *
  obtain ⟨b1, b2, b3, b4⟩ := step c1 a1
  generalize hc2 : (fP c1).toNatClampNeg = c2 at *
  obtain ⟨d1, d2, d3, d4⟩ := step c2 b1
  generalize hc3 : (fP c2).toNatClampNeg = c3 at *
  have z3 : c3 = 0 := by
    by_cases u : c2 = 0
    · subst u; rw [T.2.1] at hc3; rw [← hc3]; rfl
    · have : c1 ≠ 0 := fun e => by subst e; rw [T.2.1] at hc2; exact u (by rw [← hc2]; rfl)
      have : s ≠ 0 := fun e => by subst e; rw [T.2.1] at hc1; exact this (by rw [← hc1]; rfl)
      omega
  have q3 : ¬ r < fR c3 := by rw [z3, T.1]; exact hr
  have anc : ∀ x, x < 4 → own_anc fP (Int32.ofNat x) s = 0 ∨ x = s ∨ x = c1 ∨ x = c2 ∨ x = c3 := fun x hx => by
    by_cases u : x = s ∨ x = c1 ∨ x = c2 ∨ x = c3
    · exact Or.inr u
    · left
      have e1 : ¬ Int32.ofNat x = Int32.ofNat s := fun e => u (Or.inl (own_inj (by omega) (by omega) e))
      have e2 : ¬ Int32.ofNat x = fP s := fun e => u (Or.inr (Or.inl (own_inj (by omega) (by omega) (e.trans a4.symm))))
      have e3 : ¬ Int32.ofNat x = fP c1 := fun e => u (Or.inr (Or.inr (Or.inl (own_inj (by omega) (by omega) (e.trans b4.symm)))))
      have e4 : ¬ Int32.ofNat x = fP c2 := fun e => u (Or.inr (Or.inr (Or.inr (own_inj (by omega) (by omega) (e.trans d4.symm)))))
      simp [own_anc, hc1, hc2, e1, e2, e3, e4]
  have anc1 : ∀ x, (x = s ∨ x = c1 ∨ x = c2 ∨ x = c3) → own_anc fP (Int32.ofNat x) s = 1 := fun x u => by
    rcases u with rfl | rfl | rfl | rfl
    · simp [own_anc]
    · simp [own_anc, a4]
    · simp [own_anc, hc1, b4]
    · simp [own_anc, hc1, hc2, d4]
  have main : ∀ B : Nat, (B = s ∨ B = c1 ∨ B = c2 ∨ B = c3) → B < 4 → ¬ r < fR B → (∀ x, (x = s ∨ x = c1 ∨ x = c2 ∨ x = c3) → r < fR x ∨ ¬ fR B < fR x) → B < 4 ∧ own_anc fP (Int32.ofNat B) s = 1 ∧ ¬ r < fR B ∧ ∀ x, x < 4 → own_anc fP (Int32.ofNat x) s = 0 ∨ r < fR x ∨ ¬ fR B < fR x := fun B h1 h2 h3 h4 => ⟨h2, anc1 B h1, h3, fun x hx => (anc x hx).imp id (h4 x)⟩
  by_cases g0 : r < fR s
  · by_cases g1 : r < fR c1
    · by_cases g2 : r < fR c2
      · have e : own_blk fP fR r 4 s = c3 := by simp [own_blk, hc1, hc2, hc3, g0, g1, g2, q3]
        rw [e]
        refine main c3 (by simp) d1 q3 fun x u => ?_
        rcases u with rfl | rfl | rfl | rfl
        · exact Or.inl g0
        · exact Or.inl g1
        · exact Or.inl g2
        · right; rw [own_gt]; omega
      · have e : own_blk fP fR r 4 s = c2 := by simp [own_blk, hc1, hc2, hc3, g0, g1, g2]
        rw [e]
        refine main c2 (by simp) b1 g2 fun x u => ?_
        rcases u with rfl | rfl | rfl | rfl
        · exact Or.inl g0
        · exact Or.inl g1
        · right; rw [own_gt]; omega
        · right; rw [own_gt]; omega
    · have e : own_blk fP fR r 4 s = c1 := by simp [own_blk, hc1, hc2, hc3, g0, g1]
      rw [e]
      refine main c1 (by simp) a1 g1 fun x u => ?_
      rcases u with rfl | rfl | rfl | rfl
      · exact Or.inl g0
      · right; rw [own_gt]; omega
      · right; rw [own_gt]; omega
      · right; rw [own_gt]; omega
  · have e : own_blk fP fR r 4 s = s := by simp [own_blk, g0]
    rw [e]
    refine main s (by simp) hs g0 fun x u => ?_
    rcases u with rfl | rfl | rfl | rfl
    · right; rw [own_gt]; omega
    · right; rw [own_gt]; omega
    · right; rw [own_gt]; omega
    · right; rw [own_gt]; omega
theorem own_d_prog_132_method_2_0 : decode prog_132_method_2_code 0 = .ok (.aload_n 0, 1) := by decide +kernel
theorem own_d_prog_132_method_2_1 : decode prog_132_method_2_code 1 = .ok (.getfield 7, 3) := by decide +kernel
theorem own_d_prog_132_method_2_4 : decode prog_132_method_2_code 4 = .ok (.iload_n 1, 1) := by decide +kernel
theorem own_d_prog_132_method_2_5 : decode prog_132_method_2_code 5 = .ok (.iaload, 1) := by decide +kernel
theorem own_d_prog_132_method_2_6 : decode prog_132_method_2_code 6 = .ok (.istore_n 3, 1) := by decide +kernel
theorem own_d_prog_132_method_2_7 : decode prog_132_method_2_code 7 = .ok (.aload_n 0, 1) := by decide +kernel
theorem own_d_prog_132_method_2_8 : decode prog_132_method_2_code 8 = .ok (.getfield 16, 3) := by decide +kernel
theorem own_d_prog_132_method_2_11 : decode prog_132_method_2_code 11 = .ok (.iload_n 3, 1) := by decide +kernel
theorem own_d_prog_132_method_2_12 : decode prog_132_method_2_code 12 = .ok (.iaload, 1) := by decide +kernel
theorem own_d_prog_132_method_2_13 : decode prog_132_method_2_code 13 = .ok (.iload_n 2, 1) := by decide +kernel
theorem own_d_prog_132_method_2_14 : decode prog_132_method_2_code 14 = .ok (.if_icmp .le 13, 3) := by decide +kernel
theorem own_d_prog_132_method_2_17 : decode prog_132_method_2_code 17 = .ok (.aload_n 0, 1) := by decide +kernel
theorem own_d_prog_132_method_2_18 : decode prog_132_method_2_code 18 = .ok (.getfield 13, 3) := by decide +kernel
theorem own_d_prog_132_method_2_21 : decode prog_132_method_2_code 21 = .ok (.iload_n 3, 1) := by decide +kernel
theorem own_d_prog_132_method_2_22 : decode prog_132_method_2_code 22 = .ok (.iaload, 1) := by decide +kernel
theorem own_d_prog_132_method_2_23 : decode prog_132_method_2_code 23 = .ok (.istore_n 3, 1) := by decide +kernel
theorem own_d_prog_132_method_2_24 : decode prog_132_method_2_code 24 = .ok (.goto (-17), 3) := by decide +kernel
theorem own_d_prog_132_method_2_27 : decode prog_132_method_2_code 27 = .ok (.iload_n 3, 1) := by decide +kernel
theorem own_d_prog_132_method_2_28 : decode prog_132_method_2_code 28 = .ok (.ireturn, 1) := by decide +kernel
theorem own_ef_blk (m : MethodId) (a1 : Addr) (p1 : Int32) (p2 : Int32) : entryFrame m #[(.ref a1), (.int p1), (.int p2)] 4 = mkF m 0 #[.val (.ref a1), .val (.int p1), .val (.int p2), .unset] [] := by first | (simp [entryFrame, mkF, argsToLocals, Value.category]; done) | rfl
def own_Q_blk (Z : State) (a1 : Addr) (p1 : Int32) (p2 : Int32) (bB : Addr) (bP : Addr) (bR : Addr) (fB : Nat → Int32) (fP : Nat → Int32) (fR : Nat → Int32) (s_ : Nat) (h0 : Heap) (n0 : Nat) (v : Option Value) (h : Heap) (L : List Loc) : Prop := v = some (.int (Int32.ofNat (own_blk fP fR p2 4 s_))) ∧ Fr n0 L ∧ h = h0
set_option maxRecDepth 65536 in
set_option maxHeartbeats 40000000 in
theorem own_rm_blk (l : Launch) (Z : State) (a0 : Array Value) (hw : ∀ d ∈ tables_1, d.before a0 Z = true) (ws : List Jvm.Cond) (a1 : Addr) (p1 : Int32) (p2 : Int32) (bB : Addr) (bP : Addr) (bR : Addr) (fB : Nat → Int32) (fP : Nat → Int32) (fR : Nat → Int32) (s_ : Nat) (h0 : Heap) (n0 : Nat) (Z0 : n0 ≤ h0.size) (F1 : Fld Z h0 a1 "com/example/unfold/unfold/reduction/Splitting" "blocks" "[I" (.ref bB)) (F2 : Fld Z h0 a1 "com/example/unfold/unfold/reduction/Splitting" "parents" "[I" (.ref bP)) (F3 : Fld Z h0 a1 "com/example/unfold/unfold/reduction/Splitting" "rounds" "[I" (.ref bR)) (AB : own_A Z h0 bB 2 fB) (AP : own_A Z h0 bP 4 fP) (AR : own_A Z h0 bR 4 fR) (hp1 : ¬ p1 < 0) (hp2 : p1.toNatClampNeg < 2) (hs : fB p1.toNatClampNeg = Int32.ofNat s_) (hs4 : s_ < 4) (hT : own_tree 4 fP fR) (hr : ¬ p2 < 0) :
    MetFree l (⟨"com/example/unfold/unfold/reduction/Splitting", "blockAfter", "(II)I"⟩ : MethodName) (head1 (Jvm.Cond.code (⟨"com/example/unfold/unfold/reduction/Splitting", "blockAfter", "(II)I"⟩ : MethodName) prog_132_method_2_code 4 (some .int) :: ws) ({ frames := 0, cells := 0, slots := 0, locals := 0 } : Room)) (fun a U => a = #[(.ref a1), (.int p1), (.int p2)] ∧ Z.Warmed39 U.vm ∧ U.heap = h0) (fun _ _ _ _ _ => True) (fun _ U o U' => ∃ v L, o = .returned v ∧ own_Q_blk Z a1 p1 p2 bB bP bR fB fP fR s_ h0 n0 v U'.heap L ∧ FrameEnd U o U' L ({ frames := 0, cells := 0, slots := 0, locals := 0 } : Room).cells ({ frames := 0, cells := 0, slots := 0, locals := 0 } : Room).slots) := by
  refine MetFree.of_bodySF (plainFor_of_name own_pn0) hisR ?_
  intro p e s m args below meth c s₁ Bd hml0 hP hK
  obtain ⟨rfl, hZ, hh⟩ := hP
  have hx := Bd.exec
  have hby := Bd.bytes
  have hml : c.maxLocals = 4 := hml0
  have hown : s.vm.findClass "com/example/unfold/unfold/reduction/Splitting" = some m.cls := findClass_of_methodNamed Bd.named
  have hnm := (name_of_methodNamed Bd.named Bd.method).1
  have X0 : Stand p l e ({ frames := 0, cells := 0, slots := 0, locals := 0 } : Room) s m #[(.ref a1), (.int p1), (.int p2)] below meth c s₁ [] 0 0 := Stand.of_body Bd
  have e0 : s₁.heap = h0 := by rw [← hh, Bd.state]; rfl
  have N0 := Fr.nil n0
  have K0 : Keep h0 h0 [] := Keep.refl _ _
  have pre0 : ∀ t, Steps p.tables e below (s₁.setTop (mkF m 0 #[.val (.ref a1), .val (.int p1), .val (.int p2), .unset] [])) t → Steps p.tables e below (s₁.setTop (entryFrame m #[(.ref a1), (.int p1), (.int p2)] 4)) t := fun t k => castTop (own_ef_blk m a1 p1 p2) k
  obtain ⟨T1, X1, e1, st1⟩ := getF X0 hx hZ hown (host := "") (Or.inl (hw _ (List.mem_of_getElem? (i := 10) rfl))) Via.refl e0 F1 (g := (mkF m 1 #[.val (.ref a1), .val (.int p1), .val (.int p2), .unset] [(.ref a1)])) rfl rfl (hb hby own_d_prog_132_method_2_1)
  obtain ⟨cl2, Ar2, S2, H2⟩ := id AB
  have hin2 : ¬ (p1 < 0 ∨ cl2.slots.size ≤ (p1).toNatClampNeg) := own_inb S2 hp1 hp2
  have hat2 : cl2.slots[(p1).toNatClampNeg]? = some (.int (Int32.ofNat s_)) := (by rw [← hs]; exact H2 _ hp2)
  have pre3 : ∀ t, Steps p.tables e below (T1.setTop (mkF m 7 #[.val (.ref a1), .val (.int p1), .val (.int p2), .val (.int (Int32.ofNat s_))] [])) t → Steps p.tables e below (s₁.setTop (entryFrame m #[(.ref a1), (.int p1), (.int p2)] 4)) t := by
    intro t kt
    refine pre0 t ?_
    show Steps p.tables e below (s₁.setTop (mkF m 0 #[.val (.ref a1), .val (.int p1), .val (.int p2), .unset] [])) _
    refine XS.aloadN X0.here hx rfl (hb hby own_d_prog_132_method_2_0) rfl rfl ?_
    show Steps p.tables e below (s₁.setTop (mkF m 1 #[.val (.ref a1), .val (.int p1), .val (.int p2), .unset] [(.ref a1)])) _
    refine st1 _ ?_
    show Steps p.tables e below (T1.setTop (mkF m 4 #[.val (.ref a1), .val (.int p1), .val (.int p2), .unset] [(.ref bB)])) _
    refine XS.iloadN X1.here hx rfl (hb hby own_d_prog_132_method_2_4) rfl ?_
    show Steps p.tables e below (T1.setTop (mkF m 5 #[.val (.ref a1), .val (.int p1), .val (.int p2), .unset] [(.int p1), (.ref bB)])) _
    refine X1.iaload hx (j := p1) (v := (.int (Int32.ofNat s_))) (by rw [e1]; exact Ar2.1) (State.isArrayOf_alike hZ.alike Ar2.2.1) Ar2.2.2 hin2 hat2 (g := (mkF m 5 #[.val (.ref a1), .val (.int p1), .val (.int p2), .unset] [(.int p1), (.ref bB)])) rfl rfl (hb hby own_d_prog_132_method_2_5) _ ?_
    show Steps p.tables e below (T1.setTop (mkF m 6 #[.val (.ref a1), .val (.int p1), .val (.int p2), .unset] [(.int (Int32.ofNat s_))])) _
    refine XS.istoreN X1.here hx rfl (hb hby own_d_prog_132_method_2_6) rfl (l' := #[.val (.ref a1), .val (.int p1), .val (.int p2), .val (.int (Int32.ofNat s_))]) rfl ?_
    exact kt
  have loop : ∀ (k x : Nat) (Tt : State), Stand p l e ({ frames := 0, cells := 0, slots := 0, locals := 0 } : Room) s m #[(.ref a1), (.int p1), (.int p2)] below meth c Tt [] 0 0 → Tt.heap = h0 → x < k → x < 4 → ∃ T', Stand p l e ({ frames := 0, cells := 0, slots := 0, locals := 0 } : Room) s m #[(.ref a1), (.int p1), (.int p2)] below meth c T' [] 0 0 ∧ T'.heap = h0 ∧ ∀ t, Steps p.tables e below (T'.setTop (mkF m 27 #[.val (.ref a1), .val (.int p1), .val (.int p2), .val (.int (Int32.ofNat (own_blk fP fR p2 k x)))] [])) t → Steps p.tables e below (Tt.setTop (mkF m 7 #[.val (.ref a1), .val (.int p1), .val (.int p2), .val (.int (Int32.ofNat x))] [])) t := by
    intro k
    induction k with
    | zero => intro x Tt Xt et hk lx4; omega
    | succ k ih =>
      intro x Tt Xt et hk lx4
      have pret : ∀ t, Steps p.tables e below (Tt.setTop (mkF m 7 #[.val (.ref a1), .val (.int p1), .val (.int p2), .val (.int (Int32.ofNat x))] [])) t → Steps p.tables e below (Tt.setTop (mkF m 7 #[.val (.ref a1), .val (.int p1), .val (.int p2), .val (.int (Int32.ofNat x))] [])) t := fun t q => q
      obtain ⟨T4, X4, e4, st4⟩ := getF Xt hx hZ hown (host := "") (Or.inl (hw _ (List.mem_of_getElem? (i := 14) rfl))) Via.refl et F3 (g := (mkF m 8 #[.val (.ref a1), .val (.int p1), .val (.int p2), .val (.int (Int32.ofNat x))] [(.ref a1)])) rfl rfl (hb hby own_d_prog_132_method_2_8)
      obtain ⟨cl5, Ar5, S5, H5⟩ := id AR
      have hin5 : ¬ ((Int32.ofNat x) < 0 ∨ cl5.slots.size ≤ ((Int32.ofNat x)).toNatClampNeg) := own_inb S5 (own_of0 (by omega)) (by rw [own_ofN (by omega)]; omega)
      have hat5 : cl5.slots[((Int32.ofNat x)).toNatClampNeg]? = some (.int (fR x)) := (by rw [own_ofN (by omega)]; exact H5 x (by omega))
      have pre6 : ∀ t, Steps p.tables e below (T4.setTop (mkF m 14 #[.val (.ref a1), .val (.int p1), .val (.int p2), .val (.int (Int32.ofNat x))] [(.int p2), (.int (fR x))])) t → Steps p.tables e below (Tt.setTop (mkF m 7 #[.val (.ref a1), .val (.int p1), .val (.int p2), .val (.int (Int32.ofNat x))] [])) t := by
        intro t kt
        refine pret t ?_
        show Steps p.tables e below (Tt.setTop (mkF m 7 #[.val (.ref a1), .val (.int p1), .val (.int p2), .val (.int (Int32.ofNat x))] [])) _
        refine XS.aloadN Xt.here hx rfl (hb hby own_d_prog_132_method_2_7) rfl rfl ?_
        show Steps p.tables e below (Tt.setTop (mkF m 8 #[.val (.ref a1), .val (.int p1), .val (.int p2), .val (.int (Int32.ofNat x))] [(.ref a1)])) _
        refine st4 _ ?_
        show Steps p.tables e below (T4.setTop (mkF m 11 #[.val (.ref a1), .val (.int p1), .val (.int p2), .val (.int (Int32.ofNat x))] [(.ref bR)])) _
        refine XS.iloadN X4.here hx rfl (hb hby own_d_prog_132_method_2_11) rfl ?_
        show Steps p.tables e below (T4.setTop (mkF m 12 #[.val (.ref a1), .val (.int p1), .val (.int p2), .val (.int (Int32.ofNat x))] [(.int (Int32.ofNat x)), (.ref bR)])) _
        refine X4.iaload hx (j := (Int32.ofNat x)) (v := (.int (fR x))) (by rw [e4]; exact Ar5.1) (State.isArrayOf_alike hZ.alike Ar5.2.1) Ar5.2.2 hin5 hat5 (g := (mkF m 12 #[.val (.ref a1), .val (.int p1), .val (.int p2), .val (.int (Int32.ofNat x))] [(.int (Int32.ofNat x)), (.ref bR)])) rfl rfl (hb hby own_d_prog_132_method_2_12) _ ?_
        show Steps p.tables e below (T4.setTop (mkF m 13 #[.val (.ref a1), .val (.int p1), .val (.int p2), .val (.int (Int32.ofNat x))] [(.int (fR x))])) _
        refine XS.iloadN X4.here hx rfl (hb hby own_d_prog_132_method_2_13) rfl ?_
        exact kt
      by_cases hc7 : p2 < (fR x)
      · obtain ⟨T8, X8, e8, st8⟩ := getF X4 hx hZ hown (host := "") (Or.inl (hw _ (List.mem_of_getElem? (i := 12) rfl))) Via.refl e4 F2 (g := (mkF m 18 #[.val (.ref a1), .val (.int p1), .val (.int p2), .val (.int (Int32.ofNat x))] [(.ref a1)])) rfl rfl (hb hby own_d_prog_132_method_2_18)
        obtain ⟨cl9, Ar9, S9, H9⟩ := id AP
        have hin9 : ¬ ((Int32.ofNat x) < 0 ∨ cl9.slots.size ≤ ((Int32.ofNat x)).toNatClampNeg) := own_inb S9 (own_of0 (by omega)) (by rw [own_ofN (by omega)]; omega)
        have hat9 : cl9.slots[((Int32.ofNat x)).toNatClampNeg]? = some (.int (fP x)) := (by rw [own_ofN (by omega)]; exact H9 x (by omega))
        have pre10 : ∀ t, Steps p.tables e below (T8.setTop (mkF m 7 #[.val (.ref a1), .val (.int p1), .val (.int p2), .val (.int (fP x))] [])) t → Steps p.tables e below (Tt.setTop (mkF m 7 #[.val (.ref a1), .val (.int p1), .val (.int p2), .val (.int (Int32.ofNat x))] [])) t := by
          intro t kt
          refine pre6 t ?_
          show Steps p.tables e below (T4.setTop (mkF m 14 #[.val (.ref a1), .val (.int p1), .val (.int p2), .val (.int (Int32.ofNat x))] [(.int p2), (.int (fR x))])) _
          refine XS.icmpNo X4.here hx rfl (hb hby own_d_prog_132_method_2_14) rfl (tlt hc7).2.2.2 ?_
          show Steps p.tables e below (T4.setTop (mkF m 17 #[.val (.ref a1), .val (.int p1), .val (.int p2), .val (.int (Int32.ofNat x))] [])) _
          refine XS.aloadN X4.here hx rfl (hb hby own_d_prog_132_method_2_17) rfl rfl ?_
          show Steps p.tables e below (T4.setTop (mkF m 18 #[.val (.ref a1), .val (.int p1), .val (.int p2), .val (.int (Int32.ofNat x))] [(.ref a1)])) _
          refine st8 _ ?_
          show Steps p.tables e below (T8.setTop (mkF m 21 #[.val (.ref a1), .val (.int p1), .val (.int p2), .val (.int (Int32.ofNat x))] [(.ref bP)])) _
          refine XS.iloadN X8.here hx rfl (hb hby own_d_prog_132_method_2_21) rfl ?_
          show Steps p.tables e below (T8.setTop (mkF m 22 #[.val (.ref a1), .val (.int p1), .val (.int p2), .val (.int (Int32.ofNat x))] [(.int (Int32.ofNat x)), (.ref bP)])) _
          refine X8.iaload hx (j := (Int32.ofNat x)) (v := (.int (fP x))) (by rw [e8]; exact Ar9.1) (State.isArrayOf_alike hZ.alike Ar9.2.1) Ar9.2.2 hin9 hat9 (g := (mkF m 22 #[.val (.ref a1), .val (.int p1), .val (.int p2), .val (.int (Int32.ofNat x))] [(.int (Int32.ofNat x)), (.ref bP)])) rfl rfl (hb hby own_d_prog_132_method_2_22) _ ?_
          show Steps p.tables e below (T8.setTop (mkF m 23 #[.val (.ref a1), .val (.int p1), .val (.int p2), .val (.int (Int32.ofNat x))] [(.int (fP x))])) _
          refine XS.istoreN X8.here hx rfl (hb hby own_d_prog_132_method_2_23) rfl (l' := #[.val (.ref a1), .val (.int p1), .val (.int p2), .val (.int (fP x))]) rfl ?_
          show Steps p.tables e below (T8.setTop (mkF m 24 #[.val (.ref a1), .val (.int p1), .val (.int p2), .val (.int (fP x))] [])) _
          refine XS.goto X8.here hx rfl (pc0 := 24) (pc' := 7) rfl (hb hby own_d_prog_132_method_2_24) (by decide) (by decide) ?_
          exact kt
        have x0 := own_x0 hT hr hc7
        have lx := (hT.2.2.2 x x0 lx4).1
        have eb : Int32.ofNat (fP x).toNatClampNeg = fP x := own_back (hT.2.2.1 x lx4)
        obtain ⟨T', X', e', st'⟩ := ih (fP x).toNatClampNeg T8 X8 e8 (by omega) (by omega)
        rw [eb] at st'
        refine ⟨T', X', e', fun t kt => pre10 t (st' t ?_)⟩
        rw [show own_blk fP fR p2 (k + 1) x = own_blk fP fR p2 k (fP x).toNatClampNeg by simp [own_blk, hc7]] at kt
        exact kt
      · have pre11 : ∀ t, Steps p.tables e below (T4.setTop (mkF m 27 #[.val (.ref a1), .val (.int p1), .val (.int p2), .val (.int (Int32.ofNat x))] [])) t → Steps p.tables e below (Tt.setTop (mkF m 7 #[.val (.ref a1), .val (.int p1), .val (.int p2), .val (.int (Int32.ofNat x))] [])) t := by
          intro t kt
          refine pre6 t ?_
          show Steps p.tables e below (T4.setTop (mkF m 14 #[.val (.ref a1), .val (.int p1), .val (.int p2), .val (.int (Int32.ofNat x))] [(.int p2), (.int (fR x))])) _
          refine XS.icmpYes X4.here hx rfl (pc0 := 14) (pc' := 27) rfl (hb hby own_d_prog_132_method_2_14) rfl (flt hc7).2.2.2 (by decide) (by decide) ?_
          exact kt
        refine ⟨T4, X4, e4, fun t kt => pre11 t ?_⟩
        rw [show own_blk fP fR p2 (k + 1) x = x by simp [own_blk, hc7]] at kt
        exact kt
  obtain ⟨T12, X12, e12, st12⟩ := loop 4 s_ T1 X1 e1 hs4 hs4
  have pre13 : ∀ t, Steps p.tables e below (T12.setTop (mkF m 28 #[.val (.ref a1), .val (.int p1), .val (.int p2), .val (.int (Int32.ofNat (own_blk fP fR p2 4 s_)))] [(.int (Int32.ofNat (own_blk fP fR p2 4 s_)))])) t → Steps p.tables e below (s₁.setTop (entryFrame m #[(.ref a1), (.int p1), (.int p2)] 4)) t := by
    intro t kt
    refine pre3 t ?_
    show Steps p.tables e below (T1.setTop (mkF m 7 #[.val (.ref a1), .val (.int p1), .val (.int p2), .val (.int (Int32.ofNat s_))] [])) _
    refine st12 _ ?_
    show Steps p.tables e below (T12.setTop (mkF m 27 #[.val (.ref a1), .val (.int p1), .val (.int p2), .val (.int (Int32.ofNat (own_blk fP fR p2 4 s_)))] [])) _
    refine XS.iloadN X12.here hx rfl (hb hby own_d_prog_132_method_2_27) rfl ?_
    exact kt
  obtain ⟨fs, hr, hrun, hended, hW, hsame⟩ := X12.leave (v := some (.int (Int32.ofNat (own_blk fP fR p2 4 s_)))) (fun h => by rw [Bd.returns] at h; cases h)
  refine ⟨_, _, pre13 _ ?_, hrun, hended, _, _, rfl, ?_, ⟨_, rfl⟩, hW, hsame.mono (by decide) (by decide)⟩
  · show Steps p.tables e below (T12.setTop (mkF m 28 #[.val (.ref a1), .val (.int p1), .val (.int p2), .val (.int (Int32.ofNat (own_blk fP fR p2 4 s_)))] [(.int (Int32.ofNat (own_blk fP fR p2 4 s_)))])) _
    exact retI X12 hx Bd.returns (hb hby own_d_prog_132_method_2_28) hr
  · show own_Q_blk Z a1 p1 p2 bB bP bR fB fP fR s_ h0 n0 (some (.int (Int32.ofNat (own_blk fP fR p2 4 s_)))) T12.heap _
    rw [e12]
    exact ⟨rfl, N0, rfl⟩
theorem own_d_method_3_0 : decode method_3_code 0 = .ok (.iload_n 0, 1) := by decide +kernel
theorem own_d_method_3_1 : decode method_3_code 1 = .ok (.iload_n 1, 1) := by decide +kernel
theorem own_d_method_3_2 : decode method_3_code 2 = .ok (.if_icmp .eq 30, 3) := by decide +kernel
theorem own_d_method_3_5 : decode method_3_code 5 = .ok (.iload_n 0, 1) := by decide +kernel
theorem own_d_method_3_6 : decode method_3_code 6 = .ok (.aload_n 2, 1) := by decide +kernel
theorem own_d_method_3_7 : decode method_3_code 7 = .ok (.iload_n 1, 1) := by decide +kernel
theorem own_d_method_3_8 : decode method_3_code 8 = .ok (.iaload, 1) := by decide +kernel
theorem own_d_method_3_9 : decode method_3_code 9 = .ok (.if_icmp .eq 23, 3) := by decide +kernel
theorem own_d_method_3_12 : decode method_3_code 12 = .ok (.iload_n 0, 1) := by decide +kernel
theorem own_d_method_3_13 : decode method_3_code 13 = .ok (.aload_n 2, 1) := by decide +kernel
theorem own_d_method_3_14 : decode method_3_code 14 = .ok (.aload_n 2, 1) := by decide +kernel
theorem own_d_method_3_15 : decode method_3_code 15 = .ok (.iload_n 1, 1) := by decide +kernel
theorem own_d_method_3_16 : decode method_3_code 16 = .ok (.iaload, 1) := by decide +kernel
theorem own_d_method_3_17 : decode method_3_code 17 = .ok (.iaload, 1) := by decide +kernel
theorem own_d_method_3_18 : decode method_3_code 18 = .ok (.if_icmp .eq 14, 3) := by decide +kernel
theorem own_d_method_3_21 : decode method_3_code 21 = .ok (.iload_n 0, 1) := by decide +kernel
theorem own_d_method_3_22 : decode method_3_code 22 = .ok (.aload_n 2, 1) := by decide +kernel
theorem own_d_method_3_23 : decode method_3_code 23 = .ok (.aload_n 2, 1) := by decide +kernel
theorem own_d_method_3_24 : decode method_3_code 24 = .ok (.aload_n 2, 1) := by decide +kernel
theorem own_d_method_3_25 : decode method_3_code 25 = .ok (.iload_n 1, 1) := by decide +kernel
theorem own_d_method_3_26 : decode method_3_code 26 = .ok (.iaload, 1) := by decide +kernel
theorem own_d_method_3_27 : decode method_3_code 27 = .ok (.iaload, 1) := by decide +kernel
theorem own_d_method_3_28 : decode method_3_code 28 = .ok (.iaload, 1) := by decide +kernel
theorem own_d_method_3_29 : decode method_3_code 29 = .ok (.if_icmp .ne 7, 3) := by decide +kernel
theorem own_d_method_3_32 : decode method_3_code 32 = .ok (.iconst 1, 1) := by decide +kernel
theorem own_d_method_3_33 : decode method_3_code 33 = .ok (.goto 4, 3) := by decide +kernel
theorem own_d_method_3_36 : decode method_3_code 36 = .ok (.iconst 0, 1) := by decide +kernel
theorem own_d_method_3_37 : decode method_3_code 37 = .ok (.ireturn, 1) := by decide +kernel
theorem own_pn1 : plainName "com/example/unfold/unfold/reduction/SplittingBlockAfterPinLaw" = true := by first | (simp [plainName, overriddenIn]; done) | decide +kernel
theorem own_ef_anc (m : MethodId) (p0 : Int32) (p1 : Int32) (a2 : Addr) : entryFrame m #[(.int p0), (.int p1), (.ref a2)] 3 = mkF m 0 #[.val (.int p0), .val (.int p1), .val (.ref a2)] [] := by first | (simp [entryFrame, mkF, argsToLocals, Value.category]; done) | rfl
def own_Q_anc (Z : State) (p0 : Int32) (p1 : Int32) (a2 : Addr) (s_ : Nat) (fP : Nat → Int32) (fR : Nat → Int32) (h0 : Heap) (n0 : Nat) (v : Option Value) (h : Heap) (L : List Loc) : Prop := v = some (.int (own_anc fP p0 s_)) ∧ Fr n0 L ∧ h = h0
set_option maxRecDepth 65536 in
set_option maxHeartbeats 40000000 in
theorem own_rm_anc (l : Launch) (Z : State) (a0 : Array Value) (hw : ∀ d ∈ tables_1, d.before a0 Z = true) (ws : List Jvm.Cond) (p0 : Int32) (p1 : Int32) (a2 : Addr) (s_ : Nat) (fP : Nat → Int32) (fR : Nat → Int32) (h0 : Heap) (n0 : Nat) (Z0 : n0 ≤ h0.size) (AP : own_A Z h0 a2 4 fP) (hs : p1 = Int32.ofNat s_) (hs4 : s_ < 4) (hT : own_tree 4 fP fR) :
    MetFree l (⟨"com/example/unfold/unfold/reduction/SplittingBlockAfterPinLaw", "anc", "(II[I)Z"⟩ : MethodName) (head1 (Jvm.Cond.code (⟨"com/example/unfold/unfold/reduction/SplittingBlockAfterPinLaw", "anc", "(II[I)Z"⟩ : MethodName) method_3_code 3 (some .boolean) :: ws) ({ frames := 0, cells := 0, slots := 0, locals := 0 } : Room)) (fun a U => a = #[(.int p0), (.int p1), (.ref a2)] ∧ Z.Warmed39 U.vm ∧ U.heap = h0) (fun _ _ _ _ _ => True) (fun _ U o U' => ∃ v L, o = .returned v ∧ own_Q_anc Z p0 p1 a2 s_ fP fR h0 n0 v U'.heap L ∧ FrameEnd U o U' L ({ frames := 0, cells := 0, slots := 0, locals := 0 } : Room).cells ({ frames := 0, cells := 0, slots := 0, locals := 0 } : Room).slots) := by
  refine MetFree.of_bodySF (plainFor_of_name own_pn1) hisR ?_
  intro p e s m args below meth c s₁ Bd hml0 hP hK
  obtain ⟨rfl, hZ, hh⟩ := hP
  have hx := Bd.exec
  have hby := Bd.bytes
  have hml : c.maxLocals = 3 := hml0
  have hown : s.vm.findClass "com/example/unfold/unfold/reduction/SplittingBlockAfterPinLaw" = some m.cls := findClass_of_methodNamed Bd.named
  have hnm := (name_of_methodNamed Bd.named Bd.method).1
  have X0 : Stand p l e ({ frames := 0, cells := 0, slots := 0, locals := 0 } : Room) s m #[(.int p0), (.int p1), (.ref a2)] below meth c s₁ [] 0 0 := Stand.of_body Bd
  have e0 : s₁.heap = h0 := by rw [← hh, Bd.state]; rfl
  have N0 := Fr.nil n0
  have K0 : Keep h0 h0 [] := Keep.refl _ _
  have pre0 : ∀ t, Steps p.tables e below (s₁.setTop (mkF m 0 #[.val (.int p0), .val (.int p1), .val (.ref a2)] [])) t → Steps p.tables e below (s₁.setTop (entryFrame m #[(.int p0), (.int p1), (.ref a2)] 3)) t := fun t k => castTop (own_ef_anc m p0 p1 a2) k
  have pre1 : ∀ t, Steps p.tables e below (s₁.setTop (mkF m 2 #[.val (.int p0), .val (.int p1), .val (.ref a2)] [(.int p1), (.int p0)])) t → Steps p.tables e below (s₁.setTop (entryFrame m #[(.int p0), (.int p1), (.ref a2)] 3)) t := by
    intro t kt
    refine pre0 t ?_
    show Steps p.tables e below (s₁.setTop (mkF m 0 #[.val (.int p0), .val (.int p1), .val (.ref a2)] [])) _
    refine XS.iloadN X0.here hx rfl (hb hby own_d_method_3_0) rfl ?_
    show Steps p.tables e below (s₁.setTop (mkF m 1 #[.val (.int p0), .val (.int p1), .val (.ref a2)] [(.int p0)])) _
    refine XS.iloadN X0.here hx rfl (hb hby own_d_method_3_1) rfl ?_
    exact kt
  by_cases hc2 : p0 = p1
  · have pre3 : ∀ t, Steps p.tables e below (s₁.setTop (mkF m 37 #[.val (.int p0), .val (.int p1), .val (.ref a2)] [(.int (1 : Int32))])) t → Steps p.tables e below (s₁.setTop (entryFrame m #[(.int p0), (.int p1), (.ref a2)] 3)) t := by
      intro t kt
      refine pre1 t ?_
      show Steps p.tables e below (s₁.setTop (mkF m 2 #[.val (.int p0), .val (.int p1), .val (.ref a2)] [(.int p1), (.int p0)])) _
      refine XS.icmpYes X0.here hx rfl (pc0 := 2) (pc' := 32) rfl (hb hby own_d_method_3_2) rfl (teq hc2).1 (by decide) (by decide) ?_
      show Steps p.tables e below (s₁.setTop (mkF m 32 #[.val (.int p0), .val (.int p1), .val (.ref a2)] [])) _
      refine XS.iconst X0.here hx rfl (hb hby own_d_method_3_32) ?_
      show Steps p.tables e below (s₁.setTop (mkF m 33 #[.val (.int p0), .val (.int p1), .val (.ref a2)] [(.int (1 : Int32))])) _
      refine XS.goto X0.here hx rfl (pc0 := 33) (pc' := 37) rfl (hb hby own_d_method_3_33) (by decide) (by decide) ?_
      exact kt
    obtain ⟨fs, hr, hrun, hended, hW, hsame⟩ := X0.leave (v := some (.int (1 : Int32))) (fun h => by rw [Bd.returns] at h; cases h)
    refine ⟨_, _, pre3 _ ?_, hrun, hended, _, _, rfl, ?_, ⟨_, rfl⟩, hW, hsame.mono (by decide) (by decide)⟩
    · show Steps p.tables e below (s₁.setTop (mkF m 37 #[.val (.int p0), .val (.int p1), .val (.ref a2)] [(.int (1 : Int32))])) _
      exact retN X0 hx (t := .boolean) Bd.returns (by simp) (hb hby own_d_method_3_37) hr
    · show own_Q_anc Z p0 p1 a2 s_ fP fR h0 n0 (some (.int (1 : Int32))) s₁.heap _
      rw [e0]
      exact ⟨by simp [own_anc, ← hs, hc2], N0, rfl⟩
  · obtain ⟨cl4, Ar4, S4, H4⟩ := id AP
    have hin4 : ¬ (p1 < 0 ∨ cl4.slots.size ≤ (p1).toNatClampNeg) := own_inb S4 (by rw [hs]; exact own_of0 (by omega)) (by rw [hs, own_ofN (by omega)]; exact hs4)
    have hat4 : cl4.slots[(p1).toNatClampNeg]? = some (.int (fP s_)) := (by rw [hs, own_ofN (by omega)]; exact H4 s_ hs4)
    have pre5 : ∀ t, Steps p.tables e below (s₁.setTop (mkF m 9 #[.val (.int p0), .val (.int p1), .val (.ref a2)] [(.int (fP s_)), (.int p0)])) t → Steps p.tables e below (s₁.setTop (entryFrame m #[(.int p0), (.int p1), (.ref a2)] 3)) t := by
      intro t kt
      refine pre1 t ?_
      show Steps p.tables e below (s₁.setTop (mkF m 2 #[.val (.int p0), .val (.int p1), .val (.ref a2)] [(.int p1), (.int p0)])) _
      refine XS.icmpNo X0.here hx rfl (hb hby own_d_method_3_2) rfl (feq hc2).1 ?_
      show Steps p.tables e below (s₁.setTop (mkF m 5 #[.val (.int p0), .val (.int p1), .val (.ref a2)] [])) _
      refine XS.iloadN X0.here hx rfl (hb hby own_d_method_3_5) rfl ?_
      show Steps p.tables e below (s₁.setTop (mkF m 6 #[.val (.int p0), .val (.int p1), .val (.ref a2)] [(.int p0)])) _
      refine XS.aloadN X0.here hx rfl (hb hby own_d_method_3_6) rfl rfl ?_
      show Steps p.tables e below (s₁.setTop (mkF m 7 #[.val (.int p0), .val (.int p1), .val (.ref a2)] [(.ref a2), (.int p0)])) _
      refine XS.iloadN X0.here hx rfl (hb hby own_d_method_3_7) rfl ?_
      show Steps p.tables e below (s₁.setTop (mkF m 8 #[.val (.int p0), .val (.int p1), .val (.ref a2)] [(.int p1), (.ref a2), (.int p0)])) _
      refine X0.iaload hx (j := p1) (v := (.int (fP s_))) (by rw [e0]; exact Ar4.1) (State.isArrayOf_alike hZ.alike Ar4.2.1) Ar4.2.2 hin4 hat4 (g := (mkF m 8 #[.val (.int p0), .val (.int p1), .val (.ref a2)] [(.int p1), (.ref a2), (.int p0)])) rfl rfl (hb hby own_d_method_3_8) _ ?_
      exact kt
    by_cases hc6 : p0 = (fP s_)
    · have pre7 : ∀ t, Steps p.tables e below (s₁.setTop (mkF m 37 #[.val (.int p0), .val (.int p1), .val (.ref a2)] [(.int (1 : Int32))])) t → Steps p.tables e below (s₁.setTop (entryFrame m #[(.int p0), (.int p1), (.ref a2)] 3)) t := by
        intro t kt
        refine pre5 t ?_
        show Steps p.tables e below (s₁.setTop (mkF m 9 #[.val (.int p0), .val (.int p1), .val (.ref a2)] [(.int (fP s_)), (.int p0)])) _
        refine XS.icmpYes X0.here hx rfl (pc0 := 9) (pc' := 32) rfl (hb hby own_d_method_3_9) rfl (teq hc6).1 (by decide) (by decide) ?_
        show Steps p.tables e below (s₁.setTop (mkF m 32 #[.val (.int p0), .val (.int p1), .val (.ref a2)] [])) _
        refine XS.iconst X0.here hx rfl (hb hby own_d_method_3_32) ?_
        show Steps p.tables e below (s₁.setTop (mkF m 33 #[.val (.int p0), .val (.int p1), .val (.ref a2)] [(.int (1 : Int32))])) _
        refine XS.goto X0.here hx rfl (pc0 := 33) (pc' := 37) rfl (hb hby own_d_method_3_33) (by decide) (by decide) ?_
        exact kt
      obtain ⟨fs, hr, hrun, hended, hW, hsame⟩ := X0.leave (v := some (.int (1 : Int32))) (fun h => by rw [Bd.returns] at h; cases h)
      refine ⟨_, _, pre7 _ ?_, hrun, hended, _, _, rfl, ?_, ⟨_, rfl⟩, hW, hsame.mono (by decide) (by decide)⟩
      · show Steps p.tables e below (s₁.setTop (mkF m 37 #[.val (.int p0), .val (.int p1), .val (.ref a2)] [(.int (1 : Int32))])) _
        exact retN X0 hx (t := .boolean) Bd.returns (by simp) (hb hby own_d_method_3_37) hr
      · show own_Q_anc Z p0 p1 a2 s_ fP fR h0 n0 (some (.int (1 : Int32))) s₁.heap _
        rw [e0]
        exact ⟨by simp [own_anc, ← hs, hc2, hc6], N0, rfl⟩
    · obtain ⟨cl8, Ar8, S8, H8⟩ := id AP
      have hin8 : ¬ (p1 < 0 ∨ cl8.slots.size ≤ (p1).toNatClampNeg) := own_inb S8 (by rw [hs]; exact own_of0 (by omega)) (by rw [hs, own_ofN (by omega)]; exact hs4)
      have hat8 : cl8.slots[(p1).toNatClampNeg]? = some (.int (fP s_)) := (by rw [hs, own_ofN (by omega)]; exact H8 s_ hs4)
      obtain ⟨cl9, Ar9, S9, H9⟩ := id AP
      have hin9 : ¬ ((fP s_) < 0 ∨ cl9.slots.size ≤ ((fP s_)).toNatClampNeg) := own_inb S9 (hT.2.2.1 _ hs4) (hT.lt (by decide) hs4)
      have hat9 : cl9.slots[((fP s_)).toNatClampNeg]? = some (.int (fP (fP s_).toNatClampNeg)) := H9 _ (hT.lt (by decide) hs4)
      have pre10 : ∀ t, Steps p.tables e below (s₁.setTop (mkF m 18 #[.val (.int p0), .val (.int p1), .val (.ref a2)] [(.int (fP (fP s_).toNatClampNeg)), (.int p0)])) t → Steps p.tables e below (s₁.setTop (entryFrame m #[(.int p0), (.int p1), (.ref a2)] 3)) t := by
        intro t kt
        refine pre5 t ?_
        show Steps p.tables e below (s₁.setTop (mkF m 9 #[.val (.int p0), .val (.int p1), .val (.ref a2)] [(.int (fP s_)), (.int p0)])) _
        refine XS.icmpNo X0.here hx rfl (hb hby own_d_method_3_9) rfl (feq hc6).1 ?_
        show Steps p.tables e below (s₁.setTop (mkF m 12 #[.val (.int p0), .val (.int p1), .val (.ref a2)] [])) _
        refine XS.iloadN X0.here hx rfl (hb hby own_d_method_3_12) rfl ?_
        show Steps p.tables e below (s₁.setTop (mkF m 13 #[.val (.int p0), .val (.int p1), .val (.ref a2)] [(.int p0)])) _
        refine XS.aloadN X0.here hx rfl (hb hby own_d_method_3_13) rfl rfl ?_
        show Steps p.tables e below (s₁.setTop (mkF m 14 #[.val (.int p0), .val (.int p1), .val (.ref a2)] [(.ref a2), (.int p0)])) _
        refine XS.aloadN X0.here hx rfl (hb hby own_d_method_3_14) rfl rfl ?_
        show Steps p.tables e below (s₁.setTop (mkF m 15 #[.val (.int p0), .val (.int p1), .val (.ref a2)] [(.ref a2), (.ref a2), (.int p0)])) _
        refine XS.iloadN X0.here hx rfl (hb hby own_d_method_3_15) rfl ?_
        show Steps p.tables e below (s₁.setTop (mkF m 16 #[.val (.int p0), .val (.int p1), .val (.ref a2)] [(.int p1), (.ref a2), (.ref a2), (.int p0)])) _
        refine X0.iaload hx (j := p1) (v := (.int (fP s_))) (by rw [e0]; exact Ar8.1) (State.isArrayOf_alike hZ.alike Ar8.2.1) Ar8.2.2 hin8 hat8 (g := (mkF m 16 #[.val (.int p0), .val (.int p1), .val (.ref a2)] [(.int p1), (.ref a2), (.ref a2), (.int p0)])) rfl rfl (hb hby own_d_method_3_16) _ ?_
        show Steps p.tables e below (s₁.setTop (mkF m 17 #[.val (.int p0), .val (.int p1), .val (.ref a2)] [(.int (fP s_)), (.ref a2), (.int p0)])) _
        refine X0.iaload hx (j := (fP s_)) (v := (.int (fP (fP s_).toNatClampNeg))) (by rw [e0]; exact Ar9.1) (State.isArrayOf_alike hZ.alike Ar9.2.1) Ar9.2.2 hin9 hat9 (g := (mkF m 17 #[.val (.int p0), .val (.int p1), .val (.ref a2)] [(.int (fP s_)), (.ref a2), (.int p0)])) rfl rfl (hb hby own_d_method_3_17) _ ?_
        exact kt
      by_cases hc11 : p0 = (fP (fP s_).toNatClampNeg)
      · have pre12 : ∀ t, Steps p.tables e below (s₁.setTop (mkF m 37 #[.val (.int p0), .val (.int p1), .val (.ref a2)] [(.int (1 : Int32))])) t → Steps p.tables e below (s₁.setTop (entryFrame m #[(.int p0), (.int p1), (.ref a2)] 3)) t := by
          intro t kt
          refine pre10 t ?_
          show Steps p.tables e below (s₁.setTop (mkF m 18 #[.val (.int p0), .val (.int p1), .val (.ref a2)] [(.int (fP (fP s_).toNatClampNeg)), (.int p0)])) _
          refine XS.icmpYes X0.here hx rfl (pc0 := 18) (pc' := 32) rfl (hb hby own_d_method_3_18) rfl (teq hc11).1 (by decide) (by decide) ?_
          show Steps p.tables e below (s₁.setTop (mkF m 32 #[.val (.int p0), .val (.int p1), .val (.ref a2)] [])) _
          refine XS.iconst X0.here hx rfl (hb hby own_d_method_3_32) ?_
          show Steps p.tables e below (s₁.setTop (mkF m 33 #[.val (.int p0), .val (.int p1), .val (.ref a2)] [(.int (1 : Int32))])) _
          refine XS.goto X0.here hx rfl (pc0 := 33) (pc' := 37) rfl (hb hby own_d_method_3_33) (by decide) (by decide) ?_
          exact kt
        obtain ⟨fs, hr, hrun, hended, hW, hsame⟩ := X0.leave (v := some (.int (1 : Int32))) (fun h => by rw [Bd.returns] at h; cases h)
        refine ⟨_, _, pre12 _ ?_, hrun, hended, _, _, rfl, ?_, ⟨_, rfl⟩, hW, hsame.mono (by decide) (by decide)⟩
        · show Steps p.tables e below (s₁.setTop (mkF m 37 #[.val (.int p0), .val (.int p1), .val (.ref a2)] [(.int (1 : Int32))])) _
          exact retN X0 hx (t := .boolean) Bd.returns (by simp) (hb hby own_d_method_3_37) hr
        · show own_Q_anc Z p0 p1 a2 s_ fP fR h0 n0 (some (.int (1 : Int32))) s₁.heap _
          rw [e0]
          exact ⟨by simp [own_anc, ← hs, hc2, hc6, hc11], N0, rfl⟩
      · obtain ⟨cl13, Ar13, S13, H13⟩ := id AP
        have hin13 : ¬ (p1 < 0 ∨ cl13.slots.size ≤ (p1).toNatClampNeg) := own_inb S13 (by rw [hs]; exact own_of0 (by omega)) (by rw [hs, own_ofN (by omega)]; exact hs4)
        have hat13 : cl13.slots[(p1).toNatClampNeg]? = some (.int (fP s_)) := (by rw [hs, own_ofN (by omega)]; exact H13 s_ hs4)
        obtain ⟨cl14, Ar14, S14, H14⟩ := id AP
        have hin14 : ¬ ((fP s_) < 0 ∨ cl14.slots.size ≤ ((fP s_)).toNatClampNeg) := own_inb S14 (hT.2.2.1 _ hs4) (hT.lt (by decide) hs4)
        have hat14 : cl14.slots[((fP s_)).toNatClampNeg]? = some (.int (fP (fP s_).toNatClampNeg)) := H14 _ (hT.lt (by decide) hs4)
        obtain ⟨cl15, Ar15, S15, H15⟩ := id AP
        have hin15 : ¬ ((fP (fP s_).toNatClampNeg) < 0 ∨ cl15.slots.size ≤ ((fP (fP s_).toNatClampNeg)).toNatClampNeg) := own_inb S15 (hT.2.2.1 _ (hT.lt (by decide) hs4)) (hT.lt (by decide) (hT.lt (by decide) hs4))
        have hat15 : cl15.slots[((fP (fP s_).toNatClampNeg)).toNatClampNeg]? = some (.int (fP (fP (fP s_).toNatClampNeg).toNatClampNeg)) := H15 _ (hT.lt (by decide) (hT.lt (by decide) hs4))
        have pre16 : ∀ t, Steps p.tables e below (s₁.setTop (mkF m 29 #[.val (.int p0), .val (.int p1), .val (.ref a2)] [(.int (fP (fP (fP s_).toNatClampNeg).toNatClampNeg)), (.int p0)])) t → Steps p.tables e below (s₁.setTop (entryFrame m #[(.int p0), (.int p1), (.ref a2)] 3)) t := by
          intro t kt
          refine pre10 t ?_
          show Steps p.tables e below (s₁.setTop (mkF m 18 #[.val (.int p0), .val (.int p1), .val (.ref a2)] [(.int (fP (fP s_).toNatClampNeg)), (.int p0)])) _
          refine XS.icmpNo X0.here hx rfl (hb hby own_d_method_3_18) rfl (feq hc11).1 ?_
          show Steps p.tables e below (s₁.setTop (mkF m 21 #[.val (.int p0), .val (.int p1), .val (.ref a2)] [])) _
          refine XS.iloadN X0.here hx rfl (hb hby own_d_method_3_21) rfl ?_
          show Steps p.tables e below (s₁.setTop (mkF m 22 #[.val (.int p0), .val (.int p1), .val (.ref a2)] [(.int p0)])) _
          refine XS.aloadN X0.here hx rfl (hb hby own_d_method_3_22) rfl rfl ?_
          show Steps p.tables e below (s₁.setTop (mkF m 23 #[.val (.int p0), .val (.int p1), .val (.ref a2)] [(.ref a2), (.int p0)])) _
          refine XS.aloadN X0.here hx rfl (hb hby own_d_method_3_23) rfl rfl ?_
          show Steps p.tables e below (s₁.setTop (mkF m 24 #[.val (.int p0), .val (.int p1), .val (.ref a2)] [(.ref a2), (.ref a2), (.int p0)])) _
          refine XS.aloadN X0.here hx rfl (hb hby own_d_method_3_24) rfl rfl ?_
          show Steps p.tables e below (s₁.setTop (mkF m 25 #[.val (.int p0), .val (.int p1), .val (.ref a2)] [(.ref a2), (.ref a2), (.ref a2), (.int p0)])) _
          refine XS.iloadN X0.here hx rfl (hb hby own_d_method_3_25) rfl ?_
          show Steps p.tables e below (s₁.setTop (mkF m 26 #[.val (.int p0), .val (.int p1), .val (.ref a2)] [(.int p1), (.ref a2), (.ref a2), (.ref a2), (.int p0)])) _
          refine X0.iaload hx (j := p1) (v := (.int (fP s_))) (by rw [e0]; exact Ar13.1) (State.isArrayOf_alike hZ.alike Ar13.2.1) Ar13.2.2 hin13 hat13 (g := (mkF m 26 #[.val (.int p0), .val (.int p1), .val (.ref a2)] [(.int p1), (.ref a2), (.ref a2), (.ref a2), (.int p0)])) rfl rfl (hb hby own_d_method_3_26) _ ?_
          show Steps p.tables e below (s₁.setTop (mkF m 27 #[.val (.int p0), .val (.int p1), .val (.ref a2)] [(.int (fP s_)), (.ref a2), (.ref a2), (.int p0)])) _
          refine X0.iaload hx (j := (fP s_)) (v := (.int (fP (fP s_).toNatClampNeg))) (by rw [e0]; exact Ar14.1) (State.isArrayOf_alike hZ.alike Ar14.2.1) Ar14.2.2 hin14 hat14 (g := (mkF m 27 #[.val (.int p0), .val (.int p1), .val (.ref a2)] [(.int (fP s_)), (.ref a2), (.ref a2), (.int p0)])) rfl rfl (hb hby own_d_method_3_27) _ ?_
          show Steps p.tables e below (s₁.setTop (mkF m 28 #[.val (.int p0), .val (.int p1), .val (.ref a2)] [(.int (fP (fP s_).toNatClampNeg)), (.ref a2), (.int p0)])) _
          refine X0.iaload hx (j := (fP (fP s_).toNatClampNeg)) (v := (.int (fP (fP (fP s_).toNatClampNeg).toNatClampNeg))) (by rw [e0]; exact Ar15.1) (State.isArrayOf_alike hZ.alike Ar15.2.1) Ar15.2.2 hin15 hat15 (g := (mkF m 28 #[.val (.int p0), .val (.int p1), .val (.ref a2)] [(.int (fP (fP s_).toNatClampNeg)), (.ref a2), (.int p0)])) rfl rfl (hb hby own_d_method_3_28) _ ?_
          exact kt
        by_cases hc17 : p0 = (fP (fP (fP s_).toNatClampNeg).toNatClampNeg)
        · have pre18 : ∀ t, Steps p.tables e below (s₁.setTop (mkF m 37 #[.val (.int p0), .val (.int p1), .val (.ref a2)] [(.int (1 : Int32))])) t → Steps p.tables e below (s₁.setTop (entryFrame m #[(.int p0), (.int p1), (.ref a2)] 3)) t := by
            intro t kt
            refine pre16 t ?_
            show Steps p.tables e below (s₁.setTop (mkF m 29 #[.val (.int p0), .val (.int p1), .val (.ref a2)] [(.int (fP (fP (fP s_).toNatClampNeg).toNatClampNeg)), (.int p0)])) _
            refine XS.icmpNo X0.here hx rfl (hb hby own_d_method_3_29) rfl (teq hc17).2 ?_
            show Steps p.tables e below (s₁.setTop (mkF m 32 #[.val (.int p0), .val (.int p1), .val (.ref a2)] [])) _
            refine XS.iconst X0.here hx rfl (hb hby own_d_method_3_32) ?_
            show Steps p.tables e below (s₁.setTop (mkF m 33 #[.val (.int p0), .val (.int p1), .val (.ref a2)] [(.int (1 : Int32))])) _
            refine XS.goto X0.here hx rfl (pc0 := 33) (pc' := 37) rfl (hb hby own_d_method_3_33) (by decide) (by decide) ?_
            exact kt
          obtain ⟨fs, hr, hrun, hended, hW, hsame⟩ := X0.leave (v := some (.int (1 : Int32))) (fun h => by rw [Bd.returns] at h; cases h)
          refine ⟨_, _, pre18 _ ?_, hrun, hended, _, _, rfl, ?_, ⟨_, rfl⟩, hW, hsame.mono (by decide) (by decide)⟩
          · show Steps p.tables e below (s₁.setTop (mkF m 37 #[.val (.int p0), .val (.int p1), .val (.ref a2)] [(.int (1 : Int32))])) _
            exact retN X0 hx (t := .boolean) Bd.returns (by simp) (hb hby own_d_method_3_37) hr
          · show own_Q_anc Z p0 p1 a2 s_ fP fR h0 n0 (some (.int (1 : Int32))) s₁.heap _
            rw [e0]
            exact ⟨by simp [own_anc, ← hs, hc2, hc6, hc11, hc17], N0, rfl⟩
        · have pre19 : ∀ t, Steps p.tables e below (s₁.setTop (mkF m 37 #[.val (.int p0), .val (.int p1), .val (.ref a2)] [(.int (0 : Int32))])) t → Steps p.tables e below (s₁.setTop (entryFrame m #[(.int p0), (.int p1), (.ref a2)] 3)) t := by
            intro t kt
            refine pre16 t ?_
            show Steps p.tables e below (s₁.setTop (mkF m 29 #[.val (.int p0), .val (.int p1), .val (.ref a2)] [(.int (fP (fP (fP s_).toNatClampNeg).toNatClampNeg)), (.int p0)])) _
            refine XS.icmpYes X0.here hx rfl (pc0 := 29) (pc' := 36) rfl (hb hby own_d_method_3_29) rfl (feq hc17).2 (by decide) (by decide) ?_
            show Steps p.tables e below (s₁.setTop (mkF m 36 #[.val (.int p0), .val (.int p1), .val (.ref a2)] [])) _
            refine XS.iconst X0.here hx rfl (hb hby own_d_method_3_36) ?_
            exact kt
          obtain ⟨fs, hr, hrun, hended, hW, hsame⟩ := X0.leave (v := some (.int (0 : Int32))) (fun h => by rw [Bd.returns] at h; cases h)
          refine ⟨_, _, pre19 _ ?_, hrun, hended, _, _, rfl, ?_, ⟨_, rfl⟩, hW, hsame.mono (by decide) (by decide)⟩
          · show Steps p.tables e below (s₁.setTop (mkF m 37 #[.val (.int p0), .val (.int p1), .val (.ref a2)] [(.int (0 : Int32))])) _
            exact retN X0 hx (t := .boolean) Bd.returns (by simp) (hb hby own_d_method_3_37) hr
          · show own_Q_anc Z p0 p1 a2 s_ fP fR h0 n0 (some (.int (0 : Int32))) s₁.heap _
            rw [e0]
            exact ⟨by simp [own_anc, ← hs, hc2, hc6, hc11, hc17], N0, rfl⟩
theorem own_d_method_4_0 : decode method_4_code 0 = .ok (.iload_n 0, 1) := by decide +kernel
theorem own_d_method_4_1 : decode method_4_code 1 = .ok (.iload_n 2, 1) := by decide +kernel
theorem own_d_method_4_2 : decode method_4_code 2 = .ok (.aload_n 3, 1) := by decide +kernel
theorem own_d_method_4_3 : decode method_4_code 3 = .ok (.invokestatic 17, 3) := by decide +kernel
theorem own_d_method_4_6 : decode method_4_code 6 = .ok (.ifCond .eq 23, 3) := by decide +kernel
theorem own_d_method_4_9 : decode method_4_code 9 = .ok (.aload 4, 2) := by decide +kernel
theorem own_d_method_4_11 : decode method_4_code 11 = .ok (.iload_n 0, 1) := by decide +kernel
theorem own_d_method_4_12 : decode method_4_code 12 = .ok (.iaload, 1) := by decide +kernel
theorem own_d_method_4_13 : decode method_4_code 13 = .ok (.iload 5, 2) := by decide +kernel
theorem own_d_method_4_15 : decode method_4_code 15 = .ok (.if_icmp .gt 14, 3) := by decide +kernel
theorem own_d_method_4_18 : decode method_4_code 18 = .ok (.aload 4, 2) := by decide +kernel
theorem own_d_method_4_20 : decode method_4_code 20 = .ok (.iload_n 0, 1) := by decide +kernel
theorem own_d_method_4_21 : decode method_4_code 21 = .ok (.iaload, 1) := by decide +kernel
theorem own_d_method_4_22 : decode method_4_code 22 = .ok (.aload 4, 2) := by decide +kernel
theorem own_d_method_4_24 : decode method_4_code 24 = .ok (.iload_n 1, 1) := by decide +kernel
theorem own_d_method_4_25 : decode method_4_code 25 = .ok (.iaload, 1) := by decide +kernel
theorem own_d_method_4_26 : decode method_4_code 26 = .ok (.if_icmp .gt 7, 3) := by decide +kernel
theorem own_d_method_4_29 : decode method_4_code 29 = .ok (.iconst 1, 1) := by decide +kernel
theorem own_d_method_4_30 : decode method_4_code 30 = .ok (.goto 4, 3) := by decide +kernel
theorem own_d_method_4_33 : decode method_4_code 33 = .ok (.iconst 0, 1) := by decide +kernel
theorem own_d_method_4_34 : decode method_4_code 34 = .ok (.ireturn, 1) := by decide +kernel
theorem own_pd0 : parseMethodDescriptor "(II[I)Z" = some ⟨[.int, .int, (.array .int)], some .boolean⟩ := by decide +kernel
theorem own_ef_ok (m : MethodId) (p0 : Int32) (p1 : Int32) (p2 : Int32) (a3 : Addr) (a4 : Addr) (p5 : Int32) : entryFrame m #[(.int p0), (.int p1), (.int p2), (.ref a3), (.ref a4), (.int p5)] 6 = mkF m 0 #[.val (.int p0), .val (.int p1), .val (.int p2), .val (.ref a3), .val (.ref a4), .val (.int p5)] [] := by first | (simp [entryFrame, mkF, argsToLocals, Value.category]; done) | rfl
def own_Q_ok (Z : State) (p0 : Int32) (p1 : Int32) (p2 : Int32) (a3 : Addr) (a4 : Addr) (p5 : Int32) (x_ : Nat) (b_ : Nat) (s_ : Nat) (fP : Nat → Int32) (fR : Nat → Int32) (h0 : Heap) (n0 : Nat) (v : Option Value) (h : Heap) (L : List Loc) : Prop := v = some (.int 1) ∧ Fr n0 L ∧ h = h0
set_option maxRecDepth 65536 in
set_option maxHeartbeats 40000000 in
theorem own_rm_ok (l : Launch) (Z : State) (a0 : Array Value) (hw : ∀ d ∈ tables_1, d.before a0 Z = true) (ws : List Jvm.Cond) (p0 : Int32) (p1 : Int32) (p2 : Int32) (a3 : Addr) (a4 : Addr) (p5 : Int32) (x_ : Nat) (b_ : Nat) (s_ : Nat) (fP : Nat → Int32) (fR : Nat → Int32) (h0 : Heap) (n0 : Nat) (Z0 : n0 ≤ h0.size) (AP : own_A Z h0 a3 4 fP) (AR : own_A Z h0 a4 4 fR) (hxe : p0 = Int32.ofNat x_) (hx4 : x_ < 4) (hbe : p1 = Int32.ofNat b_) (hb4 : b_ < 4) (hs : p2 = Int32.ofNat s_) (hs4 : s_ < 4) (hT : own_tree 4 fP fR) (hok : own_anc fP p0 s_ = 0 ∨ p5 < fR x_ ∨ ¬ fR b_ < fR x_) :
    MetFree l (⟨"com/example/unfold/unfold/reduction/SplittingBlockAfterPinLaw", "ok", "(III[I[II)Z"⟩ : MethodName) (head1 (Jvm.Cond.code (⟨"com/example/unfold/unfold/reduction/SplittingBlockAfterPinLaw", "ok", "(III[I[II)Z"⟩ : MethodName) method_4_code 6 (some .boolean) :: ws) ({ frames := 1, cells := 0, slots := 0, locals := 14 } : Room)) (fun a U => a = #[(.int p0), (.int p1), (.int p2), (.ref a3), (.ref a4), (.int p5)] ∧ Z.Warmed39 U.vm ∧ U.heap = h0) (fun _ _ _ _ _ => True) (fun _ U o U' => ∃ v L, o = .returned v ∧ own_Q_ok Z p0 p1 p2 a3 a4 p5 x_ b_ s_ fP fR h0 n0 v U'.heap L ∧ FrameEnd U o U' L ({ frames := 1, cells := 0, slots := 0, locals := 14 } : Room).cells ({ frames := 1, cells := 0, slots := 0, locals := 14 } : Room).slots) := by
  refine MetFree.of_bodySF (plainFor_of_name own_pn1) hisR ?_
  intro p e s m args below meth c s₁ Bd hml0 hP hK
  obtain ⟨rfl, hZ, hh⟩ := hP
  have hx := Bd.exec
  have hby := Bd.bytes
  have hml : c.maxLocals = 6 := hml0
  have hown : s.vm.findClass "com/example/unfold/unfold/reduction/SplittingBlockAfterPinLaw" = some m.cls := findClass_of_methodNamed Bd.named
  have hnm := (name_of_methodNamed Bd.named Bd.method).1
  have X0 : Stand p l e ({ frames := 1, cells := 0, slots := 0, locals := 14 } : Room) s m #[(.int p0), (.int p1), (.int p2), (.ref a3), (.ref a4), (.int p5)] below meth c s₁ [] 0 0 := Stand.of_body Bd
  have e0 : s₁.heap = h0 := by rw [← hh, Bd.state]; rfl
  have N0 := Fr.nil n0
  have K0 : Keep h0 h0 [] := Keep.refl _ _
  have pre0 : ∀ t, Steps p.tables e below (s₁.setTop (mkF m 0 #[.val (.int p0), .val (.int p1), .val (.int p2), .val (.ref a3), .val (.ref a4), .val (.int p5)] [])) t → Steps p.tables e below (s₁.setTop (entryFrame m #[(.int p0), (.int p1), (.int p2), (.ref a3), (.ref a4), (.int p5)] 6)) t := fun t k => castTop (own_ef_ok m p0 p1 p2 a3 a4 p5) k
  have zs1 : n0 ≤ h0.size := Nat.le_trans Z0 K0.1
  obtain ⟨_, _, ⟨T2, L2, k2, n2⟩, -, X2, ⟨Lc2, hQ2, l2, y2, z2⟩, st2⟩ := Jvm.LawKit.callS X0 hx (y := (⟨"com/example/unfold/unfold/reduction/SplittingBlockAfterPinLaw", "anc", "(II[I)Z"⟩ : MethodName)) hown (mvT hZ (hw _ (List.mem_of_getElem? (i := 21) rfl))) (mvT hZ (hw _ (List.mem_of_getElem? (i := 22) rfl))) (mvT hZ (hw _ (List.mem_of_getElem? (i := 23) rfl))) (mvT hZ (hw _ (List.mem_of_getElem? (i := 24) rfl))) (by decide) (backOf (W := 0) (own_rm_anc l Z a0 hw [] p0 p2 a3 s_ fP fR h0 n0 zs1 AP hs hs4 hT) hZ (hw _ (List.mem_of_getElem? (i := 24) rfl)) (hw _ (List.mem_of_getElem? (i := 23) rfl)) (by decide) (by decide)) (g := (mkF m 3 #[.val (.int p0), .val (.int p1), .val (.int p2), .val (.ref a3), .val (.ref a4), .val (.int p5)] [(.ref a3), (.int p2), (.int p0)])) rfl (by rw [hml]; rfl) (argsL := [(.int p0), (.int p2), (.ref a3)]) (rest := []) (lenOf own_pd0 rfl) rfl (by show 2 * 0 + _ ≤ _; exact Nat.le_of_eq rfl) (hb hby own_d_method_4_3) (fun _ _ => ⟨rfl, e0, (by decide : 0 + 0 ≤ _), (by decide : 0 + 0 ≤ _)⟩)
  dsimp only [Pt.U, Pt.locs, Pt.cells, Pt.slots] at X2 l2 y2 z2 st2 hQ2
  rw [l2, (y2 : k2 = 0), (z2 : n2 = 0)] at X2
  clear l2 y2 z2
  obtain ⟨rfl, N3, eq3⟩ := hQ2
  have nf4 := Fr.app N0 N3
  have pre5 : ∀ t, Steps p.tables e below (T2.setTop (mkF m 6 #[.val (.int p0), .val (.int p1), .val (.int p2), .val (.ref a3), .val (.ref a4), .val (.int p5)] [(.int (own_anc fP p0 s_))])) t → Steps p.tables e below (s₁.setTop (entryFrame m #[(.int p0), (.int p1), (.int p2), (.ref a3), (.ref a4), (.int p5)] 6)) t := by
    intro t kt
    refine pre0 t ?_
    show Steps p.tables e below (s₁.setTop (mkF m 0 #[.val (.int p0), .val (.int p1), .val (.int p2), .val (.ref a3), .val (.ref a4), .val (.int p5)] [])) _
    refine XS.iloadN X0.here hx rfl (hb hby own_d_method_4_0) rfl ?_
    show Steps p.tables e below (s₁.setTop (mkF m 1 #[.val (.int p0), .val (.int p1), .val (.int p2), .val (.ref a3), .val (.ref a4), .val (.int p5)] [(.int p0)])) _
    refine XS.iloadN X0.here hx rfl (hb hby own_d_method_4_1) rfl ?_
    show Steps p.tables e below (s₁.setTop (mkF m 2 #[.val (.int p0), .val (.int p1), .val (.int p2), .val (.ref a3), .val (.ref a4), .val (.int p5)] [(.int p2), (.int p0)])) _
    refine XS.aloadN X0.here hx rfl (hb hby own_d_method_4_2) rfl rfl ?_
    show Steps p.tables e below (s₁.setTop (mkF m 3 #[.val (.int p0), .val (.int p1), .val (.int p2), .val (.ref a3), .val (.ref a4), .val (.int p5)] [(.ref a3), (.int p2), (.int p0)])) _
    refine st2 _ ?_
    exact kt
  by_cases hc6 : (own_anc fP p0 s_) = (0 : Int32)
  · have pre7 : ∀ t, Steps p.tables e below (T2.setTop (mkF m 34 #[.val (.int p0), .val (.int p1), .val (.int p2), .val (.ref a3), .val (.ref a4), .val (.int p5)] [(.int (1 : Int32))])) t → Steps p.tables e below (s₁.setTop (entryFrame m #[(.int p0), (.int p1), (.int p2), (.ref a3), (.ref a4), (.int p5)] 6)) t := by
      intro t kt
      refine pre5 t ?_
      show Steps p.tables e below (T2.setTop (mkF m 6 #[.val (.int p0), .val (.int p1), .val (.int p2), .val (.ref a3), .val (.ref a4), .val (.int p5)] [(.int (own_anc fP p0 s_))])) _
      refine XS.ifYes X2.here hx rfl (pc0 := 6) (pc' := 29) rfl (hb hby own_d_method_4_6) rfl ((if0 _ _).trans (teq hc6).1) (by decide) (by decide) ?_
      show Steps p.tables e below (T2.setTop (mkF m 29 #[.val (.int p0), .val (.int p1), .val (.int p2), .val (.ref a3), .val (.ref a4), .val (.int p5)] [])) _
      refine XS.iconst X2.here hx rfl (hb hby own_d_method_4_29) ?_
      show Steps p.tables e below (T2.setTop (mkF m 30 #[.val (.int p0), .val (.int p1), .val (.int p2), .val (.ref a3), .val (.ref a4), .val (.int p5)] [(.int (1 : Int32))])) _
      refine XS.goto X2.here hx rfl (pc0 := 30) (pc' := 34) rfl (hb hby own_d_method_4_30) (by decide) (by decide) ?_
      exact kt
    obtain ⟨fs, hr, hrun, hended, hW, hsame⟩ := X2.leave (v := some (.int (1 : Int32))) (fun h => by rw [Bd.returns] at h; cases h)
    refine ⟨_, _, pre7 _ ?_, hrun, hended, _, _, rfl, ?_, ⟨_, rfl⟩, hW, hsame.mono (by decide) (by decide)⟩
    · show Steps p.tables e below (T2.setTop (mkF m 34 #[.val (.int p0), .val (.int p1), .val (.int p2), .val (.ref a3), .val (.ref a4), .val (.int p5)] [(.int (1 : Int32))])) _
      exact retN X2 hx (t := .boolean) Bd.returns (by simp) (hb hby own_d_method_4_34) hr
    · show own_Q_ok Z p0 p1 p2 a3 a4 p5 x_ b_ s_ fP fR h0 n0 (some (.int (1 : Int32))) T2.heap _
      rw [eq3]
      exact ⟨rfl, nf4, rfl⟩
  · obtain ⟨cl8, Ar8, S8, H8⟩ := id AR
    have hin8 : ¬ (p0 < 0 ∨ cl8.slots.size ≤ (p0).toNatClampNeg) := own_inb S8 (by rw [hxe]; exact own_of0 (by omega)) (by rw [hxe, own_ofN (by omega)]; exact hx4)
    have hat8 : cl8.slots[(p0).toNatClampNeg]? = some (.int (fR x_)) := (by rw [hxe, own_ofN (by omega)]; exact H8 x_ hx4)
    have pre9 : ∀ t, Steps p.tables e below (T2.setTop (mkF m 15 #[.val (.int p0), .val (.int p1), .val (.int p2), .val (.ref a3), .val (.ref a4), .val (.int p5)] [(.int p5), (.int (fR x_))])) t → Steps p.tables e below (s₁.setTop (entryFrame m #[(.int p0), (.int p1), (.int p2), (.ref a3), (.ref a4), (.int p5)] 6)) t := by
      intro t kt
      refine pre5 t ?_
      show Steps p.tables e below (T2.setTop (mkF m 6 #[.val (.int p0), .val (.int p1), .val (.int p2), .val (.ref a3), .val (.ref a4), .val (.int p5)] [(.int (own_anc fP p0 s_))])) _
      refine XS.ifNo X2.here hx rfl (hb hby own_d_method_4_6) rfl ((if0 _ _).trans (feq hc6).1) ?_
      show Steps p.tables e below (T2.setTop (mkF m 9 #[.val (.int p0), .val (.int p1), .val (.int p2), .val (.ref a3), .val (.ref a4), .val (.int p5)] [])) _
      refine XS.aload X2.here hx rfl (hb hby own_d_method_4_9) rfl rfl ?_
      show Steps p.tables e below (T2.setTop (mkF m 11 #[.val (.int p0), .val (.int p1), .val (.int p2), .val (.ref a3), .val (.ref a4), .val (.int p5)] [(.ref a4)])) _
      refine XS.iloadN X2.here hx rfl (hb hby own_d_method_4_11) rfl ?_
      show Steps p.tables e below (T2.setTop (mkF m 12 #[.val (.int p0), .val (.int p1), .val (.int p2), .val (.ref a3), .val (.ref a4), .val (.int p5)] [(.int p0), (.ref a4)])) _
      refine X2.iaload hx (j := p0) (v := (.int (fR x_))) (by rw [eq3]; exact Ar8.1) (State.isArrayOf_alike hZ.alike Ar8.2.1) Ar8.2.2 hin8 hat8 (g := (mkF m 12 #[.val (.int p0), .val (.int p1), .val (.int p2), .val (.ref a3), .val (.ref a4), .val (.int p5)] [(.int p0), (.ref a4)])) rfl rfl (hb hby own_d_method_4_12) _ ?_
      show Steps p.tables e below (T2.setTop (mkF m 13 #[.val (.int p0), .val (.int p1), .val (.int p2), .val (.ref a3), .val (.ref a4), .val (.int p5)] [(.int (fR x_))])) _
      refine XS.iload X2.here hx rfl (hb hby own_d_method_4_13) rfl ?_
      exact kt
    by_cases hc10 : p5 < (fR x_)
    · have pre11 : ∀ t, Steps p.tables e below (T2.setTop (mkF m 34 #[.val (.int p0), .val (.int p1), .val (.int p2), .val (.ref a3), .val (.ref a4), .val (.int p5)] [(.int (1 : Int32))])) t → Steps p.tables e below (s₁.setTop (entryFrame m #[(.int p0), (.int p1), (.int p2), (.ref a3), (.ref a4), (.int p5)] 6)) t := by
        intro t kt
        refine pre9 t ?_
        show Steps p.tables e below (T2.setTop (mkF m 15 #[.val (.int p0), .val (.int p1), .val (.int p2), .val (.ref a3), .val (.ref a4), .val (.int p5)] [(.int p5), (.int (fR x_))])) _
        refine XS.icmpYes X2.here hx rfl (pc0 := 15) (pc' := 29) rfl (hb hby own_d_method_4_15) rfl (tlt hc10).2.2.1 (by decide) (by decide) ?_
        show Steps p.tables e below (T2.setTop (mkF m 29 #[.val (.int p0), .val (.int p1), .val (.int p2), .val (.ref a3), .val (.ref a4), .val (.int p5)] [])) _
        refine XS.iconst X2.here hx rfl (hb hby own_d_method_4_29) ?_
        show Steps p.tables e below (T2.setTop (mkF m 30 #[.val (.int p0), .val (.int p1), .val (.int p2), .val (.ref a3), .val (.ref a4), .val (.int p5)] [(.int (1 : Int32))])) _
        refine XS.goto X2.here hx rfl (pc0 := 30) (pc' := 34) rfl (hb hby own_d_method_4_30) (by decide) (by decide) ?_
        exact kt
      obtain ⟨fs, hr, hrun, hended, hW, hsame⟩ := X2.leave (v := some (.int (1 : Int32))) (fun h => by rw [Bd.returns] at h; cases h)
      refine ⟨_, _, pre11 _ ?_, hrun, hended, _, _, rfl, ?_, ⟨_, rfl⟩, hW, hsame.mono (by decide) (by decide)⟩
      · show Steps p.tables e below (T2.setTop (mkF m 34 #[.val (.int p0), .val (.int p1), .val (.int p2), .val (.ref a3), .val (.ref a4), .val (.int p5)] [(.int (1 : Int32))])) _
        exact retN X2 hx (t := .boolean) Bd.returns (by simp) (hb hby own_d_method_4_34) hr
      · show own_Q_ok Z p0 p1 p2 a3 a4 p5 x_ b_ s_ fP fR h0 n0 (some (.int (1 : Int32))) T2.heap _
        rw [eq3]
        exact ⟨rfl, nf4, rfl⟩
    · obtain ⟨cl12, Ar12, S12, H12⟩ := id AR
      have hin12 : ¬ (p0 < 0 ∨ cl12.slots.size ≤ (p0).toNatClampNeg) := own_inb S12 (by rw [hxe]; exact own_of0 (by omega)) (by rw [hxe, own_ofN (by omega)]; exact hx4)
      have hat12 : cl12.slots[(p0).toNatClampNeg]? = some (.int (fR x_)) := (by rw [hxe, own_ofN (by omega)]; exact H12 x_ hx4)
      obtain ⟨cl13, Ar13, S13, H13⟩ := id AR
      have hin13 : ¬ (p1 < 0 ∨ cl13.slots.size ≤ (p1).toNatClampNeg) := own_inb S13 (by rw [hbe]; exact own_of0 (by omega)) (by rw [hbe, own_ofN (by omega)]; exact hb4)
      have hat13 : cl13.slots[(p1).toNatClampNeg]? = some (.int (fR b_)) := (by rw [hbe, own_ofN (by omega)]; exact H13 b_ hb4)
      have pre14 : ∀ t, Steps p.tables e below (T2.setTop (mkF m 34 #[.val (.int p0), .val (.int p1), .val (.int p2), .val (.ref a3), .val (.ref a4), .val (.int p5)] [(.int (1 : Int32))])) t → Steps p.tables e below (s₁.setTop (entryFrame m #[(.int p0), (.int p1), (.int p2), (.ref a3), (.ref a4), (.int p5)] 6)) t := by
        intro t kt
        refine pre9 t ?_
        show Steps p.tables e below (T2.setTop (mkF m 15 #[.val (.int p0), .val (.int p1), .val (.int p2), .val (.ref a3), .val (.ref a4), .val (.int p5)] [(.int p5), (.int (fR x_))])) _
        refine XS.icmpNo X2.here hx rfl (hb hby own_d_method_4_15) rfl (flt hc10).2.2.1 ?_
        show Steps p.tables e below (T2.setTop (mkF m 18 #[.val (.int p0), .val (.int p1), .val (.int p2), .val (.ref a3), .val (.ref a4), .val (.int p5)] [])) _
        refine XS.aload X2.here hx rfl (hb hby own_d_method_4_18) rfl rfl ?_
        show Steps p.tables e below (T2.setTop (mkF m 20 #[.val (.int p0), .val (.int p1), .val (.int p2), .val (.ref a3), .val (.ref a4), .val (.int p5)] [(.ref a4)])) _
        refine XS.iloadN X2.here hx rfl (hb hby own_d_method_4_20) rfl ?_
        show Steps p.tables e below (T2.setTop (mkF m 21 #[.val (.int p0), .val (.int p1), .val (.int p2), .val (.ref a3), .val (.ref a4), .val (.int p5)] [(.int p0), (.ref a4)])) _
        refine X2.iaload hx (j := p0) (v := (.int (fR x_))) (by rw [eq3]; exact Ar12.1) (State.isArrayOf_alike hZ.alike Ar12.2.1) Ar12.2.2 hin12 hat12 (g := (mkF m 21 #[.val (.int p0), .val (.int p1), .val (.int p2), .val (.ref a3), .val (.ref a4), .val (.int p5)] [(.int p0), (.ref a4)])) rfl rfl (hb hby own_d_method_4_21) _ ?_
        show Steps p.tables e below (T2.setTop (mkF m 22 #[.val (.int p0), .val (.int p1), .val (.int p2), .val (.ref a3), .val (.ref a4), .val (.int p5)] [(.int (fR x_))])) _
        refine XS.aload X2.here hx rfl (hb hby own_d_method_4_22) rfl rfl ?_
        show Steps p.tables e below (T2.setTop (mkF m 24 #[.val (.int p0), .val (.int p1), .val (.int p2), .val (.ref a3), .val (.ref a4), .val (.int p5)] [(.ref a4), (.int (fR x_))])) _
        refine XS.iloadN X2.here hx rfl (hb hby own_d_method_4_24) rfl ?_
        show Steps p.tables e below (T2.setTop (mkF m 25 #[.val (.int p0), .val (.int p1), .val (.int p2), .val (.ref a3), .val (.ref a4), .val (.int p5)] [(.int p1), (.ref a4), (.int (fR x_))])) _
        refine X2.iaload hx (j := p1) (v := (.int (fR b_))) (by rw [eq3]; exact Ar13.1) (State.isArrayOf_alike hZ.alike Ar13.2.1) Ar13.2.2 hin13 hat13 (g := (mkF m 25 #[.val (.int p0), .val (.int p1), .val (.int p2), .val (.ref a3), .val (.ref a4), .val (.int p5)] [(.int p1), (.ref a4), (.int (fR x_))])) rfl rfl (hb hby own_d_method_4_25) _ ?_
        show Steps p.tables e below (T2.setTop (mkF m 26 #[.val (.int p0), .val (.int p1), .val (.int p2), .val (.ref a3), .val (.ref a4), .val (.int p5)] [(.int (fR b_)), (.int (fR x_))])) _
        refine XS.icmpNo X2.here hx rfl (hb hby own_d_method_4_26) rfl (flt ((hok.resolve_left hc6).resolve_left hc10)).2.2.1 ?_
        show Steps p.tables e below (T2.setTop (mkF m 29 #[.val (.int p0), .val (.int p1), .val (.int p2), .val (.ref a3), .val (.ref a4), .val (.int p5)] [])) _
        refine XS.iconst X2.here hx rfl (hb hby own_d_method_4_29) ?_
        show Steps p.tables e below (T2.setTop (mkF m 30 #[.val (.int p0), .val (.int p1), .val (.int p2), .val (.ref a3), .val (.ref a4), .val (.int p5)] [(.int (1 : Int32))])) _
        refine XS.goto X2.here hx rfl (pc0 := 30) (pc' := 34) rfl (hb hby own_d_method_4_30) (by decide) (by decide) ?_
        exact kt
      obtain ⟨fs, hr, hrun, hended, hW, hsame⟩ := X2.leave (v := some (.int (1 : Int32))) (fun h => by rw [Bd.returns] at h; cases h)
      refine ⟨_, _, pre14 _ ?_, hrun, hended, _, _, rfl, ?_, ⟨_, rfl⟩, hW, hsame.mono (by decide) (by decide)⟩
      · show Steps p.tables e below (T2.setTop (mkF m 34 #[.val (.int p0), .val (.int p1), .val (.int p2), .val (.ref a3), .val (.ref a4), .val (.int p5)] [(.int (1 : Int32))])) _
        exact retN X2 hx (t := .boolean) Bd.returns (by simp) (hb hby own_d_method_4_34) hr
      · show own_Q_ok Z p0 p1 p2 a3 a4 p5 x_ b_ s_ fP fR h0 n0 (some (.int (1 : Int32))) T2.heap _
        rw [eq3]
        exact ⟨rfl, nf4, rfl⟩
def own_p2 (a : Int32) : Int32 := ((a.toUInt32 >>> ((2 : Int32) &&& 31).toUInt32).toInt32) &&& (1 : Int32)
def own_p3 (b : Int32) : Int32 := (((b.toUInt32 >>> ((2 : Int32) &&& 31).toUInt32).toInt32) &&& (3 : Int32)) % (3 : Int32)
def own_r1 (a : Int32) : Int32 := (1 : Int32) + (a &&& (3 : Int32))
def own_r2 (a b : Int32) : Int32 := (own_v4 (0 : Int32) (own_r1 a) (0 : Int32) (0 : Int32) (own_p2 a).toNatClampNeg + (1 : Int32)) + (b &&& (3 : Int32))
def own_r3 (a b c : Int32) : Int32 := (own_v4 (0 : Int32) (own_r1 a) (own_r2 a b) (0 : Int32) (own_p3 b).toNatClampNeg + (1 : Int32)) + (c &&& (3 : Int32))
theorem own_p2r (a : Int32) : 0 ≤ (own_p2 a).toInt ∧ (own_p2 a).toInt ≤ 1 := c_and _ 1 (by decide)
theorem own_p3r (b : Int32) : 0 ≤ (own_p3 b).toInt ∧ (own_p3 b).toInt ≤ 2 := by
  have q := c_and ((b.toUInt32 >>> ((2 : Int32) &&& 31).toUInt32).toInt32) 3 (by decide)
  have r := (c_irem (((b.toUInt32 >>> ((2 : Int32) &&& 31).toUInt32).toInt32) &&& 3) 3 3 rfl).1 q.1
  unfold own_p3; rw [r]; omega
theorem own_m3 (a : Int32) : 0 ≤ (a &&& (3 : Int32)).toInt ∧ (a &&& (3 : Int32)).toInt ≤ 3 := c_and a 3 (by decide)
theorem own_up (x a : Int32) (h0 : 0 ≤ x.toInt) (h1 : x.toInt ≤ 1000) : ((x + (1 : Int32)) + (a &&& (3 : Int32))).toInt = x.toInt + 1 + (a &&& (3 : Int32)).toInt := by
  have q := own_m3 a
  have e1 := c_iadd x 1
  have e2 := c_iadd (x + 1) (a &&& 3)
  have b1 := Int32.le_toInt (x + 1); have b2 := Int32.toInt_lt (x + 1)
  have b3 := Int32.le_toInt ((x + 1) + (a &&& 3)); have b4 := Int32.toInt_lt ((x + 1) + (a &&& 3))
  have : (1 : Int32).toInt = 1 := rfl
  omega
theorem own_r1r (a : Int32) : 1 ≤ (own_r1 a).toInt ∧ (own_r1 a).toInt ≤ 4 := by
  have q := own_m3 a
  have e2 := c_iadd 1 (a &&& 3)
  have b3 := Int32.le_toInt ((1 : Int32) + (a &&& 3)); have b4 := Int32.toInt_lt ((1 : Int32) + (a &&& 3))
  have : (1 : Int32).toInt = 1 := rfl
  unfold own_r1; omega
theorem own_num {x : Int32} {k : Nat} (h0 : 0 ≤ x.toInt) (h : x.toInt = k) : x.toNatClampNeg = k := by simp only [Int32.toNatClampNeg]; omega
theorem own_mktree (a b c : Int32) : own_tree 4 (own_v4 (0 : Int32) (0 : Int32) (own_p2 a) (own_p3 b)) (own_v4 (0 : Int32) (own_r1 a) (own_r2 a b) (own_r3 a b c)) := by
  have h1 := own_r1r a
  have hp2 := own_p2r a
  have hp3 := own_p3r b
  have n2 : (own_p2 a).toNatClampNeg = 0 ∨ (own_p2 a).toNatClampNeg = 1 := by simp only [Int32.toNatClampNeg]; omega
  have n3 : (own_p3 b).toNatClampNeg = 0 ∨ (own_p3 b).toNatClampNeg = 1 ∨ (own_p3 b).toNatClampNeg = 2 := by simp only [Int32.toNatClampNeg]; omega
  have r2 : 1 ≤ (own_r2 a b).toInt ∧ (own_r2 a b).toInt ≤ 8 ∧ (own_v4 (0 : Int32) (own_r1 a) (own_r2 a b) (own_r3 a b c) (own_p2 a).toNatClampNeg).toInt < (own_r2 a b).toInt := by
    rcases n2 with n2 | n2
    · have e := own_up 0 b (by decide) (by decide)
      have q := own_m3 b
      have e' : own_r2 a b = ((0 : Int32) + 1) + (b &&& 3) := by unfold own_r2; rw [n2]; rfl
      rw [e', n2, e]; show 1 ≤ _ ∧ _ ∧ (0 : Int32).toInt < _
      rw [own_z]; omega
    · have e := own_up (own_r1 a) b (by omega) (by omega)
      have q := own_m3 b
      have e' : own_r2 a b = (own_r1 a + 1) + (b &&& 3) := by unfold own_r2; rw [n2]; rfl
      rw [e', n2, e]; show 1 ≤ _ ∧ _ ∧ (own_r1 a).toInt < _
      omega
  have r3 : 1 ≤ (own_r3 a b c).toInt ∧ (own_v4 (0 : Int32) (own_r1 a) (own_r2 a b) (own_r3 a b c) (own_p3 b).toNatClampNeg).toInt < (own_r3 a b c).toInt := by
    have q := own_m3 c
    rcases n3 with n3 | n3 | n3
    · have e := own_up 0 c (by decide) (by decide)
      have e' : own_r3 a b c = ((0 : Int32) + 1) + (c &&& 3) := by unfold own_r3; rw [n3]; rfl
      rw [e', n3, e]; show 1 ≤ _ ∧ (0 : Int32).toInt < _
      rw [own_z]; omega
    · have e := own_up (own_r1 a) c (by omega) (by omega)
      have e' : own_r3 a b c = (own_r1 a + 1) + (c &&& 3) := by unfold own_r3; rw [n3]; rfl
      rw [e', n3, e]; show 1 ≤ _ ∧ (own_r1 a).toInt < _
      omega
    · have e := own_up (own_r2 a b) c (by omega) (by omega)
      have e' : own_r3 a b c = (own_r2 a b + 1) + (c &&& 3) := by unfold own_r3; rw [n3]; rfl
      rw [e', n3, e]; show 1 ≤ _ ∧ (own_r2 a b).toInt < _
      omega
  refine ⟨rfl, rfl, fun x hx => ?_, fun x h0 hx => ?_⟩
  · rcases x with _ | _ | _ | _ | x
    · show ¬ (0 : Int32) < 0; decide
    · show ¬ (0 : Int32) < 0; decide
    · exact own_nn hp2.1
    · exact own_nn hp3.1
    · omega
  · rcases x with _ | _ | _ | _ | x
    · omega
    · exact ⟨by show (0 : Int32).toNatClampNeg < 1; decide, by show (0 : Int32).toInt < (own_r1 a).toInt; rw [own_z]; omega, by show 0 < (own_r1 a).toInt; omega⟩
    · exact ⟨by show (own_p2 a).toNatClampNeg < 2; omega, r2.2.2, by show 0 < (own_r2 a b).toInt; omega⟩
    · exact ⟨by show (own_p3 b).toNatClampNeg < 3; omega, r3.2, by show 0 < (own_r3 a b c).toInt; omega⟩
    · omega
def own_b0 (d : Int32) : Int32 := d &&& (3 : Int32)
def own_b1 (d : Int32) : Int32 := ((d.toUInt32 >>> ((2 : Int32) &&& 31).toUInt32).toInt32) &&& (3 : Int32)
def own_st (d : Int32) : Int32 := ((d.toUInt32 >>> ((4 : Int32) &&& 31).toUInt32).toInt32) &&& (1 : Int32)
theorem own_b0r (d : Int32) : ∃ s : Nat, own_b0 d = Int32.ofNat s ∧ s < 4 := by
  have q := own_m3 d
  exact ⟨(own_b0 d).toNatClampNeg, (own_back (own_nn q.1)).symm, own_tn (by show (d &&& 3).toInt < (4 : Nat); omega) (by decide)⟩
theorem own_b1r (d : Int32) : ∃ s : Nat, own_b1 d = Int32.ofNat s ∧ s < 4 := by
  have q := own_m3 ((d.toUInt32 >>> ((2 : Int32) &&& 31).toUInt32).toInt32)
  exact ⟨(own_b1 d).toNatClampNeg, (own_back (own_nn q.1)).symm, own_tn (by show (((d.toUInt32 >>> ((2 : Int32) &&& 31).toUInt32).toInt32) &&& 3).toInt < (4 : Nat); omega) (by decide)⟩
theorem own_st1 (d : Int32) (h : ¬ own_st d = 0) : own_st d = 1 := by
  have q := c_and ((d.toUInt32 >>> ((4 : Int32) &&& 31).toUInt32).toInt32) 1 (by decide)
  have h' : ¬ (own_st d).toInt = 0 := fun e => h (Int32.toInt_inj.mp e)
  apply Int32.toInt_inj.mp
  have e1 : (1 : Int32).toInt = 1 := rfl
  have q' : 0 ≤ (own_st d).toInt ∧ (own_st d).toInt ≤ (1 : Int32).toInt := q
  omega
theorem own_rA (e : Int32) : ¬ (e &&& (2147483647 : Int32)) < 0 := own_nn (c_and e _ (by decide)).1
theorem own_rB (e : Int32) : ¬ (e &&& (15 : Int32)) < 0 := own_nn (c_and e _ (by decide)).1
theorem own_le3 {b : Nat} (h : b < 4) : ¬ (3 : Int32) < Int32.ofNat b := by rw [own_gt, own_ofI (by omega)]; show ¬ (3 : Int) < b; omega
theorem own_pd1 : parseMethodDescriptor "([I[I[I)V" = some ⟨[(.array .int), (.array .int), (.array .int)], none⟩ := by decide +kernel
theorem own_pd2 : parseMethodDescriptor "(II)I" = some ⟨[.int, .int], some .int⟩ := by decide +kernel
theorem own_pd3 : parseMethodDescriptor "(III[I[II)Z" = some ⟨[.int, .int, .int, (.array .int), (.array .int), .int], some .boolean⟩ := by decide +kernel
theorem own_ef_law (m : MethodId) (p0 : Int32) (p1 : Int32) (p2 : Int32) (p3 : Int32) (p4 : Int32) : entryFrame m #[(.int p0), (.int p1), (.int p2), (.int p3), (.int p4)] maxLocals = mkF m 0 #[.val (.int p0), .val (.int p1), .val (.int p2), .val (.int p3), .val (.int p4), .unset, .unset, .unset, .unset, .unset, .unset, .unset, .unset, .unset, .unset, .unset, .unset] [] := by first | (simp [entryFrame, mkF, argsToLocals, Value.category, maxLocals]; done) | rfl
def own_Q_law (Z : State) (p0 : Int32) (p1 : Int32) (p2 : Int32) (p3 : Int32) (p4 : Int32) (h0 : Heap) (n0 : Nat) (v : Option Value) (h : Heap) (L : List Loc) : Prop := v = some (.int 1) ∧ Fr n0 L
set_option maxRecDepth 65536 in
set_option maxHeartbeats 40000000 in
theorem own_rm_law (l : Launch) (Z : State) (a0 : Array Value) (hw : ∀ d ∈ tables_1, d.before a0 Z = true) (ws : List Jvm.Cond) (p0 : Int32) (p1 : Int32) (p2 : Int32) (p3 : Int32) (p4 : Int32) (h0 : Heap) (n0 : Nat) (Z0 : n0 ≤ h0.size) :
    MetFree l x (head1 (Jvm.Cond.code x code maxLocals ret :: ws) room_1) (fun a U => a = #[(.int p0), (.int p1), (.int p2), (.int p3), (.int p4)] ∧ Z.Warmed39 U.vm ∧ U.heap = h0) (fun _ _ _ _ _ => True) (fun _ U o U' => ∃ v L, o = .returned v ∧ own_Q_law Z p0 p1 p2 p3 p4 h0 n0 v U'.heap L ∧ FrameEnd U o U' L room_1.cells room_1.slots) := by
  refine MetFree.of_bodySF (plainFor_of_name own_pn1) hisR ?_
  intro p e s m args below meth c s₁ Bd hml0 hP hK
  obtain ⟨rfl, hZ, hh⟩ := hP
  have hx := Bd.exec
  have hby := Bd.bytes
  have hml : c.maxLocals = 17 := hml0
  have hown : s.vm.findClass "com/example/unfold/unfold/reduction/SplittingBlockAfterPinLaw" = some m.cls := findClass_of_methodNamed Bd.named
  have hnm := (name_of_methodNamed Bd.named Bd.method).1
  have X0 : Stand p l e room_1 s m #[(.int p0), (.int p1), (.int p2), (.int p3), (.int p4)] below meth c s₁ [] 0 0 := Stand.of_body Bd
  have e0 : s₁.heap = h0 := by rw [← hh, Bd.state]; rfl
  have N0 := Fr.nil n0
  have K0 : Keep h0 h0 [] := Keep.refl _ _
  have pre0 : ∀ t, Steps p.tables e below (s₁.setTop (mkF m 0 #[.val (.int p0), .val (.int p1), .val (.int p2), .val (.int p3), .val (.int p4), .unset, .unset, .unset, .unset, .unset, .unset, .unset, .unset, .unset, .unset, .unset, .unset] [])) t → Steps p.tables e below (s₁.setTop (entryFrame m #[(.int p0), (.int p1), (.int p2), (.int p3), (.int p4)] maxLocals)) t := fun t k => castTop (own_ef_law m p0 p1 p2 p3 p4) k
  have pre1 : ∀ t, Steps p.tables e below (s₁.setTop (mkF m 13 #[.val (.int p0), .val (.int p1), .val (.int p2), .val (.int p3), .val (.int p4), .val (.int (((p0.toUInt32 >>> ((2 : Int32) &&& 31).toUInt32).toInt32) &&& (1 : Int32))), .unset, .unset, .unset, .unset, .unset, .unset, .unset, .unset, .unset, .unset, .unset] [(.int (3 : Int32)), (.int (((p1.toUInt32 >>> ((2 : Int32) &&& 31).toUInt32).toInt32) &&& (3 : Int32)))])) t → Steps p.tables e below (s₁.setTop (entryFrame m #[(.int p0), (.int p1), (.int p2), (.int p3), (.int p4)] maxLocals)) t := by
    intro t kt
    refine pre0 t ?_
    show Steps p.tables e below (s₁.setTop (mkF m 0 #[.val (.int p0), .val (.int p1), .val (.int p2), .val (.int p3), .val (.int p4), .unset, .unset, .unset, .unset, .unset, .unset, .unset, .unset, .unset, .unset, .unset, .unset] [])) _
    refine XS.iloadN X0.here hx rfl (hb hby at_0) rfl ?_
    show Steps p.tables e below (s₁.setTop (mkF m 1 #[.val (.int p0), .val (.int p1), .val (.int p2), .val (.int p3), .val (.int p4), .unset, .unset, .unset, .unset, .unset, .unset, .unset, .unset, .unset, .unset, .unset, .unset] [(.int p0)])) _
    refine XS.iconst X0.here hx rfl (hb hby at_1) ?_
    show Steps p.tables e below (s₁.setTop (mkF m 2 #[.val (.int p0), .val (.int p1), .val (.int p2), .val (.int p3), .val (.int p4), .unset, .unset, .unset, .unset, .unset, .unset, .unset, .unset, .unset, .unset, .unset, .unset] [(.int (2 : Int32)), (.int p0)])) _
    refine XS.iushr X0.here hx rfl (hb hby at_2) rfl ?_
    show Steps p.tables e below (s₁.setTop (mkF m 3 #[.val (.int p0), .val (.int p1), .val (.int p2), .val (.int p3), .val (.int p4), .unset, .unset, .unset, .unset, .unset, .unset, .unset, .unset, .unset, .unset, .unset, .unset] [(.int ((p0.toUInt32 >>> ((2 : Int32) &&& 31).toUInt32).toInt32))])) _
    refine XS.iconst X0.here hx rfl (hb hby at_3) ?_
    show Steps p.tables e below (s₁.setTop (mkF m 4 #[.val (.int p0), .val (.int p1), .val (.int p2), .val (.int p3), .val (.int p4), .unset, .unset, .unset, .unset, .unset, .unset, .unset, .unset, .unset, .unset, .unset, .unset] [(.int (1 : Int32)), (.int ((p0.toUInt32 >>> ((2 : Int32) &&& 31).toUInt32).toInt32))])) _
    refine XS.iand X0.here hx rfl (hb hby at_4) rfl ?_
    show Steps p.tables e below (s₁.setTop (mkF m 5 #[.val (.int p0), .val (.int p1), .val (.int p2), .val (.int p3), .val (.int p4), .unset, .unset, .unset, .unset, .unset, .unset, .unset, .unset, .unset, .unset, .unset, .unset] [(.int (((p0.toUInt32 >>> ((2 : Int32) &&& 31).toUInt32).toInt32) &&& (1 : Int32)))])) _
    refine XS.istore X0.here hx rfl (hb hby at_5) rfl (l' := #[.val (.int p0), .val (.int p1), .val (.int p2), .val (.int p3), .val (.int p4), .val (.int (((p0.toUInt32 >>> ((2 : Int32) &&& 31).toUInt32).toInt32) &&& (1 : Int32))), .unset, .unset, .unset, .unset, .unset, .unset, .unset, .unset, .unset, .unset, .unset]) rfl ?_
    show Steps p.tables e below (s₁.setTop (mkF m 7 #[.val (.int p0), .val (.int p1), .val (.int p2), .val (.int p3), .val (.int p4), .val (.int (((p0.toUInt32 >>> ((2 : Int32) &&& 31).toUInt32).toInt32) &&& (1 : Int32))), .unset, .unset, .unset, .unset, .unset, .unset, .unset, .unset, .unset, .unset, .unset] [])) _
    refine XS.iloadN X0.here hx rfl (hb hby at_7) rfl ?_
    show Steps p.tables e below (s₁.setTop (mkF m 8 #[.val (.int p0), .val (.int p1), .val (.int p2), .val (.int p3), .val (.int p4), .val (.int (((p0.toUInt32 >>> ((2 : Int32) &&& 31).toUInt32).toInt32) &&& (1 : Int32))), .unset, .unset, .unset, .unset, .unset, .unset, .unset, .unset, .unset, .unset, .unset] [(.int p1)])) _
    refine XS.iconst X0.here hx rfl (hb hby at_8) ?_
    show Steps p.tables e below (s₁.setTop (mkF m 9 #[.val (.int p0), .val (.int p1), .val (.int p2), .val (.int p3), .val (.int p4), .val (.int (((p0.toUInt32 >>> ((2 : Int32) &&& 31).toUInt32).toInt32) &&& (1 : Int32))), .unset, .unset, .unset, .unset, .unset, .unset, .unset, .unset, .unset, .unset, .unset] [(.int (2 : Int32)), (.int p1)])) _
    refine XS.iushr X0.here hx rfl (hb hby at_9) rfl ?_
    show Steps p.tables e below (s₁.setTop (mkF m 10 #[.val (.int p0), .val (.int p1), .val (.int p2), .val (.int p3), .val (.int p4), .val (.int (((p0.toUInt32 >>> ((2 : Int32) &&& 31).toUInt32).toInt32) &&& (1 : Int32))), .unset, .unset, .unset, .unset, .unset, .unset, .unset, .unset, .unset, .unset, .unset] [(.int ((p1.toUInt32 >>> ((2 : Int32) &&& 31).toUInt32).toInt32))])) _
    refine XS.iconst X0.here hx rfl (hb hby at_10) ?_
    show Steps p.tables e below (s₁.setTop (mkF m 11 #[.val (.int p0), .val (.int p1), .val (.int p2), .val (.int p3), .val (.int p4), .val (.int (((p0.toUInt32 >>> ((2 : Int32) &&& 31).toUInt32).toInt32) &&& (1 : Int32))), .unset, .unset, .unset, .unset, .unset, .unset, .unset, .unset, .unset, .unset, .unset] [(.int (3 : Int32)), (.int ((p1.toUInt32 >>> ((2 : Int32) &&& 31).toUInt32).toInt32))])) _
    refine XS.iand X0.here hx rfl (hb hby at_11) rfl ?_
    show Steps p.tables e below (s₁.setTop (mkF m 12 #[.val (.int p0), .val (.int p1), .val (.int p2), .val (.int p3), .val (.int p4), .val (.int (((p0.toUInt32 >>> ((2 : Int32) &&& 31).toUInt32).toInt32) &&& (1 : Int32))), .unset, .unset, .unset, .unset, .unset, .unset, .unset, .unset, .unset, .unset, .unset] [(.int (((p1.toUInt32 >>> ((2 : Int32) &&& 31).toUInt32).toInt32) &&& (3 : Int32)))])) _
    refine XS.iconst X0.here hx rfl (hb hby at_12) ?_
    exact kt
  have pre2 : ∀ t, Steps p.tables e below (s₁.setTop (mkF m 16 #[.val (.int p0), .val (.int p1), .val (.int p2), .val (.int p3), .val (.int p4), .val (.int (((p0.toUInt32 >>> ((2 : Int32) &&& 31).toUInt32).toInt32) &&& (1 : Int32))), .val (.int ((((p1.toUInt32 >>> ((2 : Int32) &&& 31).toUInt32).toInt32) &&& (3 : Int32)) % (3 : Int32))), .unset, .unset, .unset, .unset, .unset, .unset, .unset, .unset, .unset, .unset] [])) t → Steps p.tables e below (s₁.setTop (entryFrame m #[(.int p0), (.int p1), (.int p2), (.int p3), (.int p4)] maxLocals)) t := by
    intro t kt
    refine pre1 t ?_
    show Steps p.tables e below (s₁.setTop (mkF m 13 #[.val (.int p0), .val (.int p1), .val (.int p2), .val (.int p3), .val (.int p4), .val (.int (((p0.toUInt32 >>> ((2 : Int32) &&& 31).toUInt32).toInt32) &&& (1 : Int32))), .unset, .unset, .unset, .unset, .unset, .unset, .unset, .unset, .unset, .unset, .unset] [(.int (3 : Int32)), (.int (((p1.toUInt32 >>> ((2 : Int32) &&& 31).toUInt32).toInt32) &&& (3 : Int32)))])) _
    refine iremM X0 hx rfl (hb hby at_13) rfl (by decide) ?_
    show Steps p.tables e below (s₁.setTop (mkF m 14 #[.val (.int p0), .val (.int p1), .val (.int p2), .val (.int p3), .val (.int p4), .val (.int (((p0.toUInt32 >>> ((2 : Int32) &&& 31).toUInt32).toInt32) &&& (1 : Int32))), .unset, .unset, .unset, .unset, .unset, .unset, .unset, .unset, .unset, .unset, .unset] [(.int ((((p1.toUInt32 >>> ((2 : Int32) &&& 31).toUInt32).toInt32) &&& (3 : Int32)) % (3 : Int32)))])) _
    refine XS.istore X0.here hx rfl (hb hby at_14) rfl (l' := #[.val (.int p0), .val (.int p1), .val (.int p2), .val (.int p3), .val (.int p4), .val (.int (((p0.toUInt32 >>> ((2 : Int32) &&& 31).toUInt32).toInt32) &&& (1 : Int32))), .val (.int ((((p1.toUInt32 >>> ((2 : Int32) &&& 31).toUInt32).toInt32) &&& (3 : Int32)) % (3 : Int32))), .unset, .unset, .unset, .unset, .unset, .unset, .unset, .unset, .unset, .unset]) rfl ?_
    exact kt
  obtain ⟨T3, h3, k3, X3, e3, E3, A3, I3, st3⟩ := newPE X0 hx hZ (hw _ (List.mem_of_getElem? (i := 0) rfl)) e0 (g := (mkF m 17 #[.val (.int p0), .val (.int p1), .val (.int p2), .val (.int p3), .val (.int p4), .val (.int (own_p2 p0)), .val (.int (own_p3 p1)), .unset, .unset, .unset, .unset, .unset, .unset, .unset, .unset, .unset, .unset] [(.int (4 : Int32))])) rfl (hb hby at_17) rfl (by decide) (cap := 4) (by decide) (by decide) (by decide) (by decide) (ad := "[I") rfl
  obtain ⟨b3, g3⟩ : ∃ z, z = h0.size := ⟨_, rfl⟩
  rw [← g3] at A3 I3 st3
  have sz_b3 : h0.size ≤ b3 := Nat.le_trans K0.1 (Nat.le_of_eq g3.symm)
  have gn_b3 : n0 ≤ b3 := Nat.le_trans Z0 sz_b3
  have k4 := K0.ext E3
  have f5 : own_A Z h3 b3 4 (own_v4 (0 : Int32) (0 : Int32) (0 : Int32) (0 : Int32)) := (own_A.new A3 rfl).congr (fun j hj => by rcases j with _ | _ | _ | _ | j <;> first | rfl | (simp [own_upd]; done) | omega)
  obtain ⟨cl6, Ar6, S6, H6⟩ := id f5
  have hin6 : ¬ ((0 : Int32) < 0 ∨ cl6.slots.size ≤ ((0 : Int32)).toNatClampNeg) := own_inb S6 (by decide) (by decide)
  obtain ⟨T7, h7, X7, e7, W7, st7⟩ := stI X3 hx hZ e3 Ar6 (j := (0 : Int32)) hin6 (g := (mkF m 25 #[.val (.int p0), .val (.int p1), .val (.int p2), .val (.int p3), .val (.int p4), .val (.int (own_p2 p0)), .val (.int (own_p3 p1)), .val (.ref b3), .unset, .unset, .unset, .unset, .unset, .unset, .unset, .unset, .unset] [(.int (0 : Int32)), (.int (0 : Int32)), (.ref b3)])) rfl rfl (hb hby at_25)
  have f8 := I3.wr W7
  have k10 := k4.wr W7 (Or.inr sz_b3)
  have nf11 := Fr.snoc X7 N0 gn_b3
  have f12 := f5.set W7
  have f13 : own_A Z h7 b3 4 (own_v4 (0 : Int32) (0 : Int32) (0 : Int32) (0 : Int32)) := f12.congr (fun j hj => by rcases j with _ | _ | _ | _ | j <;> first | rfl | (simp [own_upd]; done) | omega)
  have pre14 : ∀ t, Steps p.tables e below (T7.setTop (mkF m 32 #[.val (.int p0), .val (.int p1), .val (.int p2), .val (.int p3), .val (.int p4), .val (.int (own_p2 p0)), .val (.int (own_p3 p1)), .val (.ref b3), .unset, .unset, .unset, .unset, .unset, .unset, .unset, .unset, .unset] [(.int (3 : Int32)), (.int p0), (.int (1 : Int32)), (.int (1 : Int32)), (.ref b3)])) t → Steps p.tables e below (s₁.setTop (entryFrame m #[(.int p0), (.int p1), (.int p2), (.int p3), (.int p4)] maxLocals)) t := by
    intro t kt
    refine pre2 t ?_
    show Steps p.tables e below (s₁.setTop (mkF m 16 #[.val (.int p0), .val (.int p1), .val (.int p2), .val (.int p3), .val (.int p4), .val (.int (own_p2 p0)), .val (.int (own_p3 p1)), .unset, .unset, .unset, .unset, .unset, .unset, .unset, .unset, .unset, .unset] [])) _
    show Steps p.tables e below (s₁.setTop (mkF m 16 #[.val (.int p0), .val (.int p1), .val (.int p2), .val (.int p3), .val (.int p4), .val (.int (own_p2 p0)), .val (.int (own_p3 p1)), .unset, .unset, .unset, .unset, .unset, .unset, .unset, .unset, .unset, .unset] [])) _
    refine XS.iconst X0.here hx rfl (hb hby at_16) ?_
    show Steps p.tables e below (s₁.setTop (mkF m 17 #[.val (.int p0), .val (.int p1), .val (.int p2), .val (.int p3), .val (.int p4), .val (.int (own_p2 p0)), .val (.int (own_p3 p1)), .unset, .unset, .unset, .unset, .unset, .unset, .unset, .unset, .unset, .unset] [(.int (4 : Int32))])) _
    refine st3 _ ?_
    show Steps p.tables e below (T3.setTop (mkF m 19 #[.val (.int p0), .val (.int p1), .val (.int p2), .val (.int p3), .val (.int p4), .val (.int (own_p2 p0)), .val (.int (own_p3 p1)), .unset, .unset, .unset, .unset, .unset, .unset, .unset, .unset, .unset, .unset] [(.ref b3)])) _
    refine XS.astore X3.here hx rfl (hb hby at_19) rfl rfl (l' := #[.val (.int p0), .val (.int p1), .val (.int p2), .val (.int p3), .val (.int p4), .val (.int (own_p2 p0)), .val (.int (own_p3 p1)), .val (.ref b3), .unset, .unset, .unset, .unset, .unset, .unset, .unset, .unset, .unset]) rfl ?_
    show Steps p.tables e below (T3.setTop (mkF m 21 #[.val (.int p0), .val (.int p1), .val (.int p2), .val (.int p3), .val (.int p4), .val (.int (own_p2 p0)), .val (.int (own_p3 p1)), .val (.ref b3), .unset, .unset, .unset, .unset, .unset, .unset, .unset, .unset, .unset] [])) _
    refine XS.aload X3.here hx rfl (hb hby at_21) rfl rfl ?_
    show Steps p.tables e below (T3.setTop (mkF m 23 #[.val (.int p0), .val (.int p1), .val (.int p2), .val (.int p3), .val (.int p4), .val (.int (own_p2 p0)), .val (.int (own_p3 p1)), .val (.ref b3), .unset, .unset, .unset, .unset, .unset, .unset, .unset, .unset, .unset] [(.ref b3)])) _
    refine XS.iconst X3.here hx rfl (hb hby at_23) ?_
    show Steps p.tables e below (T3.setTop (mkF m 24 #[.val (.int p0), .val (.int p1), .val (.int p2), .val (.int p3), .val (.int p4), .val (.int (own_p2 p0)), .val (.int (own_p3 p1)), .val (.ref b3), .unset, .unset, .unset, .unset, .unset, .unset, .unset, .unset, .unset] [(.int (0 : Int32)), (.ref b3)])) _
    refine XS.iconst X3.here hx rfl (hb hby at_24) ?_
    show Steps p.tables e below (T3.setTop (mkF m 25 #[.val (.int p0), .val (.int p1), .val (.int p2), .val (.int p3), .val (.int p4), .val (.int (own_p2 p0)), .val (.int (own_p3 p1)), .val (.ref b3), .unset, .unset, .unset, .unset, .unset, .unset, .unset, .unset, .unset] [(.int (0 : Int32)), (.int (0 : Int32)), (.ref b3)])) _
    refine st7 _ ?_
    show Steps p.tables e below (T7.setTop (mkF m 26 #[.val (.int p0), .val (.int p1), .val (.int p2), .val (.int p3), .val (.int p4), .val (.int (own_p2 p0)), .val (.int (own_p3 p1)), .val (.ref b3), .unset, .unset, .unset, .unset, .unset, .unset, .unset, .unset, .unset] [])) _
    refine XS.aload X7.here hx rfl (hb hby at_26) rfl rfl ?_
    show Steps p.tables e below (T7.setTop (mkF m 28 #[.val (.int p0), .val (.int p1), .val (.int p2), .val (.int p3), .val (.int p4), .val (.int (own_p2 p0)), .val (.int (own_p3 p1)), .val (.ref b3), .unset, .unset, .unset, .unset, .unset, .unset, .unset, .unset, .unset] [(.ref b3)])) _
    refine XS.iconst X7.here hx rfl (hb hby at_28) ?_
    show Steps p.tables e below (T7.setTop (mkF m 29 #[.val (.int p0), .val (.int p1), .val (.int p2), .val (.int p3), .val (.int p4), .val (.int (own_p2 p0)), .val (.int (own_p3 p1)), .val (.ref b3), .unset, .unset, .unset, .unset, .unset, .unset, .unset, .unset, .unset] [(.int (1 : Int32)), (.ref b3)])) _
    refine XS.iconst X7.here hx rfl (hb hby at_29) ?_
    show Steps p.tables e below (T7.setTop (mkF m 30 #[.val (.int p0), .val (.int p1), .val (.int p2), .val (.int p3), .val (.int p4), .val (.int (own_p2 p0)), .val (.int (own_p3 p1)), .val (.ref b3), .unset, .unset, .unset, .unset, .unset, .unset, .unset, .unset, .unset] [(.int (1 : Int32)), (.int (1 : Int32)), (.ref b3)])) _
    refine XS.iloadN X7.here hx rfl (hb hby at_30) rfl ?_
    show Steps p.tables e below (T7.setTop (mkF m 31 #[.val (.int p0), .val (.int p1), .val (.int p2), .val (.int p3), .val (.int p4), .val (.int (own_p2 p0)), .val (.int (own_p3 p1)), .val (.ref b3), .unset, .unset, .unset, .unset, .unset, .unset, .unset, .unset, .unset] [(.int p0), (.int (1 : Int32)), (.int (1 : Int32)), (.ref b3)])) _
    refine XS.iconst X7.here hx rfl (hb hby at_31) ?_
    exact kt
  have pre15 : ∀ t, Steps p.tables e below (T7.setTop (mkF m 34 #[.val (.int p0), .val (.int p1), .val (.int p2), .val (.int p3), .val (.int p4), .val (.int (own_p2 p0)), .val (.int (own_p3 p1)), .val (.ref b3), .unset, .unset, .unset, .unset, .unset, .unset, .unset, .unset, .unset] [(.int ((1 : Int32) + (p0 &&& (3 : Int32)))), (.int (1 : Int32)), (.ref b3)])) t → Steps p.tables e below (s₁.setTop (entryFrame m #[(.int p0), (.int p1), (.int p2), (.int p3), (.int p4)] maxLocals)) t := by
    intro t kt
    refine pre14 t ?_
    show Steps p.tables e below (T7.setTop (mkF m 32 #[.val (.int p0), .val (.int p1), .val (.int p2), .val (.int p3), .val (.int p4), .val (.int (own_p2 p0)), .val (.int (own_p3 p1)), .val (.ref b3), .unset, .unset, .unset, .unset, .unset, .unset, .unset, .unset, .unset] [(.int (3 : Int32)), (.int p0), (.int (1 : Int32)), (.int (1 : Int32)), (.ref b3)])) _
    refine XS.iand X7.here hx rfl (hb hby at_32) rfl ?_
    show Steps p.tables e below (T7.setTop (mkF m 33 #[.val (.int p0), .val (.int p1), .val (.int p2), .val (.int p3), .val (.int p4), .val (.int (own_p2 p0)), .val (.int (own_p3 p1)), .val (.ref b3), .unset, .unset, .unset, .unset, .unset, .unset, .unset, .unset, .unset] [(.int (p0 &&& (3 : Int32))), (.int (1 : Int32)), (.int (1 : Int32)), (.ref b3)])) _
    refine XS.iadd X7.here hx rfl (hb hby at_33) rfl ?_
    exact kt
  obtain ⟨cl16, Ar16, S16, H16⟩ := id f13
  have hin16 : ¬ ((1 : Int32) < 0 ∨ cl16.slots.size ≤ ((1 : Int32)).toNatClampNeg) := own_inb S16 (by decide) (by decide)
  obtain ⟨T17, h17, X17, e17, W17, st17⟩ := stI X7 hx hZ e7 Ar16 (j := (1 : Int32)) hin16 (g := (mkF m 34 #[.val (.int p0), .val (.int p1), .val (.int p2), .val (.int p3), .val (.int p4), .val (.int (own_p2 p0)), .val (.int (own_p3 p1)), .val (.ref b3), .unset, .unset, .unset, .unset, .unset, .unset, .unset, .unset, .unset] [(.int (own_r1 p0)), (.int (1 : Int32)), (.ref b3)])) rfl rfl (hb hby at_34)
  have f18 := f8.wr W17
  have k20 := k10.wr W17 (Or.inr sz_b3)
  have nf21 := Fr.snoc X17 nf11 gn_b3
  have f22 := f13.set W17
  have f23 : own_A Z h17 b3 4 (own_v4 (0 : Int32) (own_r1 p0) (0 : Int32) (0 : Int32)) := f22.congr (fun j hj => by rcases j with _ | _ | _ | _ | j <;> first | rfl | (simp [own_upd]; done) | omega)
  obtain ⟨cl24, Ar24, S24, H24⟩ := id f23
  have hin24 : ¬ ((own_p2 p0) < 0 ∨ cl24.slots.size ≤ ((own_p2 p0)).toNatClampNeg) := own_inb S24 (own_nn (own_p2r p0).1) (own_tn (Int.lt_of_le_of_lt (own_p2r p0).2 (by decide)) (by decide))
  have hat24 : cl24.slots[((own_p2 p0)).toNatClampNeg]? = some (.int ((own_v4 (0 : Int32) (own_r1 p0) (0 : Int32) (0 : Int32)) ((own_p2 p0)).toNatClampNeg)) := H24 _ (own_tn (Int.lt_of_le_of_lt (own_p2r p0).2 (by decide)) (by decide))
  have pre25 : ∀ t, Steps p.tables e below (T17.setTop (mkF m 49 #[.val (.int p0), .val (.int p1), .val (.int p2), .val (.int p3), .val (.int p4), .val (.int (own_p2 p0)), .val (.int (own_p3 p1)), .val (.ref b3), .unset, .unset, .unset, .unset, .unset, .unset, .unset, .unset, .unset] [(.int ((((own_v4 (0 : Int32) (own_r1 p0) (0 : Int32) (0 : Int32)) ((own_p2 p0)).toNatClampNeg) + (1 : Int32)) + (p1 &&& (3 : Int32)))), (.int (2 : Int32)), (.ref b3)])) t → Steps p.tables e below (s₁.setTop (entryFrame m #[(.int p0), (.int p1), (.int p2), (.int p3), (.int p4)] maxLocals)) t := by
    intro t kt
    refine pre15 t ?_
    show Steps p.tables e below (T7.setTop (mkF m 34 #[.val (.int p0), .val (.int p1), .val (.int p2), .val (.int p3), .val (.int p4), .val (.int (own_p2 p0)), .val (.int (own_p3 p1)), .val (.ref b3), .unset, .unset, .unset, .unset, .unset, .unset, .unset, .unset, .unset] [(.int (own_r1 p0)), (.int (1 : Int32)), (.ref b3)])) _
    show Steps p.tables e below (T7.setTop (mkF m 34 #[.val (.int p0), .val (.int p1), .val (.int p2), .val (.int p3), .val (.int p4), .val (.int (own_p2 p0)), .val (.int (own_p3 p1)), .val (.ref b3), .unset, .unset, .unset, .unset, .unset, .unset, .unset, .unset, .unset] [(.int (own_r1 p0)), (.int (1 : Int32)), (.ref b3)])) _
    refine st17 _ ?_
    show Steps p.tables e below (T17.setTop (mkF m 35 #[.val (.int p0), .val (.int p1), .val (.int p2), .val (.int p3), .val (.int p4), .val (.int (own_p2 p0)), .val (.int (own_p3 p1)), .val (.ref b3), .unset, .unset, .unset, .unset, .unset, .unset, .unset, .unset, .unset] [])) _
    refine XS.aload X17.here hx rfl (hb hby at_35) rfl rfl ?_
    show Steps p.tables e below (T17.setTop (mkF m 37 #[.val (.int p0), .val (.int p1), .val (.int p2), .val (.int p3), .val (.int p4), .val (.int (own_p2 p0)), .val (.int (own_p3 p1)), .val (.ref b3), .unset, .unset, .unset, .unset, .unset, .unset, .unset, .unset, .unset] [(.ref b3)])) _
    refine XS.iconst X17.here hx rfl (hb hby at_37) ?_
    show Steps p.tables e below (T17.setTop (mkF m 38 #[.val (.int p0), .val (.int p1), .val (.int p2), .val (.int p3), .val (.int p4), .val (.int (own_p2 p0)), .val (.int (own_p3 p1)), .val (.ref b3), .unset, .unset, .unset, .unset, .unset, .unset, .unset, .unset, .unset] [(.int (2 : Int32)), (.ref b3)])) _
    refine XS.aload X17.here hx rfl (hb hby at_38) rfl rfl ?_
    show Steps p.tables e below (T17.setTop (mkF m 40 #[.val (.int p0), .val (.int p1), .val (.int p2), .val (.int p3), .val (.int p4), .val (.int (own_p2 p0)), .val (.int (own_p3 p1)), .val (.ref b3), .unset, .unset, .unset, .unset, .unset, .unset, .unset, .unset, .unset] [(.ref b3), (.int (2 : Int32)), (.ref b3)])) _
    refine XS.iload X17.here hx rfl (hb hby at_40) rfl ?_
    show Steps p.tables e below (T17.setTop (mkF m 42 #[.val (.int p0), .val (.int p1), .val (.int p2), .val (.int p3), .val (.int p4), .val (.int (own_p2 p0)), .val (.int (own_p3 p1)), .val (.ref b3), .unset, .unset, .unset, .unset, .unset, .unset, .unset, .unset, .unset] [(.int (own_p2 p0)), (.ref b3), (.int (2 : Int32)), (.ref b3)])) _
    refine X17.iaload hx (j := (own_p2 p0)) (v := (.int ((own_v4 (0 : Int32) (own_r1 p0) (0 : Int32) (0 : Int32)) ((own_p2 p0)).toNatClampNeg))) (by rw [e17]; exact Ar24.1) (State.isArrayOf_alike hZ.alike Ar24.2.1) Ar24.2.2 hin24 hat24 (g := (mkF m 42 #[.val (.int p0), .val (.int p1), .val (.int p2), .val (.int p3), .val (.int p4), .val (.int (own_p2 p0)), .val (.int (own_p3 p1)), .val (.ref b3), .unset, .unset, .unset, .unset, .unset, .unset, .unset, .unset, .unset] [(.int (own_p2 p0)), (.ref b3), (.int (2 : Int32)), (.ref b3)])) rfl rfl (hb hby at_42) _ ?_
    show Steps p.tables e below (T17.setTop (mkF m 43 #[.val (.int p0), .val (.int p1), .val (.int p2), .val (.int p3), .val (.int p4), .val (.int (own_p2 p0)), .val (.int (own_p3 p1)), .val (.ref b3), .unset, .unset, .unset, .unset, .unset, .unset, .unset, .unset, .unset] [(.int ((own_v4 (0 : Int32) (own_r1 p0) (0 : Int32) (0 : Int32)) ((own_p2 p0)).toNatClampNeg)), (.int (2 : Int32)), (.ref b3)])) _
    refine XS.iconst X17.here hx rfl (hb hby at_43) ?_
    show Steps p.tables e below (T17.setTop (mkF m 44 #[.val (.int p0), .val (.int p1), .val (.int p2), .val (.int p3), .val (.int p4), .val (.int (own_p2 p0)), .val (.int (own_p3 p1)), .val (.ref b3), .unset, .unset, .unset, .unset, .unset, .unset, .unset, .unset, .unset] [(.int (1 : Int32)), (.int ((own_v4 (0 : Int32) (own_r1 p0) (0 : Int32) (0 : Int32)) ((own_p2 p0)).toNatClampNeg)), (.int (2 : Int32)), (.ref b3)])) _
    refine XS.iadd X17.here hx rfl (hb hby at_44) rfl ?_
    show Steps p.tables e below (T17.setTop (mkF m 45 #[.val (.int p0), .val (.int p1), .val (.int p2), .val (.int p3), .val (.int p4), .val (.int (own_p2 p0)), .val (.int (own_p3 p1)), .val (.ref b3), .unset, .unset, .unset, .unset, .unset, .unset, .unset, .unset, .unset] [(.int (((own_v4 (0 : Int32) (own_r1 p0) (0 : Int32) (0 : Int32)) ((own_p2 p0)).toNatClampNeg) + (1 : Int32))), (.int (2 : Int32)), (.ref b3)])) _
    refine XS.iloadN X17.here hx rfl (hb hby at_45) rfl ?_
    show Steps p.tables e below (T17.setTop (mkF m 46 #[.val (.int p0), .val (.int p1), .val (.int p2), .val (.int p3), .val (.int p4), .val (.int (own_p2 p0)), .val (.int (own_p3 p1)), .val (.ref b3), .unset, .unset, .unset, .unset, .unset, .unset, .unset, .unset, .unset] [(.int p1), (.int (((own_v4 (0 : Int32) (own_r1 p0) (0 : Int32) (0 : Int32)) ((own_p2 p0)).toNatClampNeg) + (1 : Int32))), (.int (2 : Int32)), (.ref b3)])) _
    refine XS.iconst X17.here hx rfl (hb hby at_46) ?_
    show Steps p.tables e below (T17.setTop (mkF m 47 #[.val (.int p0), .val (.int p1), .val (.int p2), .val (.int p3), .val (.int p4), .val (.int (own_p2 p0)), .val (.int (own_p3 p1)), .val (.ref b3), .unset, .unset, .unset, .unset, .unset, .unset, .unset, .unset, .unset] [(.int (3 : Int32)), (.int p1), (.int (((own_v4 (0 : Int32) (own_r1 p0) (0 : Int32) (0 : Int32)) ((own_p2 p0)).toNatClampNeg) + (1 : Int32))), (.int (2 : Int32)), (.ref b3)])) _
    refine XS.iand X17.here hx rfl (hb hby at_47) rfl ?_
    show Steps p.tables e below (T17.setTop (mkF m 48 #[.val (.int p0), .val (.int p1), .val (.int p2), .val (.int p3), .val (.int p4), .val (.int (own_p2 p0)), .val (.int (own_p3 p1)), .val (.ref b3), .unset, .unset, .unset, .unset, .unset, .unset, .unset, .unset, .unset] [(.int (p1 &&& (3 : Int32))), (.int (((own_v4 (0 : Int32) (own_r1 p0) (0 : Int32) (0 : Int32)) ((own_p2 p0)).toNatClampNeg) + (1 : Int32))), (.int (2 : Int32)), (.ref b3)])) _
    refine XS.iadd X17.here hx rfl (hb hby at_48) rfl ?_
    exact kt
  obtain ⟨cl26, Ar26, S26, H26⟩ := id f23
  have hin26 : ¬ ((2 : Int32) < 0 ∨ cl26.slots.size ≤ ((2 : Int32)).toNatClampNeg) := own_inb S26 (by decide) (by decide)
  obtain ⟨T27, h27, X27, e27, W27, st27⟩ := stI X17 hx hZ e17 Ar26 (j := (2 : Int32)) hin26 (g := (mkF m 49 #[.val (.int p0), .val (.int p1), .val (.int p2), .val (.int p3), .val (.int p4), .val (.int (own_p2 p0)), .val (.int (own_p3 p1)), .val (.ref b3), .unset, .unset, .unset, .unset, .unset, .unset, .unset, .unset, .unset] [(.int (own_r2 p0 p1)), (.int (2 : Int32)), (.ref b3)])) rfl rfl (hb hby at_49)
  have f28 := f18.wr W27
  have k30 := k20.wr W27 (Or.inr sz_b3)
  have nf31 := Fr.snoc X27 nf21 gn_b3
  have f32 := f23.set W27
  have f33 : own_A Z h27 b3 4 (own_v4 (0 : Int32) (own_r1 p0) (own_r2 p0 p1) (0 : Int32)) := f32.congr (fun j hj => by rcases j with _ | _ | _ | _ | j <;> first | rfl | (simp [own_upd]; done) | omega)
  obtain ⟨cl34, Ar34, S34, H34⟩ := id f33
  have hin34 : ¬ ((own_p3 p1) < 0 ∨ cl34.slots.size ≤ ((own_p3 p1)).toNatClampNeg) := own_inb S34 (own_nn (own_p3r p1).1) (own_tn (Int.lt_of_le_of_lt (own_p3r p1).2 (by decide)) (by decide))
  have hat34 : cl34.slots[((own_p3 p1)).toNatClampNeg]? = some (.int ((own_v4 (0 : Int32) (own_r1 p0) (own_r2 p0 p1) (0 : Int32)) ((own_p3 p1)).toNatClampNeg)) := H34 _ (own_tn (Int.lt_of_le_of_lt (own_p3r p1).2 (by decide)) (by decide))
  have pre35 : ∀ t, Steps p.tables e below (T27.setTop (mkF m 64 #[.val (.int p0), .val (.int p1), .val (.int p2), .val (.int p3), .val (.int p4), .val (.int (own_p2 p0)), .val (.int (own_p3 p1)), .val (.ref b3), .unset, .unset, .unset, .unset, .unset, .unset, .unset, .unset, .unset] [(.int ((((own_v4 (0 : Int32) (own_r1 p0) (own_r2 p0 p1) (0 : Int32)) ((own_p3 p1)).toNatClampNeg) + (1 : Int32)) + (p2 &&& (3 : Int32)))), (.int (3 : Int32)), (.ref b3)])) t → Steps p.tables e below (s₁.setTop (entryFrame m #[(.int p0), (.int p1), (.int p2), (.int p3), (.int p4)] maxLocals)) t := by
    intro t kt
    refine pre25 t ?_
    show Steps p.tables e below (T17.setTop (mkF m 49 #[.val (.int p0), .val (.int p1), .val (.int p2), .val (.int p3), .val (.int p4), .val (.int (own_p2 p0)), .val (.int (own_p3 p1)), .val (.ref b3), .unset, .unset, .unset, .unset, .unset, .unset, .unset, .unset, .unset] [(.int (own_r2 p0 p1)), (.int (2 : Int32)), (.ref b3)])) _
    show Steps p.tables e below (T17.setTop (mkF m 49 #[.val (.int p0), .val (.int p1), .val (.int p2), .val (.int p3), .val (.int p4), .val (.int (own_p2 p0)), .val (.int (own_p3 p1)), .val (.ref b3), .unset, .unset, .unset, .unset, .unset, .unset, .unset, .unset, .unset] [(.int (own_r2 p0 p1)), (.int (2 : Int32)), (.ref b3)])) _
    refine st27 _ ?_
    show Steps p.tables e below (T27.setTop (mkF m 50 #[.val (.int p0), .val (.int p1), .val (.int p2), .val (.int p3), .val (.int p4), .val (.int (own_p2 p0)), .val (.int (own_p3 p1)), .val (.ref b3), .unset, .unset, .unset, .unset, .unset, .unset, .unset, .unset, .unset] [])) _
    refine XS.aload X27.here hx rfl (hb hby at_50) rfl rfl ?_
    show Steps p.tables e below (T27.setTop (mkF m 52 #[.val (.int p0), .val (.int p1), .val (.int p2), .val (.int p3), .val (.int p4), .val (.int (own_p2 p0)), .val (.int (own_p3 p1)), .val (.ref b3), .unset, .unset, .unset, .unset, .unset, .unset, .unset, .unset, .unset] [(.ref b3)])) _
    refine XS.iconst X27.here hx rfl (hb hby at_52) ?_
    show Steps p.tables e below (T27.setTop (mkF m 53 #[.val (.int p0), .val (.int p1), .val (.int p2), .val (.int p3), .val (.int p4), .val (.int (own_p2 p0)), .val (.int (own_p3 p1)), .val (.ref b3), .unset, .unset, .unset, .unset, .unset, .unset, .unset, .unset, .unset] [(.int (3 : Int32)), (.ref b3)])) _
    refine XS.aload X27.here hx rfl (hb hby at_53) rfl rfl ?_
    show Steps p.tables e below (T27.setTop (mkF m 55 #[.val (.int p0), .val (.int p1), .val (.int p2), .val (.int p3), .val (.int p4), .val (.int (own_p2 p0)), .val (.int (own_p3 p1)), .val (.ref b3), .unset, .unset, .unset, .unset, .unset, .unset, .unset, .unset, .unset] [(.ref b3), (.int (3 : Int32)), (.ref b3)])) _
    refine XS.iload X27.here hx rfl (hb hby at_55) rfl ?_
    show Steps p.tables e below (T27.setTop (mkF m 57 #[.val (.int p0), .val (.int p1), .val (.int p2), .val (.int p3), .val (.int p4), .val (.int (own_p2 p0)), .val (.int (own_p3 p1)), .val (.ref b3), .unset, .unset, .unset, .unset, .unset, .unset, .unset, .unset, .unset] [(.int (own_p3 p1)), (.ref b3), (.int (3 : Int32)), (.ref b3)])) _
    refine X27.iaload hx (j := (own_p3 p1)) (v := (.int ((own_v4 (0 : Int32) (own_r1 p0) (own_r2 p0 p1) (0 : Int32)) ((own_p3 p1)).toNatClampNeg))) (by rw [e27]; exact Ar34.1) (State.isArrayOf_alike hZ.alike Ar34.2.1) Ar34.2.2 hin34 hat34 (g := (mkF m 57 #[.val (.int p0), .val (.int p1), .val (.int p2), .val (.int p3), .val (.int p4), .val (.int (own_p2 p0)), .val (.int (own_p3 p1)), .val (.ref b3), .unset, .unset, .unset, .unset, .unset, .unset, .unset, .unset, .unset] [(.int (own_p3 p1)), (.ref b3), (.int (3 : Int32)), (.ref b3)])) rfl rfl (hb hby at_57) _ ?_
    show Steps p.tables e below (T27.setTop (mkF m 58 #[.val (.int p0), .val (.int p1), .val (.int p2), .val (.int p3), .val (.int p4), .val (.int (own_p2 p0)), .val (.int (own_p3 p1)), .val (.ref b3), .unset, .unset, .unset, .unset, .unset, .unset, .unset, .unset, .unset] [(.int ((own_v4 (0 : Int32) (own_r1 p0) (own_r2 p0 p1) (0 : Int32)) ((own_p3 p1)).toNatClampNeg)), (.int (3 : Int32)), (.ref b3)])) _
    refine XS.iconst X27.here hx rfl (hb hby at_58) ?_
    show Steps p.tables e below (T27.setTop (mkF m 59 #[.val (.int p0), .val (.int p1), .val (.int p2), .val (.int p3), .val (.int p4), .val (.int (own_p2 p0)), .val (.int (own_p3 p1)), .val (.ref b3), .unset, .unset, .unset, .unset, .unset, .unset, .unset, .unset, .unset] [(.int (1 : Int32)), (.int ((own_v4 (0 : Int32) (own_r1 p0) (own_r2 p0 p1) (0 : Int32)) ((own_p3 p1)).toNatClampNeg)), (.int (3 : Int32)), (.ref b3)])) _
    refine XS.iadd X27.here hx rfl (hb hby at_59) rfl ?_
    show Steps p.tables e below (T27.setTop (mkF m 60 #[.val (.int p0), .val (.int p1), .val (.int p2), .val (.int p3), .val (.int p4), .val (.int (own_p2 p0)), .val (.int (own_p3 p1)), .val (.ref b3), .unset, .unset, .unset, .unset, .unset, .unset, .unset, .unset, .unset] [(.int (((own_v4 (0 : Int32) (own_r1 p0) (own_r2 p0 p1) (0 : Int32)) ((own_p3 p1)).toNatClampNeg) + (1 : Int32))), (.int (3 : Int32)), (.ref b3)])) _
    refine XS.iloadN X27.here hx rfl (hb hby at_60) rfl ?_
    show Steps p.tables e below (T27.setTop (mkF m 61 #[.val (.int p0), .val (.int p1), .val (.int p2), .val (.int p3), .val (.int p4), .val (.int (own_p2 p0)), .val (.int (own_p3 p1)), .val (.ref b3), .unset, .unset, .unset, .unset, .unset, .unset, .unset, .unset, .unset] [(.int p2), (.int (((own_v4 (0 : Int32) (own_r1 p0) (own_r2 p0 p1) (0 : Int32)) ((own_p3 p1)).toNatClampNeg) + (1 : Int32))), (.int (3 : Int32)), (.ref b3)])) _
    refine XS.iconst X27.here hx rfl (hb hby at_61) ?_
    show Steps p.tables e below (T27.setTop (mkF m 62 #[.val (.int p0), .val (.int p1), .val (.int p2), .val (.int p3), .val (.int p4), .val (.int (own_p2 p0)), .val (.int (own_p3 p1)), .val (.ref b3), .unset, .unset, .unset, .unset, .unset, .unset, .unset, .unset, .unset] [(.int (3 : Int32)), (.int p2), (.int (((own_v4 (0 : Int32) (own_r1 p0) (own_r2 p0 p1) (0 : Int32)) ((own_p3 p1)).toNatClampNeg) + (1 : Int32))), (.int (3 : Int32)), (.ref b3)])) _
    refine XS.iand X27.here hx rfl (hb hby at_62) rfl ?_
    show Steps p.tables e below (T27.setTop (mkF m 63 #[.val (.int p0), .val (.int p1), .val (.int p2), .val (.int p3), .val (.int p4), .val (.int (own_p2 p0)), .val (.int (own_p3 p1)), .val (.ref b3), .unset, .unset, .unset, .unset, .unset, .unset, .unset, .unset, .unset] [(.int (p2 &&& (3 : Int32))), (.int (((own_v4 (0 : Int32) (own_r1 p0) (own_r2 p0 p1) (0 : Int32)) ((own_p3 p1)).toNatClampNeg) + (1 : Int32))), (.int (3 : Int32)), (.ref b3)])) _
    refine XS.iadd X27.here hx rfl (hb hby at_63) rfl ?_
    exact kt
  obtain ⟨cl36, Ar36, S36, H36⟩ := id f33
  have hin36 : ¬ ((3 : Int32) < 0 ∨ cl36.slots.size ≤ ((3 : Int32)).toNatClampNeg) := own_inb S36 (by decide) (by decide)
  obtain ⟨T37, h37, X37, e37, W37, st37⟩ := stI X27 hx hZ e27 Ar36 (j := (3 : Int32)) hin36 (g := (mkF m 64 #[.val (.int p0), .val (.int p1), .val (.int p2), .val (.int p3), .val (.int p4), .val (.int (own_p2 p0)), .val (.int (own_p3 p1)), .val (.ref b3), .unset, .unset, .unset, .unset, .unset, .unset, .unset, .unset, .unset] [(.int (own_r3 p0 p1 p2)), (.int (3 : Int32)), (.ref b3)])) rfl rfl (hb hby at_64)
  have f38 := f28.wr W37
  have k40 := k30.wr W37 (Or.inr sz_b3)
  have nf41 := Fr.snoc X37 nf31 gn_b3
  have f42 := f33.set W37
  have f43 : own_A Z h37 b3 4 (own_v4 (0 : Int32) (own_r1 p0) (own_r2 p0 p1) (own_r3 p0 p1 p2)) := f42.congr (fun j hj => by rcases j with _ | _ | _ | _ | j <;> first | rfl | (simp [own_upd]; done) | omega)
  obtain ⟨T44, h44, k44, X44, e44, E44, A44, I44, st44⟩ := newPE X37 hx hZ (hw _ (List.mem_of_getElem? (i := 0) rfl)) e37 (g := (mkF m 66 #[.val (.int p0), .val (.int p1), .val (.int p2), .val (.int p3), .val (.int p4), .val (.int (own_p2 p0)), .val (.int (own_p3 p1)), .val (.ref b3), .unset, .unset, .unset, .unset, .unset, .unset, .unset, .unset, .unset] [(.int (4 : Int32))])) rfl (hb hby at_66) rfl (by decide) (cap := 4) (by decide) (by decide) (by decide) (by decide) (ad := "[I") rfl
  obtain ⟨b44, g44⟩ : ∃ z, z = h37.size := ⟨_, rfl⟩
  rw [← g44] at A44 I44 st44
  have sz_b44 : h0.size ≤ b44 := Nat.le_trans k40.1 (Nat.le_of_eq g44.symm)
  have gn_b44 : n0 ≤ b44 := Nat.le_trans Z0 sz_b44
  have ne_b3_b44 : b3 ≠ b44 := Nat.ne_of_lt (Nat.lt_of_lt_of_le f43.lt (Nat.le_of_eq g44.symm))
  have f45 := f38.ext E44
  have f46 := f43.ext E44
  have k47 := k40.ext E44
  have f48 : own_A Z h44 b44 4 (own_v4 (0 : Int32) (0 : Int32) (0 : Int32) (0 : Int32)) := (own_A.new A44 rfl).congr (fun j hj => by rcases j with _ | _ | _ | _ | j <;> first | rfl | (simp [own_upd]; done) | omega)
  obtain ⟨cl49, Ar49, S49, H49⟩ := id f48
  have hin49 : ¬ ((0 : Int32) < 0 ∨ cl49.slots.size ≤ ((0 : Int32)).toNatClampNeg) := own_inb S49 (by decide) (by decide)
  obtain ⟨T50, h50, X50, e50, W50, st50⟩ := stI X44 hx hZ e44 Ar49 (j := (0 : Int32)) hin49 (g := (mkF m 71 #[.val (.int p0), .val (.int p1), .val (.int p2), .val (.int p3), .val (.int p4), .val (.int (own_p2 p0)), .val (.int (own_p3 p1)), .val (.ref b3), .unset, .unset, .unset, .unset, .unset, .unset, .unset, .unset, .unset] [(.int (0 : Int32)), (.int (0 : Int32)), (.ref b44), (.ref b44)])) rfl rfl (hb hby at_71)
  have f51 := f45.wr W50
  have f52 := f46.other W50 ne_b3_b44
  have f53 := I44.wr W50
  have k55 := k47.wr W50 (Or.inr sz_b44)
  have nf56 := Fr.snoc X50 nf41 gn_b44
  have f57 := f48.set W50
  have f58 : own_A Z h50 b44 4 (own_v4 (0 : Int32) (0 : Int32) (0 : Int32) (0 : Int32)) := f57.congr (fun j hj => by rcases j with _ | _ | _ | _ | j <;> first | rfl | (simp [own_upd]; done) | omega)
  obtain ⟨cl59, Ar59, S59, H59⟩ := id f58
  have hin59 : ¬ ((1 : Int32) < 0 ∨ cl59.slots.size ≤ ((1 : Int32)).toNatClampNeg) := own_inb S59 (by decide) (by decide)
  obtain ⟨T60, h60, X60, e60, W60, st60⟩ := stI X50 hx hZ e50 Ar59 (j := (1 : Int32)) hin59 (g := (mkF m 75 #[.val (.int p0), .val (.int p1), .val (.int p2), .val (.int p3), .val (.int p4), .val (.int (own_p2 p0)), .val (.int (own_p3 p1)), .val (.ref b3), .unset, .unset, .unset, .unset, .unset, .unset, .unset, .unset, .unset] [(.int (0 : Int32)), (.int (1 : Int32)), (.ref b44), (.ref b44)])) rfl rfl (hb hby at_75)
  have f61 := f51.wr W60
  have f62 := f52.other W60 ne_b3_b44
  have f63 := f53.wr W60
  have k65 := k55.wr W60 (Or.inr sz_b44)
  have nf66 := Fr.snoc X60 nf56 gn_b44
  have f67 := f58.set W60
  have f68 : own_A Z h60 b44 4 (own_v4 (0 : Int32) (0 : Int32) (0 : Int32) (0 : Int32)) := f67.congr (fun j hj => by rcases j with _ | _ | _ | _ | j <;> first | rfl | (simp [own_upd]; done) | omega)
  have pre69 : ∀ t, Steps p.tables e below (T60.setTop (mkF m 77 #[.val (.int p0), .val (.int p1), .val (.int p2), .val (.int p3), .val (.int p4), .val (.int (own_p2 p0)), .val (.int (own_p3 p1)), .val (.ref b3), .unset, .unset, .unset, .unset, .unset, .unset, .unset, .unset, .unset] [(.ref b44), (.ref b44)])) t → Steps p.tables e below (s₁.setTop (entryFrame m #[(.int p0), (.int p1), (.int p2), (.int p3), (.int p4)] maxLocals)) t := by
    intro t kt
    refine pre35 t ?_
    show Steps p.tables e below (T27.setTop (mkF m 64 #[.val (.int p0), .val (.int p1), .val (.int p2), .val (.int p3), .val (.int p4), .val (.int (own_p2 p0)), .val (.int (own_p3 p1)), .val (.ref b3), .unset, .unset, .unset, .unset, .unset, .unset, .unset, .unset, .unset] [(.int (own_r3 p0 p1 p2)), (.int (3 : Int32)), (.ref b3)])) _
    show Steps p.tables e below (T27.setTop (mkF m 64 #[.val (.int p0), .val (.int p1), .val (.int p2), .val (.int p3), .val (.int p4), .val (.int (own_p2 p0)), .val (.int (own_p3 p1)), .val (.ref b3), .unset, .unset, .unset, .unset, .unset, .unset, .unset, .unset, .unset] [(.int (own_r3 p0 p1 p2)), (.int (3 : Int32)), (.ref b3)])) _
    refine st37 _ ?_
    show Steps p.tables e below (T37.setTop (mkF m 65 #[.val (.int p0), .val (.int p1), .val (.int p2), .val (.int p3), .val (.int p4), .val (.int (own_p2 p0)), .val (.int (own_p3 p1)), .val (.ref b3), .unset, .unset, .unset, .unset, .unset, .unset, .unset, .unset, .unset] [])) _
    refine XS.iconst X37.here hx rfl (hb hby at_65) ?_
    show Steps p.tables e below (T37.setTop (mkF m 66 #[.val (.int p0), .val (.int p1), .val (.int p2), .val (.int p3), .val (.int p4), .val (.int (own_p2 p0)), .val (.int (own_p3 p1)), .val (.ref b3), .unset, .unset, .unset, .unset, .unset, .unset, .unset, .unset, .unset] [(.int (4 : Int32))])) _
    refine st44 _ ?_
    show Steps p.tables e below (T44.setTop (mkF m 68 #[.val (.int p0), .val (.int p1), .val (.int p2), .val (.int p3), .val (.int p4), .val (.int (own_p2 p0)), .val (.int (own_p3 p1)), .val (.ref b3), .unset, .unset, .unset, .unset, .unset, .unset, .unset, .unset, .unset] [(.ref b44)])) _
    refine XS.dup X44.here hx rfl (hb hby at_68) rfl rfl ?_
    show Steps p.tables e below (T44.setTop (mkF m 69 #[.val (.int p0), .val (.int p1), .val (.int p2), .val (.int p3), .val (.int p4), .val (.int (own_p2 p0)), .val (.int (own_p3 p1)), .val (.ref b3), .unset, .unset, .unset, .unset, .unset, .unset, .unset, .unset, .unset] [(.ref b44), (.ref b44)])) _
    refine XS.iconst X44.here hx rfl (hb hby at_69) ?_
    show Steps p.tables e below (T44.setTop (mkF m 70 #[.val (.int p0), .val (.int p1), .val (.int p2), .val (.int p3), .val (.int p4), .val (.int (own_p2 p0)), .val (.int (own_p3 p1)), .val (.ref b3), .unset, .unset, .unset, .unset, .unset, .unset, .unset, .unset, .unset] [(.int (0 : Int32)), (.ref b44), (.ref b44)])) _
    refine XS.iconst X44.here hx rfl (hb hby at_70) ?_
    show Steps p.tables e below (T44.setTop (mkF m 71 #[.val (.int p0), .val (.int p1), .val (.int p2), .val (.int p3), .val (.int p4), .val (.int (own_p2 p0)), .val (.int (own_p3 p1)), .val (.ref b3), .unset, .unset, .unset, .unset, .unset, .unset, .unset, .unset, .unset] [(.int (0 : Int32)), (.int (0 : Int32)), (.ref b44), (.ref b44)])) _
    refine st50 _ ?_
    show Steps p.tables e below (T50.setTop (mkF m 72 #[.val (.int p0), .val (.int p1), .val (.int p2), .val (.int p3), .val (.int p4), .val (.int (own_p2 p0)), .val (.int (own_p3 p1)), .val (.ref b3), .unset, .unset, .unset, .unset, .unset, .unset, .unset, .unset, .unset] [(.ref b44)])) _
    refine XS.dup X50.here hx rfl (hb hby at_72) rfl rfl ?_
    show Steps p.tables e below (T50.setTop (mkF m 73 #[.val (.int p0), .val (.int p1), .val (.int p2), .val (.int p3), .val (.int p4), .val (.int (own_p2 p0)), .val (.int (own_p3 p1)), .val (.ref b3), .unset, .unset, .unset, .unset, .unset, .unset, .unset, .unset, .unset] [(.ref b44), (.ref b44)])) _
    refine XS.iconst X50.here hx rfl (hb hby at_73) ?_
    show Steps p.tables e below (T50.setTop (mkF m 74 #[.val (.int p0), .val (.int p1), .val (.int p2), .val (.int p3), .val (.int p4), .val (.int (own_p2 p0)), .val (.int (own_p3 p1)), .val (.ref b3), .unset, .unset, .unset, .unset, .unset, .unset, .unset, .unset, .unset] [(.int (1 : Int32)), (.ref b44), (.ref b44)])) _
    refine XS.iconst X50.here hx rfl (hb hby at_74) ?_
    show Steps p.tables e below (T50.setTop (mkF m 75 #[.val (.int p0), .val (.int p1), .val (.int p2), .val (.int p3), .val (.int p4), .val (.int (own_p2 p0)), .val (.int (own_p3 p1)), .val (.ref b3), .unset, .unset, .unset, .unset, .unset, .unset, .unset, .unset, .unset] [(.int (0 : Int32)), (.int (1 : Int32)), (.ref b44), (.ref b44)])) _
    refine st60 _ ?_
    show Steps p.tables e below (T60.setTop (mkF m 76 #[.val (.int p0), .val (.int p1), .val (.int p2), .val (.int p3), .val (.int p4), .val (.int (own_p2 p0)), .val (.int (own_p3 p1)), .val (.ref b3), .unset, .unset, .unset, .unset, .unset, .unset, .unset, .unset, .unset] [(.ref b44)])) _
    refine XS.dup X60.here hx rfl (hb hby at_76) rfl rfl ?_
    exact kt
  obtain ⟨cl70, Ar70, S70, H70⟩ := id f68
  have hin70 : ¬ ((2 : Int32) < 0 ∨ cl70.slots.size ≤ ((2 : Int32)).toNatClampNeg) := own_inb S70 (by decide) (by decide)
  obtain ⟨T71, h71, X71, e71, W71, st71⟩ := stI X60 hx hZ e60 Ar70 (j := (2 : Int32)) hin70 (g := (mkF m 80 #[.val (.int p0), .val (.int p1), .val (.int p2), .val (.int p3), .val (.int p4), .val (.int (own_p2 p0)), .val (.int (own_p3 p1)), .val (.ref b3), .unset, .unset, .unset, .unset, .unset, .unset, .unset, .unset, .unset] [(.int (own_p2 p0)), (.int (2 : Int32)), (.ref b44), (.ref b44)])) rfl rfl (hb hby at_80)
  have f72 := f61.wr W71
  have f73 := f62.other W71 ne_b3_b44
  have f74 := f63.wr W71
  have k76 := k65.wr W71 (Or.inr sz_b44)
  have nf77 := Fr.snoc X71 nf66 gn_b44
  have f78 := f68.set W71
  have f79 : own_A Z h71 b44 4 (own_v4 (0 : Int32) (0 : Int32) (own_p2 p0) (0 : Int32)) := f78.congr (fun j hj => by rcases j with _ | _ | _ | _ | j <;> first | rfl | (simp [own_upd]; done) | omega)
  obtain ⟨cl80, Ar80, S80, H80⟩ := id f79
  have hin80 : ¬ ((3 : Int32) < 0 ∨ cl80.slots.size ≤ ((3 : Int32)).toNatClampNeg) := own_inb S80 (by decide) (by decide)
  obtain ⟨T81, h81, X81, e81, W81, st81⟩ := stI X71 hx hZ e71 Ar80 (j := (3 : Int32)) hin80 (g := (mkF m 85 #[.val (.int p0), .val (.int p1), .val (.int p2), .val (.int p3), .val (.int p4), .val (.int (own_p2 p0)), .val (.int (own_p3 p1)), .val (.ref b3), .unset, .unset, .unset, .unset, .unset, .unset, .unset, .unset, .unset] [(.int (own_p3 p1)), (.int (3 : Int32)), (.ref b44), (.ref b44)])) rfl rfl (hb hby at_85)
  have f82 := f72.wr W81
  have f83 := f73.other W81 ne_b3_b44
  have f84 := f74.wr W81
  have k86 := k76.wr W81 (Or.inr sz_b44)
  have nf87 := Fr.snoc X81 nf77 gn_b44
  have f88 := f79.set W81
  have f89 : own_A Z h81 b44 4 (own_v4 (0 : Int32) (0 : Int32) (own_p2 p0) (own_p3 p1)) := f88.congr (fun j hj => by rcases j with _ | _ | _ | _ | j <;> first | rfl | (simp [own_upd]; done) | omega)
  obtain ⟨T90, h90, k90, X90, e90, E90, A90, I90, st90⟩ := newPE X81 hx hZ (hw _ (List.mem_of_getElem? (i := 0) rfl)) e81 (g := (mkF m 89 #[.val (.int p0), .val (.int p1), .val (.int p2), .val (.int p3), .val (.int p4), .val (.int (own_p2 p0)), .val (.int (own_p3 p1)), .val (.ref b3), .val (.ref b44), .unset, .unset, .unset, .unset, .unset, .unset, .unset, .unset] [(.int (2 : Int32))])) rfl (hb hby at_89) rfl (by decide) (cap := 2) (by decide) (by decide) (by decide) (by decide) (ad := "[I") rfl
  obtain ⟨b90, g90⟩ : ∃ z, z = h81.size := ⟨_, rfl⟩
  rw [← g90] at A90 I90 st90
  have sz_b90 : h0.size ≤ b90 := Nat.le_trans k86.1 (Nat.le_of_eq g90.symm)
  have gn_b90 : n0 ≤ b90 := Nat.le_trans Z0 sz_b90
  have ne_b3_b90 : b3 ≠ b90 := Nat.ne_of_lt (Nat.lt_of_lt_of_le f83.lt (Nat.le_of_eq g90.symm))
  have ne_b44_b90 : b44 ≠ b90 := Nat.ne_of_lt (Nat.lt_of_lt_of_le f89.lt (Nat.le_of_eq g90.symm))
  have f91 := f82.ext E90
  have f92 := f83.ext E90
  have f93 := f84.ext E90
  have f94 := f89.ext E90
  have k95 := k86.ext E90
  have f96 : own_A Z h90 b90 2 (own_v2 (0 : Int32) (0 : Int32)) := (own_A.new A90 rfl).congr (fun j hj => by rcases j with _ | _ | j <;> first | rfl | (simp [own_upd]; done) | omega)
  have pre97 : ∀ t, Steps p.tables e below (T90.setTop (mkF m 93 #[.val (.int p0), .val (.int p1), .val (.int p2), .val (.int p3), .val (.int p4), .val (.int (own_p2 p0)), .val (.int (own_p3 p1)), .val (.ref b3), .val (.ref b44), .unset, .unset, .unset, .unset, .unset, .unset, .unset, .unset] [(.int (0 : Int32)), (.ref b90), (.ref b90)])) t → Steps p.tables e below (s₁.setTop (entryFrame m #[(.int p0), (.int p1), (.int p2), (.int p3), (.int p4)] maxLocals)) t := by
    intro t kt
    refine pre69 t ?_
    show Steps p.tables e below (T60.setTop (mkF m 77 #[.val (.int p0), .val (.int p1), .val (.int p2), .val (.int p3), .val (.int p4), .val (.int (own_p2 p0)), .val (.int (own_p3 p1)), .val (.ref b3), .unset, .unset, .unset, .unset, .unset, .unset, .unset, .unset, .unset] [(.ref b44), (.ref b44)])) _
    refine XS.iconst X60.here hx rfl (hb hby at_77) ?_
    show Steps p.tables e below (T60.setTop (mkF m 78 #[.val (.int p0), .val (.int p1), .val (.int p2), .val (.int p3), .val (.int p4), .val (.int (own_p2 p0)), .val (.int (own_p3 p1)), .val (.ref b3), .unset, .unset, .unset, .unset, .unset, .unset, .unset, .unset, .unset] [(.int (2 : Int32)), (.ref b44), (.ref b44)])) _
    refine XS.iload X60.here hx rfl (hb hby at_78) rfl ?_
    show Steps p.tables e below (T60.setTop (mkF m 80 #[.val (.int p0), .val (.int p1), .val (.int p2), .val (.int p3), .val (.int p4), .val (.int (own_p2 p0)), .val (.int (own_p3 p1)), .val (.ref b3), .unset, .unset, .unset, .unset, .unset, .unset, .unset, .unset, .unset] [(.int (own_p2 p0)), (.int (2 : Int32)), (.ref b44), (.ref b44)])) _
    refine st71 _ ?_
    show Steps p.tables e below (T71.setTop (mkF m 81 #[.val (.int p0), .val (.int p1), .val (.int p2), .val (.int p3), .val (.int p4), .val (.int (own_p2 p0)), .val (.int (own_p3 p1)), .val (.ref b3), .unset, .unset, .unset, .unset, .unset, .unset, .unset, .unset, .unset] [(.ref b44)])) _
    refine XS.dup X71.here hx rfl (hb hby at_81) rfl rfl ?_
    show Steps p.tables e below (T71.setTop (mkF m 82 #[.val (.int p0), .val (.int p1), .val (.int p2), .val (.int p3), .val (.int p4), .val (.int (own_p2 p0)), .val (.int (own_p3 p1)), .val (.ref b3), .unset, .unset, .unset, .unset, .unset, .unset, .unset, .unset, .unset] [(.ref b44), (.ref b44)])) _
    refine XS.iconst X71.here hx rfl (hb hby at_82) ?_
    show Steps p.tables e below (T71.setTop (mkF m 83 #[.val (.int p0), .val (.int p1), .val (.int p2), .val (.int p3), .val (.int p4), .val (.int (own_p2 p0)), .val (.int (own_p3 p1)), .val (.ref b3), .unset, .unset, .unset, .unset, .unset, .unset, .unset, .unset, .unset] [(.int (3 : Int32)), (.ref b44), (.ref b44)])) _
    refine XS.iload X71.here hx rfl (hb hby at_83) rfl ?_
    show Steps p.tables e below (T71.setTop (mkF m 85 #[.val (.int p0), .val (.int p1), .val (.int p2), .val (.int p3), .val (.int p4), .val (.int (own_p2 p0)), .val (.int (own_p3 p1)), .val (.ref b3), .unset, .unset, .unset, .unset, .unset, .unset, .unset, .unset, .unset] [(.int (own_p3 p1)), (.int (3 : Int32)), (.ref b44), (.ref b44)])) _
    refine st81 _ ?_
    show Steps p.tables e below (T81.setTop (mkF m 86 #[.val (.int p0), .val (.int p1), .val (.int p2), .val (.int p3), .val (.int p4), .val (.int (own_p2 p0)), .val (.int (own_p3 p1)), .val (.ref b3), .unset, .unset, .unset, .unset, .unset, .unset, .unset, .unset, .unset] [(.ref b44)])) _
    refine XS.astore X81.here hx rfl (hb hby at_86) rfl rfl (l' := #[.val (.int p0), .val (.int p1), .val (.int p2), .val (.int p3), .val (.int p4), .val (.int (own_p2 p0)), .val (.int (own_p3 p1)), .val (.ref b3), .val (.ref b44), .unset, .unset, .unset, .unset, .unset, .unset, .unset, .unset]) rfl ?_
    show Steps p.tables e below (T81.setTop (mkF m 88 #[.val (.int p0), .val (.int p1), .val (.int p2), .val (.int p3), .val (.int p4), .val (.int (own_p2 p0)), .val (.int (own_p3 p1)), .val (.ref b3), .val (.ref b44), .unset, .unset, .unset, .unset, .unset, .unset, .unset, .unset] [])) _
    refine XS.iconst X81.here hx rfl (hb hby at_88) ?_
    show Steps p.tables e below (T81.setTop (mkF m 89 #[.val (.int p0), .val (.int p1), .val (.int p2), .val (.int p3), .val (.int p4), .val (.int (own_p2 p0)), .val (.int (own_p3 p1)), .val (.ref b3), .val (.ref b44), .unset, .unset, .unset, .unset, .unset, .unset, .unset, .unset] [(.int (2 : Int32))])) _
    refine st90 _ ?_
    show Steps p.tables e below (T90.setTop (mkF m 91 #[.val (.int p0), .val (.int p1), .val (.int p2), .val (.int p3), .val (.int p4), .val (.int (own_p2 p0)), .val (.int (own_p3 p1)), .val (.ref b3), .val (.ref b44), .unset, .unset, .unset, .unset, .unset, .unset, .unset, .unset] [(.ref b90)])) _
    refine XS.dup X90.here hx rfl (hb hby at_91) rfl rfl ?_
    show Steps p.tables e below (T90.setTop (mkF m 92 #[.val (.int p0), .val (.int p1), .val (.int p2), .val (.int p3), .val (.int p4), .val (.int (own_p2 p0)), .val (.int (own_p3 p1)), .val (.ref b3), .val (.ref b44), .unset, .unset, .unset, .unset, .unset, .unset, .unset, .unset] [(.ref b90), (.ref b90)])) _
    refine XS.iconst X90.here hx rfl (hb hby at_92) ?_
    exact kt
  have pre98 : ∀ t, Steps p.tables e below (T90.setTop (mkF m 96 #[.val (.int p0), .val (.int p1), .val (.int p2), .val (.int p3), .val (.int p4), .val (.int (own_p2 p0)), .val (.int (own_p3 p1)), .val (.ref b3), .val (.ref b44), .unset, .unset, .unset, .unset, .unset, .unset, .unset, .unset] [(.int (p3 &&& (3 : Int32))), (.int (0 : Int32)), (.ref b90), (.ref b90)])) t → Steps p.tables e below (s₁.setTop (entryFrame m #[(.int p0), (.int p1), (.int p2), (.int p3), (.int p4)] maxLocals)) t := by
    intro t kt
    refine pre97 t ?_
    show Steps p.tables e below (T90.setTop (mkF m 93 #[.val (.int p0), .val (.int p1), .val (.int p2), .val (.int p3), .val (.int p4), .val (.int (own_p2 p0)), .val (.int (own_p3 p1)), .val (.ref b3), .val (.ref b44), .unset, .unset, .unset, .unset, .unset, .unset, .unset, .unset] [(.int (0 : Int32)), (.ref b90), (.ref b90)])) _
    refine XS.iloadN X90.here hx rfl (hb hby at_93) rfl ?_
    show Steps p.tables e below (T90.setTop (mkF m 94 #[.val (.int p0), .val (.int p1), .val (.int p2), .val (.int p3), .val (.int p4), .val (.int (own_p2 p0)), .val (.int (own_p3 p1)), .val (.ref b3), .val (.ref b44), .unset, .unset, .unset, .unset, .unset, .unset, .unset, .unset] [(.int p3), (.int (0 : Int32)), (.ref b90), (.ref b90)])) _
    refine XS.iconst X90.here hx rfl (hb hby at_94) ?_
    show Steps p.tables e below (T90.setTop (mkF m 95 #[.val (.int p0), .val (.int p1), .val (.int p2), .val (.int p3), .val (.int p4), .val (.int (own_p2 p0)), .val (.int (own_p3 p1)), .val (.ref b3), .val (.ref b44), .unset, .unset, .unset, .unset, .unset, .unset, .unset, .unset] [(.int (3 : Int32)), (.int p3), (.int (0 : Int32)), (.ref b90), (.ref b90)])) _
    refine XS.iand X90.here hx rfl (hb hby at_95) rfl ?_
    exact kt
  obtain ⟨cl99, Ar99, S99, H99⟩ := id f96
  have hin99 : ¬ ((0 : Int32) < 0 ∨ cl99.slots.size ≤ ((0 : Int32)).toNatClampNeg) := own_inb S99 (by decide) (by decide)
  obtain ⟨T100, h100, X100, e100, W100, st100⟩ := stI X90 hx hZ e90 Ar99 (j := (0 : Int32)) hin99 (g := (mkF m 96 #[.val (.int p0), .val (.int p1), .val (.int p2), .val (.int p3), .val (.int p4), .val (.int (own_p2 p0)), .val (.int (own_p3 p1)), .val (.ref b3), .val (.ref b44), .unset, .unset, .unset, .unset, .unset, .unset, .unset, .unset] [(.int (own_b0 p3)), (.int (0 : Int32)), (.ref b90), (.ref b90)])) rfl rfl (hb hby at_96)
  have f101 := f91.wr W100
  have f102 := f92.other W100 ne_b3_b90
  have f103 := f93.wr W100
  have f104 := f94.other W100 ne_b44_b90
  have f105 := I90.wr W100
  have k107 := k95.wr W100 (Or.inr sz_b90)
  have nf108 := Fr.snoc X100 nf87 gn_b90
  have f109 := f96.set W100
  have f110 : own_A Z h100 b90 2 (own_v2 (own_b0 p3) (0 : Int32)) := f109.congr (fun j hj => by rcases j with _ | _ | j <;> first | rfl | (simp [own_upd]; done) | omega)
  have pre111 : ∀ t, Steps p.tables e below (T100.setTop (mkF m 104 #[.val (.int p0), .val (.int p1), .val (.int p2), .val (.int p3), .val (.int p4), .val (.int (own_p2 p0)), .val (.int (own_p3 p1)), .val (.ref b3), .val (.ref b44), .unset, .unset, .unset, .unset, .unset, .unset, .unset, .unset] [(.int (((p3.toUInt32 >>> ((2 : Int32) &&& 31).toUInt32).toInt32) &&& (3 : Int32))), (.int (1 : Int32)), (.ref b90), (.ref b90)])) t → Steps p.tables e below (s₁.setTop (entryFrame m #[(.int p0), (.int p1), (.int p2), (.int p3), (.int p4)] maxLocals)) t := by
    intro t kt
    refine pre98 t ?_
    show Steps p.tables e below (T90.setTop (mkF m 96 #[.val (.int p0), .val (.int p1), .val (.int p2), .val (.int p3), .val (.int p4), .val (.int (own_p2 p0)), .val (.int (own_p3 p1)), .val (.ref b3), .val (.ref b44), .unset, .unset, .unset, .unset, .unset, .unset, .unset, .unset] [(.int (own_b0 p3)), (.int (0 : Int32)), (.ref b90), (.ref b90)])) _
    show Steps p.tables e below (T90.setTop (mkF m 96 #[.val (.int p0), .val (.int p1), .val (.int p2), .val (.int p3), .val (.int p4), .val (.int (own_p2 p0)), .val (.int (own_p3 p1)), .val (.ref b3), .val (.ref b44), .unset, .unset, .unset, .unset, .unset, .unset, .unset, .unset] [(.int (own_b0 p3)), (.int (0 : Int32)), (.ref b90), (.ref b90)])) _
    refine st100 _ ?_
    show Steps p.tables e below (T100.setTop (mkF m 97 #[.val (.int p0), .val (.int p1), .val (.int p2), .val (.int p3), .val (.int p4), .val (.int (own_p2 p0)), .val (.int (own_p3 p1)), .val (.ref b3), .val (.ref b44), .unset, .unset, .unset, .unset, .unset, .unset, .unset, .unset] [(.ref b90)])) _
    refine XS.dup X100.here hx rfl (hb hby at_97) rfl rfl ?_
    show Steps p.tables e below (T100.setTop (mkF m 98 #[.val (.int p0), .val (.int p1), .val (.int p2), .val (.int p3), .val (.int p4), .val (.int (own_p2 p0)), .val (.int (own_p3 p1)), .val (.ref b3), .val (.ref b44), .unset, .unset, .unset, .unset, .unset, .unset, .unset, .unset] [(.ref b90), (.ref b90)])) _
    refine XS.iconst X100.here hx rfl (hb hby at_98) ?_
    show Steps p.tables e below (T100.setTop (mkF m 99 #[.val (.int p0), .val (.int p1), .val (.int p2), .val (.int p3), .val (.int p4), .val (.int (own_p2 p0)), .val (.int (own_p3 p1)), .val (.ref b3), .val (.ref b44), .unset, .unset, .unset, .unset, .unset, .unset, .unset, .unset] [(.int (1 : Int32)), (.ref b90), (.ref b90)])) _
    refine XS.iloadN X100.here hx rfl (hb hby at_99) rfl ?_
    show Steps p.tables e below (T100.setTop (mkF m 100 #[.val (.int p0), .val (.int p1), .val (.int p2), .val (.int p3), .val (.int p4), .val (.int (own_p2 p0)), .val (.int (own_p3 p1)), .val (.ref b3), .val (.ref b44), .unset, .unset, .unset, .unset, .unset, .unset, .unset, .unset] [(.int p3), (.int (1 : Int32)), (.ref b90), (.ref b90)])) _
    refine XS.iconst X100.here hx rfl (hb hby at_100) ?_
    show Steps p.tables e below (T100.setTop (mkF m 101 #[.val (.int p0), .val (.int p1), .val (.int p2), .val (.int p3), .val (.int p4), .val (.int (own_p2 p0)), .val (.int (own_p3 p1)), .val (.ref b3), .val (.ref b44), .unset, .unset, .unset, .unset, .unset, .unset, .unset, .unset] [(.int (2 : Int32)), (.int p3), (.int (1 : Int32)), (.ref b90), (.ref b90)])) _
    refine XS.iushr X100.here hx rfl (hb hby at_101) rfl ?_
    show Steps p.tables e below (T100.setTop (mkF m 102 #[.val (.int p0), .val (.int p1), .val (.int p2), .val (.int p3), .val (.int p4), .val (.int (own_p2 p0)), .val (.int (own_p3 p1)), .val (.ref b3), .val (.ref b44), .unset, .unset, .unset, .unset, .unset, .unset, .unset, .unset] [(.int ((p3.toUInt32 >>> ((2 : Int32) &&& 31).toUInt32).toInt32)), (.int (1 : Int32)), (.ref b90), (.ref b90)])) _
    refine XS.iconst X100.here hx rfl (hb hby at_102) ?_
    show Steps p.tables e below (T100.setTop (mkF m 103 #[.val (.int p0), .val (.int p1), .val (.int p2), .val (.int p3), .val (.int p4), .val (.int (own_p2 p0)), .val (.int (own_p3 p1)), .val (.ref b3), .val (.ref b44), .unset, .unset, .unset, .unset, .unset, .unset, .unset, .unset] [(.int (3 : Int32)), (.int ((p3.toUInt32 >>> ((2 : Int32) &&& 31).toUInt32).toInt32)), (.int (1 : Int32)), (.ref b90), (.ref b90)])) _
    refine XS.iand X100.here hx rfl (hb hby at_103) rfl ?_
    exact kt
  obtain ⟨cl112, Ar112, S112, H112⟩ := id f110
  have hin112 : ¬ ((1 : Int32) < 0 ∨ cl112.slots.size ≤ ((1 : Int32)).toNatClampNeg) := own_inb S112 (by decide) (by decide)
  obtain ⟨T113, h113, X113, e113, W113, st113⟩ := stI X100 hx hZ e100 Ar112 (j := (1 : Int32)) hin112 (g := (mkF m 104 #[.val (.int p0), .val (.int p1), .val (.int p2), .val (.int p3), .val (.int p4), .val (.int (own_p2 p0)), .val (.int (own_p3 p1)), .val (.ref b3), .val (.ref b44), .unset, .unset, .unset, .unset, .unset, .unset, .unset, .unset] [(.int (own_b1 p3)), (.int (1 : Int32)), (.ref b90), (.ref b90)])) rfl rfl (hb hby at_104)
  have f114 := f101.wr W113
  have f115 := f102.other W113 ne_b3_b90
  have f116 := f103.wr W113
  have f117 := f104.other W113 ne_b44_b90
  have f118 := f105.wr W113
  have k120 := k107.wr W113 (Or.inr sz_b90)
  have nf121 := Fr.snoc X113 nf108 gn_b90
  have f122 := f110.set W113
  have f123 : own_A Z h113 b90 2 (own_v2 (own_b0 p3) (own_b1 p3)) := f122.congr (fun j hj => by rcases j with _ | _ | j <;> first | rfl | (simp [own_upd]; done) | omega)
  obtain ⟨T124, h124, k124, X124, e124, E124, A124, I124, st124⟩ := newPE X113 hx hZ (hw _ (List.mem_of_getElem? (i := 0) rfl)) e113 (g := (mkF m 108 #[.val (.int p0), .val (.int p1), .val (.int p2), .val (.int p3), .val (.int p4), .val (.int (own_p2 p0)), .val (.int (own_p3 p1)), .val (.ref b3), .val (.ref b44), .val (.ref b90), .unset, .unset, .unset, .unset, .unset, .unset, .unset] [(.int (4 : Int32))])) rfl (hb hby at_108) rfl (by decide) (cap := 4) (by decide) (by decide) (by decide) (by decide) (ad := "[I") rfl
  obtain ⟨b124, g124⟩ : ∃ z, z = h113.size := ⟨_, rfl⟩
  rw [← g124] at A124 I124 st124
  have sz_b124 : h0.size ≤ b124 := Nat.le_trans k120.1 (Nat.le_of_eq g124.symm)
  have gn_b124 : n0 ≤ b124 := Nat.le_trans Z0 sz_b124
  have ne_b3_b124 : b3 ≠ b124 := Nat.ne_of_lt (Nat.lt_of_lt_of_le f115.lt (Nat.le_of_eq g124.symm))
  have ne_b44_b124 : b44 ≠ b124 := Nat.ne_of_lt (Nat.lt_of_lt_of_le f117.lt (Nat.le_of_eq g124.symm))
  have ne_b90_b124 : b90 ≠ b124 := Nat.ne_of_lt (Nat.lt_of_lt_of_le f123.lt (Nat.le_of_eq g124.symm))
  have f125 := f114.ext E124
  have f126 := f115.ext E124
  have f127 := f116.ext E124
  have f128 := f117.ext E124
  have f129 := f118.ext E124
  have f130 := f123.ext E124
  have k131 := k120.ext E124
  have f132 : own_A Z h124 b124 4 (own_v4 (0 : Int32) (0 : Int32) (0 : Int32) (0 : Int32)) := (own_A.new A124 rfl).congr (fun j hj => by rcases j with _ | _ | _ | _ | j <;> first | rfl | (simp [own_upd]; done) | omega)
  obtain ⟨cl133, Ar133, S133, H133⟩ := id f132
  have hin133 : ¬ ((0 : Int32) < 0 ∨ cl133.slots.size ≤ ((0 : Int32)).toNatClampNeg) := own_inb S133 (by decide) (by decide)
  obtain ⟨T134, h134, X134, e134, W134, st134⟩ := stI X124 hx hZ e124 Ar133 (j := (0 : Int32)) hin133 (g := (mkF m 113 #[.val (.int p0), .val (.int p1), .val (.int p2), .val (.int p3), .val (.int p4), .val (.int (own_p2 p0)), .val (.int (own_p3 p1)), .val (.ref b3), .val (.ref b44), .val (.ref b90), .unset, .unset, .unset, .unset, .unset, .unset, .unset] [(.int (0 : Int32)), (.int (0 : Int32)), (.ref b124), (.ref b124)])) rfl rfl (hb hby at_113)
  have f135 := f125.wr W134
  have f136 := f126.other W134 ne_b3_b124
  have f137 := f127.wr W134
  have f138 := f128.other W134 ne_b44_b124
  have f139 := f129.wr W134
  have f140 := f130.other W134 ne_b90_b124
  have f141 := I124.wr W134
  have k143 := k131.wr W134 (Or.inr sz_b124)
  have nf144 := Fr.snoc X134 nf121 gn_b124
  have f145 := f132.set W134
  have f146 : own_A Z h134 b124 4 (own_v4 (0 : Int32) (0 : Int32) (0 : Int32) (0 : Int32)) := f145.congr (fun j hj => by rcases j with _ | _ | _ | _ | j <;> first | rfl | (simp [own_upd]; done) | omega)
  obtain ⟨cl147, Ar147, S147, H147⟩ := id f146
  have hin147 : ¬ ((1 : Int32) < 0 ∨ cl147.slots.size ≤ ((1 : Int32)).toNatClampNeg) := own_inb S147 (by decide) (by decide)
  obtain ⟨T148, h148, X148, e148, W148, st148⟩ := stI X134 hx hZ e134 Ar147 (j := (1 : Int32)) hin147 (g := (mkF m 117 #[.val (.int p0), .val (.int p1), .val (.int p2), .val (.int p3), .val (.int p4), .val (.int (own_p2 p0)), .val (.int (own_p3 p1)), .val (.ref b3), .val (.ref b44), .val (.ref b90), .unset, .unset, .unset, .unset, .unset, .unset, .unset] [(.int (0 : Int32)), (.int (1 : Int32)), (.ref b124), (.ref b124)])) rfl rfl (hb hby at_117)
  have f149 := f135.wr W148
  have f150 := f136.other W148 ne_b3_b124
  have f151 := f137.wr W148
  have f152 := f138.other W148 ne_b44_b124
  have f153 := f139.wr W148
  have f154 := f140.other W148 ne_b90_b124
  have f155 := f141.wr W148
  have k157 := k143.wr W148 (Or.inr sz_b124)
  have nf158 := Fr.snoc X148 nf144 gn_b124
  have f159 := f146.set W148
  have f160 : own_A Z h148 b124 4 (own_v4 (0 : Int32) (0 : Int32) (0 : Int32) (0 : Int32)) := f159.congr (fun j hj => by rcases j with _ | _ | _ | _ | j <;> first | rfl | (simp [own_upd]; done) | omega)
  have pre161 : ∀ t, Steps p.tables e below (T148.setTop (mkF m 118 #[.val (.int p0), .val (.int p1), .val (.int p2), .val (.int p3), .val (.int p4), .val (.int (own_p2 p0)), .val (.int (own_p3 p1)), .val (.ref b3), .val (.ref b44), .val (.ref b90), .unset, .unset, .unset, .unset, .unset, .unset, .unset] [(.ref b124)])) t → Steps p.tables e below (s₁.setTop (entryFrame m #[(.int p0), (.int p1), (.int p2), (.int p3), (.int p4)] maxLocals)) t := by
    intro t kt
    refine pre111 t ?_
    show Steps p.tables e below (T100.setTop (mkF m 104 #[.val (.int p0), .val (.int p1), .val (.int p2), .val (.int p3), .val (.int p4), .val (.int (own_p2 p0)), .val (.int (own_p3 p1)), .val (.ref b3), .val (.ref b44), .unset, .unset, .unset, .unset, .unset, .unset, .unset, .unset] [(.int (own_b1 p3)), (.int (1 : Int32)), (.ref b90), (.ref b90)])) _
    show Steps p.tables e below (T100.setTop (mkF m 104 #[.val (.int p0), .val (.int p1), .val (.int p2), .val (.int p3), .val (.int p4), .val (.int (own_p2 p0)), .val (.int (own_p3 p1)), .val (.ref b3), .val (.ref b44), .unset, .unset, .unset, .unset, .unset, .unset, .unset, .unset] [(.int (own_b1 p3)), (.int (1 : Int32)), (.ref b90), (.ref b90)])) _
    refine st113 _ ?_
    show Steps p.tables e below (T113.setTop (mkF m 105 #[.val (.int p0), .val (.int p1), .val (.int p2), .val (.int p3), .val (.int p4), .val (.int (own_p2 p0)), .val (.int (own_p3 p1)), .val (.ref b3), .val (.ref b44), .unset, .unset, .unset, .unset, .unset, .unset, .unset, .unset] [(.ref b90)])) _
    refine XS.astore X113.here hx rfl (hb hby at_105) rfl rfl (l' := #[.val (.int p0), .val (.int p1), .val (.int p2), .val (.int p3), .val (.int p4), .val (.int (own_p2 p0)), .val (.int (own_p3 p1)), .val (.ref b3), .val (.ref b44), .val (.ref b90), .unset, .unset, .unset, .unset, .unset, .unset, .unset]) rfl ?_
    show Steps p.tables e below (T113.setTop (mkF m 107 #[.val (.int p0), .val (.int p1), .val (.int p2), .val (.int p3), .val (.int p4), .val (.int (own_p2 p0)), .val (.int (own_p3 p1)), .val (.ref b3), .val (.ref b44), .val (.ref b90), .unset, .unset, .unset, .unset, .unset, .unset, .unset] [])) _
    refine XS.iconst X113.here hx rfl (hb hby at_107) ?_
    show Steps p.tables e below (T113.setTop (mkF m 108 #[.val (.int p0), .val (.int p1), .val (.int p2), .val (.int p3), .val (.int p4), .val (.int (own_p2 p0)), .val (.int (own_p3 p1)), .val (.ref b3), .val (.ref b44), .val (.ref b90), .unset, .unset, .unset, .unset, .unset, .unset, .unset] [(.int (4 : Int32))])) _
    refine st124 _ ?_
    show Steps p.tables e below (T124.setTop (mkF m 110 #[.val (.int p0), .val (.int p1), .val (.int p2), .val (.int p3), .val (.int p4), .val (.int (own_p2 p0)), .val (.int (own_p3 p1)), .val (.ref b3), .val (.ref b44), .val (.ref b90), .unset, .unset, .unset, .unset, .unset, .unset, .unset] [(.ref b124)])) _
    refine XS.dup X124.here hx rfl (hb hby at_110) rfl rfl ?_
    show Steps p.tables e below (T124.setTop (mkF m 111 #[.val (.int p0), .val (.int p1), .val (.int p2), .val (.int p3), .val (.int p4), .val (.int (own_p2 p0)), .val (.int (own_p3 p1)), .val (.ref b3), .val (.ref b44), .val (.ref b90), .unset, .unset, .unset, .unset, .unset, .unset, .unset] [(.ref b124), (.ref b124)])) _
    refine XS.iconst X124.here hx rfl (hb hby at_111) ?_
    show Steps p.tables e below (T124.setTop (mkF m 112 #[.val (.int p0), .val (.int p1), .val (.int p2), .val (.int p3), .val (.int p4), .val (.int (own_p2 p0)), .val (.int (own_p3 p1)), .val (.ref b3), .val (.ref b44), .val (.ref b90), .unset, .unset, .unset, .unset, .unset, .unset, .unset] [(.int (0 : Int32)), (.ref b124), (.ref b124)])) _
    refine XS.iconst X124.here hx rfl (hb hby at_112) ?_
    show Steps p.tables e below (T124.setTop (mkF m 113 #[.val (.int p0), .val (.int p1), .val (.int p2), .val (.int p3), .val (.int p4), .val (.int (own_p2 p0)), .val (.int (own_p3 p1)), .val (.ref b3), .val (.ref b44), .val (.ref b90), .unset, .unset, .unset, .unset, .unset, .unset, .unset] [(.int (0 : Int32)), (.int (0 : Int32)), (.ref b124), (.ref b124)])) _
    refine st134 _ ?_
    show Steps p.tables e below (T134.setTop (mkF m 114 #[.val (.int p0), .val (.int p1), .val (.int p2), .val (.int p3), .val (.int p4), .val (.int (own_p2 p0)), .val (.int (own_p3 p1)), .val (.ref b3), .val (.ref b44), .val (.ref b90), .unset, .unset, .unset, .unset, .unset, .unset, .unset] [(.ref b124)])) _
    refine XS.dup X134.here hx rfl (hb hby at_114) rfl rfl ?_
    show Steps p.tables e below (T134.setTop (mkF m 115 #[.val (.int p0), .val (.int p1), .val (.int p2), .val (.int p3), .val (.int p4), .val (.int (own_p2 p0)), .val (.int (own_p3 p1)), .val (.ref b3), .val (.ref b44), .val (.ref b90), .unset, .unset, .unset, .unset, .unset, .unset, .unset] [(.ref b124), (.ref b124)])) _
    refine XS.iconst X134.here hx rfl (hb hby at_115) ?_
    show Steps p.tables e below (T134.setTop (mkF m 116 #[.val (.int p0), .val (.int p1), .val (.int p2), .val (.int p3), .val (.int p4), .val (.int (own_p2 p0)), .val (.int (own_p3 p1)), .val (.ref b3), .val (.ref b44), .val (.ref b90), .unset, .unset, .unset, .unset, .unset, .unset, .unset] [(.int (1 : Int32)), (.ref b124), (.ref b124)])) _
    refine XS.iconst X134.here hx rfl (hb hby at_116) ?_
    show Steps p.tables e below (T134.setTop (mkF m 117 #[.val (.int p0), .val (.int p1), .val (.int p2), .val (.int p3), .val (.int p4), .val (.int (own_p2 p0)), .val (.int (own_p3 p1)), .val (.ref b3), .val (.ref b44), .val (.ref b90), .unset, .unset, .unset, .unset, .unset, .unset, .unset] [(.int (0 : Int32)), (.int (1 : Int32)), (.ref b124), (.ref b124)])) _
    refine st148 _ ?_
    exact kt
  obtain ⟨cl162, Ar162, S162, H162⟩ := id f160
  have hin162 : ¬ ((2 : Int32) < 0 ∨ cl162.slots.size ≤ ((2 : Int32)).toNatClampNeg) := own_inb S162 (by decide) (by decide)
  obtain ⟨T163, h163, X163, e163, W163, st163⟩ := stI X148 hx hZ e148 Ar162 (j := (2 : Int32)) hin162 (g := (mkF m 122 #[.val (.int p0), .val (.int p1), .val (.int p2), .val (.int p3), .val (.int p4), .val (.int (own_p2 p0)), .val (.int (own_p3 p1)), .val (.ref b3), .val (.ref b44), .val (.ref b90), .unset, .unset, .unset, .unset, .unset, .unset, .unset] [(.int (own_p2 p0)), (.int (2 : Int32)), (.ref b124), (.ref b124)])) rfl rfl (hb hby at_122)
  have f164 := f149.wr W163
  have f165 := f150.other W163 ne_b3_b124
  have f166 := f151.wr W163
  have f167 := f152.other W163 ne_b44_b124
  have f168 := f153.wr W163
  have f169 := f154.other W163 ne_b90_b124
  have f170 := f155.wr W163
  have k172 := k157.wr W163 (Or.inr sz_b124)
  have nf173 := Fr.snoc X163 nf158 gn_b124
  have f174 := f160.set W163
  have f175 : own_A Z h163 b124 4 (own_v4 (0 : Int32) (0 : Int32) (own_p2 p0) (0 : Int32)) := f174.congr (fun j hj => by rcases j with _ | _ | _ | _ | j <;> first | rfl | (simp [own_upd]; done) | omega)
  obtain ⟨cl176, Ar176, S176, H176⟩ := id f175
  have hin176 : ¬ ((3 : Int32) < 0 ∨ cl176.slots.size ≤ ((3 : Int32)).toNatClampNeg) := own_inb S176 (by decide) (by decide)
  obtain ⟨T177, h177, X177, e177, W177, st177⟩ := stI X163 hx hZ e163 Ar176 (j := (3 : Int32)) hin176 (g := (mkF m 127 #[.val (.int p0), .val (.int p1), .val (.int p2), .val (.int p3), .val (.int p4), .val (.int (own_p2 p0)), .val (.int (own_p3 p1)), .val (.ref b3), .val (.ref b44), .val (.ref b90), .unset, .unset, .unset, .unset, .unset, .unset, .unset] [(.int (own_p3 p1)), (.int (3 : Int32)), (.ref b124), (.ref b124)])) rfl rfl (hb hby at_127)
  have f178 := f164.wr W177
  have f179 := f165.other W177 ne_b3_b124
  have f180 := f166.wr W177
  have f181 := f167.other W177 ne_b44_b124
  have f182 := f168.wr W177
  have f183 := f169.other W177 ne_b90_b124
  have f184 := f170.wr W177
  have k186 := k172.wr W177 (Or.inr sz_b124)
  have nf187 := Fr.snoc X177 nf173 gn_b124
  have f188 := f175.set W177
  have f189 : own_A Z h177 b124 4 (own_v4 (0 : Int32) (0 : Int32) (own_p2 p0) (own_p3 p1)) := f188.congr (fun j hj => by rcases j with _ | _ | _ | _ | j <;> first | rfl | (simp [own_upd]; done) | omega)
  obtain ⟨T190, h190, k190, X190, e190, E190, A190, I190, st190⟩ := newPE X177 hx hZ (hw _ (List.mem_of_getElem? (i := 0) rfl)) e177 (g := (mkF m 131 #[.val (.int p0), .val (.int p1), .val (.int p2), .val (.int p3), .val (.int p4), .val (.int (own_p2 p0)), .val (.int (own_p3 p1)), .val (.ref b3), .val (.ref b44), .val (.ref b90), .val (.ref b124), .unset, .unset, .unset, .unset, .unset, .unset] [(.int (4 : Int32))])) rfl (hb hby at_131) rfl (by decide) (cap := 4) (by decide) (by decide) (by decide) (by decide) (ad := "[I") rfl
  obtain ⟨b190, g190⟩ : ∃ z, z = h177.size := ⟨_, rfl⟩
  rw [← g190] at A190 I190 st190
  have sz_b190 : h0.size ≤ b190 := Nat.le_trans k186.1 (Nat.le_of_eq g190.symm)
  have gn_b190 : n0 ≤ b190 := Nat.le_trans Z0 sz_b190
  have ne_b3_b190 : b3 ≠ b190 := Nat.ne_of_lt (Nat.lt_of_lt_of_le f179.lt (Nat.le_of_eq g190.symm))
  have ne_b44_b190 : b44 ≠ b190 := Nat.ne_of_lt (Nat.lt_of_lt_of_le f181.lt (Nat.le_of_eq g190.symm))
  have ne_b90_b190 : b90 ≠ b190 := Nat.ne_of_lt (Nat.lt_of_lt_of_le f183.lt (Nat.le_of_eq g190.symm))
  have ne_b124_b190 : b124 ≠ b190 := Nat.ne_of_lt (Nat.lt_of_lt_of_le f189.lt (Nat.le_of_eq g190.symm))
  have f191 := f178.ext E190
  have f192 := f179.ext E190
  have f193 := f180.ext E190
  have f194 := f181.ext E190
  have f195 := f182.ext E190
  have f196 := f183.ext E190
  have f197 := f184.ext E190
  have f198 := f189.ext E190
  have k199 := k186.ext E190
  have f200 : own_A Z h190 b190 4 (own_v4 (0 : Int32) (0 : Int32) (0 : Int32) (0 : Int32)) := (own_A.new A190 rfl).congr (fun j hj => by rcases j with _ | _ | _ | _ | j <;> first | rfl | (simp [own_upd]; done) | omega)
  have pre201 : ∀ t, Steps p.tables e below (T190.setTop (mkF m 134 #[.val (.int p0), .val (.int p1), .val (.int p2), .val (.int p3), .val (.int p4), .val (.int (own_p2 p0)), .val (.int (own_p3 p1)), .val (.ref b3), .val (.ref b44), .val (.ref b90), .val (.ref b124), .unset, .unset, .unset, .unset, .unset, .unset] [(.ref b190), (.ref b190)])) t → Steps p.tables e below (s₁.setTop (entryFrame m #[(.int p0), (.int p1), (.int p2), (.int p3), (.int p4)] maxLocals)) t := by
    intro t kt
    refine pre161 t ?_
    show Steps p.tables e below (T148.setTop (mkF m 118 #[.val (.int p0), .val (.int p1), .val (.int p2), .val (.int p3), .val (.int p4), .val (.int (own_p2 p0)), .val (.int (own_p3 p1)), .val (.ref b3), .val (.ref b44), .val (.ref b90), .unset, .unset, .unset, .unset, .unset, .unset, .unset] [(.ref b124)])) _
    refine XS.dup X148.here hx rfl (hb hby at_118) rfl rfl ?_
    show Steps p.tables e below (T148.setTop (mkF m 119 #[.val (.int p0), .val (.int p1), .val (.int p2), .val (.int p3), .val (.int p4), .val (.int (own_p2 p0)), .val (.int (own_p3 p1)), .val (.ref b3), .val (.ref b44), .val (.ref b90), .unset, .unset, .unset, .unset, .unset, .unset, .unset] [(.ref b124), (.ref b124)])) _
    refine XS.iconst X148.here hx rfl (hb hby at_119) ?_
    show Steps p.tables e below (T148.setTop (mkF m 120 #[.val (.int p0), .val (.int p1), .val (.int p2), .val (.int p3), .val (.int p4), .val (.int (own_p2 p0)), .val (.int (own_p3 p1)), .val (.ref b3), .val (.ref b44), .val (.ref b90), .unset, .unset, .unset, .unset, .unset, .unset, .unset] [(.int (2 : Int32)), (.ref b124), (.ref b124)])) _
    refine XS.iload X148.here hx rfl (hb hby at_120) rfl ?_
    show Steps p.tables e below (T148.setTop (mkF m 122 #[.val (.int p0), .val (.int p1), .val (.int p2), .val (.int p3), .val (.int p4), .val (.int (own_p2 p0)), .val (.int (own_p3 p1)), .val (.ref b3), .val (.ref b44), .val (.ref b90), .unset, .unset, .unset, .unset, .unset, .unset, .unset] [(.int (own_p2 p0)), (.int (2 : Int32)), (.ref b124), (.ref b124)])) _
    refine st163 _ ?_
    show Steps p.tables e below (T163.setTop (mkF m 123 #[.val (.int p0), .val (.int p1), .val (.int p2), .val (.int p3), .val (.int p4), .val (.int (own_p2 p0)), .val (.int (own_p3 p1)), .val (.ref b3), .val (.ref b44), .val (.ref b90), .unset, .unset, .unset, .unset, .unset, .unset, .unset] [(.ref b124)])) _
    refine XS.dup X163.here hx rfl (hb hby at_123) rfl rfl ?_
    show Steps p.tables e below (T163.setTop (mkF m 124 #[.val (.int p0), .val (.int p1), .val (.int p2), .val (.int p3), .val (.int p4), .val (.int (own_p2 p0)), .val (.int (own_p3 p1)), .val (.ref b3), .val (.ref b44), .val (.ref b90), .unset, .unset, .unset, .unset, .unset, .unset, .unset] [(.ref b124), (.ref b124)])) _
    refine XS.iconst X163.here hx rfl (hb hby at_124) ?_
    show Steps p.tables e below (T163.setTop (mkF m 125 #[.val (.int p0), .val (.int p1), .val (.int p2), .val (.int p3), .val (.int p4), .val (.int (own_p2 p0)), .val (.int (own_p3 p1)), .val (.ref b3), .val (.ref b44), .val (.ref b90), .unset, .unset, .unset, .unset, .unset, .unset, .unset] [(.int (3 : Int32)), (.ref b124), (.ref b124)])) _
    refine XS.iload X163.here hx rfl (hb hby at_125) rfl ?_
    show Steps p.tables e below (T163.setTop (mkF m 127 #[.val (.int p0), .val (.int p1), .val (.int p2), .val (.int p3), .val (.int p4), .val (.int (own_p2 p0)), .val (.int (own_p3 p1)), .val (.ref b3), .val (.ref b44), .val (.ref b90), .unset, .unset, .unset, .unset, .unset, .unset, .unset] [(.int (own_p3 p1)), (.int (3 : Int32)), (.ref b124), (.ref b124)])) _
    refine st177 _ ?_
    show Steps p.tables e below (T177.setTop (mkF m 128 #[.val (.int p0), .val (.int p1), .val (.int p2), .val (.int p3), .val (.int p4), .val (.int (own_p2 p0)), .val (.int (own_p3 p1)), .val (.ref b3), .val (.ref b44), .val (.ref b90), .unset, .unset, .unset, .unset, .unset, .unset, .unset] [(.ref b124)])) _
    refine XS.astore X177.here hx rfl (hb hby at_128) rfl rfl (l' := #[.val (.int p0), .val (.int p1), .val (.int p2), .val (.int p3), .val (.int p4), .val (.int (own_p2 p0)), .val (.int (own_p3 p1)), .val (.ref b3), .val (.ref b44), .val (.ref b90), .val (.ref b124), .unset, .unset, .unset, .unset, .unset, .unset]) rfl ?_
    show Steps p.tables e below (T177.setTop (mkF m 130 #[.val (.int p0), .val (.int p1), .val (.int p2), .val (.int p3), .val (.int p4), .val (.int (own_p2 p0)), .val (.int (own_p3 p1)), .val (.ref b3), .val (.ref b44), .val (.ref b90), .val (.ref b124), .unset, .unset, .unset, .unset, .unset, .unset] [])) _
    refine XS.iconst X177.here hx rfl (hb hby at_130) ?_
    show Steps p.tables e below (T177.setTop (mkF m 131 #[.val (.int p0), .val (.int p1), .val (.int p2), .val (.int p3), .val (.int p4), .val (.int (own_p2 p0)), .val (.int (own_p3 p1)), .val (.ref b3), .val (.ref b44), .val (.ref b90), .val (.ref b124), .unset, .unset, .unset, .unset, .unset, .unset] [(.int (4 : Int32))])) _
    refine st190 _ ?_
    show Steps p.tables e below (T190.setTop (mkF m 133 #[.val (.int p0), .val (.int p1), .val (.int p2), .val (.int p3), .val (.int p4), .val (.int (own_p2 p0)), .val (.int (own_p3 p1)), .val (.ref b3), .val (.ref b44), .val (.ref b90), .val (.ref b124), .unset, .unset, .unset, .unset, .unset, .unset] [(.ref b190)])) _
    refine XS.dup X190.here hx rfl (hb hby at_133) rfl rfl ?_
    exact kt
  obtain ⟨cl202, Ar202, S202, H202⟩ := id f192
  have hin202 : ¬ ((0 : Int32) < 0 ∨ cl202.slots.size ≤ ((0 : Int32)).toNatClampNeg) := own_inb S202 (by decide) (by decide)
  have hat202 : cl202.slots[((0 : Int32)).toNatClampNeg]? = some (.int (0 : Int32)) := H202 _ (by decide)
  obtain ⟨cl203, Ar203, S203, H203⟩ := id f200
  have hin203 : ¬ ((0 : Int32) < 0 ∨ cl203.slots.size ≤ ((0 : Int32)).toNatClampNeg) := own_inb S203 (by decide) (by decide)
  obtain ⟨T204, h204, X204, e204, W204, st204⟩ := stI X190 hx hZ e190 Ar203 (j := (0 : Int32)) hin203 (g := (mkF m 139 #[.val (.int p0), .val (.int p1), .val (.int p2), .val (.int p3), .val (.int p4), .val (.int (own_p2 p0)), .val (.int (own_p3 p1)), .val (.ref b3), .val (.ref b44), .val (.ref b90), .val (.ref b124), .unset, .unset, .unset, .unset, .unset, .unset] [(.int (0 : Int32)), (.int (0 : Int32)), (.ref b190), (.ref b190)])) rfl rfl (hb hby at_139)
  have f205 := f191.wr W204
  have f206 := f192.other W204 ne_b3_b190
  have f207 := f193.wr W204
  have f208 := f194.other W204 ne_b44_b190
  have f209 := f195.wr W204
  have f210 := f196.other W204 ne_b90_b190
  have f211 := f197.wr W204
  have f212 := f198.other W204 ne_b124_b190
  have f213 := I190.wr W204
  have k215 := k199.wr W204 (Or.inr sz_b190)
  have nf216 := Fr.snoc X204 nf187 gn_b190
  have f217 := f200.set W204
  have f218 : own_A Z h204 b190 4 (own_v4 (0 : Int32) (0 : Int32) (0 : Int32) (0 : Int32)) := f217.congr (fun j hj => by rcases j with _ | _ | _ | _ | j <;> first | rfl | (simp [own_upd]; done) | omega)
  obtain ⟨cl219, Ar219, S219, H219⟩ := id f206
  have hin219 : ¬ ((1 : Int32) < 0 ∨ cl219.slots.size ≤ ((1 : Int32)).toNatClampNeg) := own_inb S219 (by decide) (by decide)
  have hat219 : cl219.slots[((1 : Int32)).toNatClampNeg]? = some (.int (own_r1 p0)) := H219 _ (by decide)
  obtain ⟨cl220, Ar220, S220, H220⟩ := id f218
  have hin220 : ¬ ((1 : Int32) < 0 ∨ cl220.slots.size ≤ ((1 : Int32)).toNatClampNeg) := own_inb S220 (by decide) (by decide)
  obtain ⟨T221, h221, X221, e221, W221, st221⟩ := stI X204 hx hZ e204 Ar220 (j := (1 : Int32)) hin220 (g := (mkF m 146 #[.val (.int p0), .val (.int p1), .val (.int p2), .val (.int p3), .val (.int p4), .val (.int (own_p2 p0)), .val (.int (own_p3 p1)), .val (.ref b3), .val (.ref b44), .val (.ref b90), .val (.ref b124), .unset, .unset, .unset, .unset, .unset, .unset] [(.int (own_r1 p0)), (.int (1 : Int32)), (.ref b190), (.ref b190)])) rfl rfl (hb hby at_146)
  have f222 := f205.wr W221
  have f223 := f206.other W221 ne_b3_b190
  have f224 := f207.wr W221
  have f225 := f208.other W221 ne_b44_b190
  have f226 := f209.wr W221
  have f227 := f210.other W221 ne_b90_b190
  have f228 := f211.wr W221
  have f229 := f212.other W221 ne_b124_b190
  have f230 := f213.wr W221
  have k232 := k215.wr W221 (Or.inr sz_b190)
  have nf233 := Fr.snoc X221 nf216 gn_b190
  have f234 := f218.set W221
  have f235 : own_A Z h221 b190 4 (own_v4 (0 : Int32) (own_r1 p0) (0 : Int32) (0 : Int32)) := f234.congr (fun j hj => by rcases j with _ | _ | _ | _ | j <;> first | rfl | (simp [own_upd]; done) | omega)
  have pre236 : ∀ t, Steps p.tables e below (T221.setTop (mkF m 148 #[.val (.int p0), .val (.int p1), .val (.int p2), .val (.int p3), .val (.int p4), .val (.int (own_p2 p0)), .val (.int (own_p3 p1)), .val (.ref b3), .val (.ref b44), .val (.ref b90), .val (.ref b124), .unset, .unset, .unset, .unset, .unset, .unset] [(.ref b190), (.ref b190)])) t → Steps p.tables e below (s₁.setTop (entryFrame m #[(.int p0), (.int p1), (.int p2), (.int p3), (.int p4)] maxLocals)) t := by
    intro t kt
    refine pre201 t ?_
    show Steps p.tables e below (T190.setTop (mkF m 134 #[.val (.int p0), .val (.int p1), .val (.int p2), .val (.int p3), .val (.int p4), .val (.int (own_p2 p0)), .val (.int (own_p3 p1)), .val (.ref b3), .val (.ref b44), .val (.ref b90), .val (.ref b124), .unset, .unset, .unset, .unset, .unset, .unset] [(.ref b190), (.ref b190)])) _
    refine XS.iconst X190.here hx rfl (hb hby at_134) ?_
    show Steps p.tables e below (T190.setTop (mkF m 135 #[.val (.int p0), .val (.int p1), .val (.int p2), .val (.int p3), .val (.int p4), .val (.int (own_p2 p0)), .val (.int (own_p3 p1)), .val (.ref b3), .val (.ref b44), .val (.ref b90), .val (.ref b124), .unset, .unset, .unset, .unset, .unset, .unset] [(.int (0 : Int32)), (.ref b190), (.ref b190)])) _
    refine XS.aload X190.here hx rfl (hb hby at_135) rfl rfl ?_
    show Steps p.tables e below (T190.setTop (mkF m 137 #[.val (.int p0), .val (.int p1), .val (.int p2), .val (.int p3), .val (.int p4), .val (.int (own_p2 p0)), .val (.int (own_p3 p1)), .val (.ref b3), .val (.ref b44), .val (.ref b90), .val (.ref b124), .unset, .unset, .unset, .unset, .unset, .unset] [(.ref b3), (.int (0 : Int32)), (.ref b190), (.ref b190)])) _
    refine XS.iconst X190.here hx rfl (hb hby at_137) ?_
    show Steps p.tables e below (T190.setTop (mkF m 138 #[.val (.int p0), .val (.int p1), .val (.int p2), .val (.int p3), .val (.int p4), .val (.int (own_p2 p0)), .val (.int (own_p3 p1)), .val (.ref b3), .val (.ref b44), .val (.ref b90), .val (.ref b124), .unset, .unset, .unset, .unset, .unset, .unset] [(.int (0 : Int32)), (.ref b3), (.int (0 : Int32)), (.ref b190), (.ref b190)])) _
    refine X190.iaload hx (j := (0 : Int32)) (v := (.int (0 : Int32))) (by rw [e190]; exact Ar202.1) (State.isArrayOf_alike hZ.alike Ar202.2.1) Ar202.2.2 hin202 hat202 (g := (mkF m 138 #[.val (.int p0), .val (.int p1), .val (.int p2), .val (.int p3), .val (.int p4), .val (.int (own_p2 p0)), .val (.int (own_p3 p1)), .val (.ref b3), .val (.ref b44), .val (.ref b90), .val (.ref b124), .unset, .unset, .unset, .unset, .unset, .unset] [(.int (0 : Int32)), (.ref b3), (.int (0 : Int32)), (.ref b190), (.ref b190)])) rfl rfl (hb hby at_138) _ ?_
    show Steps p.tables e below (T190.setTop (mkF m 139 #[.val (.int p0), .val (.int p1), .val (.int p2), .val (.int p3), .val (.int p4), .val (.int (own_p2 p0)), .val (.int (own_p3 p1)), .val (.ref b3), .val (.ref b44), .val (.ref b90), .val (.ref b124), .unset, .unset, .unset, .unset, .unset, .unset] [(.int (0 : Int32)), (.int (0 : Int32)), (.ref b190), (.ref b190)])) _
    refine st204 _ ?_
    show Steps p.tables e below (T204.setTop (mkF m 140 #[.val (.int p0), .val (.int p1), .val (.int p2), .val (.int p3), .val (.int p4), .val (.int (own_p2 p0)), .val (.int (own_p3 p1)), .val (.ref b3), .val (.ref b44), .val (.ref b90), .val (.ref b124), .unset, .unset, .unset, .unset, .unset, .unset] [(.ref b190)])) _
    refine XS.dup X204.here hx rfl (hb hby at_140) rfl rfl ?_
    show Steps p.tables e below (T204.setTop (mkF m 141 #[.val (.int p0), .val (.int p1), .val (.int p2), .val (.int p3), .val (.int p4), .val (.int (own_p2 p0)), .val (.int (own_p3 p1)), .val (.ref b3), .val (.ref b44), .val (.ref b90), .val (.ref b124), .unset, .unset, .unset, .unset, .unset, .unset] [(.ref b190), (.ref b190)])) _
    refine XS.iconst X204.here hx rfl (hb hby at_141) ?_
    show Steps p.tables e below (T204.setTop (mkF m 142 #[.val (.int p0), .val (.int p1), .val (.int p2), .val (.int p3), .val (.int p4), .val (.int (own_p2 p0)), .val (.int (own_p3 p1)), .val (.ref b3), .val (.ref b44), .val (.ref b90), .val (.ref b124), .unset, .unset, .unset, .unset, .unset, .unset] [(.int (1 : Int32)), (.ref b190), (.ref b190)])) _
    refine XS.aload X204.here hx rfl (hb hby at_142) rfl rfl ?_
    show Steps p.tables e below (T204.setTop (mkF m 144 #[.val (.int p0), .val (.int p1), .val (.int p2), .val (.int p3), .val (.int p4), .val (.int (own_p2 p0)), .val (.int (own_p3 p1)), .val (.ref b3), .val (.ref b44), .val (.ref b90), .val (.ref b124), .unset, .unset, .unset, .unset, .unset, .unset] [(.ref b3), (.int (1 : Int32)), (.ref b190), (.ref b190)])) _
    refine XS.iconst X204.here hx rfl (hb hby at_144) ?_
    show Steps p.tables e below (T204.setTop (mkF m 145 #[.val (.int p0), .val (.int p1), .val (.int p2), .val (.int p3), .val (.int p4), .val (.int (own_p2 p0)), .val (.int (own_p3 p1)), .val (.ref b3), .val (.ref b44), .val (.ref b90), .val (.ref b124), .unset, .unset, .unset, .unset, .unset, .unset] [(.int (1 : Int32)), (.ref b3), (.int (1 : Int32)), (.ref b190), (.ref b190)])) _
    refine X204.iaload hx (j := (1 : Int32)) (v := (.int (own_r1 p0))) (by rw [e204]; exact Ar219.1) (State.isArrayOf_alike hZ.alike Ar219.2.1) Ar219.2.2 hin219 hat219 (g := (mkF m 145 #[.val (.int p0), .val (.int p1), .val (.int p2), .val (.int p3), .val (.int p4), .val (.int (own_p2 p0)), .val (.int (own_p3 p1)), .val (.ref b3), .val (.ref b44), .val (.ref b90), .val (.ref b124), .unset, .unset, .unset, .unset, .unset, .unset] [(.int (1 : Int32)), (.ref b3), (.int (1 : Int32)), (.ref b190), (.ref b190)])) rfl rfl (hb hby at_145) _ ?_
    show Steps p.tables e below (T204.setTop (mkF m 146 #[.val (.int p0), .val (.int p1), .val (.int p2), .val (.int p3), .val (.int p4), .val (.int (own_p2 p0)), .val (.int (own_p3 p1)), .val (.ref b3), .val (.ref b44), .val (.ref b90), .val (.ref b124), .unset, .unset, .unset, .unset, .unset, .unset] [(.int (own_r1 p0)), (.int (1 : Int32)), (.ref b190), (.ref b190)])) _
    refine st221 _ ?_
    show Steps p.tables e below (T221.setTop (mkF m 147 #[.val (.int p0), .val (.int p1), .val (.int p2), .val (.int p3), .val (.int p4), .val (.int (own_p2 p0)), .val (.int (own_p3 p1)), .val (.ref b3), .val (.ref b44), .val (.ref b90), .val (.ref b124), .unset, .unset, .unset, .unset, .unset, .unset] [(.ref b190)])) _
    refine XS.dup X221.here hx rfl (hb hby at_147) rfl rfl ?_
    exact kt
  obtain ⟨cl237, Ar237, S237, H237⟩ := id f223
  have hin237 : ¬ ((2 : Int32) < 0 ∨ cl237.slots.size ≤ ((2 : Int32)).toNatClampNeg) := own_inb S237 (by decide) (by decide)
  have hat237 : cl237.slots[((2 : Int32)).toNatClampNeg]? = some (.int (own_r2 p0 p1)) := H237 _ (by decide)
  obtain ⟨cl238, Ar238, S238, H238⟩ := id f235
  have hin238 : ¬ ((2 : Int32) < 0 ∨ cl238.slots.size ≤ ((2 : Int32)).toNatClampNeg) := own_inb S238 (by decide) (by decide)
  obtain ⟨T239, h239, X239, e239, W239, st239⟩ := stI X221 hx hZ e221 Ar238 (j := (2 : Int32)) hin238 (g := (mkF m 153 #[.val (.int p0), .val (.int p1), .val (.int p2), .val (.int p3), .val (.int p4), .val (.int (own_p2 p0)), .val (.int (own_p3 p1)), .val (.ref b3), .val (.ref b44), .val (.ref b90), .val (.ref b124), .unset, .unset, .unset, .unset, .unset, .unset] [(.int (own_r2 p0 p1)), (.int (2 : Int32)), (.ref b190), (.ref b190)])) rfl rfl (hb hby at_153)
  have f240 := f222.wr W239
  have f241 := f223.other W239 ne_b3_b190
  have f242 := f224.wr W239
  have f243 := f225.other W239 ne_b44_b190
  have f244 := f226.wr W239
  have f245 := f227.other W239 ne_b90_b190
  have f246 := f228.wr W239
  have f247 := f229.other W239 ne_b124_b190
  have f248 := f230.wr W239
  have k250 := k232.wr W239 (Or.inr sz_b190)
  have nf251 := Fr.snoc X239 nf233 gn_b190
  have f252 := f235.set W239
  have f253 : own_A Z h239 b190 4 (own_v4 (0 : Int32) (own_r1 p0) (own_r2 p0 p1) (0 : Int32)) := f252.congr (fun j hj => by rcases j with _ | _ | _ | _ | j <;> first | rfl | (simp [own_upd]; done) | omega)
  obtain ⟨cl254, Ar254, S254, H254⟩ := id f241
  have hin254 : ¬ ((3 : Int32) < 0 ∨ cl254.slots.size ≤ ((3 : Int32)).toNatClampNeg) := own_inb S254 (by decide) (by decide)
  have hat254 : cl254.slots[((3 : Int32)).toNatClampNeg]? = some (.int (own_r3 p0 p1 p2)) := H254 _ (by decide)
  obtain ⟨cl255, Ar255, S255, H255⟩ := id f253
  have hin255 : ¬ ((3 : Int32) < 0 ∨ cl255.slots.size ≤ ((3 : Int32)).toNatClampNeg) := own_inb S255 (by decide) (by decide)
  obtain ⟨T256, h256, X256, e256, W256, st256⟩ := stI X239 hx hZ e239 Ar255 (j := (3 : Int32)) hin255 (g := (mkF m 160 #[.val (.int p0), .val (.int p1), .val (.int p2), .val (.int p3), .val (.int p4), .val (.int (own_p2 p0)), .val (.int (own_p3 p1)), .val (.ref b3), .val (.ref b44), .val (.ref b90), .val (.ref b124), .unset, .unset, .unset, .unset, .unset, .unset] [(.int (own_r3 p0 p1 p2)), (.int (3 : Int32)), (.ref b190), (.ref b190)])) rfl rfl (hb hby at_160)
  have f257 := f240.wr W256
  have f258 := f241.other W256 ne_b3_b190
  have f259 := f242.wr W256
  have f260 := f243.other W256 ne_b44_b190
  have f261 := f244.wr W256
  have f262 := f245.other W256 ne_b90_b190
  have f263 := f246.wr W256
  have f264 := f247.other W256 ne_b124_b190
  have f265 := f248.wr W256
  have k267 := k250.wr W256 (Or.inr sz_b190)
  have nf268 := Fr.snoc X256 nf251 gn_b190
  have f269 := f253.set W256
  have f270 : own_A Z h256 b190 4 (own_v4 (0 : Int32) (own_r1 p0) (own_r2 p0 p1) (own_r3 p0 p1 p2)) := f269.congr (fun j hj => by rcases j with _ | _ | _ | _ | j <;> first | rfl | (simp [own_upd]; done) | omega)
  have pre271 : ∀ t, Steps p.tables e below (T256.setTop (mkF m 163 #[.val (.int p0), .val (.int p1), .val (.int p2), .val (.int p3), .val (.int p4), .val (.int (own_p2 p0)), .val (.int (own_p3 p1)), .val (.ref b3), .val (.ref b44), .val (.ref b90), .val (.ref b124), .val (.ref b190), .unset, .unset, .unset, .unset, .unset] [])) t → Steps p.tables e below (s₁.setTop (entryFrame m #[(.int p0), (.int p1), (.int p2), (.int p3), (.int p4)] maxLocals)) t := by
    intro t kt
    refine pre236 t ?_
    show Steps p.tables e below (T221.setTop (mkF m 148 #[.val (.int p0), .val (.int p1), .val (.int p2), .val (.int p3), .val (.int p4), .val (.int (own_p2 p0)), .val (.int (own_p3 p1)), .val (.ref b3), .val (.ref b44), .val (.ref b90), .val (.ref b124), .unset, .unset, .unset, .unset, .unset, .unset] [(.ref b190), (.ref b190)])) _
    refine XS.iconst X221.here hx rfl (hb hby at_148) ?_
    show Steps p.tables e below (T221.setTop (mkF m 149 #[.val (.int p0), .val (.int p1), .val (.int p2), .val (.int p3), .val (.int p4), .val (.int (own_p2 p0)), .val (.int (own_p3 p1)), .val (.ref b3), .val (.ref b44), .val (.ref b90), .val (.ref b124), .unset, .unset, .unset, .unset, .unset, .unset] [(.int (2 : Int32)), (.ref b190), (.ref b190)])) _
    refine XS.aload X221.here hx rfl (hb hby at_149) rfl rfl ?_
    show Steps p.tables e below (T221.setTop (mkF m 151 #[.val (.int p0), .val (.int p1), .val (.int p2), .val (.int p3), .val (.int p4), .val (.int (own_p2 p0)), .val (.int (own_p3 p1)), .val (.ref b3), .val (.ref b44), .val (.ref b90), .val (.ref b124), .unset, .unset, .unset, .unset, .unset, .unset] [(.ref b3), (.int (2 : Int32)), (.ref b190), (.ref b190)])) _
    refine XS.iconst X221.here hx rfl (hb hby at_151) ?_
    show Steps p.tables e below (T221.setTop (mkF m 152 #[.val (.int p0), .val (.int p1), .val (.int p2), .val (.int p3), .val (.int p4), .val (.int (own_p2 p0)), .val (.int (own_p3 p1)), .val (.ref b3), .val (.ref b44), .val (.ref b90), .val (.ref b124), .unset, .unset, .unset, .unset, .unset, .unset] [(.int (2 : Int32)), (.ref b3), (.int (2 : Int32)), (.ref b190), (.ref b190)])) _
    refine X221.iaload hx (j := (2 : Int32)) (v := (.int (own_r2 p0 p1))) (by rw [e221]; exact Ar237.1) (State.isArrayOf_alike hZ.alike Ar237.2.1) Ar237.2.2 hin237 hat237 (g := (mkF m 152 #[.val (.int p0), .val (.int p1), .val (.int p2), .val (.int p3), .val (.int p4), .val (.int (own_p2 p0)), .val (.int (own_p3 p1)), .val (.ref b3), .val (.ref b44), .val (.ref b90), .val (.ref b124), .unset, .unset, .unset, .unset, .unset, .unset] [(.int (2 : Int32)), (.ref b3), (.int (2 : Int32)), (.ref b190), (.ref b190)])) rfl rfl (hb hby at_152) _ ?_
    show Steps p.tables e below (T221.setTop (mkF m 153 #[.val (.int p0), .val (.int p1), .val (.int p2), .val (.int p3), .val (.int p4), .val (.int (own_p2 p0)), .val (.int (own_p3 p1)), .val (.ref b3), .val (.ref b44), .val (.ref b90), .val (.ref b124), .unset, .unset, .unset, .unset, .unset, .unset] [(.int (own_r2 p0 p1)), (.int (2 : Int32)), (.ref b190), (.ref b190)])) _
    refine st239 _ ?_
    show Steps p.tables e below (T239.setTop (mkF m 154 #[.val (.int p0), .val (.int p1), .val (.int p2), .val (.int p3), .val (.int p4), .val (.int (own_p2 p0)), .val (.int (own_p3 p1)), .val (.ref b3), .val (.ref b44), .val (.ref b90), .val (.ref b124), .unset, .unset, .unset, .unset, .unset, .unset] [(.ref b190)])) _
    refine XS.dup X239.here hx rfl (hb hby at_154) rfl rfl ?_
    show Steps p.tables e below (T239.setTop (mkF m 155 #[.val (.int p0), .val (.int p1), .val (.int p2), .val (.int p3), .val (.int p4), .val (.int (own_p2 p0)), .val (.int (own_p3 p1)), .val (.ref b3), .val (.ref b44), .val (.ref b90), .val (.ref b124), .unset, .unset, .unset, .unset, .unset, .unset] [(.ref b190), (.ref b190)])) _
    refine XS.iconst X239.here hx rfl (hb hby at_155) ?_
    show Steps p.tables e below (T239.setTop (mkF m 156 #[.val (.int p0), .val (.int p1), .val (.int p2), .val (.int p3), .val (.int p4), .val (.int (own_p2 p0)), .val (.int (own_p3 p1)), .val (.ref b3), .val (.ref b44), .val (.ref b90), .val (.ref b124), .unset, .unset, .unset, .unset, .unset, .unset] [(.int (3 : Int32)), (.ref b190), (.ref b190)])) _
    refine XS.aload X239.here hx rfl (hb hby at_156) rfl rfl ?_
    show Steps p.tables e below (T239.setTop (mkF m 158 #[.val (.int p0), .val (.int p1), .val (.int p2), .val (.int p3), .val (.int p4), .val (.int (own_p2 p0)), .val (.int (own_p3 p1)), .val (.ref b3), .val (.ref b44), .val (.ref b90), .val (.ref b124), .unset, .unset, .unset, .unset, .unset, .unset] [(.ref b3), (.int (3 : Int32)), (.ref b190), (.ref b190)])) _
    refine XS.iconst X239.here hx rfl (hb hby at_158) ?_
    show Steps p.tables e below (T239.setTop (mkF m 159 #[.val (.int p0), .val (.int p1), .val (.int p2), .val (.int p3), .val (.int p4), .val (.int (own_p2 p0)), .val (.int (own_p3 p1)), .val (.ref b3), .val (.ref b44), .val (.ref b90), .val (.ref b124), .unset, .unset, .unset, .unset, .unset, .unset] [(.int (3 : Int32)), (.ref b3), (.int (3 : Int32)), (.ref b190), (.ref b190)])) _
    refine X239.iaload hx (j := (3 : Int32)) (v := (.int (own_r3 p0 p1 p2))) (by rw [e239]; exact Ar254.1) (State.isArrayOf_alike hZ.alike Ar254.2.1) Ar254.2.2 hin254 hat254 (g := (mkF m 159 #[.val (.int p0), .val (.int p1), .val (.int p2), .val (.int p3), .val (.int p4), .val (.int (own_p2 p0)), .val (.int (own_p3 p1)), .val (.ref b3), .val (.ref b44), .val (.ref b90), .val (.ref b124), .unset, .unset, .unset, .unset, .unset, .unset] [(.int (3 : Int32)), (.ref b3), (.int (3 : Int32)), (.ref b190), (.ref b190)])) rfl rfl (hb hby at_159) _ ?_
    show Steps p.tables e below (T239.setTop (mkF m 160 #[.val (.int p0), .val (.int p1), .val (.int p2), .val (.int p3), .val (.int p4), .val (.int (own_p2 p0)), .val (.int (own_p3 p1)), .val (.ref b3), .val (.ref b44), .val (.ref b90), .val (.ref b124), .unset, .unset, .unset, .unset, .unset, .unset] [(.int (own_r3 p0 p1 p2)), (.int (3 : Int32)), (.ref b190), (.ref b190)])) _
    refine st256 _ ?_
    show Steps p.tables e below (T256.setTop (mkF m 161 #[.val (.int p0), .val (.int p1), .val (.int p2), .val (.int p3), .val (.int p4), .val (.int (own_p2 p0)), .val (.int (own_p3 p1)), .val (.ref b3), .val (.ref b44), .val (.ref b90), .val (.ref b124), .unset, .unset, .unset, .unset, .unset, .unset] [(.ref b190)])) _
    refine XS.astore X256.here hx rfl (hb hby at_161) rfl rfl (l' := #[.val (.int p0), .val (.int p1), .val (.int p2), .val (.int p3), .val (.int p4), .val (.int (own_p2 p0)), .val (.int (own_p3 p1)), .val (.ref b3), .val (.ref b44), .val (.ref b90), .val (.ref b124), .val (.ref b190), .unset, .unset, .unset, .unset, .unset]) rfl ?_
    exact kt
  have pre272 : ∀ t, Steps p.tables e below (T256.setTop (mkF m 170 #[.val (.int p0), .val (.int p1), .val (.int p2), .val (.int p3), .val (.int p4), .val (.int (own_p2 p0)), .val (.int (own_p3 p1)), .val (.ref b3), .val (.ref b44), .val (.ref b90), .val (.ref b124), .val (.ref b190), .val (.int (((p3.toUInt32 >>> ((4 : Int32) &&& 31).toUInt32).toInt32) &&& (1 : Int32))), .unset, .unset, .unset, .unset] [])) t → Steps p.tables e below (s₁.setTop (entryFrame m #[(.int p0), (.int p1), (.int p2), (.int p3), (.int p4)] maxLocals)) t := by
    intro t kt
    refine pre271 t ?_
    show Steps p.tables e below (T256.setTop (mkF m 163 #[.val (.int p0), .val (.int p1), .val (.int p2), .val (.int p3), .val (.int p4), .val (.int (own_p2 p0)), .val (.int (own_p3 p1)), .val (.ref b3), .val (.ref b44), .val (.ref b90), .val (.ref b124), .val (.ref b190), .unset, .unset, .unset, .unset, .unset] [])) _
    refine XS.iloadN X256.here hx rfl (hb hby at_163) rfl ?_
    show Steps p.tables e below (T256.setTop (mkF m 164 #[.val (.int p0), .val (.int p1), .val (.int p2), .val (.int p3), .val (.int p4), .val (.int (own_p2 p0)), .val (.int (own_p3 p1)), .val (.ref b3), .val (.ref b44), .val (.ref b90), .val (.ref b124), .val (.ref b190), .unset, .unset, .unset, .unset, .unset] [(.int p3)])) _
    refine XS.iconst X256.here hx rfl (hb hby at_164) ?_
    show Steps p.tables e below (T256.setTop (mkF m 165 #[.val (.int p0), .val (.int p1), .val (.int p2), .val (.int p3), .val (.int p4), .val (.int (own_p2 p0)), .val (.int (own_p3 p1)), .val (.ref b3), .val (.ref b44), .val (.ref b90), .val (.ref b124), .val (.ref b190), .unset, .unset, .unset, .unset, .unset] [(.int (4 : Int32)), (.int p3)])) _
    refine XS.iushr X256.here hx rfl (hb hby at_165) rfl ?_
    show Steps p.tables e below (T256.setTop (mkF m 166 #[.val (.int p0), .val (.int p1), .val (.int p2), .val (.int p3), .val (.int p4), .val (.int (own_p2 p0)), .val (.int (own_p3 p1)), .val (.ref b3), .val (.ref b44), .val (.ref b90), .val (.ref b124), .val (.ref b190), .unset, .unset, .unset, .unset, .unset] [(.int ((p3.toUInt32 >>> ((4 : Int32) &&& 31).toUInt32).toInt32))])) _
    refine XS.iconst X256.here hx rfl (hb hby at_166) ?_
    show Steps p.tables e below (T256.setTop (mkF m 167 #[.val (.int p0), .val (.int p1), .val (.int p2), .val (.int p3), .val (.int p4), .val (.int (own_p2 p0)), .val (.int (own_p3 p1)), .val (.ref b3), .val (.ref b44), .val (.ref b90), .val (.ref b124), .val (.ref b190), .unset, .unset, .unset, .unset, .unset] [(.int (1 : Int32)), (.int ((p3.toUInt32 >>> ((4 : Int32) &&& 31).toUInt32).toInt32))])) _
    refine XS.iand X256.here hx rfl (hb hby at_167) rfl ?_
    show Steps p.tables e below (T256.setTop (mkF m 168 #[.val (.int p0), .val (.int p1), .val (.int p2), .val (.int p3), .val (.int p4), .val (.int (own_p2 p0)), .val (.int (own_p3 p1)), .val (.ref b3), .val (.ref b44), .val (.ref b90), .val (.ref b124), .val (.ref b190), .unset, .unset, .unset, .unset, .unset] [(.int (((p3.toUInt32 >>> ((4 : Int32) &&& 31).toUInt32).toInt32) &&& (1 : Int32)))])) _
    refine XS.istore X256.here hx rfl (hb hby at_168) rfl (l' := #[.val (.int p0), .val (.int p1), .val (.int p2), .val (.int p3), .val (.int p4), .val (.int (own_p2 p0)), .val (.int (own_p3 p1)), .val (.ref b3), .val (.ref b44), .val (.ref b90), .val (.ref b124), .val (.ref b190), .val (.int (((p3.toUInt32 >>> ((4 : Int32) &&& 31).toUInt32).toInt32) &&& (1 : Int32))), .unset, .unset, .unset, .unset]) rfl ?_
    exact kt
  have pre273 : ∀ t, Steps p.tables e below (T256.setTop (mkF m 172 #[.val (.int p0), .val (.int p1), .val (.int p2), .val (.int p3), .val (.int p4), .val (.int (own_p2 p0)), .val (.int (own_p3 p1)), .val (.ref b3), .val (.ref b44), .val (.ref b90), .val (.ref b124), .val (.ref b190), .val (.int (own_st p3)), .unset, .unset, .unset, .unset] [(.int (own_st p3))])) t → Steps p.tables e below (s₁.setTop (entryFrame m #[(.int p0), (.int p1), (.int p2), (.int p3), (.int p4)] maxLocals)) t := by
    intro t kt
    refine pre272 t ?_
    show Steps p.tables e below (T256.setTop (mkF m 170 #[.val (.int p0), .val (.int p1), .val (.int p2), .val (.int p3), .val (.int p4), .val (.int (own_p2 p0)), .val (.int (own_p3 p1)), .val (.ref b3), .val (.ref b44), .val (.ref b90), .val (.ref b124), .val (.ref b190), .val (.int (own_st p3)), .unset, .unset, .unset, .unset] [])) _
    show Steps p.tables e below (T256.setTop (mkF m 170 #[.val (.int p0), .val (.int p1), .val (.int p2), .val (.int p3), .val (.int p4), .val (.int (own_p2 p0)), .val (.int (own_p3 p1)), .val (.ref b3), .val (.ref b44), .val (.ref b90), .val (.ref b124), .val (.ref b190), .val (.int (own_st p3)), .unset, .unset, .unset, .unset] [])) _
    refine XS.iload X256.here hx rfl (hb hby at_170) rfl ?_
    exact kt
  by_cases hc274 : (own_st p3) = (0 : Int32)
  · have pre275 : ∀ t, Steps p.tables e below (T256.setTop (mkF m 178 #[.val (.int p0), .val (.int p1), .val (.int p2), .val (.int p3), .val (.int p4), .val (.int (own_p2 p0)), .val (.int (own_p3 p1)), .val (.ref b3), .val (.ref b44), .val (.ref b90), .val (.ref b124), .val (.ref b190), .val (.int (own_st p3)), .unset, .unset, .unset, .unset] [(.int (p3 &&& (3 : Int32)))])) t → Steps p.tables e below (s₁.setTop (entryFrame m #[(.int p0), (.int p1), (.int p2), (.int p3), (.int p4)] maxLocals)) t := by
      intro t kt
      refine pre273 t ?_
      show Steps p.tables e below (T256.setTop (mkF m 172 #[.val (.int p0), .val (.int p1), .val (.int p2), .val (.int p3), .val (.int p4), .val (.int (own_p2 p0)), .val (.int (own_p3 p1)), .val (.ref b3), .val (.ref b44), .val (.ref b90), .val (.ref b124), .val (.ref b190), .val (.int (own_st p3)), .unset, .unset, .unset, .unset] [(.int (own_st p3))])) _
      refine XS.ifNo X256.here hx rfl (hb hby at_172) rfl ((if0 _ _).trans (teq hc274).2) ?_
      show Steps p.tables e below (T256.setTop (mkF m 175 #[.val (.int p0), .val (.int p1), .val (.int p2), .val (.int p3), .val (.int p4), .val (.int (own_p2 p0)), .val (.int (own_p3 p1)), .val (.ref b3), .val (.ref b44), .val (.ref b90), .val (.ref b124), .val (.ref b190), .val (.int (own_st p3)), .unset, .unset, .unset, .unset] [])) _
      refine XS.iloadN X256.here hx rfl (hb hby at_175) rfl ?_
      show Steps p.tables e below (T256.setTop (mkF m 176 #[.val (.int p0), .val (.int p1), .val (.int p2), .val (.int p3), .val (.int p4), .val (.int (own_p2 p0)), .val (.int (own_p3 p1)), .val (.ref b3), .val (.ref b44), .val (.ref b90), .val (.ref b124), .val (.ref b190), .val (.int (own_st p3)), .unset, .unset, .unset, .unset] [(.int p3)])) _
      refine XS.iconst X256.here hx rfl (hb hby at_176) ?_
      show Steps p.tables e below (T256.setTop (mkF m 177 #[.val (.int p0), .val (.int p1), .val (.int p2), .val (.int p3), .val (.int p4), .val (.int (own_p2 p0)), .val (.int (own_p3 p1)), .val (.ref b3), .val (.ref b44), .val (.ref b90), .val (.ref b124), .val (.ref b190), .val (.int (own_st p3)), .unset, .unset, .unset, .unset] [(.int (3 : Int32)), (.int p3)])) _
      refine XS.iand X256.here hx rfl (hb hby at_177) rfl ?_
      exact kt
    have pre276 : ∀ t, Steps p.tables e below (T256.setTop (mkF m 186 #[.val (.int p0), .val (.int p1), .val (.int p2), .val (.int p3), .val (.int p4), .val (.int (own_p2 p0)), .val (.int (own_p3 p1)), .val (.ref b3), .val (.ref b44), .val (.ref b90), .val (.ref b124), .val (.ref b190), .val (.int (own_st p3)), .unset, .unset, .unset, .unset] [(.int (own_b0 p3))])) t → Steps p.tables e below (s₁.setTop (entryFrame m #[(.int p0), (.int p1), (.int p2), (.int p3), (.int p4)] maxLocals)) t := by
      intro t kt
      refine pre275 t ?_
      show Steps p.tables e below (T256.setTop (mkF m 178 #[.val (.int p0), .val (.int p1), .val (.int p2), .val (.int p3), .val (.int p4), .val (.int (own_p2 p0)), .val (.int (own_p3 p1)), .val (.ref b3), .val (.ref b44), .val (.ref b90), .val (.ref b124), .val (.ref b190), .val (.int (own_st p3)), .unset, .unset, .unset, .unset] [(.int (own_b0 p3))])) _
      show Steps p.tables e below (T256.setTop (mkF m 178 #[.val (.int p0), .val (.int p1), .val (.int p2), .val (.int p3), .val (.int p4), .val (.int (own_p2 p0)), .val (.int (own_p3 p1)), .val (.ref b3), .val (.ref b44), .val (.ref b90), .val (.ref b124), .val (.ref b190), .val (.int (own_st p3)), .unset, .unset, .unset, .unset] [(.int (own_b0 p3))])) _
      refine XS.goto X256.here hx rfl (pc0 := 178) (pc' := 186) rfl (hb hby at_178) (by decide) (by decide) ?_
      exact kt
    have pre277 : ∀ t, Steps p.tables e below (T256.setTop (mkF m 186 #[.val (.int p0), .val (.int p1), .val (.int p2), .val (.int p3), .val (.int p4), .val (.int (own_p2 p0)), .val (.int (own_p3 p1)), .val (.ref b3), .val (.ref b44), .val (.ref b90), .val (.ref b124), .val (.ref b190), .val (.int (own_st p3)), .unset, .unset, .unset, .unset] [(.int (own_b0 p3))])) t → Steps p.tables e below (s₁.setTop (entryFrame m #[(.int p0), (.int p1), (.int p2), (.int p3), (.int p4)] maxLocals)) t := by
      intro t kt
      refine pre276 t ?_
      show Steps p.tables e below (T256.setTop (mkF m 186 #[.val (.int p0), .val (.int p1), .val (.int p2), .val (.int p3), .val (.int p4), .val (.int (own_p2 p0)), .val (.int (own_p3 p1)), .val (.ref b3), .val (.ref b44), .val (.ref b90), .val (.ref b124), .val (.ref b190), .val (.int (own_st p3)), .unset, .unset, .unset, .unset] [(.int (own_b0 p3))])) _
      exact kt
    have pre278 : ∀ t, Steps p.tables e below (T256.setTop (mkF m 186 #[.val (.int p0), .val (.int p1), .val (.int p2), .val (.int p3), .val (.int p4), .val (.int (own_p2 p0)), .val (.int (own_p3 p1)), .val (.ref b3), .val (.ref b44), .val (.ref b90), .val (.ref b124), .val (.ref b190), .val (.int (0 : Int32)), .unset, .unset, .unset, .unset] [(.int (own_b0 p3))])) t → Steps p.tables e below (s₁.setTop (entryFrame m #[(.int p0), (.int p1), (.int p2), (.int p3), (.int p4)] maxLocals)) t := by
      intro t kt
      refine pre277 t ?_
      rw [hc274]
      exact kt
    obtain ⟨s_, hs, hs4⟩ := own_b0r p3
    have pre279 : ∀ t, Steps p.tables e below (T256.setTop (mkF m 193 #[.val (.int p0), .val (.int p1), .val (.int p2), .val (.int p3), .val (.int p4), .val (.int (own_p2 p0)), .val (.int (own_p3 p1)), .val (.ref b3), .val (.ref b44), .val (.ref b90), .val (.ref b124), .val (.ref b190), .val (.int (0 : Int32)), .val (.int (own_b0 p3)), .unset, .unset, .unset] [(.int (p4 &&& (16 : Int32)))])) t → Steps p.tables e below (s₁.setTop (entryFrame m #[(.int p0), (.int p1), (.int p2), (.int p3), (.int p4)] maxLocals)) t := by
      intro t kt
      refine pre278 t ?_
      show Steps p.tables e below (T256.setTop (mkF m 186 #[.val (.int p0), .val (.int p1), .val (.int p2), .val (.int p3), .val (.int p4), .val (.int (own_p2 p0)), .val (.int (own_p3 p1)), .val (.ref b3), .val (.ref b44), .val (.ref b90), .val (.ref b124), .val (.ref b190), .val (.int (0 : Int32)), .unset, .unset, .unset, .unset] [(.int (own_b0 p3))])) _
      refine XS.istore X256.here hx rfl (hb hby at_186) rfl (l' := #[.val (.int p0), .val (.int p1), .val (.int p2), .val (.int p3), .val (.int p4), .val (.int (own_p2 p0)), .val (.int (own_p3 p1)), .val (.ref b3), .val (.ref b44), .val (.ref b90), .val (.ref b124), .val (.ref b190), .val (.int (0 : Int32)), .val (.int (own_b0 p3)), .unset, .unset, .unset]) rfl ?_
      show Steps p.tables e below (T256.setTop (mkF m 188 #[.val (.int p0), .val (.int p1), .val (.int p2), .val (.int p3), .val (.int p4), .val (.int (own_p2 p0)), .val (.int (own_p3 p1)), .val (.ref b3), .val (.ref b44), .val (.ref b90), .val (.ref b124), .val (.ref b190), .val (.int (0 : Int32)), .val (.int (own_b0 p3)), .unset, .unset, .unset] [])) _
      refine XS.iload X256.here hx rfl (hb hby at_188) rfl ?_
      show Steps p.tables e below (T256.setTop (mkF m 190 #[.val (.int p0), .val (.int p1), .val (.int p2), .val (.int p3), .val (.int p4), .val (.int (own_p2 p0)), .val (.int (own_p3 p1)), .val (.ref b3), .val (.ref b44), .val (.ref b90), .val (.ref b124), .val (.ref b190), .val (.int (0 : Int32)), .val (.int (own_b0 p3)), .unset, .unset, .unset] [(.int p4)])) _
      refine XS.bipush X256.here hx rfl (hb hby at_190) ?_
      show Steps p.tables e below (T256.setTop (mkF m 192 #[.val (.int p0), .val (.int p1), .val (.int p2), .val (.int p3), .val (.int p4), .val (.int (own_p2 p0)), .val (.int (own_p3 p1)), .val (.ref b3), .val (.ref b44), .val (.ref b90), .val (.ref b124), .val (.ref b190), .val (.int (0 : Int32)), .val (.int (own_b0 p3)), .unset, .unset, .unset] [(.int (16 : Int32)), (.int p4)])) _
      refine XS.iand X256.here hx rfl (hb hby at_192) rfl ?_
      exact kt
    by_cases hc280 : (p4 &&& (16 : Int32)) = (0 : Int32)
    · obtain ⟨T281, h281, X281, e281, E281, A281, D281, -, st281⟩ := newO X256 hx hZ hown (hw _ (List.mem_of_getElem? (i := 1) rfl)) (hw _ (List.mem_of_getElem? (i := 2) rfl)) (hw _ (List.mem_of_getElem? (i := 3) rfl)) e256 (g := (mkF m 211 #[.val (.int p0), .val (.int p1), .val (.int p2), .val (.int p3), .val (.int p4), .val (.int (own_p2 p0)), .val (.int (own_p3 p1)), .val (.ref b3), .val (.ref b44), .val (.ref b90), .val (.ref b124), .val (.ref b190), .val (.int (0 : Int32)), .val (.int (own_b0 p3)), .val (.int (p4 &&& (15 : Int32))), .unset, .unset] [])) rfl (hb hby at_211) (by decide) (by decide)
      obtain ⟨b281, g281⟩ : ∃ z, z = h256.size := ⟨_, rfl⟩
      rw [← g281] at A281 D281 st281
      have sz_b281 : h0.size ≤ b281 := Nat.le_trans k267.1 (Nat.le_of_eq g281.symm)
      have gn_b281 : n0 ≤ b281 := Nat.le_trans Z0 sz_b281
      have ne_b3_b281 : b3 ≠ b281 := Nat.ne_of_lt (Nat.lt_of_lt_of_le f258.lt (Nat.le_of_eq g281.symm))
      have ne_b44_b281 : b44 ≠ b281 := Nat.ne_of_lt (Nat.lt_of_lt_of_le f260.lt (Nat.le_of_eq g281.symm))
      have ne_b90_b281 : b90 ≠ b281 := Nat.ne_of_lt (Nat.lt_of_lt_of_le f262.lt (Nat.le_of_eq g281.symm))
      have ne_b124_b281 : b124 ≠ b281 := Nat.ne_of_lt (Nat.lt_of_lt_of_le f264.lt (Nat.le_of_eq g281.symm))
      have ne_b190_b281 : b190 ≠ b281 := Nat.ne_of_lt (Nat.lt_of_lt_of_le f270.lt (Nat.le_of_eq g281.symm))
      have f282 := f257.ext E281
      have f283 := f258.ext E281
      have f284 := f259.ext E281
      have f285 := f260.ext E281
      have f286 := f261.ext E281
      have f287 := f262.ext E281
      have f288 := f263.ext E281
      have f289 := f264.ext E281
      have f290 := f265.ext E281
      have f291 := f270.ext E281
      have k292 := k267.ext E281
      have f293 : Fld Z h281 b281 "com/example/unfold/unfold/reduction/Splitting" "blocks" "[I" .null := D281 (Or.inr (hw _ (List.mem_of_getElem? (i := 11) rfl))) (ty := (.array .int)) (by decide)
      have f294 : Fld Z h281 b281 "com/example/unfold/unfold/reduction/Splitting" "parents" "[I" .null := D281 (Or.inr (hw _ (List.mem_of_getElem? (i := 13) rfl))) (ty := (.array .int)) (by decide)
      have f295 : Fld Z h281 b281 "com/example/unfold/unfold/reduction/Splitting" "rounds" "[I" .null := D281 (Or.inr (hw _ (List.mem_of_getElem? (i := 15) rfl))) (ty := (.array .int)) (by decide)
      have zs296 : n0 ≤ h281.size := Nat.le_trans Z0 k292.1
      obtain ⟨_, _, ⟨T297, L297, k297, n297⟩, -, X297, ⟨Lc297, hQ297, l297, y297, z297⟩, st297⟩ := X281.specialBack hx (y := (⟨"com/example/unfold/unfold/reduction/Splitting", "<init>", "([I[I[I)V"⟩ : MethodName)) rfl hown (mvT hZ (hw _ (List.mem_of_getElem? (i := 4) rfl))) (mvT hZ (hw _ (List.mem_of_getElem? (i := 5) rfl))) (mvT hZ (hw _ (List.mem_of_getElem? (i := 6) rfl))) (by decide) (backOf (W := 1) (own_rm_ctor l Z a0 hw [] b281 b90 b124 b190 h281 n0 zs296 A281 f293 f294 f295 gn_b281) hZ (hw _ (List.mem_of_getElem? (i := 6) rfl)) (hw _ (List.mem_of_getElem? (i := 3) rfl)) (by decide) (by decide)) (g := (mkF m 221 #[.val (.int p0), .val (.int p1), .val (.int p2), .val (.int p3), .val (.int p4), .val (.int (own_p2 p0)), .val (.int (own_p3 p1)), .val (.ref b3), .val (.ref b44), .val (.ref b90), .val (.ref b124), .val (.ref b190), .val (.int (0 : Int32)), .val (.int (own_b0 p3)), .val (.int (p4 &&& (15 : Int32))), .unset, .unset] [(.ref b190), (.ref b124), (.ref b90), (.ref b281), (.ref b281)])) rfl (by rw [hml]; rfl) (Steps.refl _) (a := b281) (argsL := [(.ref b90), (.ref b124), (.ref b190)]) (rest := [(.ref b281)]) (lenOf own_pd1 rfl) rfl (by show 2 * 0 + _ ≤ _; exact Nat.le_of_eq rfl) (hb hby at_221) (fun _ _ => ⟨rfl, e281, (by decide : 6 + 0 ≤ _), (by decide : 21 + 0 ≤ _)⟩)
      dsimp only [Pt.U, Pt.locs, Pt.cells, Pt.slots] at X297 l297 y297 z297 st297 hQ297
      rw [l297, (y297 : k297 = 6), (z297 : n297 = 21)] at X297
      clear l297 y297 z297
      obtain ⟨rfl, N298, K298, c298_0, c298_1, c298_2⟩ := hQ297
      have f299 := f282.keep K298
      have f300 := f283.keep K298 (ninS ne_b3_b281 nin0)
      have f301 := f284.keep K298
      have f302 := f285.keep K298 (ninS ne_b44_b281 nin0)
      have f303 := f286.keep K298
      have f304 := f287.keep K298 (ninS ne_b90_b281 nin0)
      have f305 := f288.keep K298
      have f306 := f289.keep K298 (ninS ne_b124_b281 nin0)
      have f307 := f290.keep K298
      have f308 := f291.keep K298 (ninS ne_b190_b281 nin0)
      have f309 := A281.keep K298
      have k310 := k292.trans K298 (allS (Or.inr sz_b281) all0)
      have nf311 := Fr.app nf268 N298
      have pre312 : ∀ t, Steps p.tables e below (T297.setTop (mkF m 226 #[.val (.int p0), .val (.int p1), .val (.int p2), .val (.int p3), .val (.int p4), .val (.int (own_p2 p0)), .val (.int (own_p3 p1)), .val (.ref b3), .val (.ref b44), .val (.ref b90), .val (.ref b124), .val (.ref b190), .val (.int (0 : Int32)), .val (.int (own_b0 p3)), .val (.int (p4 &&& (15 : Int32))), .val (.ref b281), .unset] [])) t → Steps p.tables e below (s₁.setTop (entryFrame m #[(.int p0), (.int p1), (.int p2), (.int p3), (.int p4)] maxLocals)) t := by
        intro t kt
        refine pre279 t ?_
        show Steps p.tables e below (T256.setTop (mkF m 193 #[.val (.int p0), .val (.int p1), .val (.int p2), .val (.int p3), .val (.int p4), .val (.int (own_p2 p0)), .val (.int (own_p3 p1)), .val (.ref b3), .val (.ref b44), .val (.ref b90), .val (.ref b124), .val (.ref b190), .val (.int (0 : Int32)), .val (.int (own_b0 p3)), .unset, .unset, .unset] [(.int (p4 &&& (16 : Int32)))])) _
        refine XS.ifYes X256.here hx rfl (pc0 := 193) (pc' := 204) rfl (hb hby at_193) rfl ((if0 _ _).trans (teq hc280).1) (by decide) (by decide) ?_
        show Steps p.tables e below (T256.setTop (mkF m 204 #[.val (.int p0), .val (.int p1), .val (.int p2), .val (.int p3), .val (.int p4), .val (.int (own_p2 p0)), .val (.int (own_p3 p1)), .val (.ref b3), .val (.ref b44), .val (.ref b90), .val (.ref b124), .val (.ref b190), .val (.int (0 : Int32)), .val (.int (own_b0 p3)), .unset, .unset, .unset] [])) _
        refine XS.iload X256.here hx rfl (hb hby at_204) rfl ?_
        show Steps p.tables e below (T256.setTop (mkF m 206 #[.val (.int p0), .val (.int p1), .val (.int p2), .val (.int p3), .val (.int p4), .val (.int (own_p2 p0)), .val (.int (own_p3 p1)), .val (.ref b3), .val (.ref b44), .val (.ref b90), .val (.ref b124), .val (.ref b190), .val (.int (0 : Int32)), .val (.int (own_b0 p3)), .unset, .unset, .unset] [(.int p4)])) _
        refine XS.bipush X256.here hx rfl (hb hby at_206) ?_
        show Steps p.tables e below (T256.setTop (mkF m 208 #[.val (.int p0), .val (.int p1), .val (.int p2), .val (.int p3), .val (.int p4), .val (.int (own_p2 p0)), .val (.int (own_p3 p1)), .val (.ref b3), .val (.ref b44), .val (.ref b90), .val (.ref b124), .val (.ref b190), .val (.int (0 : Int32)), .val (.int (own_b0 p3)), .unset, .unset, .unset] [(.int (15 : Int32)), (.int p4)])) _
        refine XS.iand X256.here hx rfl (hb hby at_208) rfl ?_
        show Steps p.tables e below (T256.setTop (mkF m 209 #[.val (.int p0), .val (.int p1), .val (.int p2), .val (.int p3), .val (.int p4), .val (.int (own_p2 p0)), .val (.int (own_p3 p1)), .val (.ref b3), .val (.ref b44), .val (.ref b90), .val (.ref b124), .val (.ref b190), .val (.int (0 : Int32)), .val (.int (own_b0 p3)), .unset, .unset, .unset] [(.int (p4 &&& (15 : Int32)))])) _
        refine XS.istore X256.here hx rfl (hb hby at_209) rfl (l' := #[.val (.int p0), .val (.int p1), .val (.int p2), .val (.int p3), .val (.int p4), .val (.int (own_p2 p0)), .val (.int (own_p3 p1)), .val (.ref b3), .val (.ref b44), .val (.ref b90), .val (.ref b124), .val (.ref b190), .val (.int (0 : Int32)), .val (.int (own_b0 p3)), .val (.int (p4 &&& (15 : Int32))), .unset, .unset]) rfl ?_
        show Steps p.tables e below (T256.setTop (mkF m 211 #[.val (.int p0), .val (.int p1), .val (.int p2), .val (.int p3), .val (.int p4), .val (.int (own_p2 p0)), .val (.int (own_p3 p1)), .val (.ref b3), .val (.ref b44), .val (.ref b90), .val (.ref b124), .val (.ref b190), .val (.int (0 : Int32)), .val (.int (own_b0 p3)), .val (.int (p4 &&& (15 : Int32))), .unset, .unset] [])) _
        refine st281 _ ?_
        show Steps p.tables e below (T281.setTop (mkF m 214 #[.val (.int p0), .val (.int p1), .val (.int p2), .val (.int p3), .val (.int p4), .val (.int (own_p2 p0)), .val (.int (own_p3 p1)), .val (.ref b3), .val (.ref b44), .val (.ref b90), .val (.ref b124), .val (.ref b190), .val (.int (0 : Int32)), .val (.int (own_b0 p3)), .val (.int (p4 &&& (15 : Int32))), .unset, .unset] [(.ref b281)])) _
        refine XS.dup X281.here hx rfl (hb hby at_214) rfl rfl ?_
        show Steps p.tables e below (T281.setTop (mkF m 215 #[.val (.int p0), .val (.int p1), .val (.int p2), .val (.int p3), .val (.int p4), .val (.int (own_p2 p0)), .val (.int (own_p3 p1)), .val (.ref b3), .val (.ref b44), .val (.ref b90), .val (.ref b124), .val (.ref b190), .val (.int (0 : Int32)), .val (.int (own_b0 p3)), .val (.int (p4 &&& (15 : Int32))), .unset, .unset] [(.ref b281), (.ref b281)])) _
        refine XS.aload X281.here hx rfl (hb hby at_215) rfl rfl ?_
        show Steps p.tables e below (T281.setTop (mkF m 217 #[.val (.int p0), .val (.int p1), .val (.int p2), .val (.int p3), .val (.int p4), .val (.int (own_p2 p0)), .val (.int (own_p3 p1)), .val (.ref b3), .val (.ref b44), .val (.ref b90), .val (.ref b124), .val (.ref b190), .val (.int (0 : Int32)), .val (.int (own_b0 p3)), .val (.int (p4 &&& (15 : Int32))), .unset, .unset] [(.ref b90), (.ref b281), (.ref b281)])) _
        refine XS.aload X281.here hx rfl (hb hby at_217) rfl rfl ?_
        show Steps p.tables e below (T281.setTop (mkF m 219 #[.val (.int p0), .val (.int p1), .val (.int p2), .val (.int p3), .val (.int p4), .val (.int (own_p2 p0)), .val (.int (own_p3 p1)), .val (.ref b3), .val (.ref b44), .val (.ref b90), .val (.ref b124), .val (.ref b190), .val (.int (0 : Int32)), .val (.int (own_b0 p3)), .val (.int (p4 &&& (15 : Int32))), .unset, .unset] [(.ref b124), (.ref b90), (.ref b281), (.ref b281)])) _
        refine XS.aload X281.here hx rfl (hb hby at_219) rfl rfl ?_
        show Steps p.tables e below (T281.setTop (mkF m 221 #[.val (.int p0), .val (.int p1), .val (.int p2), .val (.int p3), .val (.int p4), .val (.int (own_p2 p0)), .val (.int (own_p3 p1)), .val (.ref b3), .val (.ref b44), .val (.ref b90), .val (.ref b124), .val (.ref b190), .val (.int (0 : Int32)), .val (.int (own_b0 p3)), .val (.int (p4 &&& (15 : Int32))), .unset, .unset] [(.ref b190), (.ref b124), (.ref b90), (.ref b281), (.ref b281)])) _
        refine st297.trans ?_
        show Steps p.tables e below (T297.setTop (mkF m 224 #[.val (.int p0), .val (.int p1), .val (.int p2), .val (.int p3), .val (.int p4), .val (.int (own_p2 p0)), .val (.int (own_p3 p1)), .val (.ref b3), .val (.ref b44), .val (.ref b90), .val (.ref b124), .val (.ref b190), .val (.int (0 : Int32)), .val (.int (own_b0 p3)), .val (.int (p4 &&& (15 : Int32))), .unset, .unset] [(.ref b281)])) _
        refine XS.astore X297.here hx rfl (hb hby at_224) rfl rfl (l' := #[.val (.int p0), .val (.int p1), .val (.int p2), .val (.int p3), .val (.int p4), .val (.int (own_p2 p0)), .val (.int (own_p3 p1)), .val (.ref b3), .val (.ref b44), .val (.ref b90), .val (.ref b124), .val (.ref b190), .val (.int (0 : Int32)), .val (.int (own_b0 p3)), .val (.int (p4 &&& (15 : Int32))), .val (.ref b281), .unset]) rfl ?_
        exact kt
      have hT := own_mktree p0 p1 p2
      have hpl := own_plain (r := (p4 &&& (15 : Int32))) hT (own_rB p4) hs4
      have zs313 : n0 ≤ T297.heap.size := Nat.le_trans Z0 k310.1
      obtain ⟨cq315, kq315, q315a, q315b, q315c⟩ := isOf hZ rfl f309
      obtain ⟨_, _, ⟨T314, L314, k314, n314⟩, -, X314, ⟨Lc314, hQ314, l314, y314, z314⟩, st314⟩ := X297.virtualBack hx (y := (⟨"com/example/unfold/unfold/reduction/Splitting", "blockAfter", "(II)I"⟩ : MethodName)) (z := (⟨"com/example/unfold/unfold/reduction/Splitting", "blockAfter", "(II)I"⟩ : MethodName)) hown (mvT hZ (hw _ (List.mem_of_getElem? (i := 16) rfl))) (mvT hZ (hw _ (List.mem_of_getElem? (i := 17) rfl))) (notFace_of_selects (args := #[]) (mvT hZ (hw _ (List.mem_of_getElem? (i := 19) rfl)))) (mvT hZ (hw _ (List.mem_of_getElem? (i := 19) rfl))) (mvT hZ (hw _ (List.mem_of_getElem? (i := 18) rfl))) (by decide) (backOf (W := 0) (own_rm_blk l Z a0 hw [] b281 (0 : Int32) (p4 &&& (15 : Int32)) b90 b124 b190 (own_v2 (own_b0 p3) (own_b1 p3)) (own_v4 (0 : Int32) (0 : Int32) (own_p2 p0) (own_p3 p1)) (own_v4 (0 : Int32) (own_r1 p0) (own_r2 p0 p1) (own_r3 p0 p1 p2)) s_ T297.heap n0 zs313 c298_0 c298_1 c298_2 f304 f306 f308 (by decide) (by decide) hs hs4 hT (own_rB p4)) hZ (hw _ (List.mem_of_getElem? (i := 20) rfl)) (hw _ (List.mem_of_getElem? (i := 3) rfl)) (by decide) (by decide)) q315a q315c (g := (mkF m 232 #[.val (.int p0), .val (.int p1), .val (.int p2), .val (.int p3), .val (.int p4), .val (.int (own_p2 p0)), .val (.int (own_p3 p1)), .val (.ref b3), .val (.ref b44), .val (.ref b90), .val (.ref b124), .val (.ref b190), .val (.int (0 : Int32)), .val (.int (own_b0 p3)), .val (.int (p4 &&& (15 : Int32))), .val (.ref b281), .unset] [(.int (p4 &&& (15 : Int32))), (.int (0 : Int32)), (.ref b281)])) rfl (by rw [hml]; rfl) (Steps.refl _) (argsL := [(.int (0 : Int32)), (.int (p4 &&& (15 : Int32)))]) (rest := []) (lenOf own_pd2 rfl) rfl (by show 2 * 0 + _ ≤ _; exact Nat.le_of_eq rfl) (hb hby at_232) (fun _ _ => ⟨rfl, rfl, (by decide : 6 + 0 ≤ _), (by decide : 21 + 0 ≤ _)⟩)
      dsimp only [Pt.U, Pt.locs, Pt.cells, Pt.slots] at X314 l314 y314 z314 st314 hQ314
      rw [l314, (y314 : k314 = 6), (z314 : n314 = 21)] at X314
      clear l314 y314 z314
      obtain ⟨rfl, N316, eq316⟩ := hQ314
      have nf317 := Fr.app nf311 N316
      have pre318 : ∀ t, Steps p.tables e below (T314.setTop (mkF m 254 #[.val (.int p0), .val (.int p1), .val (.int p2), .val (.int p3), .val (.int p4), .val (.int (own_p2 p0)), .val (.int (own_p3 p1)), .val (.ref b3), .val (.ref b44), .val (.ref b90), .val (.ref b124), .val (.ref b190), .val (.int (0 : Int32)), .val (.int (own_b0 p3)), .val (.int (p4 &&& (15 : Int32))), .val (.ref b281), .val (.int (Int32.ofNat (own_blk (own_v4 (0 : Int32) (0 : Int32) (own_p2 p0) (own_p3 p1)) (own_v4 (0 : Int32) (own_r1 p0) (own_r2 p0 p1) (own_r3 p0 p1 p2)) (p4 &&& (15 : Int32)) 4 s_)))] [(.int (own_b0 p3)), (.int (Int32.ofNat (own_blk (own_v4 (0 : Int32) (0 : Int32) (own_p2 p0) (own_p3 p1)) (own_v4 (0 : Int32) (own_r1 p0) (own_r2 p0 p1) (own_r3 p0 p1 p2)) (p4 &&& (15 : Int32)) 4 s_)))])) t → Steps p.tables e below (s₁.setTop (entryFrame m #[(.int p0), (.int p1), (.int p2), (.int p3), (.int p4)] maxLocals)) t := by
        intro t kt
        refine pre312 t ?_
        show Steps p.tables e below (T297.setTop (mkF m 226 #[.val (.int p0), .val (.int p1), .val (.int p2), .val (.int p3), .val (.int p4), .val (.int (own_p2 p0)), .val (.int (own_p3 p1)), .val (.ref b3), .val (.ref b44), .val (.ref b90), .val (.ref b124), .val (.ref b190), .val (.int (0 : Int32)), .val (.int (own_b0 p3)), .val (.int (p4 &&& (15 : Int32))), .val (.ref b281), .unset] [])) _
        refine XS.aload X297.here hx rfl (hb hby at_226) rfl rfl ?_
        show Steps p.tables e below (T297.setTop (mkF m 228 #[.val (.int p0), .val (.int p1), .val (.int p2), .val (.int p3), .val (.int p4), .val (.int (own_p2 p0)), .val (.int (own_p3 p1)), .val (.ref b3), .val (.ref b44), .val (.ref b90), .val (.ref b124), .val (.ref b190), .val (.int (0 : Int32)), .val (.int (own_b0 p3)), .val (.int (p4 &&& (15 : Int32))), .val (.ref b281), .unset] [(.ref b281)])) _
        refine XS.iload X297.here hx rfl (hb hby at_228) rfl ?_
        show Steps p.tables e below (T297.setTop (mkF m 230 #[.val (.int p0), .val (.int p1), .val (.int p2), .val (.int p3), .val (.int p4), .val (.int (own_p2 p0)), .val (.int (own_p3 p1)), .val (.ref b3), .val (.ref b44), .val (.ref b90), .val (.ref b124), .val (.ref b190), .val (.int (0 : Int32)), .val (.int (own_b0 p3)), .val (.int (p4 &&& (15 : Int32))), .val (.ref b281), .unset] [(.int (0 : Int32)), (.ref b281)])) _
        refine XS.iload X297.here hx rfl (hb hby at_230) rfl ?_
        show Steps p.tables e below (T297.setTop (mkF m 232 #[.val (.int p0), .val (.int p1), .val (.int p2), .val (.int p3), .val (.int p4), .val (.int (own_p2 p0)), .val (.int (own_p3 p1)), .val (.ref b3), .val (.ref b44), .val (.ref b90), .val (.ref b124), .val (.ref b190), .val (.int (0 : Int32)), .val (.int (own_b0 p3)), .val (.int (p4 &&& (15 : Int32))), .val (.ref b281), .unset] [(.int (p4 &&& (15 : Int32))), (.int (0 : Int32)), (.ref b281)])) _
        refine st314.trans ?_
        show Steps p.tables e below (T314.setTop (mkF m 235 #[.val (.int p0), .val (.int p1), .val (.int p2), .val (.int p3), .val (.int p4), .val (.int (own_p2 p0)), .val (.int (own_p3 p1)), .val (.ref b3), .val (.ref b44), .val (.ref b90), .val (.ref b124), .val (.ref b190), .val (.int (0 : Int32)), .val (.int (own_b0 p3)), .val (.int (p4 &&& (15 : Int32))), .val (.ref b281), .unset] [(.int (Int32.ofNat (own_blk (own_v4 (0 : Int32) (0 : Int32) (own_p2 p0) (own_p3 p1)) (own_v4 (0 : Int32) (own_r1 p0) (own_r2 p0 p1) (own_r3 p0 p1 p2)) (p4 &&& (15 : Int32)) 4 s_)))])) _
        refine XS.istore X314.here hx rfl (hb hby at_235) rfl (l' := #[.val (.int p0), .val (.int p1), .val (.int p2), .val (.int p3), .val (.int p4), .val (.int (own_p2 p0)), .val (.int (own_p3 p1)), .val (.ref b3), .val (.ref b44), .val (.ref b90), .val (.ref b124), .val (.ref b190), .val (.int (0 : Int32)), .val (.int (own_b0 p3)), .val (.int (p4 &&& (15 : Int32))), .val (.ref b281), .val (.int (Int32.ofNat (own_blk (own_v4 (0 : Int32) (0 : Int32) (own_p2 p0) (own_p3 p1)) (own_v4 (0 : Int32) (own_r1 p0) (own_r2 p0 p1) (own_r3 p0 p1 p2)) (p4 &&& (15 : Int32)) 4 s_)))]) rfl ?_
        show Steps p.tables e below (T314.setTop (mkF m 237 #[.val (.int p0), .val (.int p1), .val (.int p2), .val (.int p3), .val (.int p4), .val (.int (own_p2 p0)), .val (.int (own_p3 p1)), .val (.ref b3), .val (.ref b44), .val (.ref b90), .val (.ref b124), .val (.ref b190), .val (.int (0 : Int32)), .val (.int (own_b0 p3)), .val (.int (p4 &&& (15 : Int32))), .val (.ref b281), .val (.int (Int32.ofNat (own_blk (own_v4 (0 : Int32) (0 : Int32) (own_p2 p0) (own_p3 p1)) (own_v4 (0 : Int32) (own_r1 p0) (own_r2 p0 p1) (own_r3 p0 p1 p2)) (p4 &&& (15 : Int32)) 4 s_)))] [])) _
        refine XS.iload X314.here hx rfl (hb hby at_237) rfl ?_
        show Steps p.tables e below (T314.setTop (mkF m 239 #[.val (.int p0), .val (.int p1), .val (.int p2), .val (.int p3), .val (.int p4), .val (.int (own_p2 p0)), .val (.int (own_p3 p1)), .val (.ref b3), .val (.ref b44), .val (.ref b90), .val (.ref b124), .val (.ref b190), .val (.int (0 : Int32)), .val (.int (own_b0 p3)), .val (.int (p4 &&& (15 : Int32))), .val (.ref b281), .val (.int (Int32.ofNat (own_blk (own_v4 (0 : Int32) (0 : Int32) (own_p2 p0) (own_p3 p1)) (own_v4 (0 : Int32) (own_r1 p0) (own_r2 p0 p1) (own_r3 p0 p1 p2)) (p4 &&& (15 : Int32)) 4 s_)))] [(.int (Int32.ofNat (own_blk (own_v4 (0 : Int32) (0 : Int32) (own_p2 p0) (own_p3 p1)) (own_v4 (0 : Int32) (own_r1 p0) (own_r2 p0 p1) (own_r3 p0 p1 p2)) (p4 &&& (15 : Int32)) 4 s_)))])) _
        refine XS.ifNo X314.here hx rfl (hb hby at_239) rfl ((if0 _ _).trans (flt (own_of0 (by have := hpl.1; omega))).1) ?_
        show Steps p.tables e below (T314.setTop (mkF m 242 #[.val (.int p0), .val (.int p1), .val (.int p2), .val (.int p3), .val (.int p4), .val (.int (own_p2 p0)), .val (.int (own_p3 p1)), .val (.ref b3), .val (.ref b44), .val (.ref b90), .val (.ref b124), .val (.ref b190), .val (.int (0 : Int32)), .val (.int (own_b0 p3)), .val (.int (p4 &&& (15 : Int32))), .val (.ref b281), .val (.int (Int32.ofNat (own_blk (own_v4 (0 : Int32) (0 : Int32) (own_p2 p0) (own_p3 p1)) (own_v4 (0 : Int32) (own_r1 p0) (own_r2 p0 p1) (own_r3 p0 p1 p2)) (p4 &&& (15 : Int32)) 4 s_)))] [])) _
        refine XS.iload X314.here hx rfl (hb hby at_242) rfl ?_
        show Steps p.tables e below (T314.setTop (mkF m 244 #[.val (.int p0), .val (.int p1), .val (.int p2), .val (.int p3), .val (.int p4), .val (.int (own_p2 p0)), .val (.int (own_p3 p1)), .val (.ref b3), .val (.ref b44), .val (.ref b90), .val (.ref b124), .val (.ref b190), .val (.int (0 : Int32)), .val (.int (own_b0 p3)), .val (.int (p4 &&& (15 : Int32))), .val (.ref b281), .val (.int (Int32.ofNat (own_blk (own_v4 (0 : Int32) (0 : Int32) (own_p2 p0) (own_p3 p1)) (own_v4 (0 : Int32) (own_r1 p0) (own_r2 p0 p1) (own_r3 p0 p1 p2)) (p4 &&& (15 : Int32)) 4 s_)))] [(.int (Int32.ofNat (own_blk (own_v4 (0 : Int32) (0 : Int32) (own_p2 p0) (own_p3 p1)) (own_v4 (0 : Int32) (own_r1 p0) (own_r2 p0 p1) (own_r3 p0 p1 p2)) (p4 &&& (15 : Int32)) 4 s_)))])) _
        refine XS.iconst X314.here hx rfl (hb hby at_244) ?_
        show Steps p.tables e below (T314.setTop (mkF m 245 #[.val (.int p0), .val (.int p1), .val (.int p2), .val (.int p3), .val (.int p4), .val (.int (own_p2 p0)), .val (.int (own_p3 p1)), .val (.ref b3), .val (.ref b44), .val (.ref b90), .val (.ref b124), .val (.ref b190), .val (.int (0 : Int32)), .val (.int (own_b0 p3)), .val (.int (p4 &&& (15 : Int32))), .val (.ref b281), .val (.int (Int32.ofNat (own_blk (own_v4 (0 : Int32) (0 : Int32) (own_p2 p0) (own_p3 p1)) (own_v4 (0 : Int32) (own_r1 p0) (own_r2 p0 p1) (own_r3 p0 p1 p2)) (p4 &&& (15 : Int32)) 4 s_)))] [(.int (3 : Int32)), (.int (Int32.ofNat (own_blk (own_v4 (0 : Int32) (0 : Int32) (own_p2 p0) (own_p3 p1)) (own_v4 (0 : Int32) (own_r1 p0) (own_r2 p0 p1) (own_r3 p0 p1 p2)) (p4 &&& (15 : Int32)) 4 s_)))])) _
        refine XS.icmpYes X314.here hx rfl (pc0 := 245) (pc' := 250) rfl (hb hby at_245) rfl (flt (own_le3 hpl.1)).2.2.2 (by decide) (by decide) ?_
        show Steps p.tables e below (T314.setTop (mkF m 250 #[.val (.int p0), .val (.int p1), .val (.int p2), .val (.int p3), .val (.int p4), .val (.int (own_p2 p0)), .val (.int (own_p3 p1)), .val (.ref b3), .val (.ref b44), .val (.ref b90), .val (.ref b124), .val (.ref b190), .val (.int (0 : Int32)), .val (.int (own_b0 p3)), .val (.int (p4 &&& (15 : Int32))), .val (.ref b281), .val (.int (Int32.ofNat (own_blk (own_v4 (0 : Int32) (0 : Int32) (own_p2 p0) (own_p3 p1)) (own_v4 (0 : Int32) (own_r1 p0) (own_r2 p0 p1) (own_r3 p0 p1 p2)) (p4 &&& (15 : Int32)) 4 s_)))] [])) _
        refine XS.iload X314.here hx rfl (hb hby at_250) rfl ?_
        show Steps p.tables e below (T314.setTop (mkF m 252 #[.val (.int p0), .val (.int p1), .val (.int p2), .val (.int p3), .val (.int p4), .val (.int (own_p2 p0)), .val (.int (own_p3 p1)), .val (.ref b3), .val (.ref b44), .val (.ref b90), .val (.ref b124), .val (.ref b190), .val (.int (0 : Int32)), .val (.int (own_b0 p3)), .val (.int (p4 &&& (15 : Int32))), .val (.ref b281), .val (.int (Int32.ofNat (own_blk (own_v4 (0 : Int32) (0 : Int32) (own_p2 p0) (own_p3 p1)) (own_v4 (0 : Int32) (own_r1 p0) (own_r2 p0 p1) (own_r3 p0 p1 p2)) (p4 &&& (15 : Int32)) 4 s_)))] [(.int (Int32.ofNat (own_blk (own_v4 (0 : Int32) (0 : Int32) (own_p2 p0) (own_p3 p1)) (own_v4 (0 : Int32) (own_r1 p0) (own_r2 p0 p1) (own_r3 p0 p1 p2)) (p4 &&& (15 : Int32)) 4 s_)))])) _
        refine XS.iload X314.here hx rfl (hb hby at_252) rfl ?_
        exact kt
      have zs319 : n0 ≤ T297.heap.size := Nat.le_trans Z0 k310.1
      obtain ⟨_, _, ⟨T320, L320, k320, n320⟩, -, X320, ⟨Lc320, hQ320, l320, y320, z320⟩, st320⟩ := Jvm.LawKit.callS X314 hx (y := (⟨"com/example/unfold/unfold/reduction/SplittingBlockAfterPinLaw", "anc", "(II[I)Z"⟩ : MethodName)) hown (mvT hZ (hw _ (List.mem_of_getElem? (i := 21) rfl))) (mvT hZ (hw _ (List.mem_of_getElem? (i := 22) rfl))) (mvT hZ (hw _ (List.mem_of_getElem? (i := 23) rfl))) (mvT hZ (hw _ (List.mem_of_getElem? (i := 24) rfl))) (by decide) (backOf (W := 0) (own_rm_anc l Z a0 hw [] (Int32.ofNat (own_blk (own_v4 (0 : Int32) (0 : Int32) (own_p2 p0) (own_p3 p1)) (own_v4 (0 : Int32) (own_r1 p0) (own_r2 p0 p1) (own_r3 p0 p1 p2)) (p4 &&& (15 : Int32)) 4 s_)) (own_b0 p3) b44 s_ (own_v4 (0 : Int32) (0 : Int32) (own_p2 p0) (own_p3 p1)) (own_v4 (0 : Int32) (own_r1 p0) (own_r2 p0 p1) (own_r3 p0 p1 p2)) T297.heap n0 zs319 f302 hs hs4 hT) hZ (hw _ (List.mem_of_getElem? (i := 24) rfl)) (hw _ (List.mem_of_getElem? (i := 23) rfl)) (by decide) (by decide)) (g := (mkF m 256 #[.val (.int p0), .val (.int p1), .val (.int p2), .val (.int p3), .val (.int p4), .val (.int (own_p2 p0)), .val (.int (own_p3 p1)), .val (.ref b3), .val (.ref b44), .val (.ref b90), .val (.ref b124), .val (.ref b190), .val (.int (0 : Int32)), .val (.int (own_b0 p3)), .val (.int (p4 &&& (15 : Int32))), .val (.ref b281), .val (.int (Int32.ofNat (own_blk (own_v4 (0 : Int32) (0 : Int32) (own_p2 p0) (own_p3 p1)) (own_v4 (0 : Int32) (own_r1 p0) (own_r2 p0 p1) (own_r3 p0 p1 p2)) (p4 &&& (15 : Int32)) 4 s_)))] [(.ref b44), (.int (own_b0 p3)), (.int (Int32.ofNat (own_blk (own_v4 (0 : Int32) (0 : Int32) (own_p2 p0) (own_p3 p1)) (own_v4 (0 : Int32) (own_r1 p0) (own_r2 p0 p1) (own_r3 p0 p1 p2)) (p4 &&& (15 : Int32)) 4 s_)))])) rfl (by rw [hml]; rfl) (argsL := [(.int (Int32.ofNat (own_blk (own_v4 (0 : Int32) (0 : Int32) (own_p2 p0) (own_p3 p1)) (own_v4 (0 : Int32) (own_r1 p0) (own_r2 p0 p1) (own_r3 p0 p1 p2)) (p4 &&& (15 : Int32)) 4 s_))), (.int (own_b0 p3)), (.ref b44)]) (rest := []) (lenOf own_pd0 rfl) rfl (by show 2 * 0 + _ ≤ _; exact Nat.le_of_eq rfl) (hb hby at_256) (fun _ _ => ⟨rfl, eq316, (by decide : 6 + 0 ≤ _), (by decide : 21 + 0 ≤ _)⟩)
      dsimp only [Pt.U, Pt.locs, Pt.cells, Pt.slots] at X320 l320 y320 z320 st320 hQ320
      rw [l320, (y320 : k320 = 6), (z320 : n320 = 21)] at X320
      clear l320 y320 z320
      obtain ⟨rfl, N321, eq321⟩ := hQ320
      have nf322 := Fr.app nf317 N321
      obtain ⟨cl323, Ar323, S323, H323⟩ := id f300
      have hin323 : ¬ ((Int32.ofNat (own_blk (own_v4 (0 : Int32) (0 : Int32) (own_p2 p0) (own_p3 p1)) (own_v4 (0 : Int32) (own_r1 p0) (own_r2 p0 p1) (own_r3 p0 p1 p2)) (p4 &&& (15 : Int32)) 4 s_)) < 0 ∨ cl323.slots.size ≤ ((Int32.ofNat (own_blk (own_v4 (0 : Int32) (0 : Int32) (own_p2 p0) (own_p3 p1)) (own_v4 (0 : Int32) (own_r1 p0) (own_r2 p0 p1) (own_r3 p0 p1 p2)) (p4 &&& (15 : Int32)) 4 s_))).toNatClampNeg) := own_inb S323 (own_of0 (by have := hpl.1; omega)) (by rw [own_ofN (by have := hpl.1; omega)]; exact hpl.1)
      have hat323 : cl323.slots[((Int32.ofNat (own_blk (own_v4 (0 : Int32) (0 : Int32) (own_p2 p0) (own_p3 p1)) (own_v4 (0 : Int32) (own_r1 p0) (own_r2 p0 p1) (own_r3 p0 p1 p2)) (p4 &&& (15 : Int32)) 4 s_))).toNatClampNeg]? = some (.int ((own_v4 (0 : Int32) (own_r1 p0) (own_r2 p0 p1) (own_r3 p0 p1 p2)) (own_blk (own_v4 (0 : Int32) (0 : Int32) (own_p2 p0) (own_p3 p1)) (own_v4 (0 : Int32) (own_r1 p0) (own_r2 p0 p1) (own_r3 p0 p1 p2)) (p4 &&& (15 : Int32)) 4 s_))) := (by rw [own_ofN (by have := hpl.1; omega)]; exact H323 _ hpl.1)
      have pre324 : ∀ t, Steps p.tables e below (T320.setTop (mkF m 283 #[.val (.int p0), .val (.int p1), .val (.int p2), .val (.int p3), .val (.int p4), .val (.int (own_p2 p0)), .val (.int (own_p3 p1)), .val (.ref b3), .val (.ref b44), .val (.ref b90), .val (.ref b124), .val (.ref b190), .val (.int (0 : Int32)), .val (.int (own_b0 p3)), .val (.int (p4 &&& (15 : Int32))), .val (.ref b281), .val (.int (Int32.ofNat (own_blk (own_v4 (0 : Int32) (0 : Int32) (own_p2 p0) (own_p3 p1)) (own_v4 (0 : Int32) (own_r1 p0) (own_r2 p0 p1) (own_r3 p0 p1 p2)) (p4 &&& (15 : Int32)) 4 s_)))] [(.ref b44), (.int (own_b0 p3)), (.int (Int32.ofNat (own_blk (own_v4 (0 : Int32) (0 : Int32) (own_p2 p0) (own_p3 p1)) (own_v4 (0 : Int32) (own_r1 p0) (own_r2 p0 p1) (own_r3 p0 p1 p2)) (p4 &&& (15 : Int32)) 4 s_))), (.int (0 : Int32))])) t → Steps p.tables e below (s₁.setTop (entryFrame m #[(.int p0), (.int p1), (.int p2), (.int p3), (.int p4)] maxLocals)) t := by
        intro t kt
        refine pre318 t ?_
        show Steps p.tables e below (T314.setTop (mkF m 254 #[.val (.int p0), .val (.int p1), .val (.int p2), .val (.int p3), .val (.int p4), .val (.int (own_p2 p0)), .val (.int (own_p3 p1)), .val (.ref b3), .val (.ref b44), .val (.ref b90), .val (.ref b124), .val (.ref b190), .val (.int (0 : Int32)), .val (.int (own_b0 p3)), .val (.int (p4 &&& (15 : Int32))), .val (.ref b281), .val (.int (Int32.ofNat (own_blk (own_v4 (0 : Int32) (0 : Int32) (own_p2 p0) (own_p3 p1)) (own_v4 (0 : Int32) (own_r1 p0) (own_r2 p0 p1) (own_r3 p0 p1 p2)) (p4 &&& (15 : Int32)) 4 s_)))] [(.int (own_b0 p3)), (.int (Int32.ofNat (own_blk (own_v4 (0 : Int32) (0 : Int32) (own_p2 p0) (own_p3 p1)) (own_v4 (0 : Int32) (own_r1 p0) (own_r2 p0 p1) (own_r3 p0 p1 p2)) (p4 &&& (15 : Int32)) 4 s_)))])) _
        refine XS.aload X314.here hx rfl (hb hby at_254) rfl rfl ?_
        show Steps p.tables e below (T314.setTop (mkF m 256 #[.val (.int p0), .val (.int p1), .val (.int p2), .val (.int p3), .val (.int p4), .val (.int (own_p2 p0)), .val (.int (own_p3 p1)), .val (.ref b3), .val (.ref b44), .val (.ref b90), .val (.ref b124), .val (.ref b190), .val (.int (0 : Int32)), .val (.int (own_b0 p3)), .val (.int (p4 &&& (15 : Int32))), .val (.ref b281), .val (.int (Int32.ofNat (own_blk (own_v4 (0 : Int32) (0 : Int32) (own_p2 p0) (own_p3 p1)) (own_v4 (0 : Int32) (own_r1 p0) (own_r2 p0 p1) (own_r3 p0 p1 p2)) (p4 &&& (15 : Int32)) 4 s_)))] [(.ref b44), (.int (own_b0 p3)), (.int (Int32.ofNat (own_blk (own_v4 (0 : Int32) (0 : Int32) (own_p2 p0) (own_p3 p1)) (own_v4 (0 : Int32) (own_r1 p0) (own_r2 p0 p1) (own_r3 p0 p1 p2)) (p4 &&& (15 : Int32)) 4 s_)))])) _
        refine st320 _ ?_
        show Steps p.tables e below (T320.setTop (mkF m 259 #[.val (.int p0), .val (.int p1), .val (.int p2), .val (.int p3), .val (.int p4), .val (.int (own_p2 p0)), .val (.int (own_p3 p1)), .val (.ref b3), .val (.ref b44), .val (.ref b90), .val (.ref b124), .val (.ref b190), .val (.int (0 : Int32)), .val (.int (own_b0 p3)), .val (.int (p4 &&& (15 : Int32))), .val (.ref b281), .val (.int (Int32.ofNat (own_blk (own_v4 (0 : Int32) (0 : Int32) (own_p2 p0) (own_p3 p1)) (own_v4 (0 : Int32) (own_r1 p0) (own_r2 p0 p1) (own_r3 p0 p1 p2)) (p4 &&& (15 : Int32)) 4 s_)))] [(.int (own_anc (own_v4 (0 : Int32) (0 : Int32) (own_p2 p0) (own_p3 p1)) (Int32.ofNat (own_blk (own_v4 (0 : Int32) (0 : Int32) (own_p2 p0) (own_p3 p1)) (own_v4 (0 : Int32) (own_r1 p0) (own_r2 p0 p1) (own_r3 p0 p1 p2)) (p4 &&& (15 : Int32)) 4 s_)) s_))])) _
        refine XS.ifYes X320.here hx rfl (pc0 := 259) (pc' := 264) rfl (hb hby at_259) rfl ((if0 _ _).trans (feq (by rw [hpl.2.1]; decide)).2) (by decide) (by decide) ?_
        show Steps p.tables e below (T320.setTop (mkF m 264 #[.val (.int p0), .val (.int p1), .val (.int p2), .val (.int p3), .val (.int p4), .val (.int (own_p2 p0)), .val (.int (own_p3 p1)), .val (.ref b3), .val (.ref b44), .val (.ref b90), .val (.ref b124), .val (.ref b190), .val (.int (0 : Int32)), .val (.int (own_b0 p3)), .val (.int (p4 &&& (15 : Int32))), .val (.ref b281), .val (.int (Int32.ofNat (own_blk (own_v4 (0 : Int32) (0 : Int32) (own_p2 p0) (own_p3 p1)) (own_v4 (0 : Int32) (own_r1 p0) (own_r2 p0 p1) (own_r3 p0 p1 p2)) (p4 &&& (15 : Int32)) 4 s_)))] [])) _
        refine XS.aload X320.here hx rfl (hb hby at_264) rfl rfl ?_
        show Steps p.tables e below (T320.setTop (mkF m 266 #[.val (.int p0), .val (.int p1), .val (.int p2), .val (.int p3), .val (.int p4), .val (.int (own_p2 p0)), .val (.int (own_p3 p1)), .val (.ref b3), .val (.ref b44), .val (.ref b90), .val (.ref b124), .val (.ref b190), .val (.int (0 : Int32)), .val (.int (own_b0 p3)), .val (.int (p4 &&& (15 : Int32))), .val (.ref b281), .val (.int (Int32.ofNat (own_blk (own_v4 (0 : Int32) (0 : Int32) (own_p2 p0) (own_p3 p1)) (own_v4 (0 : Int32) (own_r1 p0) (own_r2 p0 p1) (own_r3 p0 p1 p2)) (p4 &&& (15 : Int32)) 4 s_)))] [(.ref b3)])) _
        refine XS.iload X320.here hx rfl (hb hby at_266) rfl ?_
        show Steps p.tables e below (T320.setTop (mkF m 268 #[.val (.int p0), .val (.int p1), .val (.int p2), .val (.int p3), .val (.int p4), .val (.int (own_p2 p0)), .val (.int (own_p3 p1)), .val (.ref b3), .val (.ref b44), .val (.ref b90), .val (.ref b124), .val (.ref b190), .val (.int (0 : Int32)), .val (.int (own_b0 p3)), .val (.int (p4 &&& (15 : Int32))), .val (.ref b281), .val (.int (Int32.ofNat (own_blk (own_v4 (0 : Int32) (0 : Int32) (own_p2 p0) (own_p3 p1)) (own_v4 (0 : Int32) (own_r1 p0) (own_r2 p0 p1) (own_r3 p0 p1 p2)) (p4 &&& (15 : Int32)) 4 s_)))] [(.int (Int32.ofNat (own_blk (own_v4 (0 : Int32) (0 : Int32) (own_p2 p0) (own_p3 p1)) (own_v4 (0 : Int32) (own_r1 p0) (own_r2 p0 p1) (own_r3 p0 p1 p2)) (p4 &&& (15 : Int32)) 4 s_))), (.ref b3)])) _
        refine X320.iaload hx (j := (Int32.ofNat (own_blk (own_v4 (0 : Int32) (0 : Int32) (own_p2 p0) (own_p3 p1)) (own_v4 (0 : Int32) (own_r1 p0) (own_r2 p0 p1) (own_r3 p0 p1 p2)) (p4 &&& (15 : Int32)) 4 s_))) (v := (.int ((own_v4 (0 : Int32) (own_r1 p0) (own_r2 p0 p1) (own_r3 p0 p1 p2)) (own_blk (own_v4 (0 : Int32) (0 : Int32) (own_p2 p0) (own_p3 p1)) (own_v4 (0 : Int32) (own_r1 p0) (own_r2 p0 p1) (own_r3 p0 p1 p2)) (p4 &&& (15 : Int32)) 4 s_)))) (by rw [eq321]; exact Ar323.1) (State.isArrayOf_alike hZ.alike Ar323.2.1) Ar323.2.2 hin323 hat323 (g := (mkF m 268 #[.val (.int p0), .val (.int p1), .val (.int p2), .val (.int p3), .val (.int p4), .val (.int (own_p2 p0)), .val (.int (own_p3 p1)), .val (.ref b3), .val (.ref b44), .val (.ref b90), .val (.ref b124), .val (.ref b190), .val (.int (0 : Int32)), .val (.int (own_b0 p3)), .val (.int (p4 &&& (15 : Int32))), .val (.ref b281), .val (.int (Int32.ofNat (own_blk (own_v4 (0 : Int32) (0 : Int32) (own_p2 p0) (own_p3 p1)) (own_v4 (0 : Int32) (own_r1 p0) (own_r2 p0 p1) (own_r3 p0 p1 p2)) (p4 &&& (15 : Int32)) 4 s_)))] [(.int (Int32.ofNat (own_blk (own_v4 (0 : Int32) (0 : Int32) (own_p2 p0) (own_p3 p1)) (own_v4 (0 : Int32) (own_r1 p0) (own_r2 p0 p1) (own_r3 p0 p1 p2)) (p4 &&& (15 : Int32)) 4 s_))), (.ref b3)])) rfl rfl (hb hby at_268) _ ?_
        show Steps p.tables e below (T320.setTop (mkF m 269 #[.val (.int p0), .val (.int p1), .val (.int p2), .val (.int p3), .val (.int p4), .val (.int (own_p2 p0)), .val (.int (own_p3 p1)), .val (.ref b3), .val (.ref b44), .val (.ref b90), .val (.ref b124), .val (.ref b190), .val (.int (0 : Int32)), .val (.int (own_b0 p3)), .val (.int (p4 &&& (15 : Int32))), .val (.ref b281), .val (.int (Int32.ofNat (own_blk (own_v4 (0 : Int32) (0 : Int32) (own_p2 p0) (own_p3 p1)) (own_v4 (0 : Int32) (own_r1 p0) (own_r2 p0 p1) (own_r3 p0 p1 p2)) (p4 &&& (15 : Int32)) 4 s_)))] [(.int ((own_v4 (0 : Int32) (own_r1 p0) (own_r2 p0 p1) (own_r3 p0 p1 p2)) (own_blk (own_v4 (0 : Int32) (0 : Int32) (own_p2 p0) (own_p3 p1)) (own_v4 (0 : Int32) (own_r1 p0) (own_r2 p0 p1) (own_r3 p0 p1 p2)) (p4 &&& (15 : Int32)) 4 s_)))])) _
        refine XS.iload X320.here hx rfl (hb hby at_269) rfl ?_
        show Steps p.tables e below (T320.setTop (mkF m 271 #[.val (.int p0), .val (.int p1), .val (.int p2), .val (.int p3), .val (.int p4), .val (.int (own_p2 p0)), .val (.int (own_p3 p1)), .val (.ref b3), .val (.ref b44), .val (.ref b90), .val (.ref b124), .val (.ref b190), .val (.int (0 : Int32)), .val (.int (own_b0 p3)), .val (.int (p4 &&& (15 : Int32))), .val (.ref b281), .val (.int (Int32.ofNat (own_blk (own_v4 (0 : Int32) (0 : Int32) (own_p2 p0) (own_p3 p1)) (own_v4 (0 : Int32) (own_r1 p0) (own_r2 p0 p1) (own_r3 p0 p1 p2)) (p4 &&& (15 : Int32)) 4 s_)))] [(.int (p4 &&& (15 : Int32))), (.int ((own_v4 (0 : Int32) (own_r1 p0) (own_r2 p0 p1) (own_r3 p0 p1 p2)) (own_blk (own_v4 (0 : Int32) (0 : Int32) (own_p2 p0) (own_p3 p1)) (own_v4 (0 : Int32) (own_r1 p0) (own_r2 p0 p1) (own_r3 p0 p1 p2)) (p4 &&& (15 : Int32)) 4 s_)))])) _
        refine XS.icmpYes X320.here hx rfl (pc0 := 271) (pc' := 276) rfl (hb hby at_271) rfl (flt hpl.2.2.1).2.2.2 (by decide) (by decide) ?_
        show Steps p.tables e below (T320.setTop (mkF m 276 #[.val (.int p0), .val (.int p1), .val (.int p2), .val (.int p3), .val (.int p4), .val (.int (own_p2 p0)), .val (.int (own_p3 p1)), .val (.ref b3), .val (.ref b44), .val (.ref b90), .val (.ref b124), .val (.ref b190), .val (.int (0 : Int32)), .val (.int (own_b0 p3)), .val (.int (p4 &&& (15 : Int32))), .val (.ref b281), .val (.int (Int32.ofNat (own_blk (own_v4 (0 : Int32) (0 : Int32) (own_p2 p0) (own_p3 p1)) (own_v4 (0 : Int32) (own_r1 p0) (own_r2 p0 p1) (own_r3 p0 p1 p2)) (p4 &&& (15 : Int32)) 4 s_)))] [])) _
        refine XS.iconst X320.here hx rfl (hb hby at_276) ?_
        show Steps p.tables e below (T320.setTop (mkF m 277 #[.val (.int p0), .val (.int p1), .val (.int p2), .val (.int p3), .val (.int p4), .val (.int (own_p2 p0)), .val (.int (own_p3 p1)), .val (.ref b3), .val (.ref b44), .val (.ref b90), .val (.ref b124), .val (.ref b190), .val (.int (0 : Int32)), .val (.int (own_b0 p3)), .val (.int (p4 &&& (15 : Int32))), .val (.ref b281), .val (.int (Int32.ofNat (own_blk (own_v4 (0 : Int32) (0 : Int32) (own_p2 p0) (own_p3 p1)) (own_v4 (0 : Int32) (own_r1 p0) (own_r2 p0 p1) (own_r3 p0 p1 p2)) (p4 &&& (15 : Int32)) 4 s_)))] [(.int (0 : Int32))])) _
        refine XS.iload X320.here hx rfl (hb hby at_277) rfl ?_
        show Steps p.tables e below (T320.setTop (mkF m 279 #[.val (.int p0), .val (.int p1), .val (.int p2), .val (.int p3), .val (.int p4), .val (.int (own_p2 p0)), .val (.int (own_p3 p1)), .val (.ref b3), .val (.ref b44), .val (.ref b90), .val (.ref b124), .val (.ref b190), .val (.int (0 : Int32)), .val (.int (own_b0 p3)), .val (.int (p4 &&& (15 : Int32))), .val (.ref b281), .val (.int (Int32.ofNat (own_blk (own_v4 (0 : Int32) (0 : Int32) (own_p2 p0) (own_p3 p1)) (own_v4 (0 : Int32) (own_r1 p0) (own_r2 p0 p1) (own_r3 p0 p1 p2)) (p4 &&& (15 : Int32)) 4 s_)))] [(.int (Int32.ofNat (own_blk (own_v4 (0 : Int32) (0 : Int32) (own_p2 p0) (own_p3 p1)) (own_v4 (0 : Int32) (own_r1 p0) (own_r2 p0 p1) (own_r3 p0 p1 p2)) (p4 &&& (15 : Int32)) 4 s_))), (.int (0 : Int32))])) _
        refine XS.iload X320.here hx rfl (hb hby at_279) rfl ?_
        show Steps p.tables e below (T320.setTop (mkF m 281 #[.val (.int p0), .val (.int p1), .val (.int p2), .val (.int p3), .val (.int p4), .val (.int (own_p2 p0)), .val (.int (own_p3 p1)), .val (.ref b3), .val (.ref b44), .val (.ref b90), .val (.ref b124), .val (.ref b190), .val (.int (0 : Int32)), .val (.int (own_b0 p3)), .val (.int (p4 &&& (15 : Int32))), .val (.ref b281), .val (.int (Int32.ofNat (own_blk (own_v4 (0 : Int32) (0 : Int32) (own_p2 p0) (own_p3 p1)) (own_v4 (0 : Int32) (own_r1 p0) (own_r2 p0 p1) (own_r3 p0 p1 p2)) (p4 &&& (15 : Int32)) 4 s_)))] [(.int (own_b0 p3)), (.int (Int32.ofNat (own_blk (own_v4 (0 : Int32) (0 : Int32) (own_p2 p0) (own_p3 p1)) (own_v4 (0 : Int32) (own_r1 p0) (own_r2 p0 p1) (own_r3 p0 p1 p2)) (p4 &&& (15 : Int32)) 4 s_))), (.int (0 : Int32))])) _
        refine XS.aload X320.here hx rfl (hb hby at_281) rfl rfl ?_
        exact kt
      have zs325 : n0 ≤ T297.heap.size := Nat.le_trans Z0 k310.1
      obtain ⟨_, _, ⟨T326, L326, k326, n326⟩, -, X326, ⟨Lc326, hQ326, l326, y326, z326⟩, st326⟩ := Jvm.LawKit.callS X320 hx (y := (⟨"com/example/unfold/unfold/reduction/SplittingBlockAfterPinLaw", "ok", "(III[I[II)Z"⟩ : MethodName)) hown (mvT hZ (hw _ (List.mem_of_getElem? (i := 25) rfl))) (mvT hZ (hw _ (List.mem_of_getElem? (i := 26) rfl))) (mvT hZ (hw _ (List.mem_of_getElem? (i := 23) rfl))) (mvT hZ (hw _ (List.mem_of_getElem? (i := 27) rfl))) (by decide) (backOf (W := 0) (own_rm_ok l Z a0 hw [] (0 : Int32) (Int32.ofNat (own_blk (own_v4 (0 : Int32) (0 : Int32) (own_p2 p0) (own_p3 p1)) (own_v4 (0 : Int32) (own_r1 p0) (own_r2 p0 p1) (own_r3 p0 p1 p2)) (p4 &&& (15 : Int32)) 4 s_)) (own_b0 p3) b44 b3 (p4 &&& (15 : Int32)) 0 (own_blk (own_v4 (0 : Int32) (0 : Int32) (own_p2 p0) (own_p3 p1)) (own_v4 (0 : Int32) (own_r1 p0) (own_r2 p0 p1) (own_r3 p0 p1 p2)) (p4 &&& (15 : Int32)) 4 s_) s_ (own_v4 (0 : Int32) (0 : Int32) (own_p2 p0) (own_p3 p1)) (own_v4 (0 : Int32) (own_r1 p0) (own_r2 p0 p1) (own_r3 p0 p1 p2)) T297.heap n0 zs325 f302 f300 rfl (by decide) rfl hpl.1 hs hs4 hT (hpl.2.2.2 0 (by decide))) hZ (hw _ (List.mem_of_getElem? (i := 27) rfl)) (hw _ (List.mem_of_getElem? (i := 23) rfl)) (by decide) (by decide)) (g := (mkF m 287 #[.val (.int p0), .val (.int p1), .val (.int p2), .val (.int p3), .val (.int p4), .val (.int (own_p2 p0)), .val (.int (own_p3 p1)), .val (.ref b3), .val (.ref b44), .val (.ref b90), .val (.ref b124), .val (.ref b190), .val (.int (0 : Int32)), .val (.int (own_b0 p3)), .val (.int (p4 &&& (15 : Int32))), .val (.ref b281), .val (.int (Int32.ofNat (own_blk (own_v4 (0 : Int32) (0 : Int32) (own_p2 p0) (own_p3 p1)) (own_v4 (0 : Int32) (own_r1 p0) (own_r2 p0 p1) (own_r3 p0 p1 p2)) (p4 &&& (15 : Int32)) 4 s_)))] [(.int (p4 &&& (15 : Int32))), (.ref b3), (.ref b44), (.int (own_b0 p3)), (.int (Int32.ofNat (own_blk (own_v4 (0 : Int32) (0 : Int32) (own_p2 p0) (own_p3 p1)) (own_v4 (0 : Int32) (own_r1 p0) (own_r2 p0 p1) (own_r3 p0 p1 p2)) (p4 &&& (15 : Int32)) 4 s_))), (.int (0 : Int32))])) rfl (by rw [hml]; rfl) (argsL := [(.int (0 : Int32)), (.int (Int32.ofNat (own_blk (own_v4 (0 : Int32) (0 : Int32) (own_p2 p0) (own_p3 p1)) (own_v4 (0 : Int32) (own_r1 p0) (own_r2 p0 p1) (own_r3 p0 p1 p2)) (p4 &&& (15 : Int32)) 4 s_))), (.int (own_b0 p3)), (.ref b44), (.ref b3), (.int (p4 &&& (15 : Int32)))]) (rest := []) (lenOf own_pd3 rfl) rfl (by show 2 * 0 + _ ≤ _; exact Nat.le_of_eq rfl) (hb hby at_287) (fun _ _ => ⟨rfl, eq321, (by decide : 6 + 0 ≤ _), (by decide : 21 + 0 ≤ _)⟩)
      dsimp only [Pt.U, Pt.locs, Pt.cells, Pt.slots] at X326 l326 y326 z326 st326 hQ326
      rw [l326, (y326 : k326 = 6), (z326 : n326 = 21)] at X326
      clear l326 y326 z326
      obtain ⟨rfl, N327, eq327⟩ := hQ326
      have nf328 := Fr.app nf322 N327
      have zs329 : n0 ≤ T297.heap.size := Nat.le_trans Z0 k310.1
      obtain ⟨_, _, ⟨T330, L330, k330, n330⟩, -, X330, ⟨Lc330, hQ330, l330, y330, z330⟩, st330⟩ := Jvm.LawKit.callS X326 hx (y := (⟨"com/example/unfold/unfold/reduction/SplittingBlockAfterPinLaw", "ok", "(III[I[II)Z"⟩ : MethodName)) hown (mvT hZ (hw _ (List.mem_of_getElem? (i := 25) rfl))) (mvT hZ (hw _ (List.mem_of_getElem? (i := 26) rfl))) (mvT hZ (hw _ (List.mem_of_getElem? (i := 23) rfl))) (mvT hZ (hw _ (List.mem_of_getElem? (i := 27) rfl))) (by decide) (backOf (W := 0) (own_rm_ok l Z a0 hw [] (1 : Int32) (Int32.ofNat (own_blk (own_v4 (0 : Int32) (0 : Int32) (own_p2 p0) (own_p3 p1)) (own_v4 (0 : Int32) (own_r1 p0) (own_r2 p0 p1) (own_r3 p0 p1 p2)) (p4 &&& (15 : Int32)) 4 s_)) (own_b0 p3) b44 b3 (p4 &&& (15 : Int32)) 1 (own_blk (own_v4 (0 : Int32) (0 : Int32) (own_p2 p0) (own_p3 p1)) (own_v4 (0 : Int32) (own_r1 p0) (own_r2 p0 p1) (own_r3 p0 p1 p2)) (p4 &&& (15 : Int32)) 4 s_) s_ (own_v4 (0 : Int32) (0 : Int32) (own_p2 p0) (own_p3 p1)) (own_v4 (0 : Int32) (own_r1 p0) (own_r2 p0 p1) (own_r3 p0 p1 p2)) T297.heap n0 zs329 f302 f300 rfl (by decide) rfl hpl.1 hs hs4 hT (hpl.2.2.2 1 (by decide))) hZ (hw _ (List.mem_of_getElem? (i := 27) rfl)) (hw _ (List.mem_of_getElem? (i := 23) rfl)) (by decide) (by decide)) (g := (mkF m 304 #[.val (.int p0), .val (.int p1), .val (.int p2), .val (.int p3), .val (.int p4), .val (.int (own_p2 p0)), .val (.int (own_p3 p1)), .val (.ref b3), .val (.ref b44), .val (.ref b90), .val (.ref b124), .val (.ref b190), .val (.int (0 : Int32)), .val (.int (own_b0 p3)), .val (.int (p4 &&& (15 : Int32))), .val (.ref b281), .val (.int (Int32.ofNat (own_blk (own_v4 (0 : Int32) (0 : Int32) (own_p2 p0) (own_p3 p1)) (own_v4 (0 : Int32) (own_r1 p0) (own_r2 p0 p1) (own_r3 p0 p1 p2)) (p4 &&& (15 : Int32)) 4 s_)))] [(.int (p4 &&& (15 : Int32))), (.ref b3), (.ref b44), (.int (own_b0 p3)), (.int (Int32.ofNat (own_blk (own_v4 (0 : Int32) (0 : Int32) (own_p2 p0) (own_p3 p1)) (own_v4 (0 : Int32) (own_r1 p0) (own_r2 p0 p1) (own_r3 p0 p1 p2)) (p4 &&& (15 : Int32)) 4 s_))), (.int (1 : Int32))])) rfl (by rw [hml]; rfl) (argsL := [(.int (1 : Int32)), (.int (Int32.ofNat (own_blk (own_v4 (0 : Int32) (0 : Int32) (own_p2 p0) (own_p3 p1)) (own_v4 (0 : Int32) (own_r1 p0) (own_r2 p0 p1) (own_r3 p0 p1 p2)) (p4 &&& (15 : Int32)) 4 s_))), (.int (own_b0 p3)), (.ref b44), (.ref b3), (.int (p4 &&& (15 : Int32)))]) (rest := []) (lenOf own_pd3 rfl) rfl (by show 2 * 0 + _ ≤ _; exact Nat.le_of_eq rfl) (hb hby at_304) (fun _ _ => ⟨rfl, eq327, (by decide : 6 + 0 ≤ _), (by decide : 21 + 0 ≤ _)⟩)
      dsimp only [Pt.U, Pt.locs, Pt.cells, Pt.slots] at X330 l330 y330 z330 st330 hQ330
      rw [l330, (y330 : k330 = 6), (z330 : n330 = 21)] at X330
      clear l330 y330 z330
      obtain ⟨rfl, N331, eq331⟩ := hQ330
      have nf332 := Fr.app nf328 N331
      have pre333 : ∀ t, Steps p.tables e below (T330.setTop (mkF m 310 #[.val (.int p0), .val (.int p1), .val (.int p2), .val (.int p3), .val (.int p4), .val (.int (own_p2 p0)), .val (.int (own_p3 p1)), .val (.ref b3), .val (.ref b44), .val (.ref b90), .val (.ref b124), .val (.ref b190), .val (.int (0 : Int32)), .val (.int (own_b0 p3)), .val (.int (p4 &&& (15 : Int32))), .val (.ref b281), .val (.int (Int32.ofNat (own_blk (own_v4 (0 : Int32) (0 : Int32) (own_p2 p0) (own_p3 p1)) (own_v4 (0 : Int32) (own_r1 p0) (own_r2 p0 p1) (own_r3 p0 p1 p2)) (p4 &&& (15 : Int32)) 4 s_)))] [])) t → Steps p.tables e below (s₁.setTop (entryFrame m #[(.int p0), (.int p1), (.int p2), (.int p3), (.int p4)] maxLocals)) t := by
        intro t kt
        refine pre324 t ?_
        show Steps p.tables e below (T320.setTop (mkF m 283 #[.val (.int p0), .val (.int p1), .val (.int p2), .val (.int p3), .val (.int p4), .val (.int (own_p2 p0)), .val (.int (own_p3 p1)), .val (.ref b3), .val (.ref b44), .val (.ref b90), .val (.ref b124), .val (.ref b190), .val (.int (0 : Int32)), .val (.int (own_b0 p3)), .val (.int (p4 &&& (15 : Int32))), .val (.ref b281), .val (.int (Int32.ofNat (own_blk (own_v4 (0 : Int32) (0 : Int32) (own_p2 p0) (own_p3 p1)) (own_v4 (0 : Int32) (own_r1 p0) (own_r2 p0 p1) (own_r3 p0 p1 p2)) (p4 &&& (15 : Int32)) 4 s_)))] [(.ref b44), (.int (own_b0 p3)), (.int (Int32.ofNat (own_blk (own_v4 (0 : Int32) (0 : Int32) (own_p2 p0) (own_p3 p1)) (own_v4 (0 : Int32) (own_r1 p0) (own_r2 p0 p1) (own_r3 p0 p1 p2)) (p4 &&& (15 : Int32)) 4 s_))), (.int (0 : Int32))])) _
        refine XS.aload X320.here hx rfl (hb hby at_283) rfl rfl ?_
        show Steps p.tables e below (T320.setTop (mkF m 285 #[.val (.int p0), .val (.int p1), .val (.int p2), .val (.int p3), .val (.int p4), .val (.int (own_p2 p0)), .val (.int (own_p3 p1)), .val (.ref b3), .val (.ref b44), .val (.ref b90), .val (.ref b124), .val (.ref b190), .val (.int (0 : Int32)), .val (.int (own_b0 p3)), .val (.int (p4 &&& (15 : Int32))), .val (.ref b281), .val (.int (Int32.ofNat (own_blk (own_v4 (0 : Int32) (0 : Int32) (own_p2 p0) (own_p3 p1)) (own_v4 (0 : Int32) (own_r1 p0) (own_r2 p0 p1) (own_r3 p0 p1 p2)) (p4 &&& (15 : Int32)) 4 s_)))] [(.ref b3), (.ref b44), (.int (own_b0 p3)), (.int (Int32.ofNat (own_blk (own_v4 (0 : Int32) (0 : Int32) (own_p2 p0) (own_p3 p1)) (own_v4 (0 : Int32) (own_r1 p0) (own_r2 p0 p1) (own_r3 p0 p1 p2)) (p4 &&& (15 : Int32)) 4 s_))), (.int (0 : Int32))])) _
        refine XS.iload X320.here hx rfl (hb hby at_285) rfl ?_
        show Steps p.tables e below (T320.setTop (mkF m 287 #[.val (.int p0), .val (.int p1), .val (.int p2), .val (.int p3), .val (.int p4), .val (.int (own_p2 p0)), .val (.int (own_p3 p1)), .val (.ref b3), .val (.ref b44), .val (.ref b90), .val (.ref b124), .val (.ref b190), .val (.int (0 : Int32)), .val (.int (own_b0 p3)), .val (.int (p4 &&& (15 : Int32))), .val (.ref b281), .val (.int (Int32.ofNat (own_blk (own_v4 (0 : Int32) (0 : Int32) (own_p2 p0) (own_p3 p1)) (own_v4 (0 : Int32) (own_r1 p0) (own_r2 p0 p1) (own_r3 p0 p1 p2)) (p4 &&& (15 : Int32)) 4 s_)))] [(.int (p4 &&& (15 : Int32))), (.ref b3), (.ref b44), (.int (own_b0 p3)), (.int (Int32.ofNat (own_blk (own_v4 (0 : Int32) (0 : Int32) (own_p2 p0) (own_p3 p1)) (own_v4 (0 : Int32) (own_r1 p0) (own_r2 p0 p1) (own_r3 p0 p1 p2)) (p4 &&& (15 : Int32)) 4 s_))), (.int (0 : Int32))])) _
        refine st326 _ ?_
        show Steps p.tables e below (T326.setTop (mkF m 290 #[.val (.int p0), .val (.int p1), .val (.int p2), .val (.int p3), .val (.int p4), .val (.int (own_p2 p0)), .val (.int (own_p3 p1)), .val (.ref b3), .val (.ref b44), .val (.ref b90), .val (.ref b124), .val (.ref b190), .val (.int (0 : Int32)), .val (.int (own_b0 p3)), .val (.int (p4 &&& (15 : Int32))), .val (.ref b281), .val (.int (Int32.ofNat (own_blk (own_v4 (0 : Int32) (0 : Int32) (own_p2 p0) (own_p3 p1)) (own_v4 (0 : Int32) (own_r1 p0) (own_r2 p0 p1) (own_r3 p0 p1 p2)) (p4 &&& (15 : Int32)) 4 s_)))] [(.int (1 : Int32))])) _
        refine XS.ifNo X326.here hx rfl (hb hby at_290) rfl ((if0 _ _).trans (feq (by decide : ¬ ((1 : Int32) = (0 : Int32)))).1) ?_
        show Steps p.tables e below (T326.setTop (mkF m 293 #[.val (.int p0), .val (.int p1), .val (.int p2), .val (.int p3), .val (.int p4), .val (.int (own_p2 p0)), .val (.int (own_p3 p1)), .val (.ref b3), .val (.ref b44), .val (.ref b90), .val (.ref b124), .val (.ref b190), .val (.int (0 : Int32)), .val (.int (own_b0 p3)), .val (.int (p4 &&& (15 : Int32))), .val (.ref b281), .val (.int (Int32.ofNat (own_blk (own_v4 (0 : Int32) (0 : Int32) (own_p2 p0) (own_p3 p1)) (own_v4 (0 : Int32) (own_r1 p0) (own_r2 p0 p1) (own_r3 p0 p1 p2)) (p4 &&& (15 : Int32)) 4 s_)))] [])) _
        refine XS.iconst X326.here hx rfl (hb hby at_293) ?_
        show Steps p.tables e below (T326.setTop (mkF m 294 #[.val (.int p0), .val (.int p1), .val (.int p2), .val (.int p3), .val (.int p4), .val (.int (own_p2 p0)), .val (.int (own_p3 p1)), .val (.ref b3), .val (.ref b44), .val (.ref b90), .val (.ref b124), .val (.ref b190), .val (.int (0 : Int32)), .val (.int (own_b0 p3)), .val (.int (p4 &&& (15 : Int32))), .val (.ref b281), .val (.int (Int32.ofNat (own_blk (own_v4 (0 : Int32) (0 : Int32) (own_p2 p0) (own_p3 p1)) (own_v4 (0 : Int32) (own_r1 p0) (own_r2 p0 p1) (own_r3 p0 p1 p2)) (p4 &&& (15 : Int32)) 4 s_)))] [(.int (1 : Int32))])) _
        refine XS.iload X326.here hx rfl (hb hby at_294) rfl ?_
        show Steps p.tables e below (T326.setTop (mkF m 296 #[.val (.int p0), .val (.int p1), .val (.int p2), .val (.int p3), .val (.int p4), .val (.int (own_p2 p0)), .val (.int (own_p3 p1)), .val (.ref b3), .val (.ref b44), .val (.ref b90), .val (.ref b124), .val (.ref b190), .val (.int (0 : Int32)), .val (.int (own_b0 p3)), .val (.int (p4 &&& (15 : Int32))), .val (.ref b281), .val (.int (Int32.ofNat (own_blk (own_v4 (0 : Int32) (0 : Int32) (own_p2 p0) (own_p3 p1)) (own_v4 (0 : Int32) (own_r1 p0) (own_r2 p0 p1) (own_r3 p0 p1 p2)) (p4 &&& (15 : Int32)) 4 s_)))] [(.int (Int32.ofNat (own_blk (own_v4 (0 : Int32) (0 : Int32) (own_p2 p0) (own_p3 p1)) (own_v4 (0 : Int32) (own_r1 p0) (own_r2 p0 p1) (own_r3 p0 p1 p2)) (p4 &&& (15 : Int32)) 4 s_))), (.int (1 : Int32))])) _
        refine XS.iload X326.here hx rfl (hb hby at_296) rfl ?_
        show Steps p.tables e below (T326.setTop (mkF m 298 #[.val (.int p0), .val (.int p1), .val (.int p2), .val (.int p3), .val (.int p4), .val (.int (own_p2 p0)), .val (.int (own_p3 p1)), .val (.ref b3), .val (.ref b44), .val (.ref b90), .val (.ref b124), .val (.ref b190), .val (.int (0 : Int32)), .val (.int (own_b0 p3)), .val (.int (p4 &&& (15 : Int32))), .val (.ref b281), .val (.int (Int32.ofNat (own_blk (own_v4 (0 : Int32) (0 : Int32) (own_p2 p0) (own_p3 p1)) (own_v4 (0 : Int32) (own_r1 p0) (own_r2 p0 p1) (own_r3 p0 p1 p2)) (p4 &&& (15 : Int32)) 4 s_)))] [(.int (own_b0 p3)), (.int (Int32.ofNat (own_blk (own_v4 (0 : Int32) (0 : Int32) (own_p2 p0) (own_p3 p1)) (own_v4 (0 : Int32) (own_r1 p0) (own_r2 p0 p1) (own_r3 p0 p1 p2)) (p4 &&& (15 : Int32)) 4 s_))), (.int (1 : Int32))])) _
        refine XS.aload X326.here hx rfl (hb hby at_298) rfl rfl ?_
        show Steps p.tables e below (T326.setTop (mkF m 300 #[.val (.int p0), .val (.int p1), .val (.int p2), .val (.int p3), .val (.int p4), .val (.int (own_p2 p0)), .val (.int (own_p3 p1)), .val (.ref b3), .val (.ref b44), .val (.ref b90), .val (.ref b124), .val (.ref b190), .val (.int (0 : Int32)), .val (.int (own_b0 p3)), .val (.int (p4 &&& (15 : Int32))), .val (.ref b281), .val (.int (Int32.ofNat (own_blk (own_v4 (0 : Int32) (0 : Int32) (own_p2 p0) (own_p3 p1)) (own_v4 (0 : Int32) (own_r1 p0) (own_r2 p0 p1) (own_r3 p0 p1 p2)) (p4 &&& (15 : Int32)) 4 s_)))] [(.ref b44), (.int (own_b0 p3)), (.int (Int32.ofNat (own_blk (own_v4 (0 : Int32) (0 : Int32) (own_p2 p0) (own_p3 p1)) (own_v4 (0 : Int32) (own_r1 p0) (own_r2 p0 p1) (own_r3 p0 p1 p2)) (p4 &&& (15 : Int32)) 4 s_))), (.int (1 : Int32))])) _
        refine XS.aload X326.here hx rfl (hb hby at_300) rfl rfl ?_
        show Steps p.tables e below (T326.setTop (mkF m 302 #[.val (.int p0), .val (.int p1), .val (.int p2), .val (.int p3), .val (.int p4), .val (.int (own_p2 p0)), .val (.int (own_p3 p1)), .val (.ref b3), .val (.ref b44), .val (.ref b90), .val (.ref b124), .val (.ref b190), .val (.int (0 : Int32)), .val (.int (own_b0 p3)), .val (.int (p4 &&& (15 : Int32))), .val (.ref b281), .val (.int (Int32.ofNat (own_blk (own_v4 (0 : Int32) (0 : Int32) (own_p2 p0) (own_p3 p1)) (own_v4 (0 : Int32) (own_r1 p0) (own_r2 p0 p1) (own_r3 p0 p1 p2)) (p4 &&& (15 : Int32)) 4 s_)))] [(.ref b3), (.ref b44), (.int (own_b0 p3)), (.int (Int32.ofNat (own_blk (own_v4 (0 : Int32) (0 : Int32) (own_p2 p0) (own_p3 p1)) (own_v4 (0 : Int32) (own_r1 p0) (own_r2 p0 p1) (own_r3 p0 p1 p2)) (p4 &&& (15 : Int32)) 4 s_))), (.int (1 : Int32))])) _
        refine XS.iload X326.here hx rfl (hb hby at_302) rfl ?_
        show Steps p.tables e below (T326.setTop (mkF m 304 #[.val (.int p0), .val (.int p1), .val (.int p2), .val (.int p3), .val (.int p4), .val (.int (own_p2 p0)), .val (.int (own_p3 p1)), .val (.ref b3), .val (.ref b44), .val (.ref b90), .val (.ref b124), .val (.ref b190), .val (.int (0 : Int32)), .val (.int (own_b0 p3)), .val (.int (p4 &&& (15 : Int32))), .val (.ref b281), .val (.int (Int32.ofNat (own_blk (own_v4 (0 : Int32) (0 : Int32) (own_p2 p0) (own_p3 p1)) (own_v4 (0 : Int32) (own_r1 p0) (own_r2 p0 p1) (own_r3 p0 p1 p2)) (p4 &&& (15 : Int32)) 4 s_)))] [(.int (p4 &&& (15 : Int32))), (.ref b3), (.ref b44), (.int (own_b0 p3)), (.int (Int32.ofNat (own_blk (own_v4 (0 : Int32) (0 : Int32) (own_p2 p0) (own_p3 p1)) (own_v4 (0 : Int32) (own_r1 p0) (own_r2 p0 p1) (own_r3 p0 p1 p2)) (p4 &&& (15 : Int32)) 4 s_))), (.int (1 : Int32))])) _
        refine st330 _ ?_
        show Steps p.tables e below (T330.setTop (mkF m 307 #[.val (.int p0), .val (.int p1), .val (.int p2), .val (.int p3), .val (.int p4), .val (.int (own_p2 p0)), .val (.int (own_p3 p1)), .val (.ref b3), .val (.ref b44), .val (.ref b90), .val (.ref b124), .val (.ref b190), .val (.int (0 : Int32)), .val (.int (own_b0 p3)), .val (.int (p4 &&& (15 : Int32))), .val (.ref b281), .val (.int (Int32.ofNat (own_blk (own_v4 (0 : Int32) (0 : Int32) (own_p2 p0) (own_p3 p1)) (own_v4 (0 : Int32) (own_r1 p0) (own_r2 p0 p1) (own_r3 p0 p1 p2)) (p4 &&& (15 : Int32)) 4 s_)))] [(.int (1 : Int32))])) _
        refine XS.ifNo X330.here hx rfl (hb hby at_307) rfl ((if0 _ _).trans (feq (by decide : ¬ ((1 : Int32) = (0 : Int32)))).1) ?_
        exact kt
      have zs334 : n0 ≤ T297.heap.size := Nat.le_trans Z0 k310.1
      obtain ⟨_, _, ⟨T335, L335, k335, n335⟩, -, X335, ⟨Lc335, hQ335, l335, y335, z335⟩, st335⟩ := Jvm.LawKit.callS X330 hx (y := (⟨"com/example/unfold/unfold/reduction/SplittingBlockAfterPinLaw", "ok", "(III[I[II)Z"⟩ : MethodName)) hown (mvT hZ (hw _ (List.mem_of_getElem? (i := 25) rfl))) (mvT hZ (hw _ (List.mem_of_getElem? (i := 26) rfl))) (mvT hZ (hw _ (List.mem_of_getElem? (i := 23) rfl))) (mvT hZ (hw _ (List.mem_of_getElem? (i := 27) rfl))) (by decide) (backOf (W := 0) (own_rm_ok l Z a0 hw [] (2 : Int32) (Int32.ofNat (own_blk (own_v4 (0 : Int32) (0 : Int32) (own_p2 p0) (own_p3 p1)) (own_v4 (0 : Int32) (own_r1 p0) (own_r2 p0 p1) (own_r3 p0 p1 p2)) (p4 &&& (15 : Int32)) 4 s_)) (own_b0 p3) b44 b3 (p4 &&& (15 : Int32)) 2 (own_blk (own_v4 (0 : Int32) (0 : Int32) (own_p2 p0) (own_p3 p1)) (own_v4 (0 : Int32) (own_r1 p0) (own_r2 p0 p1) (own_r3 p0 p1 p2)) (p4 &&& (15 : Int32)) 4 s_) s_ (own_v4 (0 : Int32) (0 : Int32) (own_p2 p0) (own_p3 p1)) (own_v4 (0 : Int32) (own_r1 p0) (own_r2 p0 p1) (own_r3 p0 p1 p2)) T297.heap n0 zs334 f302 f300 rfl (by decide) rfl hpl.1 hs hs4 hT (hpl.2.2.2 2 (by decide))) hZ (hw _ (List.mem_of_getElem? (i := 27) rfl)) (hw _ (List.mem_of_getElem? (i := 23) rfl)) (by decide) (by decide)) (g := (mkF m 321 #[.val (.int p0), .val (.int p1), .val (.int p2), .val (.int p3), .val (.int p4), .val (.int (own_p2 p0)), .val (.int (own_p3 p1)), .val (.ref b3), .val (.ref b44), .val (.ref b90), .val (.ref b124), .val (.ref b190), .val (.int (0 : Int32)), .val (.int (own_b0 p3)), .val (.int (p4 &&& (15 : Int32))), .val (.ref b281), .val (.int (Int32.ofNat (own_blk (own_v4 (0 : Int32) (0 : Int32) (own_p2 p0) (own_p3 p1)) (own_v4 (0 : Int32) (own_r1 p0) (own_r2 p0 p1) (own_r3 p0 p1 p2)) (p4 &&& (15 : Int32)) 4 s_)))] [(.int (p4 &&& (15 : Int32))), (.ref b3), (.ref b44), (.int (own_b0 p3)), (.int (Int32.ofNat (own_blk (own_v4 (0 : Int32) (0 : Int32) (own_p2 p0) (own_p3 p1)) (own_v4 (0 : Int32) (own_r1 p0) (own_r2 p0 p1) (own_r3 p0 p1 p2)) (p4 &&& (15 : Int32)) 4 s_))), (.int (2 : Int32))])) rfl (by rw [hml]; rfl) (argsL := [(.int (2 : Int32)), (.int (Int32.ofNat (own_blk (own_v4 (0 : Int32) (0 : Int32) (own_p2 p0) (own_p3 p1)) (own_v4 (0 : Int32) (own_r1 p0) (own_r2 p0 p1) (own_r3 p0 p1 p2)) (p4 &&& (15 : Int32)) 4 s_))), (.int (own_b0 p3)), (.ref b44), (.ref b3), (.int (p4 &&& (15 : Int32)))]) (rest := []) (lenOf own_pd3 rfl) rfl (by show 2 * 0 + _ ≤ _; exact Nat.le_of_eq rfl) (hb hby at_321) (fun _ _ => ⟨rfl, eq331, (by decide : 6 + 0 ≤ _), (by decide : 21 + 0 ≤ _)⟩)
      dsimp only [Pt.U, Pt.locs, Pt.cells, Pt.slots] at X335 l335 y335 z335 st335 hQ335
      rw [l335, (y335 : k335 = 6), (z335 : n335 = 21)] at X335
      clear l335 y335 z335
      obtain ⟨rfl, N336, eq336⟩ := hQ335
      have nf337 := Fr.app nf332 N336
      have pre338 : ∀ t, Steps p.tables e below (T335.setTop (mkF m 334 #[.val (.int p0), .val (.int p1), .val (.int p2), .val (.int p3), .val (.int p4), .val (.int (own_p2 p0)), .val (.int (own_p3 p1)), .val (.ref b3), .val (.ref b44), .val (.ref b90), .val (.ref b124), .val (.ref b190), .val (.int (0 : Int32)), .val (.int (own_b0 p3)), .val (.int (p4 &&& (15 : Int32))), .val (.ref b281), .val (.int (Int32.ofNat (own_blk (own_v4 (0 : Int32) (0 : Int32) (own_p2 p0) (own_p3 p1)) (own_v4 (0 : Int32) (own_r1 p0) (own_r2 p0 p1) (own_r3 p0 p1 p2)) (p4 &&& (15 : Int32)) 4 s_)))] [(.ref b44), (.int (own_b0 p3)), (.int (Int32.ofNat (own_blk (own_v4 (0 : Int32) (0 : Int32) (own_p2 p0) (own_p3 p1)) (own_v4 (0 : Int32) (own_r1 p0) (own_r2 p0 p1) (own_r3 p0 p1 p2)) (p4 &&& (15 : Int32)) 4 s_))), (.int (3 : Int32))])) t → Steps p.tables e below (s₁.setTop (entryFrame m #[(.int p0), (.int p1), (.int p2), (.int p3), (.int p4)] maxLocals)) t := by
        intro t kt
        refine pre333 t ?_
        show Steps p.tables e below (T330.setTop (mkF m 310 #[.val (.int p0), .val (.int p1), .val (.int p2), .val (.int p3), .val (.int p4), .val (.int (own_p2 p0)), .val (.int (own_p3 p1)), .val (.ref b3), .val (.ref b44), .val (.ref b90), .val (.ref b124), .val (.ref b190), .val (.int (0 : Int32)), .val (.int (own_b0 p3)), .val (.int (p4 &&& (15 : Int32))), .val (.ref b281), .val (.int (Int32.ofNat (own_blk (own_v4 (0 : Int32) (0 : Int32) (own_p2 p0) (own_p3 p1)) (own_v4 (0 : Int32) (own_r1 p0) (own_r2 p0 p1) (own_r3 p0 p1 p2)) (p4 &&& (15 : Int32)) 4 s_)))] [])) _
        refine XS.iconst X330.here hx rfl (hb hby at_310) ?_
        show Steps p.tables e below (T330.setTop (mkF m 311 #[.val (.int p0), .val (.int p1), .val (.int p2), .val (.int p3), .val (.int p4), .val (.int (own_p2 p0)), .val (.int (own_p3 p1)), .val (.ref b3), .val (.ref b44), .val (.ref b90), .val (.ref b124), .val (.ref b190), .val (.int (0 : Int32)), .val (.int (own_b0 p3)), .val (.int (p4 &&& (15 : Int32))), .val (.ref b281), .val (.int (Int32.ofNat (own_blk (own_v4 (0 : Int32) (0 : Int32) (own_p2 p0) (own_p3 p1)) (own_v4 (0 : Int32) (own_r1 p0) (own_r2 p0 p1) (own_r3 p0 p1 p2)) (p4 &&& (15 : Int32)) 4 s_)))] [(.int (2 : Int32))])) _
        refine XS.iload X330.here hx rfl (hb hby at_311) rfl ?_
        show Steps p.tables e below (T330.setTop (mkF m 313 #[.val (.int p0), .val (.int p1), .val (.int p2), .val (.int p3), .val (.int p4), .val (.int (own_p2 p0)), .val (.int (own_p3 p1)), .val (.ref b3), .val (.ref b44), .val (.ref b90), .val (.ref b124), .val (.ref b190), .val (.int (0 : Int32)), .val (.int (own_b0 p3)), .val (.int (p4 &&& (15 : Int32))), .val (.ref b281), .val (.int (Int32.ofNat (own_blk (own_v4 (0 : Int32) (0 : Int32) (own_p2 p0) (own_p3 p1)) (own_v4 (0 : Int32) (own_r1 p0) (own_r2 p0 p1) (own_r3 p0 p1 p2)) (p4 &&& (15 : Int32)) 4 s_)))] [(.int (Int32.ofNat (own_blk (own_v4 (0 : Int32) (0 : Int32) (own_p2 p0) (own_p3 p1)) (own_v4 (0 : Int32) (own_r1 p0) (own_r2 p0 p1) (own_r3 p0 p1 p2)) (p4 &&& (15 : Int32)) 4 s_))), (.int (2 : Int32))])) _
        refine XS.iload X330.here hx rfl (hb hby at_313) rfl ?_
        show Steps p.tables e below (T330.setTop (mkF m 315 #[.val (.int p0), .val (.int p1), .val (.int p2), .val (.int p3), .val (.int p4), .val (.int (own_p2 p0)), .val (.int (own_p3 p1)), .val (.ref b3), .val (.ref b44), .val (.ref b90), .val (.ref b124), .val (.ref b190), .val (.int (0 : Int32)), .val (.int (own_b0 p3)), .val (.int (p4 &&& (15 : Int32))), .val (.ref b281), .val (.int (Int32.ofNat (own_blk (own_v4 (0 : Int32) (0 : Int32) (own_p2 p0) (own_p3 p1)) (own_v4 (0 : Int32) (own_r1 p0) (own_r2 p0 p1) (own_r3 p0 p1 p2)) (p4 &&& (15 : Int32)) 4 s_)))] [(.int (own_b0 p3)), (.int (Int32.ofNat (own_blk (own_v4 (0 : Int32) (0 : Int32) (own_p2 p0) (own_p3 p1)) (own_v4 (0 : Int32) (own_r1 p0) (own_r2 p0 p1) (own_r3 p0 p1 p2)) (p4 &&& (15 : Int32)) 4 s_))), (.int (2 : Int32))])) _
        refine XS.aload X330.here hx rfl (hb hby at_315) rfl rfl ?_
        show Steps p.tables e below (T330.setTop (mkF m 317 #[.val (.int p0), .val (.int p1), .val (.int p2), .val (.int p3), .val (.int p4), .val (.int (own_p2 p0)), .val (.int (own_p3 p1)), .val (.ref b3), .val (.ref b44), .val (.ref b90), .val (.ref b124), .val (.ref b190), .val (.int (0 : Int32)), .val (.int (own_b0 p3)), .val (.int (p4 &&& (15 : Int32))), .val (.ref b281), .val (.int (Int32.ofNat (own_blk (own_v4 (0 : Int32) (0 : Int32) (own_p2 p0) (own_p3 p1)) (own_v4 (0 : Int32) (own_r1 p0) (own_r2 p0 p1) (own_r3 p0 p1 p2)) (p4 &&& (15 : Int32)) 4 s_)))] [(.ref b44), (.int (own_b0 p3)), (.int (Int32.ofNat (own_blk (own_v4 (0 : Int32) (0 : Int32) (own_p2 p0) (own_p3 p1)) (own_v4 (0 : Int32) (own_r1 p0) (own_r2 p0 p1) (own_r3 p0 p1 p2)) (p4 &&& (15 : Int32)) 4 s_))), (.int (2 : Int32))])) _
        refine XS.aload X330.here hx rfl (hb hby at_317) rfl rfl ?_
        show Steps p.tables e below (T330.setTop (mkF m 319 #[.val (.int p0), .val (.int p1), .val (.int p2), .val (.int p3), .val (.int p4), .val (.int (own_p2 p0)), .val (.int (own_p3 p1)), .val (.ref b3), .val (.ref b44), .val (.ref b90), .val (.ref b124), .val (.ref b190), .val (.int (0 : Int32)), .val (.int (own_b0 p3)), .val (.int (p4 &&& (15 : Int32))), .val (.ref b281), .val (.int (Int32.ofNat (own_blk (own_v4 (0 : Int32) (0 : Int32) (own_p2 p0) (own_p3 p1)) (own_v4 (0 : Int32) (own_r1 p0) (own_r2 p0 p1) (own_r3 p0 p1 p2)) (p4 &&& (15 : Int32)) 4 s_)))] [(.ref b3), (.ref b44), (.int (own_b0 p3)), (.int (Int32.ofNat (own_blk (own_v4 (0 : Int32) (0 : Int32) (own_p2 p0) (own_p3 p1)) (own_v4 (0 : Int32) (own_r1 p0) (own_r2 p0 p1) (own_r3 p0 p1 p2)) (p4 &&& (15 : Int32)) 4 s_))), (.int (2 : Int32))])) _
        refine XS.iload X330.here hx rfl (hb hby at_319) rfl ?_
        show Steps p.tables e below (T330.setTop (mkF m 321 #[.val (.int p0), .val (.int p1), .val (.int p2), .val (.int p3), .val (.int p4), .val (.int (own_p2 p0)), .val (.int (own_p3 p1)), .val (.ref b3), .val (.ref b44), .val (.ref b90), .val (.ref b124), .val (.ref b190), .val (.int (0 : Int32)), .val (.int (own_b0 p3)), .val (.int (p4 &&& (15 : Int32))), .val (.ref b281), .val (.int (Int32.ofNat (own_blk (own_v4 (0 : Int32) (0 : Int32) (own_p2 p0) (own_p3 p1)) (own_v4 (0 : Int32) (own_r1 p0) (own_r2 p0 p1) (own_r3 p0 p1 p2)) (p4 &&& (15 : Int32)) 4 s_)))] [(.int (p4 &&& (15 : Int32))), (.ref b3), (.ref b44), (.int (own_b0 p3)), (.int (Int32.ofNat (own_blk (own_v4 (0 : Int32) (0 : Int32) (own_p2 p0) (own_p3 p1)) (own_v4 (0 : Int32) (own_r1 p0) (own_r2 p0 p1) (own_r3 p0 p1 p2)) (p4 &&& (15 : Int32)) 4 s_))), (.int (2 : Int32))])) _
        refine st335 _ ?_
        show Steps p.tables e below (T335.setTop (mkF m 324 #[.val (.int p0), .val (.int p1), .val (.int p2), .val (.int p3), .val (.int p4), .val (.int (own_p2 p0)), .val (.int (own_p3 p1)), .val (.ref b3), .val (.ref b44), .val (.ref b90), .val (.ref b124), .val (.ref b190), .val (.int (0 : Int32)), .val (.int (own_b0 p3)), .val (.int (p4 &&& (15 : Int32))), .val (.ref b281), .val (.int (Int32.ofNat (own_blk (own_v4 (0 : Int32) (0 : Int32) (own_p2 p0) (own_p3 p1)) (own_v4 (0 : Int32) (own_r1 p0) (own_r2 p0 p1) (own_r3 p0 p1 p2)) (p4 &&& (15 : Int32)) 4 s_)))] [(.int (1 : Int32))])) _
        refine XS.ifNo X335.here hx rfl (hb hby at_324) rfl ((if0 _ _).trans (feq (by decide : ¬ ((1 : Int32) = (0 : Int32)))).1) ?_
        show Steps p.tables e below (T335.setTop (mkF m 327 #[.val (.int p0), .val (.int p1), .val (.int p2), .val (.int p3), .val (.int p4), .val (.int (own_p2 p0)), .val (.int (own_p3 p1)), .val (.ref b3), .val (.ref b44), .val (.ref b90), .val (.ref b124), .val (.ref b190), .val (.int (0 : Int32)), .val (.int (own_b0 p3)), .val (.int (p4 &&& (15 : Int32))), .val (.ref b281), .val (.int (Int32.ofNat (own_blk (own_v4 (0 : Int32) (0 : Int32) (own_p2 p0) (own_p3 p1)) (own_v4 (0 : Int32) (own_r1 p0) (own_r2 p0 p1) (own_r3 p0 p1 p2)) (p4 &&& (15 : Int32)) 4 s_)))] [])) _
        refine XS.iconst X335.here hx rfl (hb hby at_327) ?_
        show Steps p.tables e below (T335.setTop (mkF m 328 #[.val (.int p0), .val (.int p1), .val (.int p2), .val (.int p3), .val (.int p4), .val (.int (own_p2 p0)), .val (.int (own_p3 p1)), .val (.ref b3), .val (.ref b44), .val (.ref b90), .val (.ref b124), .val (.ref b190), .val (.int (0 : Int32)), .val (.int (own_b0 p3)), .val (.int (p4 &&& (15 : Int32))), .val (.ref b281), .val (.int (Int32.ofNat (own_blk (own_v4 (0 : Int32) (0 : Int32) (own_p2 p0) (own_p3 p1)) (own_v4 (0 : Int32) (own_r1 p0) (own_r2 p0 p1) (own_r3 p0 p1 p2)) (p4 &&& (15 : Int32)) 4 s_)))] [(.int (3 : Int32))])) _
        refine XS.iload X335.here hx rfl (hb hby at_328) rfl ?_
        show Steps p.tables e below (T335.setTop (mkF m 330 #[.val (.int p0), .val (.int p1), .val (.int p2), .val (.int p3), .val (.int p4), .val (.int (own_p2 p0)), .val (.int (own_p3 p1)), .val (.ref b3), .val (.ref b44), .val (.ref b90), .val (.ref b124), .val (.ref b190), .val (.int (0 : Int32)), .val (.int (own_b0 p3)), .val (.int (p4 &&& (15 : Int32))), .val (.ref b281), .val (.int (Int32.ofNat (own_blk (own_v4 (0 : Int32) (0 : Int32) (own_p2 p0) (own_p3 p1)) (own_v4 (0 : Int32) (own_r1 p0) (own_r2 p0 p1) (own_r3 p0 p1 p2)) (p4 &&& (15 : Int32)) 4 s_)))] [(.int (Int32.ofNat (own_blk (own_v4 (0 : Int32) (0 : Int32) (own_p2 p0) (own_p3 p1)) (own_v4 (0 : Int32) (own_r1 p0) (own_r2 p0 p1) (own_r3 p0 p1 p2)) (p4 &&& (15 : Int32)) 4 s_))), (.int (3 : Int32))])) _
        refine XS.iload X335.here hx rfl (hb hby at_330) rfl ?_
        show Steps p.tables e below (T335.setTop (mkF m 332 #[.val (.int p0), .val (.int p1), .val (.int p2), .val (.int p3), .val (.int p4), .val (.int (own_p2 p0)), .val (.int (own_p3 p1)), .val (.ref b3), .val (.ref b44), .val (.ref b90), .val (.ref b124), .val (.ref b190), .val (.int (0 : Int32)), .val (.int (own_b0 p3)), .val (.int (p4 &&& (15 : Int32))), .val (.ref b281), .val (.int (Int32.ofNat (own_blk (own_v4 (0 : Int32) (0 : Int32) (own_p2 p0) (own_p3 p1)) (own_v4 (0 : Int32) (own_r1 p0) (own_r2 p0 p1) (own_r3 p0 p1 p2)) (p4 &&& (15 : Int32)) 4 s_)))] [(.int (own_b0 p3)), (.int (Int32.ofNat (own_blk (own_v4 (0 : Int32) (0 : Int32) (own_p2 p0) (own_p3 p1)) (own_v4 (0 : Int32) (own_r1 p0) (own_r2 p0 p1) (own_r3 p0 p1 p2)) (p4 &&& (15 : Int32)) 4 s_))), (.int (3 : Int32))])) _
        refine XS.aload X335.here hx rfl (hb hby at_332) rfl rfl ?_
        exact kt
      have zs339 : n0 ≤ T297.heap.size := Nat.le_trans Z0 k310.1
      obtain ⟨_, _, ⟨T340, L340, k340, n340⟩, -, X340, ⟨Lc340, hQ340, l340, y340, z340⟩, st340⟩ := Jvm.LawKit.callS X335 hx (y := (⟨"com/example/unfold/unfold/reduction/SplittingBlockAfterPinLaw", "ok", "(III[I[II)Z"⟩ : MethodName)) hown (mvT hZ (hw _ (List.mem_of_getElem? (i := 25) rfl))) (mvT hZ (hw _ (List.mem_of_getElem? (i := 26) rfl))) (mvT hZ (hw _ (List.mem_of_getElem? (i := 23) rfl))) (mvT hZ (hw _ (List.mem_of_getElem? (i := 27) rfl))) (by decide) (backOf (W := 0) (own_rm_ok l Z a0 hw [] (3 : Int32) (Int32.ofNat (own_blk (own_v4 (0 : Int32) (0 : Int32) (own_p2 p0) (own_p3 p1)) (own_v4 (0 : Int32) (own_r1 p0) (own_r2 p0 p1) (own_r3 p0 p1 p2)) (p4 &&& (15 : Int32)) 4 s_)) (own_b0 p3) b44 b3 (p4 &&& (15 : Int32)) 3 (own_blk (own_v4 (0 : Int32) (0 : Int32) (own_p2 p0) (own_p3 p1)) (own_v4 (0 : Int32) (own_r1 p0) (own_r2 p0 p1) (own_r3 p0 p1 p2)) (p4 &&& (15 : Int32)) 4 s_) s_ (own_v4 (0 : Int32) (0 : Int32) (own_p2 p0) (own_p3 p1)) (own_v4 (0 : Int32) (own_r1 p0) (own_r2 p0 p1) (own_r3 p0 p1 p2)) T297.heap n0 zs339 f302 f300 rfl (by decide) rfl hpl.1 hs hs4 hT (hpl.2.2.2 3 (by decide))) hZ (hw _ (List.mem_of_getElem? (i := 27) rfl)) (hw _ (List.mem_of_getElem? (i := 23) rfl)) (by decide) (by decide)) (g := (mkF m 338 #[.val (.int p0), .val (.int p1), .val (.int p2), .val (.int p3), .val (.int p4), .val (.int (own_p2 p0)), .val (.int (own_p3 p1)), .val (.ref b3), .val (.ref b44), .val (.ref b90), .val (.ref b124), .val (.ref b190), .val (.int (0 : Int32)), .val (.int (own_b0 p3)), .val (.int (p4 &&& (15 : Int32))), .val (.ref b281), .val (.int (Int32.ofNat (own_blk (own_v4 (0 : Int32) (0 : Int32) (own_p2 p0) (own_p3 p1)) (own_v4 (0 : Int32) (own_r1 p0) (own_r2 p0 p1) (own_r3 p0 p1 p2)) (p4 &&& (15 : Int32)) 4 s_)))] [(.int (p4 &&& (15 : Int32))), (.ref b3), (.ref b44), (.int (own_b0 p3)), (.int (Int32.ofNat (own_blk (own_v4 (0 : Int32) (0 : Int32) (own_p2 p0) (own_p3 p1)) (own_v4 (0 : Int32) (own_r1 p0) (own_r2 p0 p1) (own_r3 p0 p1 p2)) (p4 &&& (15 : Int32)) 4 s_))), (.int (3 : Int32))])) rfl (by rw [hml]; rfl) (argsL := [(.int (3 : Int32)), (.int (Int32.ofNat (own_blk (own_v4 (0 : Int32) (0 : Int32) (own_p2 p0) (own_p3 p1)) (own_v4 (0 : Int32) (own_r1 p0) (own_r2 p0 p1) (own_r3 p0 p1 p2)) (p4 &&& (15 : Int32)) 4 s_))), (.int (own_b0 p3)), (.ref b44), (.ref b3), (.int (p4 &&& (15 : Int32)))]) (rest := []) (lenOf own_pd3 rfl) rfl (by show 2 * 0 + _ ≤ _; exact Nat.le_of_eq rfl) (hb hby at_338) (fun _ _ => ⟨rfl, eq336, (by decide : 6 + 0 ≤ _), (by decide : 21 + 0 ≤ _)⟩)
      dsimp only [Pt.U, Pt.locs, Pt.cells, Pt.slots] at X340 l340 y340 z340 st340 hQ340
      rw [l340, (y340 : k340 = 6), (z340 : n340 = 21)] at X340
      clear l340 y340 z340
      obtain ⟨rfl, N341, eq341⟩ := hQ340
      have nf342 := Fr.app nf337 N341
      have pre343 : ∀ t, Steps p.tables e below (T340.setTop (mkF m 349 #[.val (.int p0), .val (.int p1), .val (.int p2), .val (.int p3), .val (.int p4), .val (.int (own_p2 p0)), .val (.int (own_p3 p1)), .val (.ref b3), .val (.ref b44), .val (.ref b90), .val (.ref b124), .val (.ref b190), .val (.int (0 : Int32)), .val (.int (own_b0 p3)), .val (.int (p4 &&& (15 : Int32))), .val (.ref b281), .val (.int (Int32.ofNat (own_blk (own_v4 (0 : Int32) (0 : Int32) (own_p2 p0) (own_p3 p1)) (own_v4 (0 : Int32) (own_r1 p0) (own_r2 p0 p1) (own_r3 p0 p1 p2)) (p4 &&& (15 : Int32)) 4 s_)))] [(.int (1 : Int32))])) t → Steps p.tables e below (s₁.setTop (entryFrame m #[(.int p0), (.int p1), (.int p2), (.int p3), (.int p4)] maxLocals)) t := by
        intro t kt
        refine pre338 t ?_
        show Steps p.tables e below (T335.setTop (mkF m 334 #[.val (.int p0), .val (.int p1), .val (.int p2), .val (.int p3), .val (.int p4), .val (.int (own_p2 p0)), .val (.int (own_p3 p1)), .val (.ref b3), .val (.ref b44), .val (.ref b90), .val (.ref b124), .val (.ref b190), .val (.int (0 : Int32)), .val (.int (own_b0 p3)), .val (.int (p4 &&& (15 : Int32))), .val (.ref b281), .val (.int (Int32.ofNat (own_blk (own_v4 (0 : Int32) (0 : Int32) (own_p2 p0) (own_p3 p1)) (own_v4 (0 : Int32) (own_r1 p0) (own_r2 p0 p1) (own_r3 p0 p1 p2)) (p4 &&& (15 : Int32)) 4 s_)))] [(.ref b44), (.int (own_b0 p3)), (.int (Int32.ofNat (own_blk (own_v4 (0 : Int32) (0 : Int32) (own_p2 p0) (own_p3 p1)) (own_v4 (0 : Int32) (own_r1 p0) (own_r2 p0 p1) (own_r3 p0 p1 p2)) (p4 &&& (15 : Int32)) 4 s_))), (.int (3 : Int32))])) _
        refine XS.aload X335.here hx rfl (hb hby at_334) rfl rfl ?_
        show Steps p.tables e below (T335.setTop (mkF m 336 #[.val (.int p0), .val (.int p1), .val (.int p2), .val (.int p3), .val (.int p4), .val (.int (own_p2 p0)), .val (.int (own_p3 p1)), .val (.ref b3), .val (.ref b44), .val (.ref b90), .val (.ref b124), .val (.ref b190), .val (.int (0 : Int32)), .val (.int (own_b0 p3)), .val (.int (p4 &&& (15 : Int32))), .val (.ref b281), .val (.int (Int32.ofNat (own_blk (own_v4 (0 : Int32) (0 : Int32) (own_p2 p0) (own_p3 p1)) (own_v4 (0 : Int32) (own_r1 p0) (own_r2 p0 p1) (own_r3 p0 p1 p2)) (p4 &&& (15 : Int32)) 4 s_)))] [(.ref b3), (.ref b44), (.int (own_b0 p3)), (.int (Int32.ofNat (own_blk (own_v4 (0 : Int32) (0 : Int32) (own_p2 p0) (own_p3 p1)) (own_v4 (0 : Int32) (own_r1 p0) (own_r2 p0 p1) (own_r3 p0 p1 p2)) (p4 &&& (15 : Int32)) 4 s_))), (.int (3 : Int32))])) _
        refine XS.iload X335.here hx rfl (hb hby at_336) rfl ?_
        show Steps p.tables e below (T335.setTop (mkF m 338 #[.val (.int p0), .val (.int p1), .val (.int p2), .val (.int p3), .val (.int p4), .val (.int (own_p2 p0)), .val (.int (own_p3 p1)), .val (.ref b3), .val (.ref b44), .val (.ref b90), .val (.ref b124), .val (.ref b190), .val (.int (0 : Int32)), .val (.int (own_b0 p3)), .val (.int (p4 &&& (15 : Int32))), .val (.ref b281), .val (.int (Int32.ofNat (own_blk (own_v4 (0 : Int32) (0 : Int32) (own_p2 p0) (own_p3 p1)) (own_v4 (0 : Int32) (own_r1 p0) (own_r2 p0 p1) (own_r3 p0 p1 p2)) (p4 &&& (15 : Int32)) 4 s_)))] [(.int (p4 &&& (15 : Int32))), (.ref b3), (.ref b44), (.int (own_b0 p3)), (.int (Int32.ofNat (own_blk (own_v4 (0 : Int32) (0 : Int32) (own_p2 p0) (own_p3 p1)) (own_v4 (0 : Int32) (own_r1 p0) (own_r2 p0 p1) (own_r3 p0 p1 p2)) (p4 &&& (15 : Int32)) 4 s_))), (.int (3 : Int32))])) _
        refine st340 _ ?_
        show Steps p.tables e below (T340.setTop (mkF m 341 #[.val (.int p0), .val (.int p1), .val (.int p2), .val (.int p3), .val (.int p4), .val (.int (own_p2 p0)), .val (.int (own_p3 p1)), .val (.ref b3), .val (.ref b44), .val (.ref b90), .val (.ref b124), .val (.ref b190), .val (.int (0 : Int32)), .val (.int (own_b0 p3)), .val (.int (p4 &&& (15 : Int32))), .val (.ref b281), .val (.int (Int32.ofNat (own_blk (own_v4 (0 : Int32) (0 : Int32) (own_p2 p0) (own_p3 p1)) (own_v4 (0 : Int32) (own_r1 p0) (own_r2 p0 p1) (own_r3 p0 p1 p2)) (p4 &&& (15 : Int32)) 4 s_)))] [(.int (1 : Int32))])) _
        refine XS.ifNo X340.here hx rfl (hb hby at_341) rfl ((if0 _ _).trans (feq (by decide : ¬ ((1 : Int32) = (0 : Int32)))).1) ?_
        show Steps p.tables e below (T340.setTop (mkF m 344 #[.val (.int p0), .val (.int p1), .val (.int p2), .val (.int p3), .val (.int p4), .val (.int (own_p2 p0)), .val (.int (own_p3 p1)), .val (.ref b3), .val (.ref b44), .val (.ref b90), .val (.ref b124), .val (.ref b190), .val (.int (0 : Int32)), .val (.int (own_b0 p3)), .val (.int (p4 &&& (15 : Int32))), .val (.ref b281), .val (.int (Int32.ofNat (own_blk (own_v4 (0 : Int32) (0 : Int32) (own_p2 p0) (own_p3 p1)) (own_v4 (0 : Int32) (own_r1 p0) (own_r2 p0 p1) (own_r3 p0 p1 p2)) (p4 &&& (15 : Int32)) 4 s_)))] [])) _
        refine XS.iconst X340.here hx rfl (hb hby at_344) ?_
        show Steps p.tables e below (T340.setTop (mkF m 345 #[.val (.int p0), .val (.int p1), .val (.int p2), .val (.int p3), .val (.int p4), .val (.int (own_p2 p0)), .val (.int (own_p3 p1)), .val (.ref b3), .val (.ref b44), .val (.ref b90), .val (.ref b124), .val (.ref b190), .val (.int (0 : Int32)), .val (.int (own_b0 p3)), .val (.int (p4 &&& (15 : Int32))), .val (.ref b281), .val (.int (Int32.ofNat (own_blk (own_v4 (0 : Int32) (0 : Int32) (own_p2 p0) (own_p3 p1)) (own_v4 (0 : Int32) (own_r1 p0) (own_r2 p0 p1) (own_r3 p0 p1 p2)) (p4 &&& (15 : Int32)) 4 s_)))] [(.int (1 : Int32))])) _
        refine XS.goto X340.here hx rfl (pc0 := 345) (pc' := 349) rfl (hb hby at_345) (by decide) (by decide) ?_
        exact kt
      obtain ⟨fs, hr, hrun, hended, hW, hsame⟩ := X340.leave (v := some (.int (1 : Int32))) (fun h => by rw [Bd.returns] at h; cases h)
      refine ⟨_, _, pre343 _ ?_, hrun, hended, _, _, rfl, ?_, ⟨_, rfl⟩, hW, hsame.mono (by decide) (by decide)⟩
      · show Steps p.tables e below (T340.setTop (mkF m 349 #[.val (.int p0), .val (.int p1), .val (.int p2), .val (.int p3), .val (.int p4), .val (.int (own_p2 p0)), .val (.int (own_p3 p1)), .val (.ref b3), .val (.ref b44), .val (.ref b90), .val (.ref b124), .val (.ref b190), .val (.int (0 : Int32)), .val (.int (own_b0 p3)), .val (.int (p4 &&& (15 : Int32))), .val (.ref b281), .val (.int (Int32.ofNat (own_blk (own_v4 (0 : Int32) (0 : Int32) (own_p2 p0) (own_p3 p1)) (own_v4 (0 : Int32) (own_r1 p0) (own_r2 p0 p1) (own_r3 p0 p1 p2)) (p4 &&& (15 : Int32)) 4 s_)))] [(.int (1 : Int32))])) _
        exact retN X340 hx (t := .boolean) Bd.returns (by simp) (hb hby at_349) hr
      · show own_Q_law Z p0 p1 p2 p3 p4 h0 n0 (some (.int (1 : Int32))) T340.heap _
        rw [eq341]
        exact ⟨rfl, nf342⟩
    · obtain ⟨T344, h344, X344, e344, E344, A344, D344, -, st344⟩ := newO X256 hx hZ hown (hw _ (List.mem_of_getElem? (i := 1) rfl)) (hw _ (List.mem_of_getElem? (i := 2) rfl)) (hw _ (List.mem_of_getElem? (i := 3) rfl)) e256 (g := (mkF m 211 #[.val (.int p0), .val (.int p1), .val (.int p2), .val (.int p3), .val (.int p4), .val (.int (own_p2 p0)), .val (.int (own_p3 p1)), .val (.ref b3), .val (.ref b44), .val (.ref b90), .val (.ref b124), .val (.ref b190), .val (.int (0 : Int32)), .val (.int (own_b0 p3)), .val (.int (p4 &&& (2147483647 : Int32))), .unset, .unset] [])) rfl (hb hby at_211) (by decide) (by decide)
      obtain ⟨b344, g344⟩ : ∃ z, z = h256.size := ⟨_, rfl⟩
      rw [← g344] at A344 D344 st344
      have sz_b344 : h0.size ≤ b344 := Nat.le_trans k267.1 (Nat.le_of_eq g344.symm)
      have gn_b344 : n0 ≤ b344 := Nat.le_trans Z0 sz_b344
      have ne_b3_b344 : b3 ≠ b344 := Nat.ne_of_lt (Nat.lt_of_lt_of_le f258.lt (Nat.le_of_eq g344.symm))
      have ne_b44_b344 : b44 ≠ b344 := Nat.ne_of_lt (Nat.lt_of_lt_of_le f260.lt (Nat.le_of_eq g344.symm))
      have ne_b90_b344 : b90 ≠ b344 := Nat.ne_of_lt (Nat.lt_of_lt_of_le f262.lt (Nat.le_of_eq g344.symm))
      have ne_b124_b344 : b124 ≠ b344 := Nat.ne_of_lt (Nat.lt_of_lt_of_le f264.lt (Nat.le_of_eq g344.symm))
      have ne_b190_b344 : b190 ≠ b344 := Nat.ne_of_lt (Nat.lt_of_lt_of_le f270.lt (Nat.le_of_eq g344.symm))
      have f345 := f257.ext E344
      have f346 := f258.ext E344
      have f347 := f259.ext E344
      have f348 := f260.ext E344
      have f349 := f261.ext E344
      have f350 := f262.ext E344
      have f351 := f263.ext E344
      have f352 := f264.ext E344
      have f353 := f265.ext E344
      have f354 := f270.ext E344
      have k355 := k267.ext E344
      have f356 : Fld Z h344 b344 "com/example/unfold/unfold/reduction/Splitting" "blocks" "[I" .null := D344 (Or.inr (hw _ (List.mem_of_getElem? (i := 11) rfl))) (ty := (.array .int)) (by decide)
      have f357 : Fld Z h344 b344 "com/example/unfold/unfold/reduction/Splitting" "parents" "[I" .null := D344 (Or.inr (hw _ (List.mem_of_getElem? (i := 13) rfl))) (ty := (.array .int)) (by decide)
      have f358 : Fld Z h344 b344 "com/example/unfold/unfold/reduction/Splitting" "rounds" "[I" .null := D344 (Or.inr (hw _ (List.mem_of_getElem? (i := 15) rfl))) (ty := (.array .int)) (by decide)
      have zs359 : n0 ≤ h344.size := Nat.le_trans Z0 k355.1
      obtain ⟨_, _, ⟨T360, L360, k360, n360⟩, -, X360, ⟨Lc360, hQ360, l360, y360, z360⟩, st360⟩ := X344.specialBack hx (y := (⟨"com/example/unfold/unfold/reduction/Splitting", "<init>", "([I[I[I)V"⟩ : MethodName)) rfl hown (mvT hZ (hw _ (List.mem_of_getElem? (i := 4) rfl))) (mvT hZ (hw _ (List.mem_of_getElem? (i := 5) rfl))) (mvT hZ (hw _ (List.mem_of_getElem? (i := 6) rfl))) (by decide) (backOf (W := 1) (own_rm_ctor l Z a0 hw [] b344 b90 b124 b190 h344 n0 zs359 A344 f356 f357 f358 gn_b344) hZ (hw _ (List.mem_of_getElem? (i := 6) rfl)) (hw _ (List.mem_of_getElem? (i := 3) rfl)) (by decide) (by decide)) (g := (mkF m 221 #[.val (.int p0), .val (.int p1), .val (.int p2), .val (.int p3), .val (.int p4), .val (.int (own_p2 p0)), .val (.int (own_p3 p1)), .val (.ref b3), .val (.ref b44), .val (.ref b90), .val (.ref b124), .val (.ref b190), .val (.int (0 : Int32)), .val (.int (own_b0 p3)), .val (.int (p4 &&& (2147483647 : Int32))), .unset, .unset] [(.ref b190), (.ref b124), (.ref b90), (.ref b344), (.ref b344)])) rfl (by rw [hml]; rfl) (Steps.refl _) (a := b344) (argsL := [(.ref b90), (.ref b124), (.ref b190)]) (rest := [(.ref b344)]) (lenOf own_pd1 rfl) rfl (by show 2 * 0 + _ ≤ _; exact Nat.le_of_eq rfl) (hb hby at_221) (fun _ _ => ⟨rfl, e344, (by decide : 6 + 0 ≤ _), (by decide : 21 + 0 ≤ _)⟩)
      dsimp only [Pt.U, Pt.locs, Pt.cells, Pt.slots] at X360 l360 y360 z360 st360 hQ360
      rw [l360, (y360 : k360 = 6), (z360 : n360 = 21)] at X360
      clear l360 y360 z360
      obtain ⟨rfl, N361, K361, c361_0, c361_1, c361_2⟩ := hQ360
      have f362 := f345.keep K361
      have f363 := f346.keep K361 (ninS ne_b3_b344 nin0)
      have f364 := f347.keep K361
      have f365 := f348.keep K361 (ninS ne_b44_b344 nin0)
      have f366 := f349.keep K361
      have f367 := f350.keep K361 (ninS ne_b90_b344 nin0)
      have f368 := f351.keep K361
      have f369 := f352.keep K361 (ninS ne_b124_b344 nin0)
      have f370 := f353.keep K361
      have f371 := f354.keep K361 (ninS ne_b190_b344 nin0)
      have f372 := A344.keep K361
      have k373 := k355.trans K361 (allS (Or.inr sz_b344) all0)
      have nf374 := Fr.app nf268 N361
      have pre375 : ∀ t, Steps p.tables e below (T360.setTop (mkF m 224 #[.val (.int p0), .val (.int p1), .val (.int p2), .val (.int p3), .val (.int p4), .val (.int (own_p2 p0)), .val (.int (own_p3 p1)), .val (.ref b3), .val (.ref b44), .val (.ref b90), .val (.ref b124), .val (.ref b190), .val (.int (0 : Int32)), .val (.int (own_b0 p3)), .val (.int (p4 &&& (2147483647 : Int32))), .unset, .unset] [(.ref b344)])) t → Steps p.tables e below (s₁.setTop (entryFrame m #[(.int p0), (.int p1), (.int p2), (.int p3), (.int p4)] maxLocals)) t := by
        intro t kt
        refine pre279 t ?_
        show Steps p.tables e below (T256.setTop (mkF m 193 #[.val (.int p0), .val (.int p1), .val (.int p2), .val (.int p3), .val (.int p4), .val (.int (own_p2 p0)), .val (.int (own_p3 p1)), .val (.ref b3), .val (.ref b44), .val (.ref b90), .val (.ref b124), .val (.ref b190), .val (.int (0 : Int32)), .val (.int (own_b0 p3)), .unset, .unset, .unset] [(.int (p4 &&& (16 : Int32)))])) _
        refine XS.ifNo X256.here hx rfl (hb hby at_193) rfl ((if0 _ _).trans (feq hc280).1) ?_
        show Steps p.tables e below (T256.setTop (mkF m 196 #[.val (.int p0), .val (.int p1), .val (.int p2), .val (.int p3), .val (.int p4), .val (.int (own_p2 p0)), .val (.int (own_p3 p1)), .val (.ref b3), .val (.ref b44), .val (.ref b90), .val (.ref b124), .val (.ref b190), .val (.int (0 : Int32)), .val (.int (own_b0 p3)), .unset, .unset, .unset] [])) _
        refine XS.iload X256.here hx rfl (hb hby at_196) rfl ?_
        show Steps p.tables e below (T256.setTop (mkF m 198 #[.val (.int p0), .val (.int p1), .val (.int p2), .val (.int p3), .val (.int p4), .val (.int (own_p2 p0)), .val (.int (own_p3 p1)), .val (.ref b3), .val (.ref b44), .val (.ref b90), .val (.ref b124), .val (.ref b190), .val (.int (0 : Int32)), .val (.int (own_b0 p3)), .unset, .unset, .unset] [(.int p4)])) _
        refine X256.ldcI hx hown (mvT hZ (hw _ (List.mem_of_getElem? (i := 28) rfl))) (g := (mkF m 198 #[.val (.int p0), .val (.int p1), .val (.int p2), .val (.int p3), .val (.int p4), .val (.int (own_p2 p0)), .val (.int (own_p3 p1)), .val (.ref b3), .val (.ref b44), .val (.ref b90), .val (.ref b124), .val (.ref b190), .val (.int (0 : Int32)), .val (.int (own_b0 p3)), .unset, .unset, .unset] [(.int p4)])) rfl (hb hby at_198) ?_
        show Steps p.tables e below (T256.setTop (mkF m 200 #[.val (.int p0), .val (.int p1), .val (.int p2), .val (.int p3), .val (.int p4), .val (.int (own_p2 p0)), .val (.int (own_p3 p1)), .val (.ref b3), .val (.ref b44), .val (.ref b90), .val (.ref b124), .val (.ref b190), .val (.int (0 : Int32)), .val (.int (own_b0 p3)), .unset, .unset, .unset] [(.int (2147483647 : Int32)), (.int p4)])) _
        refine XS.iand X256.here hx rfl (hb hby at_200) rfl ?_
        show Steps p.tables e below (T256.setTop (mkF m 201 #[.val (.int p0), .val (.int p1), .val (.int p2), .val (.int p3), .val (.int p4), .val (.int (own_p2 p0)), .val (.int (own_p3 p1)), .val (.ref b3), .val (.ref b44), .val (.ref b90), .val (.ref b124), .val (.ref b190), .val (.int (0 : Int32)), .val (.int (own_b0 p3)), .unset, .unset, .unset] [(.int (p4 &&& (2147483647 : Int32)))])) _
        refine XS.goto X256.here hx rfl (pc0 := 201) (pc' := 209) rfl (hb hby at_201) (by decide) (by decide) ?_
        show Steps p.tables e below (T256.setTop (mkF m 209 #[.val (.int p0), .val (.int p1), .val (.int p2), .val (.int p3), .val (.int p4), .val (.int (own_p2 p0)), .val (.int (own_p3 p1)), .val (.ref b3), .val (.ref b44), .val (.ref b90), .val (.ref b124), .val (.ref b190), .val (.int (0 : Int32)), .val (.int (own_b0 p3)), .unset, .unset, .unset] [(.int (p4 &&& (2147483647 : Int32)))])) _
        refine XS.istore X256.here hx rfl (hb hby at_209) rfl (l' := #[.val (.int p0), .val (.int p1), .val (.int p2), .val (.int p3), .val (.int p4), .val (.int (own_p2 p0)), .val (.int (own_p3 p1)), .val (.ref b3), .val (.ref b44), .val (.ref b90), .val (.ref b124), .val (.ref b190), .val (.int (0 : Int32)), .val (.int (own_b0 p3)), .val (.int (p4 &&& (2147483647 : Int32))), .unset, .unset]) rfl ?_
        show Steps p.tables e below (T256.setTop (mkF m 211 #[.val (.int p0), .val (.int p1), .val (.int p2), .val (.int p3), .val (.int p4), .val (.int (own_p2 p0)), .val (.int (own_p3 p1)), .val (.ref b3), .val (.ref b44), .val (.ref b90), .val (.ref b124), .val (.ref b190), .val (.int (0 : Int32)), .val (.int (own_b0 p3)), .val (.int (p4 &&& (2147483647 : Int32))), .unset, .unset] [])) _
        refine st344 _ ?_
        show Steps p.tables e below (T344.setTop (mkF m 214 #[.val (.int p0), .val (.int p1), .val (.int p2), .val (.int p3), .val (.int p4), .val (.int (own_p2 p0)), .val (.int (own_p3 p1)), .val (.ref b3), .val (.ref b44), .val (.ref b90), .val (.ref b124), .val (.ref b190), .val (.int (0 : Int32)), .val (.int (own_b0 p3)), .val (.int (p4 &&& (2147483647 : Int32))), .unset, .unset] [(.ref b344)])) _
        refine XS.dup X344.here hx rfl (hb hby at_214) rfl rfl ?_
        show Steps p.tables e below (T344.setTop (mkF m 215 #[.val (.int p0), .val (.int p1), .val (.int p2), .val (.int p3), .val (.int p4), .val (.int (own_p2 p0)), .val (.int (own_p3 p1)), .val (.ref b3), .val (.ref b44), .val (.ref b90), .val (.ref b124), .val (.ref b190), .val (.int (0 : Int32)), .val (.int (own_b0 p3)), .val (.int (p4 &&& (2147483647 : Int32))), .unset, .unset] [(.ref b344), (.ref b344)])) _
        refine XS.aload X344.here hx rfl (hb hby at_215) rfl rfl ?_
        show Steps p.tables e below (T344.setTop (mkF m 217 #[.val (.int p0), .val (.int p1), .val (.int p2), .val (.int p3), .val (.int p4), .val (.int (own_p2 p0)), .val (.int (own_p3 p1)), .val (.ref b3), .val (.ref b44), .val (.ref b90), .val (.ref b124), .val (.ref b190), .val (.int (0 : Int32)), .val (.int (own_b0 p3)), .val (.int (p4 &&& (2147483647 : Int32))), .unset, .unset] [(.ref b90), (.ref b344), (.ref b344)])) _
        refine XS.aload X344.here hx rfl (hb hby at_217) rfl rfl ?_
        show Steps p.tables e below (T344.setTop (mkF m 219 #[.val (.int p0), .val (.int p1), .val (.int p2), .val (.int p3), .val (.int p4), .val (.int (own_p2 p0)), .val (.int (own_p3 p1)), .val (.ref b3), .val (.ref b44), .val (.ref b90), .val (.ref b124), .val (.ref b190), .val (.int (0 : Int32)), .val (.int (own_b0 p3)), .val (.int (p4 &&& (2147483647 : Int32))), .unset, .unset] [(.ref b124), (.ref b90), (.ref b344), (.ref b344)])) _
        refine XS.aload X344.here hx rfl (hb hby at_219) rfl rfl ?_
        show Steps p.tables e below (T344.setTop (mkF m 221 #[.val (.int p0), .val (.int p1), .val (.int p2), .val (.int p3), .val (.int p4), .val (.int (own_p2 p0)), .val (.int (own_p3 p1)), .val (.ref b3), .val (.ref b44), .val (.ref b90), .val (.ref b124), .val (.ref b190), .val (.int (0 : Int32)), .val (.int (own_b0 p3)), .val (.int (p4 &&& (2147483647 : Int32))), .unset, .unset] [(.ref b190), (.ref b124), (.ref b90), (.ref b344), (.ref b344)])) _
        refine st360.trans ?_
        exact kt
      have hT := own_mktree p0 p1 p2
      have hpl := own_plain (r := (p4 &&& (2147483647 : Int32))) hT (own_rA p4) hs4
      have zs376 : n0 ≤ T360.heap.size := Nat.le_trans Z0 k373.1
      obtain ⟨cq378, kq378, q378a, q378b, q378c⟩ := isOf hZ rfl f372
      obtain ⟨_, _, ⟨T377, L377, k377, n377⟩, -, X377, ⟨Lc377, hQ377, l377, y377, z377⟩, st377⟩ := X360.virtualBack hx (y := (⟨"com/example/unfold/unfold/reduction/Splitting", "blockAfter", "(II)I"⟩ : MethodName)) (z := (⟨"com/example/unfold/unfold/reduction/Splitting", "blockAfter", "(II)I"⟩ : MethodName)) hown (mvT hZ (hw _ (List.mem_of_getElem? (i := 16) rfl))) (mvT hZ (hw _ (List.mem_of_getElem? (i := 17) rfl))) (notFace_of_selects (args := #[]) (mvT hZ (hw _ (List.mem_of_getElem? (i := 19) rfl)))) (mvT hZ (hw _ (List.mem_of_getElem? (i := 19) rfl))) (mvT hZ (hw _ (List.mem_of_getElem? (i := 18) rfl))) (by decide) (backOf (W := 0) (own_rm_blk l Z a0 hw [] b344 (0 : Int32) (p4 &&& (2147483647 : Int32)) b90 b124 b190 (own_v2 (own_b0 p3) (own_b1 p3)) (own_v4 (0 : Int32) (0 : Int32) (own_p2 p0) (own_p3 p1)) (own_v4 (0 : Int32) (own_r1 p0) (own_r2 p0 p1) (own_r3 p0 p1 p2)) s_ T360.heap n0 zs376 c361_0 c361_1 c361_2 f367 f369 f371 (by decide) (by decide) hs hs4 hT (own_rA p4)) hZ (hw _ (List.mem_of_getElem? (i := 20) rfl)) (hw _ (List.mem_of_getElem? (i := 3) rfl)) (by decide) (by decide)) q378a q378c (g := (mkF m 232 #[.val (.int p0), .val (.int p1), .val (.int p2), .val (.int p3), .val (.int p4), .val (.int (own_p2 p0)), .val (.int (own_p3 p1)), .val (.ref b3), .val (.ref b44), .val (.ref b90), .val (.ref b124), .val (.ref b190), .val (.int (0 : Int32)), .val (.int (own_b0 p3)), .val (.int (p4 &&& (2147483647 : Int32))), .val (.ref b344), .unset] [(.int (p4 &&& (2147483647 : Int32))), (.int (0 : Int32)), (.ref b344)])) rfl (by rw [hml]; rfl) (Steps.refl _) (argsL := [(.int (0 : Int32)), (.int (p4 &&& (2147483647 : Int32)))]) (rest := []) (lenOf own_pd2 rfl) rfl (by show 2 * 0 + _ ≤ _; exact Nat.le_of_eq rfl) (hb hby at_232) (fun _ _ => ⟨rfl, rfl, (by decide : 6 + 0 ≤ _), (by decide : 21 + 0 ≤ _)⟩)
      dsimp only [Pt.U, Pt.locs, Pt.cells, Pt.slots] at X377 l377 y377 z377 st377 hQ377
      rw [l377, (y377 : k377 = 6), (z377 : n377 = 21)] at X377
      clear l377 y377 z377
      obtain ⟨rfl, N379, eq379⟩ := hQ377
      have nf380 := Fr.app nf374 N379
      have pre381 : ∀ t, Steps p.tables e below (T377.setTop (mkF m 252 #[.val (.int p0), .val (.int p1), .val (.int p2), .val (.int p3), .val (.int p4), .val (.int (own_p2 p0)), .val (.int (own_p3 p1)), .val (.ref b3), .val (.ref b44), .val (.ref b90), .val (.ref b124), .val (.ref b190), .val (.int (0 : Int32)), .val (.int (own_b0 p3)), .val (.int (p4 &&& (2147483647 : Int32))), .val (.ref b344), .val (.int (Int32.ofNat (own_blk (own_v4 (0 : Int32) (0 : Int32) (own_p2 p0) (own_p3 p1)) (own_v4 (0 : Int32) (own_r1 p0) (own_r2 p0 p1) (own_r3 p0 p1 p2)) (p4 &&& (2147483647 : Int32)) 4 s_)))] [(.int (Int32.ofNat (own_blk (own_v4 (0 : Int32) (0 : Int32) (own_p2 p0) (own_p3 p1)) (own_v4 (0 : Int32) (own_r1 p0) (own_r2 p0 p1) (own_r3 p0 p1 p2)) (p4 &&& (2147483647 : Int32)) 4 s_)))])) t → Steps p.tables e below (s₁.setTop (entryFrame m #[(.int p0), (.int p1), (.int p2), (.int p3), (.int p4)] maxLocals)) t := by
        intro t kt
        refine pre375 t ?_
        show Steps p.tables e below (T360.setTop (mkF m 224 #[.val (.int p0), .val (.int p1), .val (.int p2), .val (.int p3), .val (.int p4), .val (.int (own_p2 p0)), .val (.int (own_p3 p1)), .val (.ref b3), .val (.ref b44), .val (.ref b90), .val (.ref b124), .val (.ref b190), .val (.int (0 : Int32)), .val (.int (own_b0 p3)), .val (.int (p4 &&& (2147483647 : Int32))), .unset, .unset] [(.ref b344)])) _
        refine XS.astore X360.here hx rfl (hb hby at_224) rfl rfl (l' := #[.val (.int p0), .val (.int p1), .val (.int p2), .val (.int p3), .val (.int p4), .val (.int (own_p2 p0)), .val (.int (own_p3 p1)), .val (.ref b3), .val (.ref b44), .val (.ref b90), .val (.ref b124), .val (.ref b190), .val (.int (0 : Int32)), .val (.int (own_b0 p3)), .val (.int (p4 &&& (2147483647 : Int32))), .val (.ref b344), .unset]) rfl ?_
        show Steps p.tables e below (T360.setTop (mkF m 226 #[.val (.int p0), .val (.int p1), .val (.int p2), .val (.int p3), .val (.int p4), .val (.int (own_p2 p0)), .val (.int (own_p3 p1)), .val (.ref b3), .val (.ref b44), .val (.ref b90), .val (.ref b124), .val (.ref b190), .val (.int (0 : Int32)), .val (.int (own_b0 p3)), .val (.int (p4 &&& (2147483647 : Int32))), .val (.ref b344), .unset] [])) _
        refine XS.aload X360.here hx rfl (hb hby at_226) rfl rfl ?_
        show Steps p.tables e below (T360.setTop (mkF m 228 #[.val (.int p0), .val (.int p1), .val (.int p2), .val (.int p3), .val (.int p4), .val (.int (own_p2 p0)), .val (.int (own_p3 p1)), .val (.ref b3), .val (.ref b44), .val (.ref b90), .val (.ref b124), .val (.ref b190), .val (.int (0 : Int32)), .val (.int (own_b0 p3)), .val (.int (p4 &&& (2147483647 : Int32))), .val (.ref b344), .unset] [(.ref b344)])) _
        refine XS.iload X360.here hx rfl (hb hby at_228) rfl ?_
        show Steps p.tables e below (T360.setTop (mkF m 230 #[.val (.int p0), .val (.int p1), .val (.int p2), .val (.int p3), .val (.int p4), .val (.int (own_p2 p0)), .val (.int (own_p3 p1)), .val (.ref b3), .val (.ref b44), .val (.ref b90), .val (.ref b124), .val (.ref b190), .val (.int (0 : Int32)), .val (.int (own_b0 p3)), .val (.int (p4 &&& (2147483647 : Int32))), .val (.ref b344), .unset] [(.int (0 : Int32)), (.ref b344)])) _
        refine XS.iload X360.here hx rfl (hb hby at_230) rfl ?_
        show Steps p.tables e below (T360.setTop (mkF m 232 #[.val (.int p0), .val (.int p1), .val (.int p2), .val (.int p3), .val (.int p4), .val (.int (own_p2 p0)), .val (.int (own_p3 p1)), .val (.ref b3), .val (.ref b44), .val (.ref b90), .val (.ref b124), .val (.ref b190), .val (.int (0 : Int32)), .val (.int (own_b0 p3)), .val (.int (p4 &&& (2147483647 : Int32))), .val (.ref b344), .unset] [(.int (p4 &&& (2147483647 : Int32))), (.int (0 : Int32)), (.ref b344)])) _
        refine st377.trans ?_
        show Steps p.tables e below (T377.setTop (mkF m 235 #[.val (.int p0), .val (.int p1), .val (.int p2), .val (.int p3), .val (.int p4), .val (.int (own_p2 p0)), .val (.int (own_p3 p1)), .val (.ref b3), .val (.ref b44), .val (.ref b90), .val (.ref b124), .val (.ref b190), .val (.int (0 : Int32)), .val (.int (own_b0 p3)), .val (.int (p4 &&& (2147483647 : Int32))), .val (.ref b344), .unset] [(.int (Int32.ofNat (own_blk (own_v4 (0 : Int32) (0 : Int32) (own_p2 p0) (own_p3 p1)) (own_v4 (0 : Int32) (own_r1 p0) (own_r2 p0 p1) (own_r3 p0 p1 p2)) (p4 &&& (2147483647 : Int32)) 4 s_)))])) _
        refine XS.istore X377.here hx rfl (hb hby at_235) rfl (l' := #[.val (.int p0), .val (.int p1), .val (.int p2), .val (.int p3), .val (.int p4), .val (.int (own_p2 p0)), .val (.int (own_p3 p1)), .val (.ref b3), .val (.ref b44), .val (.ref b90), .val (.ref b124), .val (.ref b190), .val (.int (0 : Int32)), .val (.int (own_b0 p3)), .val (.int (p4 &&& (2147483647 : Int32))), .val (.ref b344), .val (.int (Int32.ofNat (own_blk (own_v4 (0 : Int32) (0 : Int32) (own_p2 p0) (own_p3 p1)) (own_v4 (0 : Int32) (own_r1 p0) (own_r2 p0 p1) (own_r3 p0 p1 p2)) (p4 &&& (2147483647 : Int32)) 4 s_)))]) rfl ?_
        show Steps p.tables e below (T377.setTop (mkF m 237 #[.val (.int p0), .val (.int p1), .val (.int p2), .val (.int p3), .val (.int p4), .val (.int (own_p2 p0)), .val (.int (own_p3 p1)), .val (.ref b3), .val (.ref b44), .val (.ref b90), .val (.ref b124), .val (.ref b190), .val (.int (0 : Int32)), .val (.int (own_b0 p3)), .val (.int (p4 &&& (2147483647 : Int32))), .val (.ref b344), .val (.int (Int32.ofNat (own_blk (own_v4 (0 : Int32) (0 : Int32) (own_p2 p0) (own_p3 p1)) (own_v4 (0 : Int32) (own_r1 p0) (own_r2 p0 p1) (own_r3 p0 p1 p2)) (p4 &&& (2147483647 : Int32)) 4 s_)))] [])) _
        refine XS.iload X377.here hx rfl (hb hby at_237) rfl ?_
        show Steps p.tables e below (T377.setTop (mkF m 239 #[.val (.int p0), .val (.int p1), .val (.int p2), .val (.int p3), .val (.int p4), .val (.int (own_p2 p0)), .val (.int (own_p3 p1)), .val (.ref b3), .val (.ref b44), .val (.ref b90), .val (.ref b124), .val (.ref b190), .val (.int (0 : Int32)), .val (.int (own_b0 p3)), .val (.int (p4 &&& (2147483647 : Int32))), .val (.ref b344), .val (.int (Int32.ofNat (own_blk (own_v4 (0 : Int32) (0 : Int32) (own_p2 p0) (own_p3 p1)) (own_v4 (0 : Int32) (own_r1 p0) (own_r2 p0 p1) (own_r3 p0 p1 p2)) (p4 &&& (2147483647 : Int32)) 4 s_)))] [(.int (Int32.ofNat (own_blk (own_v4 (0 : Int32) (0 : Int32) (own_p2 p0) (own_p3 p1)) (own_v4 (0 : Int32) (own_r1 p0) (own_r2 p0 p1) (own_r3 p0 p1 p2)) (p4 &&& (2147483647 : Int32)) 4 s_)))])) _
        refine XS.ifNo X377.here hx rfl (hb hby at_239) rfl ((if0 _ _).trans (flt (own_of0 (by have := hpl.1; omega))).1) ?_
        show Steps p.tables e below (T377.setTop (mkF m 242 #[.val (.int p0), .val (.int p1), .val (.int p2), .val (.int p3), .val (.int p4), .val (.int (own_p2 p0)), .val (.int (own_p3 p1)), .val (.ref b3), .val (.ref b44), .val (.ref b90), .val (.ref b124), .val (.ref b190), .val (.int (0 : Int32)), .val (.int (own_b0 p3)), .val (.int (p4 &&& (2147483647 : Int32))), .val (.ref b344), .val (.int (Int32.ofNat (own_blk (own_v4 (0 : Int32) (0 : Int32) (own_p2 p0) (own_p3 p1)) (own_v4 (0 : Int32) (own_r1 p0) (own_r2 p0 p1) (own_r3 p0 p1 p2)) (p4 &&& (2147483647 : Int32)) 4 s_)))] [])) _
        refine XS.iload X377.here hx rfl (hb hby at_242) rfl ?_
        show Steps p.tables e below (T377.setTop (mkF m 244 #[.val (.int p0), .val (.int p1), .val (.int p2), .val (.int p3), .val (.int p4), .val (.int (own_p2 p0)), .val (.int (own_p3 p1)), .val (.ref b3), .val (.ref b44), .val (.ref b90), .val (.ref b124), .val (.ref b190), .val (.int (0 : Int32)), .val (.int (own_b0 p3)), .val (.int (p4 &&& (2147483647 : Int32))), .val (.ref b344), .val (.int (Int32.ofNat (own_blk (own_v4 (0 : Int32) (0 : Int32) (own_p2 p0) (own_p3 p1)) (own_v4 (0 : Int32) (own_r1 p0) (own_r2 p0 p1) (own_r3 p0 p1 p2)) (p4 &&& (2147483647 : Int32)) 4 s_)))] [(.int (Int32.ofNat (own_blk (own_v4 (0 : Int32) (0 : Int32) (own_p2 p0) (own_p3 p1)) (own_v4 (0 : Int32) (own_r1 p0) (own_r2 p0 p1) (own_r3 p0 p1 p2)) (p4 &&& (2147483647 : Int32)) 4 s_)))])) _
        refine XS.iconst X377.here hx rfl (hb hby at_244) ?_
        show Steps p.tables e below (T377.setTop (mkF m 245 #[.val (.int p0), .val (.int p1), .val (.int p2), .val (.int p3), .val (.int p4), .val (.int (own_p2 p0)), .val (.int (own_p3 p1)), .val (.ref b3), .val (.ref b44), .val (.ref b90), .val (.ref b124), .val (.ref b190), .val (.int (0 : Int32)), .val (.int (own_b0 p3)), .val (.int (p4 &&& (2147483647 : Int32))), .val (.ref b344), .val (.int (Int32.ofNat (own_blk (own_v4 (0 : Int32) (0 : Int32) (own_p2 p0) (own_p3 p1)) (own_v4 (0 : Int32) (own_r1 p0) (own_r2 p0 p1) (own_r3 p0 p1 p2)) (p4 &&& (2147483647 : Int32)) 4 s_)))] [(.int (3 : Int32)), (.int (Int32.ofNat (own_blk (own_v4 (0 : Int32) (0 : Int32) (own_p2 p0) (own_p3 p1)) (own_v4 (0 : Int32) (own_r1 p0) (own_r2 p0 p1) (own_r3 p0 p1 p2)) (p4 &&& (2147483647 : Int32)) 4 s_)))])) _
        refine XS.icmpYes X377.here hx rfl (pc0 := 245) (pc' := 250) rfl (hb hby at_245) rfl (flt (own_le3 hpl.1)).2.2.2 (by decide) (by decide) ?_
        show Steps p.tables e below (T377.setTop (mkF m 250 #[.val (.int p0), .val (.int p1), .val (.int p2), .val (.int p3), .val (.int p4), .val (.int (own_p2 p0)), .val (.int (own_p3 p1)), .val (.ref b3), .val (.ref b44), .val (.ref b90), .val (.ref b124), .val (.ref b190), .val (.int (0 : Int32)), .val (.int (own_b0 p3)), .val (.int (p4 &&& (2147483647 : Int32))), .val (.ref b344), .val (.int (Int32.ofNat (own_blk (own_v4 (0 : Int32) (0 : Int32) (own_p2 p0) (own_p3 p1)) (own_v4 (0 : Int32) (own_r1 p0) (own_r2 p0 p1) (own_r3 p0 p1 p2)) (p4 &&& (2147483647 : Int32)) 4 s_)))] [])) _
        refine XS.iload X377.here hx rfl (hb hby at_250) rfl ?_
        exact kt
      have zs382 : n0 ≤ T360.heap.size := Nat.le_trans Z0 k373.1
      obtain ⟨_, _, ⟨T383, L383, k383, n383⟩, -, X383, ⟨Lc383, hQ383, l383, y383, z383⟩, st383⟩ := Jvm.LawKit.callS X377 hx (y := (⟨"com/example/unfold/unfold/reduction/SplittingBlockAfterPinLaw", "anc", "(II[I)Z"⟩ : MethodName)) hown (mvT hZ (hw _ (List.mem_of_getElem? (i := 21) rfl))) (mvT hZ (hw _ (List.mem_of_getElem? (i := 22) rfl))) (mvT hZ (hw _ (List.mem_of_getElem? (i := 23) rfl))) (mvT hZ (hw _ (List.mem_of_getElem? (i := 24) rfl))) (by decide) (backOf (W := 0) (own_rm_anc l Z a0 hw [] (Int32.ofNat (own_blk (own_v4 (0 : Int32) (0 : Int32) (own_p2 p0) (own_p3 p1)) (own_v4 (0 : Int32) (own_r1 p0) (own_r2 p0 p1) (own_r3 p0 p1 p2)) (p4 &&& (2147483647 : Int32)) 4 s_)) (own_b0 p3) b44 s_ (own_v4 (0 : Int32) (0 : Int32) (own_p2 p0) (own_p3 p1)) (own_v4 (0 : Int32) (own_r1 p0) (own_r2 p0 p1) (own_r3 p0 p1 p2)) T360.heap n0 zs382 f365 hs hs4 hT) hZ (hw _ (List.mem_of_getElem? (i := 24) rfl)) (hw _ (List.mem_of_getElem? (i := 23) rfl)) (by decide) (by decide)) (g := (mkF m 256 #[.val (.int p0), .val (.int p1), .val (.int p2), .val (.int p3), .val (.int p4), .val (.int (own_p2 p0)), .val (.int (own_p3 p1)), .val (.ref b3), .val (.ref b44), .val (.ref b90), .val (.ref b124), .val (.ref b190), .val (.int (0 : Int32)), .val (.int (own_b0 p3)), .val (.int (p4 &&& (2147483647 : Int32))), .val (.ref b344), .val (.int (Int32.ofNat (own_blk (own_v4 (0 : Int32) (0 : Int32) (own_p2 p0) (own_p3 p1)) (own_v4 (0 : Int32) (own_r1 p0) (own_r2 p0 p1) (own_r3 p0 p1 p2)) (p4 &&& (2147483647 : Int32)) 4 s_)))] [(.ref b44), (.int (own_b0 p3)), (.int (Int32.ofNat (own_blk (own_v4 (0 : Int32) (0 : Int32) (own_p2 p0) (own_p3 p1)) (own_v4 (0 : Int32) (own_r1 p0) (own_r2 p0 p1) (own_r3 p0 p1 p2)) (p4 &&& (2147483647 : Int32)) 4 s_)))])) rfl (by rw [hml]; rfl) (argsL := [(.int (Int32.ofNat (own_blk (own_v4 (0 : Int32) (0 : Int32) (own_p2 p0) (own_p3 p1)) (own_v4 (0 : Int32) (own_r1 p0) (own_r2 p0 p1) (own_r3 p0 p1 p2)) (p4 &&& (2147483647 : Int32)) 4 s_))), (.int (own_b0 p3)), (.ref b44)]) (rest := []) (lenOf own_pd0 rfl) rfl (by show 2 * 0 + _ ≤ _; exact Nat.le_of_eq rfl) (hb hby at_256) (fun _ _ => ⟨rfl, eq379, (by decide : 6 + 0 ≤ _), (by decide : 21 + 0 ≤ _)⟩)
      dsimp only [Pt.U, Pt.locs, Pt.cells, Pt.slots] at X383 l383 y383 z383 st383 hQ383
      rw [l383, (y383 : k383 = 6), (z383 : n383 = 21)] at X383
      clear l383 y383 z383
      obtain ⟨rfl, N384, eq384⟩ := hQ383
      have nf385 := Fr.app nf380 N384
      obtain ⟨cl386, Ar386, S386, H386⟩ := id f363
      have hin386 : ¬ ((Int32.ofNat (own_blk (own_v4 (0 : Int32) (0 : Int32) (own_p2 p0) (own_p3 p1)) (own_v4 (0 : Int32) (own_r1 p0) (own_r2 p0 p1) (own_r3 p0 p1 p2)) (p4 &&& (2147483647 : Int32)) 4 s_)) < 0 ∨ cl386.slots.size ≤ ((Int32.ofNat (own_blk (own_v4 (0 : Int32) (0 : Int32) (own_p2 p0) (own_p3 p1)) (own_v4 (0 : Int32) (own_r1 p0) (own_r2 p0 p1) (own_r3 p0 p1 p2)) (p4 &&& (2147483647 : Int32)) 4 s_))).toNatClampNeg) := own_inb S386 (own_of0 (by have := hpl.1; omega)) (by rw [own_ofN (by have := hpl.1; omega)]; exact hpl.1)
      have hat386 : cl386.slots[((Int32.ofNat (own_blk (own_v4 (0 : Int32) (0 : Int32) (own_p2 p0) (own_p3 p1)) (own_v4 (0 : Int32) (own_r1 p0) (own_r2 p0 p1) (own_r3 p0 p1 p2)) (p4 &&& (2147483647 : Int32)) 4 s_))).toNatClampNeg]? = some (.int ((own_v4 (0 : Int32) (own_r1 p0) (own_r2 p0 p1) (own_r3 p0 p1 p2)) (own_blk (own_v4 (0 : Int32) (0 : Int32) (own_p2 p0) (own_p3 p1)) (own_v4 (0 : Int32) (own_r1 p0) (own_r2 p0 p1) (own_r3 p0 p1 p2)) (p4 &&& (2147483647 : Int32)) 4 s_))) := (by rw [own_ofN (by have := hpl.1; omega)]; exact H386 _ hpl.1)
      have pre387 : ∀ t, Steps p.tables e below (T383.setTop (mkF m 281 #[.val (.int p0), .val (.int p1), .val (.int p2), .val (.int p3), .val (.int p4), .val (.int (own_p2 p0)), .val (.int (own_p3 p1)), .val (.ref b3), .val (.ref b44), .val (.ref b90), .val (.ref b124), .val (.ref b190), .val (.int (0 : Int32)), .val (.int (own_b0 p3)), .val (.int (p4 &&& (2147483647 : Int32))), .val (.ref b344), .val (.int (Int32.ofNat (own_blk (own_v4 (0 : Int32) (0 : Int32) (own_p2 p0) (own_p3 p1)) (own_v4 (0 : Int32) (own_r1 p0) (own_r2 p0 p1) (own_r3 p0 p1 p2)) (p4 &&& (2147483647 : Int32)) 4 s_)))] [(.int (own_b0 p3)), (.int (Int32.ofNat (own_blk (own_v4 (0 : Int32) (0 : Int32) (own_p2 p0) (own_p3 p1)) (own_v4 (0 : Int32) (own_r1 p0) (own_r2 p0 p1) (own_r3 p0 p1 p2)) (p4 &&& (2147483647 : Int32)) 4 s_))), (.int (0 : Int32))])) t → Steps p.tables e below (s₁.setTop (entryFrame m #[(.int p0), (.int p1), (.int p2), (.int p3), (.int p4)] maxLocals)) t := by
        intro t kt
        refine pre381 t ?_
        show Steps p.tables e below (T377.setTop (mkF m 252 #[.val (.int p0), .val (.int p1), .val (.int p2), .val (.int p3), .val (.int p4), .val (.int (own_p2 p0)), .val (.int (own_p3 p1)), .val (.ref b3), .val (.ref b44), .val (.ref b90), .val (.ref b124), .val (.ref b190), .val (.int (0 : Int32)), .val (.int (own_b0 p3)), .val (.int (p4 &&& (2147483647 : Int32))), .val (.ref b344), .val (.int (Int32.ofNat (own_blk (own_v4 (0 : Int32) (0 : Int32) (own_p2 p0) (own_p3 p1)) (own_v4 (0 : Int32) (own_r1 p0) (own_r2 p0 p1) (own_r3 p0 p1 p2)) (p4 &&& (2147483647 : Int32)) 4 s_)))] [(.int (Int32.ofNat (own_blk (own_v4 (0 : Int32) (0 : Int32) (own_p2 p0) (own_p3 p1)) (own_v4 (0 : Int32) (own_r1 p0) (own_r2 p0 p1) (own_r3 p0 p1 p2)) (p4 &&& (2147483647 : Int32)) 4 s_)))])) _
        refine XS.iload X377.here hx rfl (hb hby at_252) rfl ?_
        show Steps p.tables e below (T377.setTop (mkF m 254 #[.val (.int p0), .val (.int p1), .val (.int p2), .val (.int p3), .val (.int p4), .val (.int (own_p2 p0)), .val (.int (own_p3 p1)), .val (.ref b3), .val (.ref b44), .val (.ref b90), .val (.ref b124), .val (.ref b190), .val (.int (0 : Int32)), .val (.int (own_b0 p3)), .val (.int (p4 &&& (2147483647 : Int32))), .val (.ref b344), .val (.int (Int32.ofNat (own_blk (own_v4 (0 : Int32) (0 : Int32) (own_p2 p0) (own_p3 p1)) (own_v4 (0 : Int32) (own_r1 p0) (own_r2 p0 p1) (own_r3 p0 p1 p2)) (p4 &&& (2147483647 : Int32)) 4 s_)))] [(.int (own_b0 p3)), (.int (Int32.ofNat (own_blk (own_v4 (0 : Int32) (0 : Int32) (own_p2 p0) (own_p3 p1)) (own_v4 (0 : Int32) (own_r1 p0) (own_r2 p0 p1) (own_r3 p0 p1 p2)) (p4 &&& (2147483647 : Int32)) 4 s_)))])) _
        refine XS.aload X377.here hx rfl (hb hby at_254) rfl rfl ?_
        show Steps p.tables e below (T377.setTop (mkF m 256 #[.val (.int p0), .val (.int p1), .val (.int p2), .val (.int p3), .val (.int p4), .val (.int (own_p2 p0)), .val (.int (own_p3 p1)), .val (.ref b3), .val (.ref b44), .val (.ref b90), .val (.ref b124), .val (.ref b190), .val (.int (0 : Int32)), .val (.int (own_b0 p3)), .val (.int (p4 &&& (2147483647 : Int32))), .val (.ref b344), .val (.int (Int32.ofNat (own_blk (own_v4 (0 : Int32) (0 : Int32) (own_p2 p0) (own_p3 p1)) (own_v4 (0 : Int32) (own_r1 p0) (own_r2 p0 p1) (own_r3 p0 p1 p2)) (p4 &&& (2147483647 : Int32)) 4 s_)))] [(.ref b44), (.int (own_b0 p3)), (.int (Int32.ofNat (own_blk (own_v4 (0 : Int32) (0 : Int32) (own_p2 p0) (own_p3 p1)) (own_v4 (0 : Int32) (own_r1 p0) (own_r2 p0 p1) (own_r3 p0 p1 p2)) (p4 &&& (2147483647 : Int32)) 4 s_)))])) _
        refine st383 _ ?_
        show Steps p.tables e below (T383.setTop (mkF m 259 #[.val (.int p0), .val (.int p1), .val (.int p2), .val (.int p3), .val (.int p4), .val (.int (own_p2 p0)), .val (.int (own_p3 p1)), .val (.ref b3), .val (.ref b44), .val (.ref b90), .val (.ref b124), .val (.ref b190), .val (.int (0 : Int32)), .val (.int (own_b0 p3)), .val (.int (p4 &&& (2147483647 : Int32))), .val (.ref b344), .val (.int (Int32.ofNat (own_blk (own_v4 (0 : Int32) (0 : Int32) (own_p2 p0) (own_p3 p1)) (own_v4 (0 : Int32) (own_r1 p0) (own_r2 p0 p1) (own_r3 p0 p1 p2)) (p4 &&& (2147483647 : Int32)) 4 s_)))] [(.int (own_anc (own_v4 (0 : Int32) (0 : Int32) (own_p2 p0) (own_p3 p1)) (Int32.ofNat (own_blk (own_v4 (0 : Int32) (0 : Int32) (own_p2 p0) (own_p3 p1)) (own_v4 (0 : Int32) (own_r1 p0) (own_r2 p0 p1) (own_r3 p0 p1 p2)) (p4 &&& (2147483647 : Int32)) 4 s_)) s_))])) _
        refine XS.ifYes X383.here hx rfl (pc0 := 259) (pc' := 264) rfl (hb hby at_259) rfl ((if0 _ _).trans (feq (by rw [hpl.2.1]; decide)).2) (by decide) (by decide) ?_
        show Steps p.tables e below (T383.setTop (mkF m 264 #[.val (.int p0), .val (.int p1), .val (.int p2), .val (.int p3), .val (.int p4), .val (.int (own_p2 p0)), .val (.int (own_p3 p1)), .val (.ref b3), .val (.ref b44), .val (.ref b90), .val (.ref b124), .val (.ref b190), .val (.int (0 : Int32)), .val (.int (own_b0 p3)), .val (.int (p4 &&& (2147483647 : Int32))), .val (.ref b344), .val (.int (Int32.ofNat (own_blk (own_v4 (0 : Int32) (0 : Int32) (own_p2 p0) (own_p3 p1)) (own_v4 (0 : Int32) (own_r1 p0) (own_r2 p0 p1) (own_r3 p0 p1 p2)) (p4 &&& (2147483647 : Int32)) 4 s_)))] [])) _
        refine XS.aload X383.here hx rfl (hb hby at_264) rfl rfl ?_
        show Steps p.tables e below (T383.setTop (mkF m 266 #[.val (.int p0), .val (.int p1), .val (.int p2), .val (.int p3), .val (.int p4), .val (.int (own_p2 p0)), .val (.int (own_p3 p1)), .val (.ref b3), .val (.ref b44), .val (.ref b90), .val (.ref b124), .val (.ref b190), .val (.int (0 : Int32)), .val (.int (own_b0 p3)), .val (.int (p4 &&& (2147483647 : Int32))), .val (.ref b344), .val (.int (Int32.ofNat (own_blk (own_v4 (0 : Int32) (0 : Int32) (own_p2 p0) (own_p3 p1)) (own_v4 (0 : Int32) (own_r1 p0) (own_r2 p0 p1) (own_r3 p0 p1 p2)) (p4 &&& (2147483647 : Int32)) 4 s_)))] [(.ref b3)])) _
        refine XS.iload X383.here hx rfl (hb hby at_266) rfl ?_
        show Steps p.tables e below (T383.setTop (mkF m 268 #[.val (.int p0), .val (.int p1), .val (.int p2), .val (.int p3), .val (.int p4), .val (.int (own_p2 p0)), .val (.int (own_p3 p1)), .val (.ref b3), .val (.ref b44), .val (.ref b90), .val (.ref b124), .val (.ref b190), .val (.int (0 : Int32)), .val (.int (own_b0 p3)), .val (.int (p4 &&& (2147483647 : Int32))), .val (.ref b344), .val (.int (Int32.ofNat (own_blk (own_v4 (0 : Int32) (0 : Int32) (own_p2 p0) (own_p3 p1)) (own_v4 (0 : Int32) (own_r1 p0) (own_r2 p0 p1) (own_r3 p0 p1 p2)) (p4 &&& (2147483647 : Int32)) 4 s_)))] [(.int (Int32.ofNat (own_blk (own_v4 (0 : Int32) (0 : Int32) (own_p2 p0) (own_p3 p1)) (own_v4 (0 : Int32) (own_r1 p0) (own_r2 p0 p1) (own_r3 p0 p1 p2)) (p4 &&& (2147483647 : Int32)) 4 s_))), (.ref b3)])) _
        refine X383.iaload hx (j := (Int32.ofNat (own_blk (own_v4 (0 : Int32) (0 : Int32) (own_p2 p0) (own_p3 p1)) (own_v4 (0 : Int32) (own_r1 p0) (own_r2 p0 p1) (own_r3 p0 p1 p2)) (p4 &&& (2147483647 : Int32)) 4 s_))) (v := (.int ((own_v4 (0 : Int32) (own_r1 p0) (own_r2 p0 p1) (own_r3 p0 p1 p2)) (own_blk (own_v4 (0 : Int32) (0 : Int32) (own_p2 p0) (own_p3 p1)) (own_v4 (0 : Int32) (own_r1 p0) (own_r2 p0 p1) (own_r3 p0 p1 p2)) (p4 &&& (2147483647 : Int32)) 4 s_)))) (by rw [eq384]; exact Ar386.1) (State.isArrayOf_alike hZ.alike Ar386.2.1) Ar386.2.2 hin386 hat386 (g := (mkF m 268 #[.val (.int p0), .val (.int p1), .val (.int p2), .val (.int p3), .val (.int p4), .val (.int (own_p2 p0)), .val (.int (own_p3 p1)), .val (.ref b3), .val (.ref b44), .val (.ref b90), .val (.ref b124), .val (.ref b190), .val (.int (0 : Int32)), .val (.int (own_b0 p3)), .val (.int (p4 &&& (2147483647 : Int32))), .val (.ref b344), .val (.int (Int32.ofNat (own_blk (own_v4 (0 : Int32) (0 : Int32) (own_p2 p0) (own_p3 p1)) (own_v4 (0 : Int32) (own_r1 p0) (own_r2 p0 p1) (own_r3 p0 p1 p2)) (p4 &&& (2147483647 : Int32)) 4 s_)))] [(.int (Int32.ofNat (own_blk (own_v4 (0 : Int32) (0 : Int32) (own_p2 p0) (own_p3 p1)) (own_v4 (0 : Int32) (own_r1 p0) (own_r2 p0 p1) (own_r3 p0 p1 p2)) (p4 &&& (2147483647 : Int32)) 4 s_))), (.ref b3)])) rfl rfl (hb hby at_268) _ ?_
        show Steps p.tables e below (T383.setTop (mkF m 269 #[.val (.int p0), .val (.int p1), .val (.int p2), .val (.int p3), .val (.int p4), .val (.int (own_p2 p0)), .val (.int (own_p3 p1)), .val (.ref b3), .val (.ref b44), .val (.ref b90), .val (.ref b124), .val (.ref b190), .val (.int (0 : Int32)), .val (.int (own_b0 p3)), .val (.int (p4 &&& (2147483647 : Int32))), .val (.ref b344), .val (.int (Int32.ofNat (own_blk (own_v4 (0 : Int32) (0 : Int32) (own_p2 p0) (own_p3 p1)) (own_v4 (0 : Int32) (own_r1 p0) (own_r2 p0 p1) (own_r3 p0 p1 p2)) (p4 &&& (2147483647 : Int32)) 4 s_)))] [(.int ((own_v4 (0 : Int32) (own_r1 p0) (own_r2 p0 p1) (own_r3 p0 p1 p2)) (own_blk (own_v4 (0 : Int32) (0 : Int32) (own_p2 p0) (own_p3 p1)) (own_v4 (0 : Int32) (own_r1 p0) (own_r2 p0 p1) (own_r3 p0 p1 p2)) (p4 &&& (2147483647 : Int32)) 4 s_)))])) _
        refine XS.iload X383.here hx rfl (hb hby at_269) rfl ?_
        show Steps p.tables e below (T383.setTop (mkF m 271 #[.val (.int p0), .val (.int p1), .val (.int p2), .val (.int p3), .val (.int p4), .val (.int (own_p2 p0)), .val (.int (own_p3 p1)), .val (.ref b3), .val (.ref b44), .val (.ref b90), .val (.ref b124), .val (.ref b190), .val (.int (0 : Int32)), .val (.int (own_b0 p3)), .val (.int (p4 &&& (2147483647 : Int32))), .val (.ref b344), .val (.int (Int32.ofNat (own_blk (own_v4 (0 : Int32) (0 : Int32) (own_p2 p0) (own_p3 p1)) (own_v4 (0 : Int32) (own_r1 p0) (own_r2 p0 p1) (own_r3 p0 p1 p2)) (p4 &&& (2147483647 : Int32)) 4 s_)))] [(.int (p4 &&& (2147483647 : Int32))), (.int ((own_v4 (0 : Int32) (own_r1 p0) (own_r2 p0 p1) (own_r3 p0 p1 p2)) (own_blk (own_v4 (0 : Int32) (0 : Int32) (own_p2 p0) (own_p3 p1)) (own_v4 (0 : Int32) (own_r1 p0) (own_r2 p0 p1) (own_r3 p0 p1 p2)) (p4 &&& (2147483647 : Int32)) 4 s_)))])) _
        refine XS.icmpYes X383.here hx rfl (pc0 := 271) (pc' := 276) rfl (hb hby at_271) rfl (flt hpl.2.2.1).2.2.2 (by decide) (by decide) ?_
        show Steps p.tables e below (T383.setTop (mkF m 276 #[.val (.int p0), .val (.int p1), .val (.int p2), .val (.int p3), .val (.int p4), .val (.int (own_p2 p0)), .val (.int (own_p3 p1)), .val (.ref b3), .val (.ref b44), .val (.ref b90), .val (.ref b124), .val (.ref b190), .val (.int (0 : Int32)), .val (.int (own_b0 p3)), .val (.int (p4 &&& (2147483647 : Int32))), .val (.ref b344), .val (.int (Int32.ofNat (own_blk (own_v4 (0 : Int32) (0 : Int32) (own_p2 p0) (own_p3 p1)) (own_v4 (0 : Int32) (own_r1 p0) (own_r2 p0 p1) (own_r3 p0 p1 p2)) (p4 &&& (2147483647 : Int32)) 4 s_)))] [])) _
        refine XS.iconst X383.here hx rfl (hb hby at_276) ?_
        show Steps p.tables e below (T383.setTop (mkF m 277 #[.val (.int p0), .val (.int p1), .val (.int p2), .val (.int p3), .val (.int p4), .val (.int (own_p2 p0)), .val (.int (own_p3 p1)), .val (.ref b3), .val (.ref b44), .val (.ref b90), .val (.ref b124), .val (.ref b190), .val (.int (0 : Int32)), .val (.int (own_b0 p3)), .val (.int (p4 &&& (2147483647 : Int32))), .val (.ref b344), .val (.int (Int32.ofNat (own_blk (own_v4 (0 : Int32) (0 : Int32) (own_p2 p0) (own_p3 p1)) (own_v4 (0 : Int32) (own_r1 p0) (own_r2 p0 p1) (own_r3 p0 p1 p2)) (p4 &&& (2147483647 : Int32)) 4 s_)))] [(.int (0 : Int32))])) _
        refine XS.iload X383.here hx rfl (hb hby at_277) rfl ?_
        show Steps p.tables e below (T383.setTop (mkF m 279 #[.val (.int p0), .val (.int p1), .val (.int p2), .val (.int p3), .val (.int p4), .val (.int (own_p2 p0)), .val (.int (own_p3 p1)), .val (.ref b3), .val (.ref b44), .val (.ref b90), .val (.ref b124), .val (.ref b190), .val (.int (0 : Int32)), .val (.int (own_b0 p3)), .val (.int (p4 &&& (2147483647 : Int32))), .val (.ref b344), .val (.int (Int32.ofNat (own_blk (own_v4 (0 : Int32) (0 : Int32) (own_p2 p0) (own_p3 p1)) (own_v4 (0 : Int32) (own_r1 p0) (own_r2 p0 p1) (own_r3 p0 p1 p2)) (p4 &&& (2147483647 : Int32)) 4 s_)))] [(.int (Int32.ofNat (own_blk (own_v4 (0 : Int32) (0 : Int32) (own_p2 p0) (own_p3 p1)) (own_v4 (0 : Int32) (own_r1 p0) (own_r2 p0 p1) (own_r3 p0 p1 p2)) (p4 &&& (2147483647 : Int32)) 4 s_))), (.int (0 : Int32))])) _
        refine XS.iload X383.here hx rfl (hb hby at_279) rfl ?_
        exact kt
      have zs388 : n0 ≤ T360.heap.size := Nat.le_trans Z0 k373.1
      obtain ⟨_, _, ⟨T389, L389, k389, n389⟩, -, X389, ⟨Lc389, hQ389, l389, y389, z389⟩, st389⟩ := Jvm.LawKit.callS X383 hx (y := (⟨"com/example/unfold/unfold/reduction/SplittingBlockAfterPinLaw", "ok", "(III[I[II)Z"⟩ : MethodName)) hown (mvT hZ (hw _ (List.mem_of_getElem? (i := 25) rfl))) (mvT hZ (hw _ (List.mem_of_getElem? (i := 26) rfl))) (mvT hZ (hw _ (List.mem_of_getElem? (i := 23) rfl))) (mvT hZ (hw _ (List.mem_of_getElem? (i := 27) rfl))) (by decide) (backOf (W := 0) (own_rm_ok l Z a0 hw [] (0 : Int32) (Int32.ofNat (own_blk (own_v4 (0 : Int32) (0 : Int32) (own_p2 p0) (own_p3 p1)) (own_v4 (0 : Int32) (own_r1 p0) (own_r2 p0 p1) (own_r3 p0 p1 p2)) (p4 &&& (2147483647 : Int32)) 4 s_)) (own_b0 p3) b44 b3 (p4 &&& (2147483647 : Int32)) 0 (own_blk (own_v4 (0 : Int32) (0 : Int32) (own_p2 p0) (own_p3 p1)) (own_v4 (0 : Int32) (own_r1 p0) (own_r2 p0 p1) (own_r3 p0 p1 p2)) (p4 &&& (2147483647 : Int32)) 4 s_) s_ (own_v4 (0 : Int32) (0 : Int32) (own_p2 p0) (own_p3 p1)) (own_v4 (0 : Int32) (own_r1 p0) (own_r2 p0 p1) (own_r3 p0 p1 p2)) T360.heap n0 zs388 f365 f363 rfl (by decide) rfl hpl.1 hs hs4 hT (hpl.2.2.2 0 (by decide))) hZ (hw _ (List.mem_of_getElem? (i := 27) rfl)) (hw _ (List.mem_of_getElem? (i := 23) rfl)) (by decide) (by decide)) (g := (mkF m 287 #[.val (.int p0), .val (.int p1), .val (.int p2), .val (.int p3), .val (.int p4), .val (.int (own_p2 p0)), .val (.int (own_p3 p1)), .val (.ref b3), .val (.ref b44), .val (.ref b90), .val (.ref b124), .val (.ref b190), .val (.int (0 : Int32)), .val (.int (own_b0 p3)), .val (.int (p4 &&& (2147483647 : Int32))), .val (.ref b344), .val (.int (Int32.ofNat (own_blk (own_v4 (0 : Int32) (0 : Int32) (own_p2 p0) (own_p3 p1)) (own_v4 (0 : Int32) (own_r1 p0) (own_r2 p0 p1) (own_r3 p0 p1 p2)) (p4 &&& (2147483647 : Int32)) 4 s_)))] [(.int (p4 &&& (2147483647 : Int32))), (.ref b3), (.ref b44), (.int (own_b0 p3)), (.int (Int32.ofNat (own_blk (own_v4 (0 : Int32) (0 : Int32) (own_p2 p0) (own_p3 p1)) (own_v4 (0 : Int32) (own_r1 p0) (own_r2 p0 p1) (own_r3 p0 p1 p2)) (p4 &&& (2147483647 : Int32)) 4 s_))), (.int (0 : Int32))])) rfl (by rw [hml]; rfl) (argsL := [(.int (0 : Int32)), (.int (Int32.ofNat (own_blk (own_v4 (0 : Int32) (0 : Int32) (own_p2 p0) (own_p3 p1)) (own_v4 (0 : Int32) (own_r1 p0) (own_r2 p0 p1) (own_r3 p0 p1 p2)) (p4 &&& (2147483647 : Int32)) 4 s_))), (.int (own_b0 p3)), (.ref b44), (.ref b3), (.int (p4 &&& (2147483647 : Int32)))]) (rest := []) (lenOf own_pd3 rfl) rfl (by show 2 * 0 + _ ≤ _; exact Nat.le_of_eq rfl) (hb hby at_287) (fun _ _ => ⟨rfl, eq384, (by decide : 6 + 0 ≤ _), (by decide : 21 + 0 ≤ _)⟩)
      dsimp only [Pt.U, Pt.locs, Pt.cells, Pt.slots] at X389 l389 y389 z389 st389 hQ389
      rw [l389, (y389 : k389 = 6), (z389 : n389 = 21)] at X389
      clear l389 y389 z389
      obtain ⟨rfl, N390, eq390⟩ := hQ389
      have nf391 := Fr.app nf385 N390
      have zs392 : n0 ≤ T360.heap.size := Nat.le_trans Z0 k373.1
      obtain ⟨_, _, ⟨T393, L393, k393, n393⟩, -, X393, ⟨Lc393, hQ393, l393, y393, z393⟩, st393⟩ := Jvm.LawKit.callS X389 hx (y := (⟨"com/example/unfold/unfold/reduction/SplittingBlockAfterPinLaw", "ok", "(III[I[II)Z"⟩ : MethodName)) hown (mvT hZ (hw _ (List.mem_of_getElem? (i := 25) rfl))) (mvT hZ (hw _ (List.mem_of_getElem? (i := 26) rfl))) (mvT hZ (hw _ (List.mem_of_getElem? (i := 23) rfl))) (mvT hZ (hw _ (List.mem_of_getElem? (i := 27) rfl))) (by decide) (backOf (W := 0) (own_rm_ok l Z a0 hw [] (1 : Int32) (Int32.ofNat (own_blk (own_v4 (0 : Int32) (0 : Int32) (own_p2 p0) (own_p3 p1)) (own_v4 (0 : Int32) (own_r1 p0) (own_r2 p0 p1) (own_r3 p0 p1 p2)) (p4 &&& (2147483647 : Int32)) 4 s_)) (own_b0 p3) b44 b3 (p4 &&& (2147483647 : Int32)) 1 (own_blk (own_v4 (0 : Int32) (0 : Int32) (own_p2 p0) (own_p3 p1)) (own_v4 (0 : Int32) (own_r1 p0) (own_r2 p0 p1) (own_r3 p0 p1 p2)) (p4 &&& (2147483647 : Int32)) 4 s_) s_ (own_v4 (0 : Int32) (0 : Int32) (own_p2 p0) (own_p3 p1)) (own_v4 (0 : Int32) (own_r1 p0) (own_r2 p0 p1) (own_r3 p0 p1 p2)) T360.heap n0 zs392 f365 f363 rfl (by decide) rfl hpl.1 hs hs4 hT (hpl.2.2.2 1 (by decide))) hZ (hw _ (List.mem_of_getElem? (i := 27) rfl)) (hw _ (List.mem_of_getElem? (i := 23) rfl)) (by decide) (by decide)) (g := (mkF m 304 #[.val (.int p0), .val (.int p1), .val (.int p2), .val (.int p3), .val (.int p4), .val (.int (own_p2 p0)), .val (.int (own_p3 p1)), .val (.ref b3), .val (.ref b44), .val (.ref b90), .val (.ref b124), .val (.ref b190), .val (.int (0 : Int32)), .val (.int (own_b0 p3)), .val (.int (p4 &&& (2147483647 : Int32))), .val (.ref b344), .val (.int (Int32.ofNat (own_blk (own_v4 (0 : Int32) (0 : Int32) (own_p2 p0) (own_p3 p1)) (own_v4 (0 : Int32) (own_r1 p0) (own_r2 p0 p1) (own_r3 p0 p1 p2)) (p4 &&& (2147483647 : Int32)) 4 s_)))] [(.int (p4 &&& (2147483647 : Int32))), (.ref b3), (.ref b44), (.int (own_b0 p3)), (.int (Int32.ofNat (own_blk (own_v4 (0 : Int32) (0 : Int32) (own_p2 p0) (own_p3 p1)) (own_v4 (0 : Int32) (own_r1 p0) (own_r2 p0 p1) (own_r3 p0 p1 p2)) (p4 &&& (2147483647 : Int32)) 4 s_))), (.int (1 : Int32))])) rfl (by rw [hml]; rfl) (argsL := [(.int (1 : Int32)), (.int (Int32.ofNat (own_blk (own_v4 (0 : Int32) (0 : Int32) (own_p2 p0) (own_p3 p1)) (own_v4 (0 : Int32) (own_r1 p0) (own_r2 p0 p1) (own_r3 p0 p1 p2)) (p4 &&& (2147483647 : Int32)) 4 s_))), (.int (own_b0 p3)), (.ref b44), (.ref b3), (.int (p4 &&& (2147483647 : Int32)))]) (rest := []) (lenOf own_pd3 rfl) rfl (by show 2 * 0 + _ ≤ _; exact Nat.le_of_eq rfl) (hb hby at_304) (fun _ _ => ⟨rfl, eq390, (by decide : 6 + 0 ≤ _), (by decide : 21 + 0 ≤ _)⟩)
      dsimp only [Pt.U, Pt.locs, Pt.cells, Pt.slots] at X393 l393 y393 z393 st393 hQ393
      rw [l393, (y393 : k393 = 6), (z393 : n393 = 21)] at X393
      clear l393 y393 z393
      obtain ⟨rfl, N394, eq394⟩ := hQ393
      have nf395 := Fr.app nf391 N394
      have pre396 : ∀ t, Steps p.tables e below (T393.setTop (mkF m 307 #[.val (.int p0), .val (.int p1), .val (.int p2), .val (.int p3), .val (.int p4), .val (.int (own_p2 p0)), .val (.int (own_p3 p1)), .val (.ref b3), .val (.ref b44), .val (.ref b90), .val (.ref b124), .val (.ref b190), .val (.int (0 : Int32)), .val (.int (own_b0 p3)), .val (.int (p4 &&& (2147483647 : Int32))), .val (.ref b344), .val (.int (Int32.ofNat (own_blk (own_v4 (0 : Int32) (0 : Int32) (own_p2 p0) (own_p3 p1)) (own_v4 (0 : Int32) (own_r1 p0) (own_r2 p0 p1) (own_r3 p0 p1 p2)) (p4 &&& (2147483647 : Int32)) 4 s_)))] [(.int (1 : Int32))])) t → Steps p.tables e below (s₁.setTop (entryFrame m #[(.int p0), (.int p1), (.int p2), (.int p3), (.int p4)] maxLocals)) t := by
        intro t kt
        refine pre387 t ?_
        show Steps p.tables e below (T383.setTop (mkF m 281 #[.val (.int p0), .val (.int p1), .val (.int p2), .val (.int p3), .val (.int p4), .val (.int (own_p2 p0)), .val (.int (own_p3 p1)), .val (.ref b3), .val (.ref b44), .val (.ref b90), .val (.ref b124), .val (.ref b190), .val (.int (0 : Int32)), .val (.int (own_b0 p3)), .val (.int (p4 &&& (2147483647 : Int32))), .val (.ref b344), .val (.int (Int32.ofNat (own_blk (own_v4 (0 : Int32) (0 : Int32) (own_p2 p0) (own_p3 p1)) (own_v4 (0 : Int32) (own_r1 p0) (own_r2 p0 p1) (own_r3 p0 p1 p2)) (p4 &&& (2147483647 : Int32)) 4 s_)))] [(.int (own_b0 p3)), (.int (Int32.ofNat (own_blk (own_v4 (0 : Int32) (0 : Int32) (own_p2 p0) (own_p3 p1)) (own_v4 (0 : Int32) (own_r1 p0) (own_r2 p0 p1) (own_r3 p0 p1 p2)) (p4 &&& (2147483647 : Int32)) 4 s_))), (.int (0 : Int32))])) _
        refine XS.aload X383.here hx rfl (hb hby at_281) rfl rfl ?_
        show Steps p.tables e below (T383.setTop (mkF m 283 #[.val (.int p0), .val (.int p1), .val (.int p2), .val (.int p3), .val (.int p4), .val (.int (own_p2 p0)), .val (.int (own_p3 p1)), .val (.ref b3), .val (.ref b44), .val (.ref b90), .val (.ref b124), .val (.ref b190), .val (.int (0 : Int32)), .val (.int (own_b0 p3)), .val (.int (p4 &&& (2147483647 : Int32))), .val (.ref b344), .val (.int (Int32.ofNat (own_blk (own_v4 (0 : Int32) (0 : Int32) (own_p2 p0) (own_p3 p1)) (own_v4 (0 : Int32) (own_r1 p0) (own_r2 p0 p1) (own_r3 p0 p1 p2)) (p4 &&& (2147483647 : Int32)) 4 s_)))] [(.ref b44), (.int (own_b0 p3)), (.int (Int32.ofNat (own_blk (own_v4 (0 : Int32) (0 : Int32) (own_p2 p0) (own_p3 p1)) (own_v4 (0 : Int32) (own_r1 p0) (own_r2 p0 p1) (own_r3 p0 p1 p2)) (p4 &&& (2147483647 : Int32)) 4 s_))), (.int (0 : Int32))])) _
        refine XS.aload X383.here hx rfl (hb hby at_283) rfl rfl ?_
        show Steps p.tables e below (T383.setTop (mkF m 285 #[.val (.int p0), .val (.int p1), .val (.int p2), .val (.int p3), .val (.int p4), .val (.int (own_p2 p0)), .val (.int (own_p3 p1)), .val (.ref b3), .val (.ref b44), .val (.ref b90), .val (.ref b124), .val (.ref b190), .val (.int (0 : Int32)), .val (.int (own_b0 p3)), .val (.int (p4 &&& (2147483647 : Int32))), .val (.ref b344), .val (.int (Int32.ofNat (own_blk (own_v4 (0 : Int32) (0 : Int32) (own_p2 p0) (own_p3 p1)) (own_v4 (0 : Int32) (own_r1 p0) (own_r2 p0 p1) (own_r3 p0 p1 p2)) (p4 &&& (2147483647 : Int32)) 4 s_)))] [(.ref b3), (.ref b44), (.int (own_b0 p3)), (.int (Int32.ofNat (own_blk (own_v4 (0 : Int32) (0 : Int32) (own_p2 p0) (own_p3 p1)) (own_v4 (0 : Int32) (own_r1 p0) (own_r2 p0 p1) (own_r3 p0 p1 p2)) (p4 &&& (2147483647 : Int32)) 4 s_))), (.int (0 : Int32))])) _
        refine XS.iload X383.here hx rfl (hb hby at_285) rfl ?_
        show Steps p.tables e below (T383.setTop (mkF m 287 #[.val (.int p0), .val (.int p1), .val (.int p2), .val (.int p3), .val (.int p4), .val (.int (own_p2 p0)), .val (.int (own_p3 p1)), .val (.ref b3), .val (.ref b44), .val (.ref b90), .val (.ref b124), .val (.ref b190), .val (.int (0 : Int32)), .val (.int (own_b0 p3)), .val (.int (p4 &&& (2147483647 : Int32))), .val (.ref b344), .val (.int (Int32.ofNat (own_blk (own_v4 (0 : Int32) (0 : Int32) (own_p2 p0) (own_p3 p1)) (own_v4 (0 : Int32) (own_r1 p0) (own_r2 p0 p1) (own_r3 p0 p1 p2)) (p4 &&& (2147483647 : Int32)) 4 s_)))] [(.int (p4 &&& (2147483647 : Int32))), (.ref b3), (.ref b44), (.int (own_b0 p3)), (.int (Int32.ofNat (own_blk (own_v4 (0 : Int32) (0 : Int32) (own_p2 p0) (own_p3 p1)) (own_v4 (0 : Int32) (own_r1 p0) (own_r2 p0 p1) (own_r3 p0 p1 p2)) (p4 &&& (2147483647 : Int32)) 4 s_))), (.int (0 : Int32))])) _
        refine st389 _ ?_
        show Steps p.tables e below (T389.setTop (mkF m 290 #[.val (.int p0), .val (.int p1), .val (.int p2), .val (.int p3), .val (.int p4), .val (.int (own_p2 p0)), .val (.int (own_p3 p1)), .val (.ref b3), .val (.ref b44), .val (.ref b90), .val (.ref b124), .val (.ref b190), .val (.int (0 : Int32)), .val (.int (own_b0 p3)), .val (.int (p4 &&& (2147483647 : Int32))), .val (.ref b344), .val (.int (Int32.ofNat (own_blk (own_v4 (0 : Int32) (0 : Int32) (own_p2 p0) (own_p3 p1)) (own_v4 (0 : Int32) (own_r1 p0) (own_r2 p0 p1) (own_r3 p0 p1 p2)) (p4 &&& (2147483647 : Int32)) 4 s_)))] [(.int (1 : Int32))])) _
        refine XS.ifNo X389.here hx rfl (hb hby at_290) rfl ((if0 _ _).trans (feq (by decide : ¬ ((1 : Int32) = (0 : Int32)))).1) ?_
        show Steps p.tables e below (T389.setTop (mkF m 293 #[.val (.int p0), .val (.int p1), .val (.int p2), .val (.int p3), .val (.int p4), .val (.int (own_p2 p0)), .val (.int (own_p3 p1)), .val (.ref b3), .val (.ref b44), .val (.ref b90), .val (.ref b124), .val (.ref b190), .val (.int (0 : Int32)), .val (.int (own_b0 p3)), .val (.int (p4 &&& (2147483647 : Int32))), .val (.ref b344), .val (.int (Int32.ofNat (own_blk (own_v4 (0 : Int32) (0 : Int32) (own_p2 p0) (own_p3 p1)) (own_v4 (0 : Int32) (own_r1 p0) (own_r2 p0 p1) (own_r3 p0 p1 p2)) (p4 &&& (2147483647 : Int32)) 4 s_)))] [])) _
        refine XS.iconst X389.here hx rfl (hb hby at_293) ?_
        show Steps p.tables e below (T389.setTop (mkF m 294 #[.val (.int p0), .val (.int p1), .val (.int p2), .val (.int p3), .val (.int p4), .val (.int (own_p2 p0)), .val (.int (own_p3 p1)), .val (.ref b3), .val (.ref b44), .val (.ref b90), .val (.ref b124), .val (.ref b190), .val (.int (0 : Int32)), .val (.int (own_b0 p3)), .val (.int (p4 &&& (2147483647 : Int32))), .val (.ref b344), .val (.int (Int32.ofNat (own_blk (own_v4 (0 : Int32) (0 : Int32) (own_p2 p0) (own_p3 p1)) (own_v4 (0 : Int32) (own_r1 p0) (own_r2 p0 p1) (own_r3 p0 p1 p2)) (p4 &&& (2147483647 : Int32)) 4 s_)))] [(.int (1 : Int32))])) _
        refine XS.iload X389.here hx rfl (hb hby at_294) rfl ?_
        show Steps p.tables e below (T389.setTop (mkF m 296 #[.val (.int p0), .val (.int p1), .val (.int p2), .val (.int p3), .val (.int p4), .val (.int (own_p2 p0)), .val (.int (own_p3 p1)), .val (.ref b3), .val (.ref b44), .val (.ref b90), .val (.ref b124), .val (.ref b190), .val (.int (0 : Int32)), .val (.int (own_b0 p3)), .val (.int (p4 &&& (2147483647 : Int32))), .val (.ref b344), .val (.int (Int32.ofNat (own_blk (own_v4 (0 : Int32) (0 : Int32) (own_p2 p0) (own_p3 p1)) (own_v4 (0 : Int32) (own_r1 p0) (own_r2 p0 p1) (own_r3 p0 p1 p2)) (p4 &&& (2147483647 : Int32)) 4 s_)))] [(.int (Int32.ofNat (own_blk (own_v4 (0 : Int32) (0 : Int32) (own_p2 p0) (own_p3 p1)) (own_v4 (0 : Int32) (own_r1 p0) (own_r2 p0 p1) (own_r3 p0 p1 p2)) (p4 &&& (2147483647 : Int32)) 4 s_))), (.int (1 : Int32))])) _
        refine XS.iload X389.here hx rfl (hb hby at_296) rfl ?_
        show Steps p.tables e below (T389.setTop (mkF m 298 #[.val (.int p0), .val (.int p1), .val (.int p2), .val (.int p3), .val (.int p4), .val (.int (own_p2 p0)), .val (.int (own_p3 p1)), .val (.ref b3), .val (.ref b44), .val (.ref b90), .val (.ref b124), .val (.ref b190), .val (.int (0 : Int32)), .val (.int (own_b0 p3)), .val (.int (p4 &&& (2147483647 : Int32))), .val (.ref b344), .val (.int (Int32.ofNat (own_blk (own_v4 (0 : Int32) (0 : Int32) (own_p2 p0) (own_p3 p1)) (own_v4 (0 : Int32) (own_r1 p0) (own_r2 p0 p1) (own_r3 p0 p1 p2)) (p4 &&& (2147483647 : Int32)) 4 s_)))] [(.int (own_b0 p3)), (.int (Int32.ofNat (own_blk (own_v4 (0 : Int32) (0 : Int32) (own_p2 p0) (own_p3 p1)) (own_v4 (0 : Int32) (own_r1 p0) (own_r2 p0 p1) (own_r3 p0 p1 p2)) (p4 &&& (2147483647 : Int32)) 4 s_))), (.int (1 : Int32))])) _
        refine XS.aload X389.here hx rfl (hb hby at_298) rfl rfl ?_
        show Steps p.tables e below (T389.setTop (mkF m 300 #[.val (.int p0), .val (.int p1), .val (.int p2), .val (.int p3), .val (.int p4), .val (.int (own_p2 p0)), .val (.int (own_p3 p1)), .val (.ref b3), .val (.ref b44), .val (.ref b90), .val (.ref b124), .val (.ref b190), .val (.int (0 : Int32)), .val (.int (own_b0 p3)), .val (.int (p4 &&& (2147483647 : Int32))), .val (.ref b344), .val (.int (Int32.ofNat (own_blk (own_v4 (0 : Int32) (0 : Int32) (own_p2 p0) (own_p3 p1)) (own_v4 (0 : Int32) (own_r1 p0) (own_r2 p0 p1) (own_r3 p0 p1 p2)) (p4 &&& (2147483647 : Int32)) 4 s_)))] [(.ref b44), (.int (own_b0 p3)), (.int (Int32.ofNat (own_blk (own_v4 (0 : Int32) (0 : Int32) (own_p2 p0) (own_p3 p1)) (own_v4 (0 : Int32) (own_r1 p0) (own_r2 p0 p1) (own_r3 p0 p1 p2)) (p4 &&& (2147483647 : Int32)) 4 s_))), (.int (1 : Int32))])) _
        refine XS.aload X389.here hx rfl (hb hby at_300) rfl rfl ?_
        show Steps p.tables e below (T389.setTop (mkF m 302 #[.val (.int p0), .val (.int p1), .val (.int p2), .val (.int p3), .val (.int p4), .val (.int (own_p2 p0)), .val (.int (own_p3 p1)), .val (.ref b3), .val (.ref b44), .val (.ref b90), .val (.ref b124), .val (.ref b190), .val (.int (0 : Int32)), .val (.int (own_b0 p3)), .val (.int (p4 &&& (2147483647 : Int32))), .val (.ref b344), .val (.int (Int32.ofNat (own_blk (own_v4 (0 : Int32) (0 : Int32) (own_p2 p0) (own_p3 p1)) (own_v4 (0 : Int32) (own_r1 p0) (own_r2 p0 p1) (own_r3 p0 p1 p2)) (p4 &&& (2147483647 : Int32)) 4 s_)))] [(.ref b3), (.ref b44), (.int (own_b0 p3)), (.int (Int32.ofNat (own_blk (own_v4 (0 : Int32) (0 : Int32) (own_p2 p0) (own_p3 p1)) (own_v4 (0 : Int32) (own_r1 p0) (own_r2 p0 p1) (own_r3 p0 p1 p2)) (p4 &&& (2147483647 : Int32)) 4 s_))), (.int (1 : Int32))])) _
        refine XS.iload X389.here hx rfl (hb hby at_302) rfl ?_
        show Steps p.tables e below (T389.setTop (mkF m 304 #[.val (.int p0), .val (.int p1), .val (.int p2), .val (.int p3), .val (.int p4), .val (.int (own_p2 p0)), .val (.int (own_p3 p1)), .val (.ref b3), .val (.ref b44), .val (.ref b90), .val (.ref b124), .val (.ref b190), .val (.int (0 : Int32)), .val (.int (own_b0 p3)), .val (.int (p4 &&& (2147483647 : Int32))), .val (.ref b344), .val (.int (Int32.ofNat (own_blk (own_v4 (0 : Int32) (0 : Int32) (own_p2 p0) (own_p3 p1)) (own_v4 (0 : Int32) (own_r1 p0) (own_r2 p0 p1) (own_r3 p0 p1 p2)) (p4 &&& (2147483647 : Int32)) 4 s_)))] [(.int (p4 &&& (2147483647 : Int32))), (.ref b3), (.ref b44), (.int (own_b0 p3)), (.int (Int32.ofNat (own_blk (own_v4 (0 : Int32) (0 : Int32) (own_p2 p0) (own_p3 p1)) (own_v4 (0 : Int32) (own_r1 p0) (own_r2 p0 p1) (own_r3 p0 p1 p2)) (p4 &&& (2147483647 : Int32)) 4 s_))), (.int (1 : Int32))])) _
        refine st393 _ ?_
        exact kt
      have zs397 : n0 ≤ T360.heap.size := Nat.le_trans Z0 k373.1
      obtain ⟨_, _, ⟨T398, L398, k398, n398⟩, -, X398, ⟨Lc398, hQ398, l398, y398, z398⟩, st398⟩ := Jvm.LawKit.callS X393 hx (y := (⟨"com/example/unfold/unfold/reduction/SplittingBlockAfterPinLaw", "ok", "(III[I[II)Z"⟩ : MethodName)) hown (mvT hZ (hw _ (List.mem_of_getElem? (i := 25) rfl))) (mvT hZ (hw _ (List.mem_of_getElem? (i := 26) rfl))) (mvT hZ (hw _ (List.mem_of_getElem? (i := 23) rfl))) (mvT hZ (hw _ (List.mem_of_getElem? (i := 27) rfl))) (by decide) (backOf (W := 0) (own_rm_ok l Z a0 hw [] (2 : Int32) (Int32.ofNat (own_blk (own_v4 (0 : Int32) (0 : Int32) (own_p2 p0) (own_p3 p1)) (own_v4 (0 : Int32) (own_r1 p0) (own_r2 p0 p1) (own_r3 p0 p1 p2)) (p4 &&& (2147483647 : Int32)) 4 s_)) (own_b0 p3) b44 b3 (p4 &&& (2147483647 : Int32)) 2 (own_blk (own_v4 (0 : Int32) (0 : Int32) (own_p2 p0) (own_p3 p1)) (own_v4 (0 : Int32) (own_r1 p0) (own_r2 p0 p1) (own_r3 p0 p1 p2)) (p4 &&& (2147483647 : Int32)) 4 s_) s_ (own_v4 (0 : Int32) (0 : Int32) (own_p2 p0) (own_p3 p1)) (own_v4 (0 : Int32) (own_r1 p0) (own_r2 p0 p1) (own_r3 p0 p1 p2)) T360.heap n0 zs397 f365 f363 rfl (by decide) rfl hpl.1 hs hs4 hT (hpl.2.2.2 2 (by decide))) hZ (hw _ (List.mem_of_getElem? (i := 27) rfl)) (hw _ (List.mem_of_getElem? (i := 23) rfl)) (by decide) (by decide)) (g := (mkF m 321 #[.val (.int p0), .val (.int p1), .val (.int p2), .val (.int p3), .val (.int p4), .val (.int (own_p2 p0)), .val (.int (own_p3 p1)), .val (.ref b3), .val (.ref b44), .val (.ref b90), .val (.ref b124), .val (.ref b190), .val (.int (0 : Int32)), .val (.int (own_b0 p3)), .val (.int (p4 &&& (2147483647 : Int32))), .val (.ref b344), .val (.int (Int32.ofNat (own_blk (own_v4 (0 : Int32) (0 : Int32) (own_p2 p0) (own_p3 p1)) (own_v4 (0 : Int32) (own_r1 p0) (own_r2 p0 p1) (own_r3 p0 p1 p2)) (p4 &&& (2147483647 : Int32)) 4 s_)))] [(.int (p4 &&& (2147483647 : Int32))), (.ref b3), (.ref b44), (.int (own_b0 p3)), (.int (Int32.ofNat (own_blk (own_v4 (0 : Int32) (0 : Int32) (own_p2 p0) (own_p3 p1)) (own_v4 (0 : Int32) (own_r1 p0) (own_r2 p0 p1) (own_r3 p0 p1 p2)) (p4 &&& (2147483647 : Int32)) 4 s_))), (.int (2 : Int32))])) rfl (by rw [hml]; rfl) (argsL := [(.int (2 : Int32)), (.int (Int32.ofNat (own_blk (own_v4 (0 : Int32) (0 : Int32) (own_p2 p0) (own_p3 p1)) (own_v4 (0 : Int32) (own_r1 p0) (own_r2 p0 p1) (own_r3 p0 p1 p2)) (p4 &&& (2147483647 : Int32)) 4 s_))), (.int (own_b0 p3)), (.ref b44), (.ref b3), (.int (p4 &&& (2147483647 : Int32)))]) (rest := []) (lenOf own_pd3 rfl) rfl (by show 2 * 0 + _ ≤ _; exact Nat.le_of_eq rfl) (hb hby at_321) (fun _ _ => ⟨rfl, eq394, (by decide : 6 + 0 ≤ _), (by decide : 21 + 0 ≤ _)⟩)
      dsimp only [Pt.U, Pt.locs, Pt.cells, Pt.slots] at X398 l398 y398 z398 st398 hQ398
      rw [l398, (y398 : k398 = 6), (z398 : n398 = 21)] at X398
      clear l398 y398 z398
      obtain ⟨rfl, N399, eq399⟩ := hQ398
      have nf400 := Fr.app nf395 N399
      have pre401 : ∀ t, Steps p.tables e below (T398.setTop (mkF m 332 #[.val (.int p0), .val (.int p1), .val (.int p2), .val (.int p3), .val (.int p4), .val (.int (own_p2 p0)), .val (.int (own_p3 p1)), .val (.ref b3), .val (.ref b44), .val (.ref b90), .val (.ref b124), .val (.ref b190), .val (.int (0 : Int32)), .val (.int (own_b0 p3)), .val (.int (p4 &&& (2147483647 : Int32))), .val (.ref b344), .val (.int (Int32.ofNat (own_blk (own_v4 (0 : Int32) (0 : Int32) (own_p2 p0) (own_p3 p1)) (own_v4 (0 : Int32) (own_r1 p0) (own_r2 p0 p1) (own_r3 p0 p1 p2)) (p4 &&& (2147483647 : Int32)) 4 s_)))] [(.int (own_b0 p3)), (.int (Int32.ofNat (own_blk (own_v4 (0 : Int32) (0 : Int32) (own_p2 p0) (own_p3 p1)) (own_v4 (0 : Int32) (own_r1 p0) (own_r2 p0 p1) (own_r3 p0 p1 p2)) (p4 &&& (2147483647 : Int32)) 4 s_))), (.int (3 : Int32))])) t → Steps p.tables e below (s₁.setTop (entryFrame m #[(.int p0), (.int p1), (.int p2), (.int p3), (.int p4)] maxLocals)) t := by
        intro t kt
        refine pre396 t ?_
        show Steps p.tables e below (T393.setTop (mkF m 307 #[.val (.int p0), .val (.int p1), .val (.int p2), .val (.int p3), .val (.int p4), .val (.int (own_p2 p0)), .val (.int (own_p3 p1)), .val (.ref b3), .val (.ref b44), .val (.ref b90), .val (.ref b124), .val (.ref b190), .val (.int (0 : Int32)), .val (.int (own_b0 p3)), .val (.int (p4 &&& (2147483647 : Int32))), .val (.ref b344), .val (.int (Int32.ofNat (own_blk (own_v4 (0 : Int32) (0 : Int32) (own_p2 p0) (own_p3 p1)) (own_v4 (0 : Int32) (own_r1 p0) (own_r2 p0 p1) (own_r3 p0 p1 p2)) (p4 &&& (2147483647 : Int32)) 4 s_)))] [(.int (1 : Int32))])) _
        refine XS.ifNo X393.here hx rfl (hb hby at_307) rfl ((if0 _ _).trans (feq (by decide : ¬ ((1 : Int32) = (0 : Int32)))).1) ?_
        show Steps p.tables e below (T393.setTop (mkF m 310 #[.val (.int p0), .val (.int p1), .val (.int p2), .val (.int p3), .val (.int p4), .val (.int (own_p2 p0)), .val (.int (own_p3 p1)), .val (.ref b3), .val (.ref b44), .val (.ref b90), .val (.ref b124), .val (.ref b190), .val (.int (0 : Int32)), .val (.int (own_b0 p3)), .val (.int (p4 &&& (2147483647 : Int32))), .val (.ref b344), .val (.int (Int32.ofNat (own_blk (own_v4 (0 : Int32) (0 : Int32) (own_p2 p0) (own_p3 p1)) (own_v4 (0 : Int32) (own_r1 p0) (own_r2 p0 p1) (own_r3 p0 p1 p2)) (p4 &&& (2147483647 : Int32)) 4 s_)))] [])) _
        refine XS.iconst X393.here hx rfl (hb hby at_310) ?_
        show Steps p.tables e below (T393.setTop (mkF m 311 #[.val (.int p0), .val (.int p1), .val (.int p2), .val (.int p3), .val (.int p4), .val (.int (own_p2 p0)), .val (.int (own_p3 p1)), .val (.ref b3), .val (.ref b44), .val (.ref b90), .val (.ref b124), .val (.ref b190), .val (.int (0 : Int32)), .val (.int (own_b0 p3)), .val (.int (p4 &&& (2147483647 : Int32))), .val (.ref b344), .val (.int (Int32.ofNat (own_blk (own_v4 (0 : Int32) (0 : Int32) (own_p2 p0) (own_p3 p1)) (own_v4 (0 : Int32) (own_r1 p0) (own_r2 p0 p1) (own_r3 p0 p1 p2)) (p4 &&& (2147483647 : Int32)) 4 s_)))] [(.int (2 : Int32))])) _
        refine XS.iload X393.here hx rfl (hb hby at_311) rfl ?_
        show Steps p.tables e below (T393.setTop (mkF m 313 #[.val (.int p0), .val (.int p1), .val (.int p2), .val (.int p3), .val (.int p4), .val (.int (own_p2 p0)), .val (.int (own_p3 p1)), .val (.ref b3), .val (.ref b44), .val (.ref b90), .val (.ref b124), .val (.ref b190), .val (.int (0 : Int32)), .val (.int (own_b0 p3)), .val (.int (p4 &&& (2147483647 : Int32))), .val (.ref b344), .val (.int (Int32.ofNat (own_blk (own_v4 (0 : Int32) (0 : Int32) (own_p2 p0) (own_p3 p1)) (own_v4 (0 : Int32) (own_r1 p0) (own_r2 p0 p1) (own_r3 p0 p1 p2)) (p4 &&& (2147483647 : Int32)) 4 s_)))] [(.int (Int32.ofNat (own_blk (own_v4 (0 : Int32) (0 : Int32) (own_p2 p0) (own_p3 p1)) (own_v4 (0 : Int32) (own_r1 p0) (own_r2 p0 p1) (own_r3 p0 p1 p2)) (p4 &&& (2147483647 : Int32)) 4 s_))), (.int (2 : Int32))])) _
        refine XS.iload X393.here hx rfl (hb hby at_313) rfl ?_
        show Steps p.tables e below (T393.setTop (mkF m 315 #[.val (.int p0), .val (.int p1), .val (.int p2), .val (.int p3), .val (.int p4), .val (.int (own_p2 p0)), .val (.int (own_p3 p1)), .val (.ref b3), .val (.ref b44), .val (.ref b90), .val (.ref b124), .val (.ref b190), .val (.int (0 : Int32)), .val (.int (own_b0 p3)), .val (.int (p4 &&& (2147483647 : Int32))), .val (.ref b344), .val (.int (Int32.ofNat (own_blk (own_v4 (0 : Int32) (0 : Int32) (own_p2 p0) (own_p3 p1)) (own_v4 (0 : Int32) (own_r1 p0) (own_r2 p0 p1) (own_r3 p0 p1 p2)) (p4 &&& (2147483647 : Int32)) 4 s_)))] [(.int (own_b0 p3)), (.int (Int32.ofNat (own_blk (own_v4 (0 : Int32) (0 : Int32) (own_p2 p0) (own_p3 p1)) (own_v4 (0 : Int32) (own_r1 p0) (own_r2 p0 p1) (own_r3 p0 p1 p2)) (p4 &&& (2147483647 : Int32)) 4 s_))), (.int (2 : Int32))])) _
        refine XS.aload X393.here hx rfl (hb hby at_315) rfl rfl ?_
        show Steps p.tables e below (T393.setTop (mkF m 317 #[.val (.int p0), .val (.int p1), .val (.int p2), .val (.int p3), .val (.int p4), .val (.int (own_p2 p0)), .val (.int (own_p3 p1)), .val (.ref b3), .val (.ref b44), .val (.ref b90), .val (.ref b124), .val (.ref b190), .val (.int (0 : Int32)), .val (.int (own_b0 p3)), .val (.int (p4 &&& (2147483647 : Int32))), .val (.ref b344), .val (.int (Int32.ofNat (own_blk (own_v4 (0 : Int32) (0 : Int32) (own_p2 p0) (own_p3 p1)) (own_v4 (0 : Int32) (own_r1 p0) (own_r2 p0 p1) (own_r3 p0 p1 p2)) (p4 &&& (2147483647 : Int32)) 4 s_)))] [(.ref b44), (.int (own_b0 p3)), (.int (Int32.ofNat (own_blk (own_v4 (0 : Int32) (0 : Int32) (own_p2 p0) (own_p3 p1)) (own_v4 (0 : Int32) (own_r1 p0) (own_r2 p0 p1) (own_r3 p0 p1 p2)) (p4 &&& (2147483647 : Int32)) 4 s_))), (.int (2 : Int32))])) _
        refine XS.aload X393.here hx rfl (hb hby at_317) rfl rfl ?_
        show Steps p.tables e below (T393.setTop (mkF m 319 #[.val (.int p0), .val (.int p1), .val (.int p2), .val (.int p3), .val (.int p4), .val (.int (own_p2 p0)), .val (.int (own_p3 p1)), .val (.ref b3), .val (.ref b44), .val (.ref b90), .val (.ref b124), .val (.ref b190), .val (.int (0 : Int32)), .val (.int (own_b0 p3)), .val (.int (p4 &&& (2147483647 : Int32))), .val (.ref b344), .val (.int (Int32.ofNat (own_blk (own_v4 (0 : Int32) (0 : Int32) (own_p2 p0) (own_p3 p1)) (own_v4 (0 : Int32) (own_r1 p0) (own_r2 p0 p1) (own_r3 p0 p1 p2)) (p4 &&& (2147483647 : Int32)) 4 s_)))] [(.ref b3), (.ref b44), (.int (own_b0 p3)), (.int (Int32.ofNat (own_blk (own_v4 (0 : Int32) (0 : Int32) (own_p2 p0) (own_p3 p1)) (own_v4 (0 : Int32) (own_r1 p0) (own_r2 p0 p1) (own_r3 p0 p1 p2)) (p4 &&& (2147483647 : Int32)) 4 s_))), (.int (2 : Int32))])) _
        refine XS.iload X393.here hx rfl (hb hby at_319) rfl ?_
        show Steps p.tables e below (T393.setTop (mkF m 321 #[.val (.int p0), .val (.int p1), .val (.int p2), .val (.int p3), .val (.int p4), .val (.int (own_p2 p0)), .val (.int (own_p3 p1)), .val (.ref b3), .val (.ref b44), .val (.ref b90), .val (.ref b124), .val (.ref b190), .val (.int (0 : Int32)), .val (.int (own_b0 p3)), .val (.int (p4 &&& (2147483647 : Int32))), .val (.ref b344), .val (.int (Int32.ofNat (own_blk (own_v4 (0 : Int32) (0 : Int32) (own_p2 p0) (own_p3 p1)) (own_v4 (0 : Int32) (own_r1 p0) (own_r2 p0 p1) (own_r3 p0 p1 p2)) (p4 &&& (2147483647 : Int32)) 4 s_)))] [(.int (p4 &&& (2147483647 : Int32))), (.ref b3), (.ref b44), (.int (own_b0 p3)), (.int (Int32.ofNat (own_blk (own_v4 (0 : Int32) (0 : Int32) (own_p2 p0) (own_p3 p1)) (own_v4 (0 : Int32) (own_r1 p0) (own_r2 p0 p1) (own_r3 p0 p1 p2)) (p4 &&& (2147483647 : Int32)) 4 s_))), (.int (2 : Int32))])) _
        refine st398 _ ?_
        show Steps p.tables e below (T398.setTop (mkF m 324 #[.val (.int p0), .val (.int p1), .val (.int p2), .val (.int p3), .val (.int p4), .val (.int (own_p2 p0)), .val (.int (own_p3 p1)), .val (.ref b3), .val (.ref b44), .val (.ref b90), .val (.ref b124), .val (.ref b190), .val (.int (0 : Int32)), .val (.int (own_b0 p3)), .val (.int (p4 &&& (2147483647 : Int32))), .val (.ref b344), .val (.int (Int32.ofNat (own_blk (own_v4 (0 : Int32) (0 : Int32) (own_p2 p0) (own_p3 p1)) (own_v4 (0 : Int32) (own_r1 p0) (own_r2 p0 p1) (own_r3 p0 p1 p2)) (p4 &&& (2147483647 : Int32)) 4 s_)))] [(.int (1 : Int32))])) _
        refine XS.ifNo X398.here hx rfl (hb hby at_324) rfl ((if0 _ _).trans (feq (by decide : ¬ ((1 : Int32) = (0 : Int32)))).1) ?_
        show Steps p.tables e below (T398.setTop (mkF m 327 #[.val (.int p0), .val (.int p1), .val (.int p2), .val (.int p3), .val (.int p4), .val (.int (own_p2 p0)), .val (.int (own_p3 p1)), .val (.ref b3), .val (.ref b44), .val (.ref b90), .val (.ref b124), .val (.ref b190), .val (.int (0 : Int32)), .val (.int (own_b0 p3)), .val (.int (p4 &&& (2147483647 : Int32))), .val (.ref b344), .val (.int (Int32.ofNat (own_blk (own_v4 (0 : Int32) (0 : Int32) (own_p2 p0) (own_p3 p1)) (own_v4 (0 : Int32) (own_r1 p0) (own_r2 p0 p1) (own_r3 p0 p1 p2)) (p4 &&& (2147483647 : Int32)) 4 s_)))] [])) _
        refine XS.iconst X398.here hx rfl (hb hby at_327) ?_
        show Steps p.tables e below (T398.setTop (mkF m 328 #[.val (.int p0), .val (.int p1), .val (.int p2), .val (.int p3), .val (.int p4), .val (.int (own_p2 p0)), .val (.int (own_p3 p1)), .val (.ref b3), .val (.ref b44), .val (.ref b90), .val (.ref b124), .val (.ref b190), .val (.int (0 : Int32)), .val (.int (own_b0 p3)), .val (.int (p4 &&& (2147483647 : Int32))), .val (.ref b344), .val (.int (Int32.ofNat (own_blk (own_v4 (0 : Int32) (0 : Int32) (own_p2 p0) (own_p3 p1)) (own_v4 (0 : Int32) (own_r1 p0) (own_r2 p0 p1) (own_r3 p0 p1 p2)) (p4 &&& (2147483647 : Int32)) 4 s_)))] [(.int (3 : Int32))])) _
        refine XS.iload X398.here hx rfl (hb hby at_328) rfl ?_
        show Steps p.tables e below (T398.setTop (mkF m 330 #[.val (.int p0), .val (.int p1), .val (.int p2), .val (.int p3), .val (.int p4), .val (.int (own_p2 p0)), .val (.int (own_p3 p1)), .val (.ref b3), .val (.ref b44), .val (.ref b90), .val (.ref b124), .val (.ref b190), .val (.int (0 : Int32)), .val (.int (own_b0 p3)), .val (.int (p4 &&& (2147483647 : Int32))), .val (.ref b344), .val (.int (Int32.ofNat (own_blk (own_v4 (0 : Int32) (0 : Int32) (own_p2 p0) (own_p3 p1)) (own_v4 (0 : Int32) (own_r1 p0) (own_r2 p0 p1) (own_r3 p0 p1 p2)) (p4 &&& (2147483647 : Int32)) 4 s_)))] [(.int (Int32.ofNat (own_blk (own_v4 (0 : Int32) (0 : Int32) (own_p2 p0) (own_p3 p1)) (own_v4 (0 : Int32) (own_r1 p0) (own_r2 p0 p1) (own_r3 p0 p1 p2)) (p4 &&& (2147483647 : Int32)) 4 s_))), (.int (3 : Int32))])) _
        refine XS.iload X398.here hx rfl (hb hby at_330) rfl ?_
        exact kt
      have zs402 : n0 ≤ T360.heap.size := Nat.le_trans Z0 k373.1
      obtain ⟨_, _, ⟨T403, L403, k403, n403⟩, -, X403, ⟨Lc403, hQ403, l403, y403, z403⟩, st403⟩ := Jvm.LawKit.callS X398 hx (y := (⟨"com/example/unfold/unfold/reduction/SplittingBlockAfterPinLaw", "ok", "(III[I[II)Z"⟩ : MethodName)) hown (mvT hZ (hw _ (List.mem_of_getElem? (i := 25) rfl))) (mvT hZ (hw _ (List.mem_of_getElem? (i := 26) rfl))) (mvT hZ (hw _ (List.mem_of_getElem? (i := 23) rfl))) (mvT hZ (hw _ (List.mem_of_getElem? (i := 27) rfl))) (by decide) (backOf (W := 0) (own_rm_ok l Z a0 hw [] (3 : Int32) (Int32.ofNat (own_blk (own_v4 (0 : Int32) (0 : Int32) (own_p2 p0) (own_p3 p1)) (own_v4 (0 : Int32) (own_r1 p0) (own_r2 p0 p1) (own_r3 p0 p1 p2)) (p4 &&& (2147483647 : Int32)) 4 s_)) (own_b0 p3) b44 b3 (p4 &&& (2147483647 : Int32)) 3 (own_blk (own_v4 (0 : Int32) (0 : Int32) (own_p2 p0) (own_p3 p1)) (own_v4 (0 : Int32) (own_r1 p0) (own_r2 p0 p1) (own_r3 p0 p1 p2)) (p4 &&& (2147483647 : Int32)) 4 s_) s_ (own_v4 (0 : Int32) (0 : Int32) (own_p2 p0) (own_p3 p1)) (own_v4 (0 : Int32) (own_r1 p0) (own_r2 p0 p1) (own_r3 p0 p1 p2)) T360.heap n0 zs402 f365 f363 rfl (by decide) rfl hpl.1 hs hs4 hT (hpl.2.2.2 3 (by decide))) hZ (hw _ (List.mem_of_getElem? (i := 27) rfl)) (hw _ (List.mem_of_getElem? (i := 23) rfl)) (by decide) (by decide)) (g := (mkF m 338 #[.val (.int p0), .val (.int p1), .val (.int p2), .val (.int p3), .val (.int p4), .val (.int (own_p2 p0)), .val (.int (own_p3 p1)), .val (.ref b3), .val (.ref b44), .val (.ref b90), .val (.ref b124), .val (.ref b190), .val (.int (0 : Int32)), .val (.int (own_b0 p3)), .val (.int (p4 &&& (2147483647 : Int32))), .val (.ref b344), .val (.int (Int32.ofNat (own_blk (own_v4 (0 : Int32) (0 : Int32) (own_p2 p0) (own_p3 p1)) (own_v4 (0 : Int32) (own_r1 p0) (own_r2 p0 p1) (own_r3 p0 p1 p2)) (p4 &&& (2147483647 : Int32)) 4 s_)))] [(.int (p4 &&& (2147483647 : Int32))), (.ref b3), (.ref b44), (.int (own_b0 p3)), (.int (Int32.ofNat (own_blk (own_v4 (0 : Int32) (0 : Int32) (own_p2 p0) (own_p3 p1)) (own_v4 (0 : Int32) (own_r1 p0) (own_r2 p0 p1) (own_r3 p0 p1 p2)) (p4 &&& (2147483647 : Int32)) 4 s_))), (.int (3 : Int32))])) rfl (by rw [hml]; rfl) (argsL := [(.int (3 : Int32)), (.int (Int32.ofNat (own_blk (own_v4 (0 : Int32) (0 : Int32) (own_p2 p0) (own_p3 p1)) (own_v4 (0 : Int32) (own_r1 p0) (own_r2 p0 p1) (own_r3 p0 p1 p2)) (p4 &&& (2147483647 : Int32)) 4 s_))), (.int (own_b0 p3)), (.ref b44), (.ref b3), (.int (p4 &&& (2147483647 : Int32)))]) (rest := []) (lenOf own_pd3 rfl) rfl (by show 2 * 0 + _ ≤ _; exact Nat.le_of_eq rfl) (hb hby at_338) (fun _ _ => ⟨rfl, eq399, (by decide : 6 + 0 ≤ _), (by decide : 21 + 0 ≤ _)⟩)
      dsimp only [Pt.U, Pt.locs, Pt.cells, Pt.slots] at X403 l403 y403 z403 st403 hQ403
      rw [l403, (y403 : k403 = 6), (z403 : n403 = 21)] at X403
      clear l403 y403 z403
      obtain ⟨rfl, N404, eq404⟩ := hQ403
      have nf405 := Fr.app nf400 N404
      have pre406 : ∀ t, Steps p.tables e below (T403.setTop (mkF m 349 #[.val (.int p0), .val (.int p1), .val (.int p2), .val (.int p3), .val (.int p4), .val (.int (own_p2 p0)), .val (.int (own_p3 p1)), .val (.ref b3), .val (.ref b44), .val (.ref b90), .val (.ref b124), .val (.ref b190), .val (.int (0 : Int32)), .val (.int (own_b0 p3)), .val (.int (p4 &&& (2147483647 : Int32))), .val (.ref b344), .val (.int (Int32.ofNat (own_blk (own_v4 (0 : Int32) (0 : Int32) (own_p2 p0) (own_p3 p1)) (own_v4 (0 : Int32) (own_r1 p0) (own_r2 p0 p1) (own_r3 p0 p1 p2)) (p4 &&& (2147483647 : Int32)) 4 s_)))] [(.int (1 : Int32))])) t → Steps p.tables e below (s₁.setTop (entryFrame m #[(.int p0), (.int p1), (.int p2), (.int p3), (.int p4)] maxLocals)) t := by
        intro t kt
        refine pre401 t ?_
        show Steps p.tables e below (T398.setTop (mkF m 332 #[.val (.int p0), .val (.int p1), .val (.int p2), .val (.int p3), .val (.int p4), .val (.int (own_p2 p0)), .val (.int (own_p3 p1)), .val (.ref b3), .val (.ref b44), .val (.ref b90), .val (.ref b124), .val (.ref b190), .val (.int (0 : Int32)), .val (.int (own_b0 p3)), .val (.int (p4 &&& (2147483647 : Int32))), .val (.ref b344), .val (.int (Int32.ofNat (own_blk (own_v4 (0 : Int32) (0 : Int32) (own_p2 p0) (own_p3 p1)) (own_v4 (0 : Int32) (own_r1 p0) (own_r2 p0 p1) (own_r3 p0 p1 p2)) (p4 &&& (2147483647 : Int32)) 4 s_)))] [(.int (own_b0 p3)), (.int (Int32.ofNat (own_blk (own_v4 (0 : Int32) (0 : Int32) (own_p2 p0) (own_p3 p1)) (own_v4 (0 : Int32) (own_r1 p0) (own_r2 p0 p1) (own_r3 p0 p1 p2)) (p4 &&& (2147483647 : Int32)) 4 s_))), (.int (3 : Int32))])) _
        refine XS.aload X398.here hx rfl (hb hby at_332) rfl rfl ?_
        show Steps p.tables e below (T398.setTop (mkF m 334 #[.val (.int p0), .val (.int p1), .val (.int p2), .val (.int p3), .val (.int p4), .val (.int (own_p2 p0)), .val (.int (own_p3 p1)), .val (.ref b3), .val (.ref b44), .val (.ref b90), .val (.ref b124), .val (.ref b190), .val (.int (0 : Int32)), .val (.int (own_b0 p3)), .val (.int (p4 &&& (2147483647 : Int32))), .val (.ref b344), .val (.int (Int32.ofNat (own_blk (own_v4 (0 : Int32) (0 : Int32) (own_p2 p0) (own_p3 p1)) (own_v4 (0 : Int32) (own_r1 p0) (own_r2 p0 p1) (own_r3 p0 p1 p2)) (p4 &&& (2147483647 : Int32)) 4 s_)))] [(.ref b44), (.int (own_b0 p3)), (.int (Int32.ofNat (own_blk (own_v4 (0 : Int32) (0 : Int32) (own_p2 p0) (own_p3 p1)) (own_v4 (0 : Int32) (own_r1 p0) (own_r2 p0 p1) (own_r3 p0 p1 p2)) (p4 &&& (2147483647 : Int32)) 4 s_))), (.int (3 : Int32))])) _
        refine XS.aload X398.here hx rfl (hb hby at_334) rfl rfl ?_
        show Steps p.tables e below (T398.setTop (mkF m 336 #[.val (.int p0), .val (.int p1), .val (.int p2), .val (.int p3), .val (.int p4), .val (.int (own_p2 p0)), .val (.int (own_p3 p1)), .val (.ref b3), .val (.ref b44), .val (.ref b90), .val (.ref b124), .val (.ref b190), .val (.int (0 : Int32)), .val (.int (own_b0 p3)), .val (.int (p4 &&& (2147483647 : Int32))), .val (.ref b344), .val (.int (Int32.ofNat (own_blk (own_v4 (0 : Int32) (0 : Int32) (own_p2 p0) (own_p3 p1)) (own_v4 (0 : Int32) (own_r1 p0) (own_r2 p0 p1) (own_r3 p0 p1 p2)) (p4 &&& (2147483647 : Int32)) 4 s_)))] [(.ref b3), (.ref b44), (.int (own_b0 p3)), (.int (Int32.ofNat (own_blk (own_v4 (0 : Int32) (0 : Int32) (own_p2 p0) (own_p3 p1)) (own_v4 (0 : Int32) (own_r1 p0) (own_r2 p0 p1) (own_r3 p0 p1 p2)) (p4 &&& (2147483647 : Int32)) 4 s_))), (.int (3 : Int32))])) _
        refine XS.iload X398.here hx rfl (hb hby at_336) rfl ?_
        show Steps p.tables e below (T398.setTop (mkF m 338 #[.val (.int p0), .val (.int p1), .val (.int p2), .val (.int p3), .val (.int p4), .val (.int (own_p2 p0)), .val (.int (own_p3 p1)), .val (.ref b3), .val (.ref b44), .val (.ref b90), .val (.ref b124), .val (.ref b190), .val (.int (0 : Int32)), .val (.int (own_b0 p3)), .val (.int (p4 &&& (2147483647 : Int32))), .val (.ref b344), .val (.int (Int32.ofNat (own_blk (own_v4 (0 : Int32) (0 : Int32) (own_p2 p0) (own_p3 p1)) (own_v4 (0 : Int32) (own_r1 p0) (own_r2 p0 p1) (own_r3 p0 p1 p2)) (p4 &&& (2147483647 : Int32)) 4 s_)))] [(.int (p4 &&& (2147483647 : Int32))), (.ref b3), (.ref b44), (.int (own_b0 p3)), (.int (Int32.ofNat (own_blk (own_v4 (0 : Int32) (0 : Int32) (own_p2 p0) (own_p3 p1)) (own_v4 (0 : Int32) (own_r1 p0) (own_r2 p0 p1) (own_r3 p0 p1 p2)) (p4 &&& (2147483647 : Int32)) 4 s_))), (.int (3 : Int32))])) _
        refine st403 _ ?_
        show Steps p.tables e below (T403.setTop (mkF m 341 #[.val (.int p0), .val (.int p1), .val (.int p2), .val (.int p3), .val (.int p4), .val (.int (own_p2 p0)), .val (.int (own_p3 p1)), .val (.ref b3), .val (.ref b44), .val (.ref b90), .val (.ref b124), .val (.ref b190), .val (.int (0 : Int32)), .val (.int (own_b0 p3)), .val (.int (p4 &&& (2147483647 : Int32))), .val (.ref b344), .val (.int (Int32.ofNat (own_blk (own_v4 (0 : Int32) (0 : Int32) (own_p2 p0) (own_p3 p1)) (own_v4 (0 : Int32) (own_r1 p0) (own_r2 p0 p1) (own_r3 p0 p1 p2)) (p4 &&& (2147483647 : Int32)) 4 s_)))] [(.int (1 : Int32))])) _
        refine XS.ifNo X403.here hx rfl (hb hby at_341) rfl ((if0 _ _).trans (feq (by decide : ¬ ((1 : Int32) = (0 : Int32)))).1) ?_
        show Steps p.tables e below (T403.setTop (mkF m 344 #[.val (.int p0), .val (.int p1), .val (.int p2), .val (.int p3), .val (.int p4), .val (.int (own_p2 p0)), .val (.int (own_p3 p1)), .val (.ref b3), .val (.ref b44), .val (.ref b90), .val (.ref b124), .val (.ref b190), .val (.int (0 : Int32)), .val (.int (own_b0 p3)), .val (.int (p4 &&& (2147483647 : Int32))), .val (.ref b344), .val (.int (Int32.ofNat (own_blk (own_v4 (0 : Int32) (0 : Int32) (own_p2 p0) (own_p3 p1)) (own_v4 (0 : Int32) (own_r1 p0) (own_r2 p0 p1) (own_r3 p0 p1 p2)) (p4 &&& (2147483647 : Int32)) 4 s_)))] [])) _
        refine XS.iconst X403.here hx rfl (hb hby at_344) ?_
        show Steps p.tables e below (T403.setTop (mkF m 345 #[.val (.int p0), .val (.int p1), .val (.int p2), .val (.int p3), .val (.int p4), .val (.int (own_p2 p0)), .val (.int (own_p3 p1)), .val (.ref b3), .val (.ref b44), .val (.ref b90), .val (.ref b124), .val (.ref b190), .val (.int (0 : Int32)), .val (.int (own_b0 p3)), .val (.int (p4 &&& (2147483647 : Int32))), .val (.ref b344), .val (.int (Int32.ofNat (own_blk (own_v4 (0 : Int32) (0 : Int32) (own_p2 p0) (own_p3 p1)) (own_v4 (0 : Int32) (own_r1 p0) (own_r2 p0 p1) (own_r3 p0 p1 p2)) (p4 &&& (2147483647 : Int32)) 4 s_)))] [(.int (1 : Int32))])) _
        refine XS.goto X403.here hx rfl (pc0 := 345) (pc' := 349) rfl (hb hby at_345) (by decide) (by decide) ?_
        exact kt
      obtain ⟨fs, hr, hrun, hended, hW, hsame⟩ := X403.leave (v := some (.int (1 : Int32))) (fun h => by rw [Bd.returns] at h; cases h)
      refine ⟨_, _, pre406 _ ?_, hrun, hended, _, _, rfl, ?_, ⟨_, rfl⟩, hW, hsame.mono (by decide) (by decide)⟩
      · show Steps p.tables e below (T403.setTop (mkF m 349 #[.val (.int p0), .val (.int p1), .val (.int p2), .val (.int p3), .val (.int p4), .val (.int (own_p2 p0)), .val (.int (own_p3 p1)), .val (.ref b3), .val (.ref b44), .val (.ref b90), .val (.ref b124), .val (.ref b190), .val (.int (0 : Int32)), .val (.int (own_b0 p3)), .val (.int (p4 &&& (2147483647 : Int32))), .val (.ref b344), .val (.int (Int32.ofNat (own_blk (own_v4 (0 : Int32) (0 : Int32) (own_p2 p0) (own_p3 p1)) (own_v4 (0 : Int32) (own_r1 p0) (own_r2 p0 p1) (own_r3 p0 p1 p2)) (p4 &&& (2147483647 : Int32)) 4 s_)))] [(.int (1 : Int32))])) _
        exact retN X403 hx (t := .boolean) Bd.returns (by simp) (hb hby at_349) hr
      · show own_Q_law Z p0 p1 p2 p3 p4 h0 n0 (some (.int (1 : Int32))) T403.heap _
        rw [eq404]
        exact ⟨rfl, nf405⟩
  · have pre407 : ∀ t, Steps p.tables e below (T256.setTop (mkF m 186 #[.val (.int p0), .val (.int p1), .val (.int p2), .val (.int p3), .val (.int p4), .val (.int (own_p2 p0)), .val (.int (own_p3 p1)), .val (.ref b3), .val (.ref b44), .val (.ref b90), .val (.ref b124), .val (.ref b190), .val (.int (own_st p3)), .unset, .unset, .unset, .unset] [(.int (((p3.toUInt32 >>> ((2 : Int32) &&& 31).toUInt32).toInt32) &&& (3 : Int32)))])) t → Steps p.tables e below (s₁.setTop (entryFrame m #[(.int p0), (.int p1), (.int p2), (.int p3), (.int p4)] maxLocals)) t := by
      intro t kt
      refine pre273 t ?_
      show Steps p.tables e below (T256.setTop (mkF m 172 #[.val (.int p0), .val (.int p1), .val (.int p2), .val (.int p3), .val (.int p4), .val (.int (own_p2 p0)), .val (.int (own_p3 p1)), .val (.ref b3), .val (.ref b44), .val (.ref b90), .val (.ref b124), .val (.ref b190), .val (.int (own_st p3)), .unset, .unset, .unset, .unset] [(.int (own_st p3))])) _
      refine XS.ifYes X256.here hx rfl (pc0 := 172) (pc' := 181) rfl (hb hby at_172) rfl ((if0 _ _).trans (feq hc274).2) (by decide) (by decide) ?_
      show Steps p.tables e below (T256.setTop (mkF m 181 #[.val (.int p0), .val (.int p1), .val (.int p2), .val (.int p3), .val (.int p4), .val (.int (own_p2 p0)), .val (.int (own_p3 p1)), .val (.ref b3), .val (.ref b44), .val (.ref b90), .val (.ref b124), .val (.ref b190), .val (.int (own_st p3)), .unset, .unset, .unset, .unset] [])) _
      refine XS.iloadN X256.here hx rfl (hb hby at_181) rfl ?_
      show Steps p.tables e below (T256.setTop (mkF m 182 #[.val (.int p0), .val (.int p1), .val (.int p2), .val (.int p3), .val (.int p4), .val (.int (own_p2 p0)), .val (.int (own_p3 p1)), .val (.ref b3), .val (.ref b44), .val (.ref b90), .val (.ref b124), .val (.ref b190), .val (.int (own_st p3)), .unset, .unset, .unset, .unset] [(.int p3)])) _
      refine XS.iconst X256.here hx rfl (hb hby at_182) ?_
      show Steps p.tables e below (T256.setTop (mkF m 183 #[.val (.int p0), .val (.int p1), .val (.int p2), .val (.int p3), .val (.int p4), .val (.int (own_p2 p0)), .val (.int (own_p3 p1)), .val (.ref b3), .val (.ref b44), .val (.ref b90), .val (.ref b124), .val (.ref b190), .val (.int (own_st p3)), .unset, .unset, .unset, .unset] [(.int (2 : Int32)), (.int p3)])) _
      refine XS.iushr X256.here hx rfl (hb hby at_183) rfl ?_
      show Steps p.tables e below (T256.setTop (mkF m 184 #[.val (.int p0), .val (.int p1), .val (.int p2), .val (.int p3), .val (.int p4), .val (.int (own_p2 p0)), .val (.int (own_p3 p1)), .val (.ref b3), .val (.ref b44), .val (.ref b90), .val (.ref b124), .val (.ref b190), .val (.int (own_st p3)), .unset, .unset, .unset, .unset] [(.int ((p3.toUInt32 >>> ((2 : Int32) &&& 31).toUInt32).toInt32))])) _
      refine XS.iconst X256.here hx rfl (hb hby at_184) ?_
      show Steps p.tables e below (T256.setTop (mkF m 185 #[.val (.int p0), .val (.int p1), .val (.int p2), .val (.int p3), .val (.int p4), .val (.int (own_p2 p0)), .val (.int (own_p3 p1)), .val (.ref b3), .val (.ref b44), .val (.ref b90), .val (.ref b124), .val (.ref b190), .val (.int (own_st p3)), .unset, .unset, .unset, .unset] [(.int (3 : Int32)), (.int ((p3.toUInt32 >>> ((2 : Int32) &&& 31).toUInt32).toInt32))])) _
      refine XS.iand X256.here hx rfl (hb hby at_185) rfl ?_
      exact kt
    have pre408 : ∀ t, Steps p.tables e below (T256.setTop (mkF m 186 #[.val (.int p0), .val (.int p1), .val (.int p2), .val (.int p3), .val (.int p4), .val (.int (own_p2 p0)), .val (.int (own_p3 p1)), .val (.ref b3), .val (.ref b44), .val (.ref b90), .val (.ref b124), .val (.ref b190), .val (.int (own_st p3)), .unset, .unset, .unset, .unset] [(.int (own_b1 p3))])) t → Steps p.tables e below (s₁.setTop (entryFrame m #[(.int p0), (.int p1), (.int p2), (.int p3), (.int p4)] maxLocals)) t := by
      intro t kt
      refine pre407 t ?_
      show Steps p.tables e below (T256.setTop (mkF m 186 #[.val (.int p0), .val (.int p1), .val (.int p2), .val (.int p3), .val (.int p4), .val (.int (own_p2 p0)), .val (.int (own_p3 p1)), .val (.ref b3), .val (.ref b44), .val (.ref b90), .val (.ref b124), .val (.ref b190), .val (.int (own_st p3)), .unset, .unset, .unset, .unset] [(.int (own_b1 p3))])) _
      exact kt
    have hst := own_st1 p3 hc274
    have pre409 : ∀ t, Steps p.tables e below (T256.setTop (mkF m 186 #[.val (.int p0), .val (.int p1), .val (.int p2), .val (.int p3), .val (.int p4), .val (.int (own_p2 p0)), .val (.int (own_p3 p1)), .val (.ref b3), .val (.ref b44), .val (.ref b90), .val (.ref b124), .val (.ref b190), .val (.int (1 : Int32)), .unset, .unset, .unset, .unset] [(.int (own_b1 p3))])) t → Steps p.tables e below (s₁.setTop (entryFrame m #[(.int p0), (.int p1), (.int p2), (.int p3), (.int p4)] maxLocals)) t := by
      intro t kt
      refine pre408 t ?_
      rw [hst]
      exact kt
    obtain ⟨s_, hs, hs4⟩ := own_b1r p3
    have pre410 : ∀ t, Steps p.tables e below (T256.setTop (mkF m 193 #[.val (.int p0), .val (.int p1), .val (.int p2), .val (.int p3), .val (.int p4), .val (.int (own_p2 p0)), .val (.int (own_p3 p1)), .val (.ref b3), .val (.ref b44), .val (.ref b90), .val (.ref b124), .val (.ref b190), .val (.int (1 : Int32)), .val (.int (own_b1 p3)), .unset, .unset, .unset] [(.int (p4 &&& (16 : Int32)))])) t → Steps p.tables e below (s₁.setTop (entryFrame m #[(.int p0), (.int p1), (.int p2), (.int p3), (.int p4)] maxLocals)) t := by
      intro t kt
      refine pre409 t ?_
      show Steps p.tables e below (T256.setTop (mkF m 186 #[.val (.int p0), .val (.int p1), .val (.int p2), .val (.int p3), .val (.int p4), .val (.int (own_p2 p0)), .val (.int (own_p3 p1)), .val (.ref b3), .val (.ref b44), .val (.ref b90), .val (.ref b124), .val (.ref b190), .val (.int (1 : Int32)), .unset, .unset, .unset, .unset] [(.int (own_b1 p3))])) _
      refine XS.istore X256.here hx rfl (hb hby at_186) rfl (l' := #[.val (.int p0), .val (.int p1), .val (.int p2), .val (.int p3), .val (.int p4), .val (.int (own_p2 p0)), .val (.int (own_p3 p1)), .val (.ref b3), .val (.ref b44), .val (.ref b90), .val (.ref b124), .val (.ref b190), .val (.int (1 : Int32)), .val (.int (own_b1 p3)), .unset, .unset, .unset]) rfl ?_
      show Steps p.tables e below (T256.setTop (mkF m 188 #[.val (.int p0), .val (.int p1), .val (.int p2), .val (.int p3), .val (.int p4), .val (.int (own_p2 p0)), .val (.int (own_p3 p1)), .val (.ref b3), .val (.ref b44), .val (.ref b90), .val (.ref b124), .val (.ref b190), .val (.int (1 : Int32)), .val (.int (own_b1 p3)), .unset, .unset, .unset] [])) _
      refine XS.iload X256.here hx rfl (hb hby at_188) rfl ?_
      show Steps p.tables e below (T256.setTop (mkF m 190 #[.val (.int p0), .val (.int p1), .val (.int p2), .val (.int p3), .val (.int p4), .val (.int (own_p2 p0)), .val (.int (own_p3 p1)), .val (.ref b3), .val (.ref b44), .val (.ref b90), .val (.ref b124), .val (.ref b190), .val (.int (1 : Int32)), .val (.int (own_b1 p3)), .unset, .unset, .unset] [(.int p4)])) _
      refine XS.bipush X256.here hx rfl (hb hby at_190) ?_
      show Steps p.tables e below (T256.setTop (mkF m 192 #[.val (.int p0), .val (.int p1), .val (.int p2), .val (.int p3), .val (.int p4), .val (.int (own_p2 p0)), .val (.int (own_p3 p1)), .val (.ref b3), .val (.ref b44), .val (.ref b90), .val (.ref b124), .val (.ref b190), .val (.int (1 : Int32)), .val (.int (own_b1 p3)), .unset, .unset, .unset] [(.int (16 : Int32)), (.int p4)])) _
      refine XS.iand X256.here hx rfl (hb hby at_192) rfl ?_
      exact kt
    by_cases hc411 : (p4 &&& (16 : Int32)) = (0 : Int32)
    · obtain ⟨T412, h412, X412, e412, E412, A412, D412, -, st412⟩ := newO X256 hx hZ hown (hw _ (List.mem_of_getElem? (i := 1) rfl)) (hw _ (List.mem_of_getElem? (i := 2) rfl)) (hw _ (List.mem_of_getElem? (i := 3) rfl)) e256 (g := (mkF m 211 #[.val (.int p0), .val (.int p1), .val (.int p2), .val (.int p3), .val (.int p4), .val (.int (own_p2 p0)), .val (.int (own_p3 p1)), .val (.ref b3), .val (.ref b44), .val (.ref b90), .val (.ref b124), .val (.ref b190), .val (.int (1 : Int32)), .val (.int (own_b1 p3)), .val (.int (p4 &&& (15 : Int32))), .unset, .unset] [])) rfl (hb hby at_211) (by decide) (by decide)
      obtain ⟨b412, g412⟩ : ∃ z, z = h256.size := ⟨_, rfl⟩
      rw [← g412] at A412 D412 st412
      have sz_b412 : h0.size ≤ b412 := Nat.le_trans k267.1 (Nat.le_of_eq g412.symm)
      have gn_b412 : n0 ≤ b412 := Nat.le_trans Z0 sz_b412
      have ne_b3_b412 : b3 ≠ b412 := Nat.ne_of_lt (Nat.lt_of_lt_of_le f258.lt (Nat.le_of_eq g412.symm))
      have ne_b44_b412 : b44 ≠ b412 := Nat.ne_of_lt (Nat.lt_of_lt_of_le f260.lt (Nat.le_of_eq g412.symm))
      have ne_b90_b412 : b90 ≠ b412 := Nat.ne_of_lt (Nat.lt_of_lt_of_le f262.lt (Nat.le_of_eq g412.symm))
      have ne_b124_b412 : b124 ≠ b412 := Nat.ne_of_lt (Nat.lt_of_lt_of_le f264.lt (Nat.le_of_eq g412.symm))
      have ne_b190_b412 : b190 ≠ b412 := Nat.ne_of_lt (Nat.lt_of_lt_of_le f270.lt (Nat.le_of_eq g412.symm))
      have f413 := f257.ext E412
      have f414 := f258.ext E412
      have f415 := f259.ext E412
      have f416 := f260.ext E412
      have f417 := f261.ext E412
      have f418 := f262.ext E412
      have f419 := f263.ext E412
      have f420 := f264.ext E412
      have f421 := f265.ext E412
      have f422 := f270.ext E412
      have k423 := k267.ext E412
      have f424 : Fld Z h412 b412 "com/example/unfold/unfold/reduction/Splitting" "blocks" "[I" .null := D412 (Or.inr (hw _ (List.mem_of_getElem? (i := 11) rfl))) (ty := (.array .int)) (by decide)
      have f425 : Fld Z h412 b412 "com/example/unfold/unfold/reduction/Splitting" "parents" "[I" .null := D412 (Or.inr (hw _ (List.mem_of_getElem? (i := 13) rfl))) (ty := (.array .int)) (by decide)
      have f426 : Fld Z h412 b412 "com/example/unfold/unfold/reduction/Splitting" "rounds" "[I" .null := D412 (Or.inr (hw _ (List.mem_of_getElem? (i := 15) rfl))) (ty := (.array .int)) (by decide)
      have zs427 : n0 ≤ h412.size := Nat.le_trans Z0 k423.1
      obtain ⟨_, _, ⟨T428, L428, k428, n428⟩, -, X428, ⟨Lc428, hQ428, l428, y428, z428⟩, st428⟩ := X412.specialBack hx (y := (⟨"com/example/unfold/unfold/reduction/Splitting", "<init>", "([I[I[I)V"⟩ : MethodName)) rfl hown (mvT hZ (hw _ (List.mem_of_getElem? (i := 4) rfl))) (mvT hZ (hw _ (List.mem_of_getElem? (i := 5) rfl))) (mvT hZ (hw _ (List.mem_of_getElem? (i := 6) rfl))) (by decide) (backOf (W := 1) (own_rm_ctor l Z a0 hw [] b412 b90 b124 b190 h412 n0 zs427 A412 f424 f425 f426 gn_b412) hZ (hw _ (List.mem_of_getElem? (i := 6) rfl)) (hw _ (List.mem_of_getElem? (i := 3) rfl)) (by decide) (by decide)) (g := (mkF m 221 #[.val (.int p0), .val (.int p1), .val (.int p2), .val (.int p3), .val (.int p4), .val (.int (own_p2 p0)), .val (.int (own_p3 p1)), .val (.ref b3), .val (.ref b44), .val (.ref b90), .val (.ref b124), .val (.ref b190), .val (.int (1 : Int32)), .val (.int (own_b1 p3)), .val (.int (p4 &&& (15 : Int32))), .unset, .unset] [(.ref b190), (.ref b124), (.ref b90), (.ref b412), (.ref b412)])) rfl (by rw [hml]; rfl) (Steps.refl _) (a := b412) (argsL := [(.ref b90), (.ref b124), (.ref b190)]) (rest := [(.ref b412)]) (lenOf own_pd1 rfl) rfl (by show 2 * 0 + _ ≤ _; exact Nat.le_of_eq rfl) (hb hby at_221) (fun _ _ => ⟨rfl, e412, (by decide : 6 + 0 ≤ _), (by decide : 21 + 0 ≤ _)⟩)
      dsimp only [Pt.U, Pt.locs, Pt.cells, Pt.slots] at X428 l428 y428 z428 st428 hQ428
      rw [l428, (y428 : k428 = 6), (z428 : n428 = 21)] at X428
      clear l428 y428 z428
      obtain ⟨rfl, N429, K429, c429_0, c429_1, c429_2⟩ := hQ428
      have f430 := f413.keep K429
      have f431 := f414.keep K429 (ninS ne_b3_b412 nin0)
      have f432 := f415.keep K429
      have f433 := f416.keep K429 (ninS ne_b44_b412 nin0)
      have f434 := f417.keep K429
      have f435 := f418.keep K429 (ninS ne_b90_b412 nin0)
      have f436 := f419.keep K429
      have f437 := f420.keep K429 (ninS ne_b124_b412 nin0)
      have f438 := f421.keep K429
      have f439 := f422.keep K429 (ninS ne_b190_b412 nin0)
      have f440 := A412.keep K429
      have k441 := k423.trans K429 (allS (Or.inr sz_b412) all0)
      have nf442 := Fr.app nf268 N429
      have pre443 : ∀ t, Steps p.tables e below (T428.setTop (mkF m 226 #[.val (.int p0), .val (.int p1), .val (.int p2), .val (.int p3), .val (.int p4), .val (.int (own_p2 p0)), .val (.int (own_p3 p1)), .val (.ref b3), .val (.ref b44), .val (.ref b90), .val (.ref b124), .val (.ref b190), .val (.int (1 : Int32)), .val (.int (own_b1 p3)), .val (.int (p4 &&& (15 : Int32))), .val (.ref b412), .unset] [])) t → Steps p.tables e below (s₁.setTop (entryFrame m #[(.int p0), (.int p1), (.int p2), (.int p3), (.int p4)] maxLocals)) t := by
        intro t kt
        refine pre410 t ?_
        show Steps p.tables e below (T256.setTop (mkF m 193 #[.val (.int p0), .val (.int p1), .val (.int p2), .val (.int p3), .val (.int p4), .val (.int (own_p2 p0)), .val (.int (own_p3 p1)), .val (.ref b3), .val (.ref b44), .val (.ref b90), .val (.ref b124), .val (.ref b190), .val (.int (1 : Int32)), .val (.int (own_b1 p3)), .unset, .unset, .unset] [(.int (p4 &&& (16 : Int32)))])) _
        refine XS.ifYes X256.here hx rfl (pc0 := 193) (pc' := 204) rfl (hb hby at_193) rfl ((if0 _ _).trans (teq hc411).1) (by decide) (by decide) ?_
        show Steps p.tables e below (T256.setTop (mkF m 204 #[.val (.int p0), .val (.int p1), .val (.int p2), .val (.int p3), .val (.int p4), .val (.int (own_p2 p0)), .val (.int (own_p3 p1)), .val (.ref b3), .val (.ref b44), .val (.ref b90), .val (.ref b124), .val (.ref b190), .val (.int (1 : Int32)), .val (.int (own_b1 p3)), .unset, .unset, .unset] [])) _
        refine XS.iload X256.here hx rfl (hb hby at_204) rfl ?_
        show Steps p.tables e below (T256.setTop (mkF m 206 #[.val (.int p0), .val (.int p1), .val (.int p2), .val (.int p3), .val (.int p4), .val (.int (own_p2 p0)), .val (.int (own_p3 p1)), .val (.ref b3), .val (.ref b44), .val (.ref b90), .val (.ref b124), .val (.ref b190), .val (.int (1 : Int32)), .val (.int (own_b1 p3)), .unset, .unset, .unset] [(.int p4)])) _
        refine XS.bipush X256.here hx rfl (hb hby at_206) ?_
        show Steps p.tables e below (T256.setTop (mkF m 208 #[.val (.int p0), .val (.int p1), .val (.int p2), .val (.int p3), .val (.int p4), .val (.int (own_p2 p0)), .val (.int (own_p3 p1)), .val (.ref b3), .val (.ref b44), .val (.ref b90), .val (.ref b124), .val (.ref b190), .val (.int (1 : Int32)), .val (.int (own_b1 p3)), .unset, .unset, .unset] [(.int (15 : Int32)), (.int p4)])) _
        refine XS.iand X256.here hx rfl (hb hby at_208) rfl ?_
        show Steps p.tables e below (T256.setTop (mkF m 209 #[.val (.int p0), .val (.int p1), .val (.int p2), .val (.int p3), .val (.int p4), .val (.int (own_p2 p0)), .val (.int (own_p3 p1)), .val (.ref b3), .val (.ref b44), .val (.ref b90), .val (.ref b124), .val (.ref b190), .val (.int (1 : Int32)), .val (.int (own_b1 p3)), .unset, .unset, .unset] [(.int (p4 &&& (15 : Int32)))])) _
        refine XS.istore X256.here hx rfl (hb hby at_209) rfl (l' := #[.val (.int p0), .val (.int p1), .val (.int p2), .val (.int p3), .val (.int p4), .val (.int (own_p2 p0)), .val (.int (own_p3 p1)), .val (.ref b3), .val (.ref b44), .val (.ref b90), .val (.ref b124), .val (.ref b190), .val (.int (1 : Int32)), .val (.int (own_b1 p3)), .val (.int (p4 &&& (15 : Int32))), .unset, .unset]) rfl ?_
        show Steps p.tables e below (T256.setTop (mkF m 211 #[.val (.int p0), .val (.int p1), .val (.int p2), .val (.int p3), .val (.int p4), .val (.int (own_p2 p0)), .val (.int (own_p3 p1)), .val (.ref b3), .val (.ref b44), .val (.ref b90), .val (.ref b124), .val (.ref b190), .val (.int (1 : Int32)), .val (.int (own_b1 p3)), .val (.int (p4 &&& (15 : Int32))), .unset, .unset] [])) _
        refine st412 _ ?_
        show Steps p.tables e below (T412.setTop (mkF m 214 #[.val (.int p0), .val (.int p1), .val (.int p2), .val (.int p3), .val (.int p4), .val (.int (own_p2 p0)), .val (.int (own_p3 p1)), .val (.ref b3), .val (.ref b44), .val (.ref b90), .val (.ref b124), .val (.ref b190), .val (.int (1 : Int32)), .val (.int (own_b1 p3)), .val (.int (p4 &&& (15 : Int32))), .unset, .unset] [(.ref b412)])) _
        refine XS.dup X412.here hx rfl (hb hby at_214) rfl rfl ?_
        show Steps p.tables e below (T412.setTop (mkF m 215 #[.val (.int p0), .val (.int p1), .val (.int p2), .val (.int p3), .val (.int p4), .val (.int (own_p2 p0)), .val (.int (own_p3 p1)), .val (.ref b3), .val (.ref b44), .val (.ref b90), .val (.ref b124), .val (.ref b190), .val (.int (1 : Int32)), .val (.int (own_b1 p3)), .val (.int (p4 &&& (15 : Int32))), .unset, .unset] [(.ref b412), (.ref b412)])) _
        refine XS.aload X412.here hx rfl (hb hby at_215) rfl rfl ?_
        show Steps p.tables e below (T412.setTop (mkF m 217 #[.val (.int p0), .val (.int p1), .val (.int p2), .val (.int p3), .val (.int p4), .val (.int (own_p2 p0)), .val (.int (own_p3 p1)), .val (.ref b3), .val (.ref b44), .val (.ref b90), .val (.ref b124), .val (.ref b190), .val (.int (1 : Int32)), .val (.int (own_b1 p3)), .val (.int (p4 &&& (15 : Int32))), .unset, .unset] [(.ref b90), (.ref b412), (.ref b412)])) _
        refine XS.aload X412.here hx rfl (hb hby at_217) rfl rfl ?_
        show Steps p.tables e below (T412.setTop (mkF m 219 #[.val (.int p0), .val (.int p1), .val (.int p2), .val (.int p3), .val (.int p4), .val (.int (own_p2 p0)), .val (.int (own_p3 p1)), .val (.ref b3), .val (.ref b44), .val (.ref b90), .val (.ref b124), .val (.ref b190), .val (.int (1 : Int32)), .val (.int (own_b1 p3)), .val (.int (p4 &&& (15 : Int32))), .unset, .unset] [(.ref b124), (.ref b90), (.ref b412), (.ref b412)])) _
        refine XS.aload X412.here hx rfl (hb hby at_219) rfl rfl ?_
        show Steps p.tables e below (T412.setTop (mkF m 221 #[.val (.int p0), .val (.int p1), .val (.int p2), .val (.int p3), .val (.int p4), .val (.int (own_p2 p0)), .val (.int (own_p3 p1)), .val (.ref b3), .val (.ref b44), .val (.ref b90), .val (.ref b124), .val (.ref b190), .val (.int (1 : Int32)), .val (.int (own_b1 p3)), .val (.int (p4 &&& (15 : Int32))), .unset, .unset] [(.ref b190), (.ref b124), (.ref b90), (.ref b412), (.ref b412)])) _
        refine st428.trans ?_
        show Steps p.tables e below (T428.setTop (mkF m 224 #[.val (.int p0), .val (.int p1), .val (.int p2), .val (.int p3), .val (.int p4), .val (.int (own_p2 p0)), .val (.int (own_p3 p1)), .val (.ref b3), .val (.ref b44), .val (.ref b90), .val (.ref b124), .val (.ref b190), .val (.int (1 : Int32)), .val (.int (own_b1 p3)), .val (.int (p4 &&& (15 : Int32))), .unset, .unset] [(.ref b412)])) _
        refine XS.astore X428.here hx rfl (hb hby at_224) rfl rfl (l' := #[.val (.int p0), .val (.int p1), .val (.int p2), .val (.int p3), .val (.int p4), .val (.int (own_p2 p0)), .val (.int (own_p3 p1)), .val (.ref b3), .val (.ref b44), .val (.ref b90), .val (.ref b124), .val (.ref b190), .val (.int (1 : Int32)), .val (.int (own_b1 p3)), .val (.int (p4 &&& (15 : Int32))), .val (.ref b412), .unset]) rfl ?_
        exact kt
      have hT := own_mktree p0 p1 p2
      have hpl := own_plain (r := (p4 &&& (15 : Int32))) hT (own_rB p4) hs4
      have zs444 : n0 ≤ T428.heap.size := Nat.le_trans Z0 k441.1
      obtain ⟨cq446, kq446, q446a, q446b, q446c⟩ := isOf hZ rfl f440
      obtain ⟨_, _, ⟨T445, L445, k445, n445⟩, -, X445, ⟨Lc445, hQ445, l445, y445, z445⟩, st445⟩ := X428.virtualBack hx (y := (⟨"com/example/unfold/unfold/reduction/Splitting", "blockAfter", "(II)I"⟩ : MethodName)) (z := (⟨"com/example/unfold/unfold/reduction/Splitting", "blockAfter", "(II)I"⟩ : MethodName)) hown (mvT hZ (hw _ (List.mem_of_getElem? (i := 16) rfl))) (mvT hZ (hw _ (List.mem_of_getElem? (i := 17) rfl))) (notFace_of_selects (args := #[]) (mvT hZ (hw _ (List.mem_of_getElem? (i := 19) rfl)))) (mvT hZ (hw _ (List.mem_of_getElem? (i := 19) rfl))) (mvT hZ (hw _ (List.mem_of_getElem? (i := 18) rfl))) (by decide) (backOf (W := 0) (own_rm_blk l Z a0 hw [] b412 (1 : Int32) (p4 &&& (15 : Int32)) b90 b124 b190 (own_v2 (own_b0 p3) (own_b1 p3)) (own_v4 (0 : Int32) (0 : Int32) (own_p2 p0) (own_p3 p1)) (own_v4 (0 : Int32) (own_r1 p0) (own_r2 p0 p1) (own_r3 p0 p1 p2)) s_ T428.heap n0 zs444 c429_0 c429_1 c429_2 f435 f437 f439 (by decide) (by decide) hs hs4 hT (own_rB p4)) hZ (hw _ (List.mem_of_getElem? (i := 20) rfl)) (hw _ (List.mem_of_getElem? (i := 3) rfl)) (by decide) (by decide)) q446a q446c (g := (mkF m 232 #[.val (.int p0), .val (.int p1), .val (.int p2), .val (.int p3), .val (.int p4), .val (.int (own_p2 p0)), .val (.int (own_p3 p1)), .val (.ref b3), .val (.ref b44), .val (.ref b90), .val (.ref b124), .val (.ref b190), .val (.int (1 : Int32)), .val (.int (own_b1 p3)), .val (.int (p4 &&& (15 : Int32))), .val (.ref b412), .unset] [(.int (p4 &&& (15 : Int32))), (.int (1 : Int32)), (.ref b412)])) rfl (by rw [hml]; rfl) (Steps.refl _) (argsL := [(.int (1 : Int32)), (.int (p4 &&& (15 : Int32)))]) (rest := []) (lenOf own_pd2 rfl) rfl (by show 2 * 0 + _ ≤ _; exact Nat.le_of_eq rfl) (hb hby at_232) (fun _ _ => ⟨rfl, rfl, (by decide : 6 + 0 ≤ _), (by decide : 21 + 0 ≤ _)⟩)
      dsimp only [Pt.U, Pt.locs, Pt.cells, Pt.slots] at X445 l445 y445 z445 st445 hQ445
      rw [l445, (y445 : k445 = 6), (z445 : n445 = 21)] at X445
      clear l445 y445 z445
      obtain ⟨rfl, N447, eq447⟩ := hQ445
      have nf448 := Fr.app nf442 N447
      have pre449 : ∀ t, Steps p.tables e below (T445.setTop (mkF m 254 #[.val (.int p0), .val (.int p1), .val (.int p2), .val (.int p3), .val (.int p4), .val (.int (own_p2 p0)), .val (.int (own_p3 p1)), .val (.ref b3), .val (.ref b44), .val (.ref b90), .val (.ref b124), .val (.ref b190), .val (.int (1 : Int32)), .val (.int (own_b1 p3)), .val (.int (p4 &&& (15 : Int32))), .val (.ref b412), .val (.int (Int32.ofNat (own_blk (own_v4 (0 : Int32) (0 : Int32) (own_p2 p0) (own_p3 p1)) (own_v4 (0 : Int32) (own_r1 p0) (own_r2 p0 p1) (own_r3 p0 p1 p2)) (p4 &&& (15 : Int32)) 4 s_)))] [(.int (own_b1 p3)), (.int (Int32.ofNat (own_blk (own_v4 (0 : Int32) (0 : Int32) (own_p2 p0) (own_p3 p1)) (own_v4 (0 : Int32) (own_r1 p0) (own_r2 p0 p1) (own_r3 p0 p1 p2)) (p4 &&& (15 : Int32)) 4 s_)))])) t → Steps p.tables e below (s₁.setTop (entryFrame m #[(.int p0), (.int p1), (.int p2), (.int p3), (.int p4)] maxLocals)) t := by
        intro t kt
        refine pre443 t ?_
        show Steps p.tables e below (T428.setTop (mkF m 226 #[.val (.int p0), .val (.int p1), .val (.int p2), .val (.int p3), .val (.int p4), .val (.int (own_p2 p0)), .val (.int (own_p3 p1)), .val (.ref b3), .val (.ref b44), .val (.ref b90), .val (.ref b124), .val (.ref b190), .val (.int (1 : Int32)), .val (.int (own_b1 p3)), .val (.int (p4 &&& (15 : Int32))), .val (.ref b412), .unset] [])) _
        refine XS.aload X428.here hx rfl (hb hby at_226) rfl rfl ?_
        show Steps p.tables e below (T428.setTop (mkF m 228 #[.val (.int p0), .val (.int p1), .val (.int p2), .val (.int p3), .val (.int p4), .val (.int (own_p2 p0)), .val (.int (own_p3 p1)), .val (.ref b3), .val (.ref b44), .val (.ref b90), .val (.ref b124), .val (.ref b190), .val (.int (1 : Int32)), .val (.int (own_b1 p3)), .val (.int (p4 &&& (15 : Int32))), .val (.ref b412), .unset] [(.ref b412)])) _
        refine XS.iload X428.here hx rfl (hb hby at_228) rfl ?_
        show Steps p.tables e below (T428.setTop (mkF m 230 #[.val (.int p0), .val (.int p1), .val (.int p2), .val (.int p3), .val (.int p4), .val (.int (own_p2 p0)), .val (.int (own_p3 p1)), .val (.ref b3), .val (.ref b44), .val (.ref b90), .val (.ref b124), .val (.ref b190), .val (.int (1 : Int32)), .val (.int (own_b1 p3)), .val (.int (p4 &&& (15 : Int32))), .val (.ref b412), .unset] [(.int (1 : Int32)), (.ref b412)])) _
        refine XS.iload X428.here hx rfl (hb hby at_230) rfl ?_
        show Steps p.tables e below (T428.setTop (mkF m 232 #[.val (.int p0), .val (.int p1), .val (.int p2), .val (.int p3), .val (.int p4), .val (.int (own_p2 p0)), .val (.int (own_p3 p1)), .val (.ref b3), .val (.ref b44), .val (.ref b90), .val (.ref b124), .val (.ref b190), .val (.int (1 : Int32)), .val (.int (own_b1 p3)), .val (.int (p4 &&& (15 : Int32))), .val (.ref b412), .unset] [(.int (p4 &&& (15 : Int32))), (.int (1 : Int32)), (.ref b412)])) _
        refine st445.trans ?_
        show Steps p.tables e below (T445.setTop (mkF m 235 #[.val (.int p0), .val (.int p1), .val (.int p2), .val (.int p3), .val (.int p4), .val (.int (own_p2 p0)), .val (.int (own_p3 p1)), .val (.ref b3), .val (.ref b44), .val (.ref b90), .val (.ref b124), .val (.ref b190), .val (.int (1 : Int32)), .val (.int (own_b1 p3)), .val (.int (p4 &&& (15 : Int32))), .val (.ref b412), .unset] [(.int (Int32.ofNat (own_blk (own_v4 (0 : Int32) (0 : Int32) (own_p2 p0) (own_p3 p1)) (own_v4 (0 : Int32) (own_r1 p0) (own_r2 p0 p1) (own_r3 p0 p1 p2)) (p4 &&& (15 : Int32)) 4 s_)))])) _
        refine XS.istore X445.here hx rfl (hb hby at_235) rfl (l' := #[.val (.int p0), .val (.int p1), .val (.int p2), .val (.int p3), .val (.int p4), .val (.int (own_p2 p0)), .val (.int (own_p3 p1)), .val (.ref b3), .val (.ref b44), .val (.ref b90), .val (.ref b124), .val (.ref b190), .val (.int (1 : Int32)), .val (.int (own_b1 p3)), .val (.int (p4 &&& (15 : Int32))), .val (.ref b412), .val (.int (Int32.ofNat (own_blk (own_v4 (0 : Int32) (0 : Int32) (own_p2 p0) (own_p3 p1)) (own_v4 (0 : Int32) (own_r1 p0) (own_r2 p0 p1) (own_r3 p0 p1 p2)) (p4 &&& (15 : Int32)) 4 s_)))]) rfl ?_
        show Steps p.tables e below (T445.setTop (mkF m 237 #[.val (.int p0), .val (.int p1), .val (.int p2), .val (.int p3), .val (.int p4), .val (.int (own_p2 p0)), .val (.int (own_p3 p1)), .val (.ref b3), .val (.ref b44), .val (.ref b90), .val (.ref b124), .val (.ref b190), .val (.int (1 : Int32)), .val (.int (own_b1 p3)), .val (.int (p4 &&& (15 : Int32))), .val (.ref b412), .val (.int (Int32.ofNat (own_blk (own_v4 (0 : Int32) (0 : Int32) (own_p2 p0) (own_p3 p1)) (own_v4 (0 : Int32) (own_r1 p0) (own_r2 p0 p1) (own_r3 p0 p1 p2)) (p4 &&& (15 : Int32)) 4 s_)))] [])) _
        refine XS.iload X445.here hx rfl (hb hby at_237) rfl ?_
        show Steps p.tables e below (T445.setTop (mkF m 239 #[.val (.int p0), .val (.int p1), .val (.int p2), .val (.int p3), .val (.int p4), .val (.int (own_p2 p0)), .val (.int (own_p3 p1)), .val (.ref b3), .val (.ref b44), .val (.ref b90), .val (.ref b124), .val (.ref b190), .val (.int (1 : Int32)), .val (.int (own_b1 p3)), .val (.int (p4 &&& (15 : Int32))), .val (.ref b412), .val (.int (Int32.ofNat (own_blk (own_v4 (0 : Int32) (0 : Int32) (own_p2 p0) (own_p3 p1)) (own_v4 (0 : Int32) (own_r1 p0) (own_r2 p0 p1) (own_r3 p0 p1 p2)) (p4 &&& (15 : Int32)) 4 s_)))] [(.int (Int32.ofNat (own_blk (own_v4 (0 : Int32) (0 : Int32) (own_p2 p0) (own_p3 p1)) (own_v4 (0 : Int32) (own_r1 p0) (own_r2 p0 p1) (own_r3 p0 p1 p2)) (p4 &&& (15 : Int32)) 4 s_)))])) _
        refine XS.ifNo X445.here hx rfl (hb hby at_239) rfl ((if0 _ _).trans (flt (own_of0 (by have := hpl.1; omega))).1) ?_
        show Steps p.tables e below (T445.setTop (mkF m 242 #[.val (.int p0), .val (.int p1), .val (.int p2), .val (.int p3), .val (.int p4), .val (.int (own_p2 p0)), .val (.int (own_p3 p1)), .val (.ref b3), .val (.ref b44), .val (.ref b90), .val (.ref b124), .val (.ref b190), .val (.int (1 : Int32)), .val (.int (own_b1 p3)), .val (.int (p4 &&& (15 : Int32))), .val (.ref b412), .val (.int (Int32.ofNat (own_blk (own_v4 (0 : Int32) (0 : Int32) (own_p2 p0) (own_p3 p1)) (own_v4 (0 : Int32) (own_r1 p0) (own_r2 p0 p1) (own_r3 p0 p1 p2)) (p4 &&& (15 : Int32)) 4 s_)))] [])) _
        refine XS.iload X445.here hx rfl (hb hby at_242) rfl ?_
        show Steps p.tables e below (T445.setTop (mkF m 244 #[.val (.int p0), .val (.int p1), .val (.int p2), .val (.int p3), .val (.int p4), .val (.int (own_p2 p0)), .val (.int (own_p3 p1)), .val (.ref b3), .val (.ref b44), .val (.ref b90), .val (.ref b124), .val (.ref b190), .val (.int (1 : Int32)), .val (.int (own_b1 p3)), .val (.int (p4 &&& (15 : Int32))), .val (.ref b412), .val (.int (Int32.ofNat (own_blk (own_v4 (0 : Int32) (0 : Int32) (own_p2 p0) (own_p3 p1)) (own_v4 (0 : Int32) (own_r1 p0) (own_r2 p0 p1) (own_r3 p0 p1 p2)) (p4 &&& (15 : Int32)) 4 s_)))] [(.int (Int32.ofNat (own_blk (own_v4 (0 : Int32) (0 : Int32) (own_p2 p0) (own_p3 p1)) (own_v4 (0 : Int32) (own_r1 p0) (own_r2 p0 p1) (own_r3 p0 p1 p2)) (p4 &&& (15 : Int32)) 4 s_)))])) _
        refine XS.iconst X445.here hx rfl (hb hby at_244) ?_
        show Steps p.tables e below (T445.setTop (mkF m 245 #[.val (.int p0), .val (.int p1), .val (.int p2), .val (.int p3), .val (.int p4), .val (.int (own_p2 p0)), .val (.int (own_p3 p1)), .val (.ref b3), .val (.ref b44), .val (.ref b90), .val (.ref b124), .val (.ref b190), .val (.int (1 : Int32)), .val (.int (own_b1 p3)), .val (.int (p4 &&& (15 : Int32))), .val (.ref b412), .val (.int (Int32.ofNat (own_blk (own_v4 (0 : Int32) (0 : Int32) (own_p2 p0) (own_p3 p1)) (own_v4 (0 : Int32) (own_r1 p0) (own_r2 p0 p1) (own_r3 p0 p1 p2)) (p4 &&& (15 : Int32)) 4 s_)))] [(.int (3 : Int32)), (.int (Int32.ofNat (own_blk (own_v4 (0 : Int32) (0 : Int32) (own_p2 p0) (own_p3 p1)) (own_v4 (0 : Int32) (own_r1 p0) (own_r2 p0 p1) (own_r3 p0 p1 p2)) (p4 &&& (15 : Int32)) 4 s_)))])) _
        refine XS.icmpYes X445.here hx rfl (pc0 := 245) (pc' := 250) rfl (hb hby at_245) rfl (flt (own_le3 hpl.1)).2.2.2 (by decide) (by decide) ?_
        show Steps p.tables e below (T445.setTop (mkF m 250 #[.val (.int p0), .val (.int p1), .val (.int p2), .val (.int p3), .val (.int p4), .val (.int (own_p2 p0)), .val (.int (own_p3 p1)), .val (.ref b3), .val (.ref b44), .val (.ref b90), .val (.ref b124), .val (.ref b190), .val (.int (1 : Int32)), .val (.int (own_b1 p3)), .val (.int (p4 &&& (15 : Int32))), .val (.ref b412), .val (.int (Int32.ofNat (own_blk (own_v4 (0 : Int32) (0 : Int32) (own_p2 p0) (own_p3 p1)) (own_v4 (0 : Int32) (own_r1 p0) (own_r2 p0 p1) (own_r3 p0 p1 p2)) (p4 &&& (15 : Int32)) 4 s_)))] [])) _
        refine XS.iload X445.here hx rfl (hb hby at_250) rfl ?_
        show Steps p.tables e below (T445.setTop (mkF m 252 #[.val (.int p0), .val (.int p1), .val (.int p2), .val (.int p3), .val (.int p4), .val (.int (own_p2 p0)), .val (.int (own_p3 p1)), .val (.ref b3), .val (.ref b44), .val (.ref b90), .val (.ref b124), .val (.ref b190), .val (.int (1 : Int32)), .val (.int (own_b1 p3)), .val (.int (p4 &&& (15 : Int32))), .val (.ref b412), .val (.int (Int32.ofNat (own_blk (own_v4 (0 : Int32) (0 : Int32) (own_p2 p0) (own_p3 p1)) (own_v4 (0 : Int32) (own_r1 p0) (own_r2 p0 p1) (own_r3 p0 p1 p2)) (p4 &&& (15 : Int32)) 4 s_)))] [(.int (Int32.ofNat (own_blk (own_v4 (0 : Int32) (0 : Int32) (own_p2 p0) (own_p3 p1)) (own_v4 (0 : Int32) (own_r1 p0) (own_r2 p0 p1) (own_r3 p0 p1 p2)) (p4 &&& (15 : Int32)) 4 s_)))])) _
        refine XS.iload X445.here hx rfl (hb hby at_252) rfl ?_
        exact kt
      have zs450 : n0 ≤ T428.heap.size := Nat.le_trans Z0 k441.1
      obtain ⟨_, _, ⟨T451, L451, k451, n451⟩, -, X451, ⟨Lc451, hQ451, l451, y451, z451⟩, st451⟩ := Jvm.LawKit.callS X445 hx (y := (⟨"com/example/unfold/unfold/reduction/SplittingBlockAfterPinLaw", "anc", "(II[I)Z"⟩ : MethodName)) hown (mvT hZ (hw _ (List.mem_of_getElem? (i := 21) rfl))) (mvT hZ (hw _ (List.mem_of_getElem? (i := 22) rfl))) (mvT hZ (hw _ (List.mem_of_getElem? (i := 23) rfl))) (mvT hZ (hw _ (List.mem_of_getElem? (i := 24) rfl))) (by decide) (backOf (W := 0) (own_rm_anc l Z a0 hw [] (Int32.ofNat (own_blk (own_v4 (0 : Int32) (0 : Int32) (own_p2 p0) (own_p3 p1)) (own_v4 (0 : Int32) (own_r1 p0) (own_r2 p0 p1) (own_r3 p0 p1 p2)) (p4 &&& (15 : Int32)) 4 s_)) (own_b1 p3) b44 s_ (own_v4 (0 : Int32) (0 : Int32) (own_p2 p0) (own_p3 p1)) (own_v4 (0 : Int32) (own_r1 p0) (own_r2 p0 p1) (own_r3 p0 p1 p2)) T428.heap n0 zs450 f433 hs hs4 hT) hZ (hw _ (List.mem_of_getElem? (i := 24) rfl)) (hw _ (List.mem_of_getElem? (i := 23) rfl)) (by decide) (by decide)) (g := (mkF m 256 #[.val (.int p0), .val (.int p1), .val (.int p2), .val (.int p3), .val (.int p4), .val (.int (own_p2 p0)), .val (.int (own_p3 p1)), .val (.ref b3), .val (.ref b44), .val (.ref b90), .val (.ref b124), .val (.ref b190), .val (.int (1 : Int32)), .val (.int (own_b1 p3)), .val (.int (p4 &&& (15 : Int32))), .val (.ref b412), .val (.int (Int32.ofNat (own_blk (own_v4 (0 : Int32) (0 : Int32) (own_p2 p0) (own_p3 p1)) (own_v4 (0 : Int32) (own_r1 p0) (own_r2 p0 p1) (own_r3 p0 p1 p2)) (p4 &&& (15 : Int32)) 4 s_)))] [(.ref b44), (.int (own_b1 p3)), (.int (Int32.ofNat (own_blk (own_v4 (0 : Int32) (0 : Int32) (own_p2 p0) (own_p3 p1)) (own_v4 (0 : Int32) (own_r1 p0) (own_r2 p0 p1) (own_r3 p0 p1 p2)) (p4 &&& (15 : Int32)) 4 s_)))])) rfl (by rw [hml]; rfl) (argsL := [(.int (Int32.ofNat (own_blk (own_v4 (0 : Int32) (0 : Int32) (own_p2 p0) (own_p3 p1)) (own_v4 (0 : Int32) (own_r1 p0) (own_r2 p0 p1) (own_r3 p0 p1 p2)) (p4 &&& (15 : Int32)) 4 s_))), (.int (own_b1 p3)), (.ref b44)]) (rest := []) (lenOf own_pd0 rfl) rfl (by show 2 * 0 + _ ≤ _; exact Nat.le_of_eq rfl) (hb hby at_256) (fun _ _ => ⟨rfl, eq447, (by decide : 6 + 0 ≤ _), (by decide : 21 + 0 ≤ _)⟩)
      dsimp only [Pt.U, Pt.locs, Pt.cells, Pt.slots] at X451 l451 y451 z451 st451 hQ451
      rw [l451, (y451 : k451 = 6), (z451 : n451 = 21)] at X451
      clear l451 y451 z451
      obtain ⟨rfl, N452, eq452⟩ := hQ451
      have nf453 := Fr.app nf448 N452
      obtain ⟨cl454, Ar454, S454, H454⟩ := id f431
      have hin454 : ¬ ((Int32.ofNat (own_blk (own_v4 (0 : Int32) (0 : Int32) (own_p2 p0) (own_p3 p1)) (own_v4 (0 : Int32) (own_r1 p0) (own_r2 p0 p1) (own_r3 p0 p1 p2)) (p4 &&& (15 : Int32)) 4 s_)) < 0 ∨ cl454.slots.size ≤ ((Int32.ofNat (own_blk (own_v4 (0 : Int32) (0 : Int32) (own_p2 p0) (own_p3 p1)) (own_v4 (0 : Int32) (own_r1 p0) (own_r2 p0 p1) (own_r3 p0 p1 p2)) (p4 &&& (15 : Int32)) 4 s_))).toNatClampNeg) := own_inb S454 (own_of0 (by have := hpl.1; omega)) (by rw [own_ofN (by have := hpl.1; omega)]; exact hpl.1)
      have hat454 : cl454.slots[((Int32.ofNat (own_blk (own_v4 (0 : Int32) (0 : Int32) (own_p2 p0) (own_p3 p1)) (own_v4 (0 : Int32) (own_r1 p0) (own_r2 p0 p1) (own_r3 p0 p1 p2)) (p4 &&& (15 : Int32)) 4 s_))).toNatClampNeg]? = some (.int ((own_v4 (0 : Int32) (own_r1 p0) (own_r2 p0 p1) (own_r3 p0 p1 p2)) (own_blk (own_v4 (0 : Int32) (0 : Int32) (own_p2 p0) (own_p3 p1)) (own_v4 (0 : Int32) (own_r1 p0) (own_r2 p0 p1) (own_r3 p0 p1 p2)) (p4 &&& (15 : Int32)) 4 s_))) := (by rw [own_ofN (by have := hpl.1; omega)]; exact H454 _ hpl.1)
      have pre455 : ∀ t, Steps p.tables e below (T451.setTop (mkF m 283 #[.val (.int p0), .val (.int p1), .val (.int p2), .val (.int p3), .val (.int p4), .val (.int (own_p2 p0)), .val (.int (own_p3 p1)), .val (.ref b3), .val (.ref b44), .val (.ref b90), .val (.ref b124), .val (.ref b190), .val (.int (1 : Int32)), .val (.int (own_b1 p3)), .val (.int (p4 &&& (15 : Int32))), .val (.ref b412), .val (.int (Int32.ofNat (own_blk (own_v4 (0 : Int32) (0 : Int32) (own_p2 p0) (own_p3 p1)) (own_v4 (0 : Int32) (own_r1 p0) (own_r2 p0 p1) (own_r3 p0 p1 p2)) (p4 &&& (15 : Int32)) 4 s_)))] [(.ref b44), (.int (own_b1 p3)), (.int (Int32.ofNat (own_blk (own_v4 (0 : Int32) (0 : Int32) (own_p2 p0) (own_p3 p1)) (own_v4 (0 : Int32) (own_r1 p0) (own_r2 p0 p1) (own_r3 p0 p1 p2)) (p4 &&& (15 : Int32)) 4 s_))), (.int (0 : Int32))])) t → Steps p.tables e below (s₁.setTop (entryFrame m #[(.int p0), (.int p1), (.int p2), (.int p3), (.int p4)] maxLocals)) t := by
        intro t kt
        refine pre449 t ?_
        show Steps p.tables e below (T445.setTop (mkF m 254 #[.val (.int p0), .val (.int p1), .val (.int p2), .val (.int p3), .val (.int p4), .val (.int (own_p2 p0)), .val (.int (own_p3 p1)), .val (.ref b3), .val (.ref b44), .val (.ref b90), .val (.ref b124), .val (.ref b190), .val (.int (1 : Int32)), .val (.int (own_b1 p3)), .val (.int (p4 &&& (15 : Int32))), .val (.ref b412), .val (.int (Int32.ofNat (own_blk (own_v4 (0 : Int32) (0 : Int32) (own_p2 p0) (own_p3 p1)) (own_v4 (0 : Int32) (own_r1 p0) (own_r2 p0 p1) (own_r3 p0 p1 p2)) (p4 &&& (15 : Int32)) 4 s_)))] [(.int (own_b1 p3)), (.int (Int32.ofNat (own_blk (own_v4 (0 : Int32) (0 : Int32) (own_p2 p0) (own_p3 p1)) (own_v4 (0 : Int32) (own_r1 p0) (own_r2 p0 p1) (own_r3 p0 p1 p2)) (p4 &&& (15 : Int32)) 4 s_)))])) _
        refine XS.aload X445.here hx rfl (hb hby at_254) rfl rfl ?_
        show Steps p.tables e below (T445.setTop (mkF m 256 #[.val (.int p0), .val (.int p1), .val (.int p2), .val (.int p3), .val (.int p4), .val (.int (own_p2 p0)), .val (.int (own_p3 p1)), .val (.ref b3), .val (.ref b44), .val (.ref b90), .val (.ref b124), .val (.ref b190), .val (.int (1 : Int32)), .val (.int (own_b1 p3)), .val (.int (p4 &&& (15 : Int32))), .val (.ref b412), .val (.int (Int32.ofNat (own_blk (own_v4 (0 : Int32) (0 : Int32) (own_p2 p0) (own_p3 p1)) (own_v4 (0 : Int32) (own_r1 p0) (own_r2 p0 p1) (own_r3 p0 p1 p2)) (p4 &&& (15 : Int32)) 4 s_)))] [(.ref b44), (.int (own_b1 p3)), (.int (Int32.ofNat (own_blk (own_v4 (0 : Int32) (0 : Int32) (own_p2 p0) (own_p3 p1)) (own_v4 (0 : Int32) (own_r1 p0) (own_r2 p0 p1) (own_r3 p0 p1 p2)) (p4 &&& (15 : Int32)) 4 s_)))])) _
        refine st451 _ ?_
        show Steps p.tables e below (T451.setTop (mkF m 259 #[.val (.int p0), .val (.int p1), .val (.int p2), .val (.int p3), .val (.int p4), .val (.int (own_p2 p0)), .val (.int (own_p3 p1)), .val (.ref b3), .val (.ref b44), .val (.ref b90), .val (.ref b124), .val (.ref b190), .val (.int (1 : Int32)), .val (.int (own_b1 p3)), .val (.int (p4 &&& (15 : Int32))), .val (.ref b412), .val (.int (Int32.ofNat (own_blk (own_v4 (0 : Int32) (0 : Int32) (own_p2 p0) (own_p3 p1)) (own_v4 (0 : Int32) (own_r1 p0) (own_r2 p0 p1) (own_r3 p0 p1 p2)) (p4 &&& (15 : Int32)) 4 s_)))] [(.int (own_anc (own_v4 (0 : Int32) (0 : Int32) (own_p2 p0) (own_p3 p1)) (Int32.ofNat (own_blk (own_v4 (0 : Int32) (0 : Int32) (own_p2 p0) (own_p3 p1)) (own_v4 (0 : Int32) (own_r1 p0) (own_r2 p0 p1) (own_r3 p0 p1 p2)) (p4 &&& (15 : Int32)) 4 s_)) s_))])) _
        refine XS.ifYes X451.here hx rfl (pc0 := 259) (pc' := 264) rfl (hb hby at_259) rfl ((if0 _ _).trans (feq (by rw [hpl.2.1]; decide)).2) (by decide) (by decide) ?_
        show Steps p.tables e below (T451.setTop (mkF m 264 #[.val (.int p0), .val (.int p1), .val (.int p2), .val (.int p3), .val (.int p4), .val (.int (own_p2 p0)), .val (.int (own_p3 p1)), .val (.ref b3), .val (.ref b44), .val (.ref b90), .val (.ref b124), .val (.ref b190), .val (.int (1 : Int32)), .val (.int (own_b1 p3)), .val (.int (p4 &&& (15 : Int32))), .val (.ref b412), .val (.int (Int32.ofNat (own_blk (own_v4 (0 : Int32) (0 : Int32) (own_p2 p0) (own_p3 p1)) (own_v4 (0 : Int32) (own_r1 p0) (own_r2 p0 p1) (own_r3 p0 p1 p2)) (p4 &&& (15 : Int32)) 4 s_)))] [])) _
        refine XS.aload X451.here hx rfl (hb hby at_264) rfl rfl ?_
        show Steps p.tables e below (T451.setTop (mkF m 266 #[.val (.int p0), .val (.int p1), .val (.int p2), .val (.int p3), .val (.int p4), .val (.int (own_p2 p0)), .val (.int (own_p3 p1)), .val (.ref b3), .val (.ref b44), .val (.ref b90), .val (.ref b124), .val (.ref b190), .val (.int (1 : Int32)), .val (.int (own_b1 p3)), .val (.int (p4 &&& (15 : Int32))), .val (.ref b412), .val (.int (Int32.ofNat (own_blk (own_v4 (0 : Int32) (0 : Int32) (own_p2 p0) (own_p3 p1)) (own_v4 (0 : Int32) (own_r1 p0) (own_r2 p0 p1) (own_r3 p0 p1 p2)) (p4 &&& (15 : Int32)) 4 s_)))] [(.ref b3)])) _
        refine XS.iload X451.here hx rfl (hb hby at_266) rfl ?_
        show Steps p.tables e below (T451.setTop (mkF m 268 #[.val (.int p0), .val (.int p1), .val (.int p2), .val (.int p3), .val (.int p4), .val (.int (own_p2 p0)), .val (.int (own_p3 p1)), .val (.ref b3), .val (.ref b44), .val (.ref b90), .val (.ref b124), .val (.ref b190), .val (.int (1 : Int32)), .val (.int (own_b1 p3)), .val (.int (p4 &&& (15 : Int32))), .val (.ref b412), .val (.int (Int32.ofNat (own_blk (own_v4 (0 : Int32) (0 : Int32) (own_p2 p0) (own_p3 p1)) (own_v4 (0 : Int32) (own_r1 p0) (own_r2 p0 p1) (own_r3 p0 p1 p2)) (p4 &&& (15 : Int32)) 4 s_)))] [(.int (Int32.ofNat (own_blk (own_v4 (0 : Int32) (0 : Int32) (own_p2 p0) (own_p3 p1)) (own_v4 (0 : Int32) (own_r1 p0) (own_r2 p0 p1) (own_r3 p0 p1 p2)) (p4 &&& (15 : Int32)) 4 s_))), (.ref b3)])) _
        refine X451.iaload hx (j := (Int32.ofNat (own_blk (own_v4 (0 : Int32) (0 : Int32) (own_p2 p0) (own_p3 p1)) (own_v4 (0 : Int32) (own_r1 p0) (own_r2 p0 p1) (own_r3 p0 p1 p2)) (p4 &&& (15 : Int32)) 4 s_))) (v := (.int ((own_v4 (0 : Int32) (own_r1 p0) (own_r2 p0 p1) (own_r3 p0 p1 p2)) (own_blk (own_v4 (0 : Int32) (0 : Int32) (own_p2 p0) (own_p3 p1)) (own_v4 (0 : Int32) (own_r1 p0) (own_r2 p0 p1) (own_r3 p0 p1 p2)) (p4 &&& (15 : Int32)) 4 s_)))) (by rw [eq452]; exact Ar454.1) (State.isArrayOf_alike hZ.alike Ar454.2.1) Ar454.2.2 hin454 hat454 (g := (mkF m 268 #[.val (.int p0), .val (.int p1), .val (.int p2), .val (.int p3), .val (.int p4), .val (.int (own_p2 p0)), .val (.int (own_p3 p1)), .val (.ref b3), .val (.ref b44), .val (.ref b90), .val (.ref b124), .val (.ref b190), .val (.int (1 : Int32)), .val (.int (own_b1 p3)), .val (.int (p4 &&& (15 : Int32))), .val (.ref b412), .val (.int (Int32.ofNat (own_blk (own_v4 (0 : Int32) (0 : Int32) (own_p2 p0) (own_p3 p1)) (own_v4 (0 : Int32) (own_r1 p0) (own_r2 p0 p1) (own_r3 p0 p1 p2)) (p4 &&& (15 : Int32)) 4 s_)))] [(.int (Int32.ofNat (own_blk (own_v4 (0 : Int32) (0 : Int32) (own_p2 p0) (own_p3 p1)) (own_v4 (0 : Int32) (own_r1 p0) (own_r2 p0 p1) (own_r3 p0 p1 p2)) (p4 &&& (15 : Int32)) 4 s_))), (.ref b3)])) rfl rfl (hb hby at_268) _ ?_
        show Steps p.tables e below (T451.setTop (mkF m 269 #[.val (.int p0), .val (.int p1), .val (.int p2), .val (.int p3), .val (.int p4), .val (.int (own_p2 p0)), .val (.int (own_p3 p1)), .val (.ref b3), .val (.ref b44), .val (.ref b90), .val (.ref b124), .val (.ref b190), .val (.int (1 : Int32)), .val (.int (own_b1 p3)), .val (.int (p4 &&& (15 : Int32))), .val (.ref b412), .val (.int (Int32.ofNat (own_blk (own_v4 (0 : Int32) (0 : Int32) (own_p2 p0) (own_p3 p1)) (own_v4 (0 : Int32) (own_r1 p0) (own_r2 p0 p1) (own_r3 p0 p1 p2)) (p4 &&& (15 : Int32)) 4 s_)))] [(.int ((own_v4 (0 : Int32) (own_r1 p0) (own_r2 p0 p1) (own_r3 p0 p1 p2)) (own_blk (own_v4 (0 : Int32) (0 : Int32) (own_p2 p0) (own_p3 p1)) (own_v4 (0 : Int32) (own_r1 p0) (own_r2 p0 p1) (own_r3 p0 p1 p2)) (p4 &&& (15 : Int32)) 4 s_)))])) _
        refine XS.iload X451.here hx rfl (hb hby at_269) rfl ?_
        show Steps p.tables e below (T451.setTop (mkF m 271 #[.val (.int p0), .val (.int p1), .val (.int p2), .val (.int p3), .val (.int p4), .val (.int (own_p2 p0)), .val (.int (own_p3 p1)), .val (.ref b3), .val (.ref b44), .val (.ref b90), .val (.ref b124), .val (.ref b190), .val (.int (1 : Int32)), .val (.int (own_b1 p3)), .val (.int (p4 &&& (15 : Int32))), .val (.ref b412), .val (.int (Int32.ofNat (own_blk (own_v4 (0 : Int32) (0 : Int32) (own_p2 p0) (own_p3 p1)) (own_v4 (0 : Int32) (own_r1 p0) (own_r2 p0 p1) (own_r3 p0 p1 p2)) (p4 &&& (15 : Int32)) 4 s_)))] [(.int (p4 &&& (15 : Int32))), (.int ((own_v4 (0 : Int32) (own_r1 p0) (own_r2 p0 p1) (own_r3 p0 p1 p2)) (own_blk (own_v4 (0 : Int32) (0 : Int32) (own_p2 p0) (own_p3 p1)) (own_v4 (0 : Int32) (own_r1 p0) (own_r2 p0 p1) (own_r3 p0 p1 p2)) (p4 &&& (15 : Int32)) 4 s_)))])) _
        refine XS.icmpYes X451.here hx rfl (pc0 := 271) (pc' := 276) rfl (hb hby at_271) rfl (flt hpl.2.2.1).2.2.2 (by decide) (by decide) ?_
        show Steps p.tables e below (T451.setTop (mkF m 276 #[.val (.int p0), .val (.int p1), .val (.int p2), .val (.int p3), .val (.int p4), .val (.int (own_p2 p0)), .val (.int (own_p3 p1)), .val (.ref b3), .val (.ref b44), .val (.ref b90), .val (.ref b124), .val (.ref b190), .val (.int (1 : Int32)), .val (.int (own_b1 p3)), .val (.int (p4 &&& (15 : Int32))), .val (.ref b412), .val (.int (Int32.ofNat (own_blk (own_v4 (0 : Int32) (0 : Int32) (own_p2 p0) (own_p3 p1)) (own_v4 (0 : Int32) (own_r1 p0) (own_r2 p0 p1) (own_r3 p0 p1 p2)) (p4 &&& (15 : Int32)) 4 s_)))] [])) _
        refine XS.iconst X451.here hx rfl (hb hby at_276) ?_
        show Steps p.tables e below (T451.setTop (mkF m 277 #[.val (.int p0), .val (.int p1), .val (.int p2), .val (.int p3), .val (.int p4), .val (.int (own_p2 p0)), .val (.int (own_p3 p1)), .val (.ref b3), .val (.ref b44), .val (.ref b90), .val (.ref b124), .val (.ref b190), .val (.int (1 : Int32)), .val (.int (own_b1 p3)), .val (.int (p4 &&& (15 : Int32))), .val (.ref b412), .val (.int (Int32.ofNat (own_blk (own_v4 (0 : Int32) (0 : Int32) (own_p2 p0) (own_p3 p1)) (own_v4 (0 : Int32) (own_r1 p0) (own_r2 p0 p1) (own_r3 p0 p1 p2)) (p4 &&& (15 : Int32)) 4 s_)))] [(.int (0 : Int32))])) _
        refine XS.iload X451.here hx rfl (hb hby at_277) rfl ?_
        show Steps p.tables e below (T451.setTop (mkF m 279 #[.val (.int p0), .val (.int p1), .val (.int p2), .val (.int p3), .val (.int p4), .val (.int (own_p2 p0)), .val (.int (own_p3 p1)), .val (.ref b3), .val (.ref b44), .val (.ref b90), .val (.ref b124), .val (.ref b190), .val (.int (1 : Int32)), .val (.int (own_b1 p3)), .val (.int (p4 &&& (15 : Int32))), .val (.ref b412), .val (.int (Int32.ofNat (own_blk (own_v4 (0 : Int32) (0 : Int32) (own_p2 p0) (own_p3 p1)) (own_v4 (0 : Int32) (own_r1 p0) (own_r2 p0 p1) (own_r3 p0 p1 p2)) (p4 &&& (15 : Int32)) 4 s_)))] [(.int (Int32.ofNat (own_blk (own_v4 (0 : Int32) (0 : Int32) (own_p2 p0) (own_p3 p1)) (own_v4 (0 : Int32) (own_r1 p0) (own_r2 p0 p1) (own_r3 p0 p1 p2)) (p4 &&& (15 : Int32)) 4 s_))), (.int (0 : Int32))])) _
        refine XS.iload X451.here hx rfl (hb hby at_279) rfl ?_
        show Steps p.tables e below (T451.setTop (mkF m 281 #[.val (.int p0), .val (.int p1), .val (.int p2), .val (.int p3), .val (.int p4), .val (.int (own_p2 p0)), .val (.int (own_p3 p1)), .val (.ref b3), .val (.ref b44), .val (.ref b90), .val (.ref b124), .val (.ref b190), .val (.int (1 : Int32)), .val (.int (own_b1 p3)), .val (.int (p4 &&& (15 : Int32))), .val (.ref b412), .val (.int (Int32.ofNat (own_blk (own_v4 (0 : Int32) (0 : Int32) (own_p2 p0) (own_p3 p1)) (own_v4 (0 : Int32) (own_r1 p0) (own_r2 p0 p1) (own_r3 p0 p1 p2)) (p4 &&& (15 : Int32)) 4 s_)))] [(.int (own_b1 p3)), (.int (Int32.ofNat (own_blk (own_v4 (0 : Int32) (0 : Int32) (own_p2 p0) (own_p3 p1)) (own_v4 (0 : Int32) (own_r1 p0) (own_r2 p0 p1) (own_r3 p0 p1 p2)) (p4 &&& (15 : Int32)) 4 s_))), (.int (0 : Int32))])) _
        refine XS.aload X451.here hx rfl (hb hby at_281) rfl rfl ?_
        exact kt
      have zs456 : n0 ≤ T428.heap.size := Nat.le_trans Z0 k441.1
      obtain ⟨_, _, ⟨T457, L457, k457, n457⟩, -, X457, ⟨Lc457, hQ457, l457, y457, z457⟩, st457⟩ := Jvm.LawKit.callS X451 hx (y := (⟨"com/example/unfold/unfold/reduction/SplittingBlockAfterPinLaw", "ok", "(III[I[II)Z"⟩ : MethodName)) hown (mvT hZ (hw _ (List.mem_of_getElem? (i := 25) rfl))) (mvT hZ (hw _ (List.mem_of_getElem? (i := 26) rfl))) (mvT hZ (hw _ (List.mem_of_getElem? (i := 23) rfl))) (mvT hZ (hw _ (List.mem_of_getElem? (i := 27) rfl))) (by decide) (backOf (W := 0) (own_rm_ok l Z a0 hw [] (0 : Int32) (Int32.ofNat (own_blk (own_v4 (0 : Int32) (0 : Int32) (own_p2 p0) (own_p3 p1)) (own_v4 (0 : Int32) (own_r1 p0) (own_r2 p0 p1) (own_r3 p0 p1 p2)) (p4 &&& (15 : Int32)) 4 s_)) (own_b1 p3) b44 b3 (p4 &&& (15 : Int32)) 0 (own_blk (own_v4 (0 : Int32) (0 : Int32) (own_p2 p0) (own_p3 p1)) (own_v4 (0 : Int32) (own_r1 p0) (own_r2 p0 p1) (own_r3 p0 p1 p2)) (p4 &&& (15 : Int32)) 4 s_) s_ (own_v4 (0 : Int32) (0 : Int32) (own_p2 p0) (own_p3 p1)) (own_v4 (0 : Int32) (own_r1 p0) (own_r2 p0 p1) (own_r3 p0 p1 p2)) T428.heap n0 zs456 f433 f431 rfl (by decide) rfl hpl.1 hs hs4 hT (hpl.2.2.2 0 (by decide))) hZ (hw _ (List.mem_of_getElem? (i := 27) rfl)) (hw _ (List.mem_of_getElem? (i := 23) rfl)) (by decide) (by decide)) (g := (mkF m 287 #[.val (.int p0), .val (.int p1), .val (.int p2), .val (.int p3), .val (.int p4), .val (.int (own_p2 p0)), .val (.int (own_p3 p1)), .val (.ref b3), .val (.ref b44), .val (.ref b90), .val (.ref b124), .val (.ref b190), .val (.int (1 : Int32)), .val (.int (own_b1 p3)), .val (.int (p4 &&& (15 : Int32))), .val (.ref b412), .val (.int (Int32.ofNat (own_blk (own_v4 (0 : Int32) (0 : Int32) (own_p2 p0) (own_p3 p1)) (own_v4 (0 : Int32) (own_r1 p0) (own_r2 p0 p1) (own_r3 p0 p1 p2)) (p4 &&& (15 : Int32)) 4 s_)))] [(.int (p4 &&& (15 : Int32))), (.ref b3), (.ref b44), (.int (own_b1 p3)), (.int (Int32.ofNat (own_blk (own_v4 (0 : Int32) (0 : Int32) (own_p2 p0) (own_p3 p1)) (own_v4 (0 : Int32) (own_r1 p0) (own_r2 p0 p1) (own_r3 p0 p1 p2)) (p4 &&& (15 : Int32)) 4 s_))), (.int (0 : Int32))])) rfl (by rw [hml]; rfl) (argsL := [(.int (0 : Int32)), (.int (Int32.ofNat (own_blk (own_v4 (0 : Int32) (0 : Int32) (own_p2 p0) (own_p3 p1)) (own_v4 (0 : Int32) (own_r1 p0) (own_r2 p0 p1) (own_r3 p0 p1 p2)) (p4 &&& (15 : Int32)) 4 s_))), (.int (own_b1 p3)), (.ref b44), (.ref b3), (.int (p4 &&& (15 : Int32)))]) (rest := []) (lenOf own_pd3 rfl) rfl (by show 2 * 0 + _ ≤ _; exact Nat.le_of_eq rfl) (hb hby at_287) (fun _ _ => ⟨rfl, eq452, (by decide : 6 + 0 ≤ _), (by decide : 21 + 0 ≤ _)⟩)
      dsimp only [Pt.U, Pt.locs, Pt.cells, Pt.slots] at X457 l457 y457 z457 st457 hQ457
      rw [l457, (y457 : k457 = 6), (z457 : n457 = 21)] at X457
      clear l457 y457 z457
      obtain ⟨rfl, N458, eq458⟩ := hQ457
      have nf459 := Fr.app nf453 N458
      have zs460 : n0 ≤ T428.heap.size := Nat.le_trans Z0 k441.1
      obtain ⟨_, _, ⟨T461, L461, k461, n461⟩, -, X461, ⟨Lc461, hQ461, l461, y461, z461⟩, st461⟩ := Jvm.LawKit.callS X457 hx (y := (⟨"com/example/unfold/unfold/reduction/SplittingBlockAfterPinLaw", "ok", "(III[I[II)Z"⟩ : MethodName)) hown (mvT hZ (hw _ (List.mem_of_getElem? (i := 25) rfl))) (mvT hZ (hw _ (List.mem_of_getElem? (i := 26) rfl))) (mvT hZ (hw _ (List.mem_of_getElem? (i := 23) rfl))) (mvT hZ (hw _ (List.mem_of_getElem? (i := 27) rfl))) (by decide) (backOf (W := 0) (own_rm_ok l Z a0 hw [] (1 : Int32) (Int32.ofNat (own_blk (own_v4 (0 : Int32) (0 : Int32) (own_p2 p0) (own_p3 p1)) (own_v4 (0 : Int32) (own_r1 p0) (own_r2 p0 p1) (own_r3 p0 p1 p2)) (p4 &&& (15 : Int32)) 4 s_)) (own_b1 p3) b44 b3 (p4 &&& (15 : Int32)) 1 (own_blk (own_v4 (0 : Int32) (0 : Int32) (own_p2 p0) (own_p3 p1)) (own_v4 (0 : Int32) (own_r1 p0) (own_r2 p0 p1) (own_r3 p0 p1 p2)) (p4 &&& (15 : Int32)) 4 s_) s_ (own_v4 (0 : Int32) (0 : Int32) (own_p2 p0) (own_p3 p1)) (own_v4 (0 : Int32) (own_r1 p0) (own_r2 p0 p1) (own_r3 p0 p1 p2)) T428.heap n0 zs460 f433 f431 rfl (by decide) rfl hpl.1 hs hs4 hT (hpl.2.2.2 1 (by decide))) hZ (hw _ (List.mem_of_getElem? (i := 27) rfl)) (hw _ (List.mem_of_getElem? (i := 23) rfl)) (by decide) (by decide)) (g := (mkF m 304 #[.val (.int p0), .val (.int p1), .val (.int p2), .val (.int p3), .val (.int p4), .val (.int (own_p2 p0)), .val (.int (own_p3 p1)), .val (.ref b3), .val (.ref b44), .val (.ref b90), .val (.ref b124), .val (.ref b190), .val (.int (1 : Int32)), .val (.int (own_b1 p3)), .val (.int (p4 &&& (15 : Int32))), .val (.ref b412), .val (.int (Int32.ofNat (own_blk (own_v4 (0 : Int32) (0 : Int32) (own_p2 p0) (own_p3 p1)) (own_v4 (0 : Int32) (own_r1 p0) (own_r2 p0 p1) (own_r3 p0 p1 p2)) (p4 &&& (15 : Int32)) 4 s_)))] [(.int (p4 &&& (15 : Int32))), (.ref b3), (.ref b44), (.int (own_b1 p3)), (.int (Int32.ofNat (own_blk (own_v4 (0 : Int32) (0 : Int32) (own_p2 p0) (own_p3 p1)) (own_v4 (0 : Int32) (own_r1 p0) (own_r2 p0 p1) (own_r3 p0 p1 p2)) (p4 &&& (15 : Int32)) 4 s_))), (.int (1 : Int32))])) rfl (by rw [hml]; rfl) (argsL := [(.int (1 : Int32)), (.int (Int32.ofNat (own_blk (own_v4 (0 : Int32) (0 : Int32) (own_p2 p0) (own_p3 p1)) (own_v4 (0 : Int32) (own_r1 p0) (own_r2 p0 p1) (own_r3 p0 p1 p2)) (p4 &&& (15 : Int32)) 4 s_))), (.int (own_b1 p3)), (.ref b44), (.ref b3), (.int (p4 &&& (15 : Int32)))]) (rest := []) (lenOf own_pd3 rfl) rfl (by show 2 * 0 + _ ≤ _; exact Nat.le_of_eq rfl) (hb hby at_304) (fun _ _ => ⟨rfl, eq458, (by decide : 6 + 0 ≤ _), (by decide : 21 + 0 ≤ _)⟩)
      dsimp only [Pt.U, Pt.locs, Pt.cells, Pt.slots] at X461 l461 y461 z461 st461 hQ461
      rw [l461, (y461 : k461 = 6), (z461 : n461 = 21)] at X461
      clear l461 y461 z461
      obtain ⟨rfl, N462, eq462⟩ := hQ461
      have nf463 := Fr.app nf459 N462
      have pre464 : ∀ t, Steps p.tables e below (T461.setTop (mkF m 310 #[.val (.int p0), .val (.int p1), .val (.int p2), .val (.int p3), .val (.int p4), .val (.int (own_p2 p0)), .val (.int (own_p3 p1)), .val (.ref b3), .val (.ref b44), .val (.ref b90), .val (.ref b124), .val (.ref b190), .val (.int (1 : Int32)), .val (.int (own_b1 p3)), .val (.int (p4 &&& (15 : Int32))), .val (.ref b412), .val (.int (Int32.ofNat (own_blk (own_v4 (0 : Int32) (0 : Int32) (own_p2 p0) (own_p3 p1)) (own_v4 (0 : Int32) (own_r1 p0) (own_r2 p0 p1) (own_r3 p0 p1 p2)) (p4 &&& (15 : Int32)) 4 s_)))] [])) t → Steps p.tables e below (s₁.setTop (entryFrame m #[(.int p0), (.int p1), (.int p2), (.int p3), (.int p4)] maxLocals)) t := by
        intro t kt
        refine pre455 t ?_
        show Steps p.tables e below (T451.setTop (mkF m 283 #[.val (.int p0), .val (.int p1), .val (.int p2), .val (.int p3), .val (.int p4), .val (.int (own_p2 p0)), .val (.int (own_p3 p1)), .val (.ref b3), .val (.ref b44), .val (.ref b90), .val (.ref b124), .val (.ref b190), .val (.int (1 : Int32)), .val (.int (own_b1 p3)), .val (.int (p4 &&& (15 : Int32))), .val (.ref b412), .val (.int (Int32.ofNat (own_blk (own_v4 (0 : Int32) (0 : Int32) (own_p2 p0) (own_p3 p1)) (own_v4 (0 : Int32) (own_r1 p0) (own_r2 p0 p1) (own_r3 p0 p1 p2)) (p4 &&& (15 : Int32)) 4 s_)))] [(.ref b44), (.int (own_b1 p3)), (.int (Int32.ofNat (own_blk (own_v4 (0 : Int32) (0 : Int32) (own_p2 p0) (own_p3 p1)) (own_v4 (0 : Int32) (own_r1 p0) (own_r2 p0 p1) (own_r3 p0 p1 p2)) (p4 &&& (15 : Int32)) 4 s_))), (.int (0 : Int32))])) _
        refine XS.aload X451.here hx rfl (hb hby at_283) rfl rfl ?_
        show Steps p.tables e below (T451.setTop (mkF m 285 #[.val (.int p0), .val (.int p1), .val (.int p2), .val (.int p3), .val (.int p4), .val (.int (own_p2 p0)), .val (.int (own_p3 p1)), .val (.ref b3), .val (.ref b44), .val (.ref b90), .val (.ref b124), .val (.ref b190), .val (.int (1 : Int32)), .val (.int (own_b1 p3)), .val (.int (p4 &&& (15 : Int32))), .val (.ref b412), .val (.int (Int32.ofNat (own_blk (own_v4 (0 : Int32) (0 : Int32) (own_p2 p0) (own_p3 p1)) (own_v4 (0 : Int32) (own_r1 p0) (own_r2 p0 p1) (own_r3 p0 p1 p2)) (p4 &&& (15 : Int32)) 4 s_)))] [(.ref b3), (.ref b44), (.int (own_b1 p3)), (.int (Int32.ofNat (own_blk (own_v4 (0 : Int32) (0 : Int32) (own_p2 p0) (own_p3 p1)) (own_v4 (0 : Int32) (own_r1 p0) (own_r2 p0 p1) (own_r3 p0 p1 p2)) (p4 &&& (15 : Int32)) 4 s_))), (.int (0 : Int32))])) _
        refine XS.iload X451.here hx rfl (hb hby at_285) rfl ?_
        show Steps p.tables e below (T451.setTop (mkF m 287 #[.val (.int p0), .val (.int p1), .val (.int p2), .val (.int p3), .val (.int p4), .val (.int (own_p2 p0)), .val (.int (own_p3 p1)), .val (.ref b3), .val (.ref b44), .val (.ref b90), .val (.ref b124), .val (.ref b190), .val (.int (1 : Int32)), .val (.int (own_b1 p3)), .val (.int (p4 &&& (15 : Int32))), .val (.ref b412), .val (.int (Int32.ofNat (own_blk (own_v4 (0 : Int32) (0 : Int32) (own_p2 p0) (own_p3 p1)) (own_v4 (0 : Int32) (own_r1 p0) (own_r2 p0 p1) (own_r3 p0 p1 p2)) (p4 &&& (15 : Int32)) 4 s_)))] [(.int (p4 &&& (15 : Int32))), (.ref b3), (.ref b44), (.int (own_b1 p3)), (.int (Int32.ofNat (own_blk (own_v4 (0 : Int32) (0 : Int32) (own_p2 p0) (own_p3 p1)) (own_v4 (0 : Int32) (own_r1 p0) (own_r2 p0 p1) (own_r3 p0 p1 p2)) (p4 &&& (15 : Int32)) 4 s_))), (.int (0 : Int32))])) _
        refine st457 _ ?_
        show Steps p.tables e below (T457.setTop (mkF m 290 #[.val (.int p0), .val (.int p1), .val (.int p2), .val (.int p3), .val (.int p4), .val (.int (own_p2 p0)), .val (.int (own_p3 p1)), .val (.ref b3), .val (.ref b44), .val (.ref b90), .val (.ref b124), .val (.ref b190), .val (.int (1 : Int32)), .val (.int (own_b1 p3)), .val (.int (p4 &&& (15 : Int32))), .val (.ref b412), .val (.int (Int32.ofNat (own_blk (own_v4 (0 : Int32) (0 : Int32) (own_p2 p0) (own_p3 p1)) (own_v4 (0 : Int32) (own_r1 p0) (own_r2 p0 p1) (own_r3 p0 p1 p2)) (p4 &&& (15 : Int32)) 4 s_)))] [(.int (1 : Int32))])) _
        refine XS.ifNo X457.here hx rfl (hb hby at_290) rfl ((if0 _ _).trans (feq (by decide : ¬ ((1 : Int32) = (0 : Int32)))).1) ?_
        show Steps p.tables e below (T457.setTop (mkF m 293 #[.val (.int p0), .val (.int p1), .val (.int p2), .val (.int p3), .val (.int p4), .val (.int (own_p2 p0)), .val (.int (own_p3 p1)), .val (.ref b3), .val (.ref b44), .val (.ref b90), .val (.ref b124), .val (.ref b190), .val (.int (1 : Int32)), .val (.int (own_b1 p3)), .val (.int (p4 &&& (15 : Int32))), .val (.ref b412), .val (.int (Int32.ofNat (own_blk (own_v4 (0 : Int32) (0 : Int32) (own_p2 p0) (own_p3 p1)) (own_v4 (0 : Int32) (own_r1 p0) (own_r2 p0 p1) (own_r3 p0 p1 p2)) (p4 &&& (15 : Int32)) 4 s_)))] [])) _
        refine XS.iconst X457.here hx rfl (hb hby at_293) ?_
        show Steps p.tables e below (T457.setTop (mkF m 294 #[.val (.int p0), .val (.int p1), .val (.int p2), .val (.int p3), .val (.int p4), .val (.int (own_p2 p0)), .val (.int (own_p3 p1)), .val (.ref b3), .val (.ref b44), .val (.ref b90), .val (.ref b124), .val (.ref b190), .val (.int (1 : Int32)), .val (.int (own_b1 p3)), .val (.int (p4 &&& (15 : Int32))), .val (.ref b412), .val (.int (Int32.ofNat (own_blk (own_v4 (0 : Int32) (0 : Int32) (own_p2 p0) (own_p3 p1)) (own_v4 (0 : Int32) (own_r1 p0) (own_r2 p0 p1) (own_r3 p0 p1 p2)) (p4 &&& (15 : Int32)) 4 s_)))] [(.int (1 : Int32))])) _
        refine XS.iload X457.here hx rfl (hb hby at_294) rfl ?_
        show Steps p.tables e below (T457.setTop (mkF m 296 #[.val (.int p0), .val (.int p1), .val (.int p2), .val (.int p3), .val (.int p4), .val (.int (own_p2 p0)), .val (.int (own_p3 p1)), .val (.ref b3), .val (.ref b44), .val (.ref b90), .val (.ref b124), .val (.ref b190), .val (.int (1 : Int32)), .val (.int (own_b1 p3)), .val (.int (p4 &&& (15 : Int32))), .val (.ref b412), .val (.int (Int32.ofNat (own_blk (own_v4 (0 : Int32) (0 : Int32) (own_p2 p0) (own_p3 p1)) (own_v4 (0 : Int32) (own_r1 p0) (own_r2 p0 p1) (own_r3 p0 p1 p2)) (p4 &&& (15 : Int32)) 4 s_)))] [(.int (Int32.ofNat (own_blk (own_v4 (0 : Int32) (0 : Int32) (own_p2 p0) (own_p3 p1)) (own_v4 (0 : Int32) (own_r1 p0) (own_r2 p0 p1) (own_r3 p0 p1 p2)) (p4 &&& (15 : Int32)) 4 s_))), (.int (1 : Int32))])) _
        refine XS.iload X457.here hx rfl (hb hby at_296) rfl ?_
        show Steps p.tables e below (T457.setTop (mkF m 298 #[.val (.int p0), .val (.int p1), .val (.int p2), .val (.int p3), .val (.int p4), .val (.int (own_p2 p0)), .val (.int (own_p3 p1)), .val (.ref b3), .val (.ref b44), .val (.ref b90), .val (.ref b124), .val (.ref b190), .val (.int (1 : Int32)), .val (.int (own_b1 p3)), .val (.int (p4 &&& (15 : Int32))), .val (.ref b412), .val (.int (Int32.ofNat (own_blk (own_v4 (0 : Int32) (0 : Int32) (own_p2 p0) (own_p3 p1)) (own_v4 (0 : Int32) (own_r1 p0) (own_r2 p0 p1) (own_r3 p0 p1 p2)) (p4 &&& (15 : Int32)) 4 s_)))] [(.int (own_b1 p3)), (.int (Int32.ofNat (own_blk (own_v4 (0 : Int32) (0 : Int32) (own_p2 p0) (own_p3 p1)) (own_v4 (0 : Int32) (own_r1 p0) (own_r2 p0 p1) (own_r3 p0 p1 p2)) (p4 &&& (15 : Int32)) 4 s_))), (.int (1 : Int32))])) _
        refine XS.aload X457.here hx rfl (hb hby at_298) rfl rfl ?_
        show Steps p.tables e below (T457.setTop (mkF m 300 #[.val (.int p0), .val (.int p1), .val (.int p2), .val (.int p3), .val (.int p4), .val (.int (own_p2 p0)), .val (.int (own_p3 p1)), .val (.ref b3), .val (.ref b44), .val (.ref b90), .val (.ref b124), .val (.ref b190), .val (.int (1 : Int32)), .val (.int (own_b1 p3)), .val (.int (p4 &&& (15 : Int32))), .val (.ref b412), .val (.int (Int32.ofNat (own_blk (own_v4 (0 : Int32) (0 : Int32) (own_p2 p0) (own_p3 p1)) (own_v4 (0 : Int32) (own_r1 p0) (own_r2 p0 p1) (own_r3 p0 p1 p2)) (p4 &&& (15 : Int32)) 4 s_)))] [(.ref b44), (.int (own_b1 p3)), (.int (Int32.ofNat (own_blk (own_v4 (0 : Int32) (0 : Int32) (own_p2 p0) (own_p3 p1)) (own_v4 (0 : Int32) (own_r1 p0) (own_r2 p0 p1) (own_r3 p0 p1 p2)) (p4 &&& (15 : Int32)) 4 s_))), (.int (1 : Int32))])) _
        refine XS.aload X457.here hx rfl (hb hby at_300) rfl rfl ?_
        show Steps p.tables e below (T457.setTop (mkF m 302 #[.val (.int p0), .val (.int p1), .val (.int p2), .val (.int p3), .val (.int p4), .val (.int (own_p2 p0)), .val (.int (own_p3 p1)), .val (.ref b3), .val (.ref b44), .val (.ref b90), .val (.ref b124), .val (.ref b190), .val (.int (1 : Int32)), .val (.int (own_b1 p3)), .val (.int (p4 &&& (15 : Int32))), .val (.ref b412), .val (.int (Int32.ofNat (own_blk (own_v4 (0 : Int32) (0 : Int32) (own_p2 p0) (own_p3 p1)) (own_v4 (0 : Int32) (own_r1 p0) (own_r2 p0 p1) (own_r3 p0 p1 p2)) (p4 &&& (15 : Int32)) 4 s_)))] [(.ref b3), (.ref b44), (.int (own_b1 p3)), (.int (Int32.ofNat (own_blk (own_v4 (0 : Int32) (0 : Int32) (own_p2 p0) (own_p3 p1)) (own_v4 (0 : Int32) (own_r1 p0) (own_r2 p0 p1) (own_r3 p0 p1 p2)) (p4 &&& (15 : Int32)) 4 s_))), (.int (1 : Int32))])) _
        refine XS.iload X457.here hx rfl (hb hby at_302) rfl ?_
        show Steps p.tables e below (T457.setTop (mkF m 304 #[.val (.int p0), .val (.int p1), .val (.int p2), .val (.int p3), .val (.int p4), .val (.int (own_p2 p0)), .val (.int (own_p3 p1)), .val (.ref b3), .val (.ref b44), .val (.ref b90), .val (.ref b124), .val (.ref b190), .val (.int (1 : Int32)), .val (.int (own_b1 p3)), .val (.int (p4 &&& (15 : Int32))), .val (.ref b412), .val (.int (Int32.ofNat (own_blk (own_v4 (0 : Int32) (0 : Int32) (own_p2 p0) (own_p3 p1)) (own_v4 (0 : Int32) (own_r1 p0) (own_r2 p0 p1) (own_r3 p0 p1 p2)) (p4 &&& (15 : Int32)) 4 s_)))] [(.int (p4 &&& (15 : Int32))), (.ref b3), (.ref b44), (.int (own_b1 p3)), (.int (Int32.ofNat (own_blk (own_v4 (0 : Int32) (0 : Int32) (own_p2 p0) (own_p3 p1)) (own_v4 (0 : Int32) (own_r1 p0) (own_r2 p0 p1) (own_r3 p0 p1 p2)) (p4 &&& (15 : Int32)) 4 s_))), (.int (1 : Int32))])) _
        refine st461 _ ?_
        show Steps p.tables e below (T461.setTop (mkF m 307 #[.val (.int p0), .val (.int p1), .val (.int p2), .val (.int p3), .val (.int p4), .val (.int (own_p2 p0)), .val (.int (own_p3 p1)), .val (.ref b3), .val (.ref b44), .val (.ref b90), .val (.ref b124), .val (.ref b190), .val (.int (1 : Int32)), .val (.int (own_b1 p3)), .val (.int (p4 &&& (15 : Int32))), .val (.ref b412), .val (.int (Int32.ofNat (own_blk (own_v4 (0 : Int32) (0 : Int32) (own_p2 p0) (own_p3 p1)) (own_v4 (0 : Int32) (own_r1 p0) (own_r2 p0 p1) (own_r3 p0 p1 p2)) (p4 &&& (15 : Int32)) 4 s_)))] [(.int (1 : Int32))])) _
        refine XS.ifNo X461.here hx rfl (hb hby at_307) rfl ((if0 _ _).trans (feq (by decide : ¬ ((1 : Int32) = (0 : Int32)))).1) ?_
        exact kt
      have zs465 : n0 ≤ T428.heap.size := Nat.le_trans Z0 k441.1
      obtain ⟨_, _, ⟨T466, L466, k466, n466⟩, -, X466, ⟨Lc466, hQ466, l466, y466, z466⟩, st466⟩ := Jvm.LawKit.callS X461 hx (y := (⟨"com/example/unfold/unfold/reduction/SplittingBlockAfterPinLaw", "ok", "(III[I[II)Z"⟩ : MethodName)) hown (mvT hZ (hw _ (List.mem_of_getElem? (i := 25) rfl))) (mvT hZ (hw _ (List.mem_of_getElem? (i := 26) rfl))) (mvT hZ (hw _ (List.mem_of_getElem? (i := 23) rfl))) (mvT hZ (hw _ (List.mem_of_getElem? (i := 27) rfl))) (by decide) (backOf (W := 0) (own_rm_ok l Z a0 hw [] (2 : Int32) (Int32.ofNat (own_blk (own_v4 (0 : Int32) (0 : Int32) (own_p2 p0) (own_p3 p1)) (own_v4 (0 : Int32) (own_r1 p0) (own_r2 p0 p1) (own_r3 p0 p1 p2)) (p4 &&& (15 : Int32)) 4 s_)) (own_b1 p3) b44 b3 (p4 &&& (15 : Int32)) 2 (own_blk (own_v4 (0 : Int32) (0 : Int32) (own_p2 p0) (own_p3 p1)) (own_v4 (0 : Int32) (own_r1 p0) (own_r2 p0 p1) (own_r3 p0 p1 p2)) (p4 &&& (15 : Int32)) 4 s_) s_ (own_v4 (0 : Int32) (0 : Int32) (own_p2 p0) (own_p3 p1)) (own_v4 (0 : Int32) (own_r1 p0) (own_r2 p0 p1) (own_r3 p0 p1 p2)) T428.heap n0 zs465 f433 f431 rfl (by decide) rfl hpl.1 hs hs4 hT (hpl.2.2.2 2 (by decide))) hZ (hw _ (List.mem_of_getElem? (i := 27) rfl)) (hw _ (List.mem_of_getElem? (i := 23) rfl)) (by decide) (by decide)) (g := (mkF m 321 #[.val (.int p0), .val (.int p1), .val (.int p2), .val (.int p3), .val (.int p4), .val (.int (own_p2 p0)), .val (.int (own_p3 p1)), .val (.ref b3), .val (.ref b44), .val (.ref b90), .val (.ref b124), .val (.ref b190), .val (.int (1 : Int32)), .val (.int (own_b1 p3)), .val (.int (p4 &&& (15 : Int32))), .val (.ref b412), .val (.int (Int32.ofNat (own_blk (own_v4 (0 : Int32) (0 : Int32) (own_p2 p0) (own_p3 p1)) (own_v4 (0 : Int32) (own_r1 p0) (own_r2 p0 p1) (own_r3 p0 p1 p2)) (p4 &&& (15 : Int32)) 4 s_)))] [(.int (p4 &&& (15 : Int32))), (.ref b3), (.ref b44), (.int (own_b1 p3)), (.int (Int32.ofNat (own_blk (own_v4 (0 : Int32) (0 : Int32) (own_p2 p0) (own_p3 p1)) (own_v4 (0 : Int32) (own_r1 p0) (own_r2 p0 p1) (own_r3 p0 p1 p2)) (p4 &&& (15 : Int32)) 4 s_))), (.int (2 : Int32))])) rfl (by rw [hml]; rfl) (argsL := [(.int (2 : Int32)), (.int (Int32.ofNat (own_blk (own_v4 (0 : Int32) (0 : Int32) (own_p2 p0) (own_p3 p1)) (own_v4 (0 : Int32) (own_r1 p0) (own_r2 p0 p1) (own_r3 p0 p1 p2)) (p4 &&& (15 : Int32)) 4 s_))), (.int (own_b1 p3)), (.ref b44), (.ref b3), (.int (p4 &&& (15 : Int32)))]) (rest := []) (lenOf own_pd3 rfl) rfl (by show 2 * 0 + _ ≤ _; exact Nat.le_of_eq rfl) (hb hby at_321) (fun _ _ => ⟨rfl, eq462, (by decide : 6 + 0 ≤ _), (by decide : 21 + 0 ≤ _)⟩)
      dsimp only [Pt.U, Pt.locs, Pt.cells, Pt.slots] at X466 l466 y466 z466 st466 hQ466
      rw [l466, (y466 : k466 = 6), (z466 : n466 = 21)] at X466
      clear l466 y466 z466
      obtain ⟨rfl, N467, eq467⟩ := hQ466
      have nf468 := Fr.app nf463 N467
      have pre469 : ∀ t, Steps p.tables e below (T466.setTop (mkF m 334 #[.val (.int p0), .val (.int p1), .val (.int p2), .val (.int p3), .val (.int p4), .val (.int (own_p2 p0)), .val (.int (own_p3 p1)), .val (.ref b3), .val (.ref b44), .val (.ref b90), .val (.ref b124), .val (.ref b190), .val (.int (1 : Int32)), .val (.int (own_b1 p3)), .val (.int (p4 &&& (15 : Int32))), .val (.ref b412), .val (.int (Int32.ofNat (own_blk (own_v4 (0 : Int32) (0 : Int32) (own_p2 p0) (own_p3 p1)) (own_v4 (0 : Int32) (own_r1 p0) (own_r2 p0 p1) (own_r3 p0 p1 p2)) (p4 &&& (15 : Int32)) 4 s_)))] [(.ref b44), (.int (own_b1 p3)), (.int (Int32.ofNat (own_blk (own_v4 (0 : Int32) (0 : Int32) (own_p2 p0) (own_p3 p1)) (own_v4 (0 : Int32) (own_r1 p0) (own_r2 p0 p1) (own_r3 p0 p1 p2)) (p4 &&& (15 : Int32)) 4 s_))), (.int (3 : Int32))])) t → Steps p.tables e below (s₁.setTop (entryFrame m #[(.int p0), (.int p1), (.int p2), (.int p3), (.int p4)] maxLocals)) t := by
        intro t kt
        refine pre464 t ?_
        show Steps p.tables e below (T461.setTop (mkF m 310 #[.val (.int p0), .val (.int p1), .val (.int p2), .val (.int p3), .val (.int p4), .val (.int (own_p2 p0)), .val (.int (own_p3 p1)), .val (.ref b3), .val (.ref b44), .val (.ref b90), .val (.ref b124), .val (.ref b190), .val (.int (1 : Int32)), .val (.int (own_b1 p3)), .val (.int (p4 &&& (15 : Int32))), .val (.ref b412), .val (.int (Int32.ofNat (own_blk (own_v4 (0 : Int32) (0 : Int32) (own_p2 p0) (own_p3 p1)) (own_v4 (0 : Int32) (own_r1 p0) (own_r2 p0 p1) (own_r3 p0 p1 p2)) (p4 &&& (15 : Int32)) 4 s_)))] [])) _
        refine XS.iconst X461.here hx rfl (hb hby at_310) ?_
        show Steps p.tables e below (T461.setTop (mkF m 311 #[.val (.int p0), .val (.int p1), .val (.int p2), .val (.int p3), .val (.int p4), .val (.int (own_p2 p0)), .val (.int (own_p3 p1)), .val (.ref b3), .val (.ref b44), .val (.ref b90), .val (.ref b124), .val (.ref b190), .val (.int (1 : Int32)), .val (.int (own_b1 p3)), .val (.int (p4 &&& (15 : Int32))), .val (.ref b412), .val (.int (Int32.ofNat (own_blk (own_v4 (0 : Int32) (0 : Int32) (own_p2 p0) (own_p3 p1)) (own_v4 (0 : Int32) (own_r1 p0) (own_r2 p0 p1) (own_r3 p0 p1 p2)) (p4 &&& (15 : Int32)) 4 s_)))] [(.int (2 : Int32))])) _
        refine XS.iload X461.here hx rfl (hb hby at_311) rfl ?_
        show Steps p.tables e below (T461.setTop (mkF m 313 #[.val (.int p0), .val (.int p1), .val (.int p2), .val (.int p3), .val (.int p4), .val (.int (own_p2 p0)), .val (.int (own_p3 p1)), .val (.ref b3), .val (.ref b44), .val (.ref b90), .val (.ref b124), .val (.ref b190), .val (.int (1 : Int32)), .val (.int (own_b1 p3)), .val (.int (p4 &&& (15 : Int32))), .val (.ref b412), .val (.int (Int32.ofNat (own_blk (own_v4 (0 : Int32) (0 : Int32) (own_p2 p0) (own_p3 p1)) (own_v4 (0 : Int32) (own_r1 p0) (own_r2 p0 p1) (own_r3 p0 p1 p2)) (p4 &&& (15 : Int32)) 4 s_)))] [(.int (Int32.ofNat (own_blk (own_v4 (0 : Int32) (0 : Int32) (own_p2 p0) (own_p3 p1)) (own_v4 (0 : Int32) (own_r1 p0) (own_r2 p0 p1) (own_r3 p0 p1 p2)) (p4 &&& (15 : Int32)) 4 s_))), (.int (2 : Int32))])) _
        refine XS.iload X461.here hx rfl (hb hby at_313) rfl ?_
        show Steps p.tables e below (T461.setTop (mkF m 315 #[.val (.int p0), .val (.int p1), .val (.int p2), .val (.int p3), .val (.int p4), .val (.int (own_p2 p0)), .val (.int (own_p3 p1)), .val (.ref b3), .val (.ref b44), .val (.ref b90), .val (.ref b124), .val (.ref b190), .val (.int (1 : Int32)), .val (.int (own_b1 p3)), .val (.int (p4 &&& (15 : Int32))), .val (.ref b412), .val (.int (Int32.ofNat (own_blk (own_v4 (0 : Int32) (0 : Int32) (own_p2 p0) (own_p3 p1)) (own_v4 (0 : Int32) (own_r1 p0) (own_r2 p0 p1) (own_r3 p0 p1 p2)) (p4 &&& (15 : Int32)) 4 s_)))] [(.int (own_b1 p3)), (.int (Int32.ofNat (own_blk (own_v4 (0 : Int32) (0 : Int32) (own_p2 p0) (own_p3 p1)) (own_v4 (0 : Int32) (own_r1 p0) (own_r2 p0 p1) (own_r3 p0 p1 p2)) (p4 &&& (15 : Int32)) 4 s_))), (.int (2 : Int32))])) _
        refine XS.aload X461.here hx rfl (hb hby at_315) rfl rfl ?_
        show Steps p.tables e below (T461.setTop (mkF m 317 #[.val (.int p0), .val (.int p1), .val (.int p2), .val (.int p3), .val (.int p4), .val (.int (own_p2 p0)), .val (.int (own_p3 p1)), .val (.ref b3), .val (.ref b44), .val (.ref b90), .val (.ref b124), .val (.ref b190), .val (.int (1 : Int32)), .val (.int (own_b1 p3)), .val (.int (p4 &&& (15 : Int32))), .val (.ref b412), .val (.int (Int32.ofNat (own_blk (own_v4 (0 : Int32) (0 : Int32) (own_p2 p0) (own_p3 p1)) (own_v4 (0 : Int32) (own_r1 p0) (own_r2 p0 p1) (own_r3 p0 p1 p2)) (p4 &&& (15 : Int32)) 4 s_)))] [(.ref b44), (.int (own_b1 p3)), (.int (Int32.ofNat (own_blk (own_v4 (0 : Int32) (0 : Int32) (own_p2 p0) (own_p3 p1)) (own_v4 (0 : Int32) (own_r1 p0) (own_r2 p0 p1) (own_r3 p0 p1 p2)) (p4 &&& (15 : Int32)) 4 s_))), (.int (2 : Int32))])) _
        refine XS.aload X461.here hx rfl (hb hby at_317) rfl rfl ?_
        show Steps p.tables e below (T461.setTop (mkF m 319 #[.val (.int p0), .val (.int p1), .val (.int p2), .val (.int p3), .val (.int p4), .val (.int (own_p2 p0)), .val (.int (own_p3 p1)), .val (.ref b3), .val (.ref b44), .val (.ref b90), .val (.ref b124), .val (.ref b190), .val (.int (1 : Int32)), .val (.int (own_b1 p3)), .val (.int (p4 &&& (15 : Int32))), .val (.ref b412), .val (.int (Int32.ofNat (own_blk (own_v4 (0 : Int32) (0 : Int32) (own_p2 p0) (own_p3 p1)) (own_v4 (0 : Int32) (own_r1 p0) (own_r2 p0 p1) (own_r3 p0 p1 p2)) (p4 &&& (15 : Int32)) 4 s_)))] [(.ref b3), (.ref b44), (.int (own_b1 p3)), (.int (Int32.ofNat (own_blk (own_v4 (0 : Int32) (0 : Int32) (own_p2 p0) (own_p3 p1)) (own_v4 (0 : Int32) (own_r1 p0) (own_r2 p0 p1) (own_r3 p0 p1 p2)) (p4 &&& (15 : Int32)) 4 s_))), (.int (2 : Int32))])) _
        refine XS.iload X461.here hx rfl (hb hby at_319) rfl ?_
        show Steps p.tables e below (T461.setTop (mkF m 321 #[.val (.int p0), .val (.int p1), .val (.int p2), .val (.int p3), .val (.int p4), .val (.int (own_p2 p0)), .val (.int (own_p3 p1)), .val (.ref b3), .val (.ref b44), .val (.ref b90), .val (.ref b124), .val (.ref b190), .val (.int (1 : Int32)), .val (.int (own_b1 p3)), .val (.int (p4 &&& (15 : Int32))), .val (.ref b412), .val (.int (Int32.ofNat (own_blk (own_v4 (0 : Int32) (0 : Int32) (own_p2 p0) (own_p3 p1)) (own_v4 (0 : Int32) (own_r1 p0) (own_r2 p0 p1) (own_r3 p0 p1 p2)) (p4 &&& (15 : Int32)) 4 s_)))] [(.int (p4 &&& (15 : Int32))), (.ref b3), (.ref b44), (.int (own_b1 p3)), (.int (Int32.ofNat (own_blk (own_v4 (0 : Int32) (0 : Int32) (own_p2 p0) (own_p3 p1)) (own_v4 (0 : Int32) (own_r1 p0) (own_r2 p0 p1) (own_r3 p0 p1 p2)) (p4 &&& (15 : Int32)) 4 s_))), (.int (2 : Int32))])) _
        refine st466 _ ?_
        show Steps p.tables e below (T466.setTop (mkF m 324 #[.val (.int p0), .val (.int p1), .val (.int p2), .val (.int p3), .val (.int p4), .val (.int (own_p2 p0)), .val (.int (own_p3 p1)), .val (.ref b3), .val (.ref b44), .val (.ref b90), .val (.ref b124), .val (.ref b190), .val (.int (1 : Int32)), .val (.int (own_b1 p3)), .val (.int (p4 &&& (15 : Int32))), .val (.ref b412), .val (.int (Int32.ofNat (own_blk (own_v4 (0 : Int32) (0 : Int32) (own_p2 p0) (own_p3 p1)) (own_v4 (0 : Int32) (own_r1 p0) (own_r2 p0 p1) (own_r3 p0 p1 p2)) (p4 &&& (15 : Int32)) 4 s_)))] [(.int (1 : Int32))])) _
        refine XS.ifNo X466.here hx rfl (hb hby at_324) rfl ((if0 _ _).trans (feq (by decide : ¬ ((1 : Int32) = (0 : Int32)))).1) ?_
        show Steps p.tables e below (T466.setTop (mkF m 327 #[.val (.int p0), .val (.int p1), .val (.int p2), .val (.int p3), .val (.int p4), .val (.int (own_p2 p0)), .val (.int (own_p3 p1)), .val (.ref b3), .val (.ref b44), .val (.ref b90), .val (.ref b124), .val (.ref b190), .val (.int (1 : Int32)), .val (.int (own_b1 p3)), .val (.int (p4 &&& (15 : Int32))), .val (.ref b412), .val (.int (Int32.ofNat (own_blk (own_v4 (0 : Int32) (0 : Int32) (own_p2 p0) (own_p3 p1)) (own_v4 (0 : Int32) (own_r1 p0) (own_r2 p0 p1) (own_r3 p0 p1 p2)) (p4 &&& (15 : Int32)) 4 s_)))] [])) _
        refine XS.iconst X466.here hx rfl (hb hby at_327) ?_
        show Steps p.tables e below (T466.setTop (mkF m 328 #[.val (.int p0), .val (.int p1), .val (.int p2), .val (.int p3), .val (.int p4), .val (.int (own_p2 p0)), .val (.int (own_p3 p1)), .val (.ref b3), .val (.ref b44), .val (.ref b90), .val (.ref b124), .val (.ref b190), .val (.int (1 : Int32)), .val (.int (own_b1 p3)), .val (.int (p4 &&& (15 : Int32))), .val (.ref b412), .val (.int (Int32.ofNat (own_blk (own_v4 (0 : Int32) (0 : Int32) (own_p2 p0) (own_p3 p1)) (own_v4 (0 : Int32) (own_r1 p0) (own_r2 p0 p1) (own_r3 p0 p1 p2)) (p4 &&& (15 : Int32)) 4 s_)))] [(.int (3 : Int32))])) _
        refine XS.iload X466.here hx rfl (hb hby at_328) rfl ?_
        show Steps p.tables e below (T466.setTop (mkF m 330 #[.val (.int p0), .val (.int p1), .val (.int p2), .val (.int p3), .val (.int p4), .val (.int (own_p2 p0)), .val (.int (own_p3 p1)), .val (.ref b3), .val (.ref b44), .val (.ref b90), .val (.ref b124), .val (.ref b190), .val (.int (1 : Int32)), .val (.int (own_b1 p3)), .val (.int (p4 &&& (15 : Int32))), .val (.ref b412), .val (.int (Int32.ofNat (own_blk (own_v4 (0 : Int32) (0 : Int32) (own_p2 p0) (own_p3 p1)) (own_v4 (0 : Int32) (own_r1 p0) (own_r2 p0 p1) (own_r3 p0 p1 p2)) (p4 &&& (15 : Int32)) 4 s_)))] [(.int (Int32.ofNat (own_blk (own_v4 (0 : Int32) (0 : Int32) (own_p2 p0) (own_p3 p1)) (own_v4 (0 : Int32) (own_r1 p0) (own_r2 p0 p1) (own_r3 p0 p1 p2)) (p4 &&& (15 : Int32)) 4 s_))), (.int (3 : Int32))])) _
        refine XS.iload X466.here hx rfl (hb hby at_330) rfl ?_
        show Steps p.tables e below (T466.setTop (mkF m 332 #[.val (.int p0), .val (.int p1), .val (.int p2), .val (.int p3), .val (.int p4), .val (.int (own_p2 p0)), .val (.int (own_p3 p1)), .val (.ref b3), .val (.ref b44), .val (.ref b90), .val (.ref b124), .val (.ref b190), .val (.int (1 : Int32)), .val (.int (own_b1 p3)), .val (.int (p4 &&& (15 : Int32))), .val (.ref b412), .val (.int (Int32.ofNat (own_blk (own_v4 (0 : Int32) (0 : Int32) (own_p2 p0) (own_p3 p1)) (own_v4 (0 : Int32) (own_r1 p0) (own_r2 p0 p1) (own_r3 p0 p1 p2)) (p4 &&& (15 : Int32)) 4 s_)))] [(.int (own_b1 p3)), (.int (Int32.ofNat (own_blk (own_v4 (0 : Int32) (0 : Int32) (own_p2 p0) (own_p3 p1)) (own_v4 (0 : Int32) (own_r1 p0) (own_r2 p0 p1) (own_r3 p0 p1 p2)) (p4 &&& (15 : Int32)) 4 s_))), (.int (3 : Int32))])) _
        refine XS.aload X466.here hx rfl (hb hby at_332) rfl rfl ?_
        exact kt
      have zs470 : n0 ≤ T428.heap.size := Nat.le_trans Z0 k441.1
      obtain ⟨_, _, ⟨T471, L471, k471, n471⟩, -, X471, ⟨Lc471, hQ471, l471, y471, z471⟩, st471⟩ := Jvm.LawKit.callS X466 hx (y := (⟨"com/example/unfold/unfold/reduction/SplittingBlockAfterPinLaw", "ok", "(III[I[II)Z"⟩ : MethodName)) hown (mvT hZ (hw _ (List.mem_of_getElem? (i := 25) rfl))) (mvT hZ (hw _ (List.mem_of_getElem? (i := 26) rfl))) (mvT hZ (hw _ (List.mem_of_getElem? (i := 23) rfl))) (mvT hZ (hw _ (List.mem_of_getElem? (i := 27) rfl))) (by decide) (backOf (W := 0) (own_rm_ok l Z a0 hw [] (3 : Int32) (Int32.ofNat (own_blk (own_v4 (0 : Int32) (0 : Int32) (own_p2 p0) (own_p3 p1)) (own_v4 (0 : Int32) (own_r1 p0) (own_r2 p0 p1) (own_r3 p0 p1 p2)) (p4 &&& (15 : Int32)) 4 s_)) (own_b1 p3) b44 b3 (p4 &&& (15 : Int32)) 3 (own_blk (own_v4 (0 : Int32) (0 : Int32) (own_p2 p0) (own_p3 p1)) (own_v4 (0 : Int32) (own_r1 p0) (own_r2 p0 p1) (own_r3 p0 p1 p2)) (p4 &&& (15 : Int32)) 4 s_) s_ (own_v4 (0 : Int32) (0 : Int32) (own_p2 p0) (own_p3 p1)) (own_v4 (0 : Int32) (own_r1 p0) (own_r2 p0 p1) (own_r3 p0 p1 p2)) T428.heap n0 zs470 f433 f431 rfl (by decide) rfl hpl.1 hs hs4 hT (hpl.2.2.2 3 (by decide))) hZ (hw _ (List.mem_of_getElem? (i := 27) rfl)) (hw _ (List.mem_of_getElem? (i := 23) rfl)) (by decide) (by decide)) (g := (mkF m 338 #[.val (.int p0), .val (.int p1), .val (.int p2), .val (.int p3), .val (.int p4), .val (.int (own_p2 p0)), .val (.int (own_p3 p1)), .val (.ref b3), .val (.ref b44), .val (.ref b90), .val (.ref b124), .val (.ref b190), .val (.int (1 : Int32)), .val (.int (own_b1 p3)), .val (.int (p4 &&& (15 : Int32))), .val (.ref b412), .val (.int (Int32.ofNat (own_blk (own_v4 (0 : Int32) (0 : Int32) (own_p2 p0) (own_p3 p1)) (own_v4 (0 : Int32) (own_r1 p0) (own_r2 p0 p1) (own_r3 p0 p1 p2)) (p4 &&& (15 : Int32)) 4 s_)))] [(.int (p4 &&& (15 : Int32))), (.ref b3), (.ref b44), (.int (own_b1 p3)), (.int (Int32.ofNat (own_blk (own_v4 (0 : Int32) (0 : Int32) (own_p2 p0) (own_p3 p1)) (own_v4 (0 : Int32) (own_r1 p0) (own_r2 p0 p1) (own_r3 p0 p1 p2)) (p4 &&& (15 : Int32)) 4 s_))), (.int (3 : Int32))])) rfl (by rw [hml]; rfl) (argsL := [(.int (3 : Int32)), (.int (Int32.ofNat (own_blk (own_v4 (0 : Int32) (0 : Int32) (own_p2 p0) (own_p3 p1)) (own_v4 (0 : Int32) (own_r1 p0) (own_r2 p0 p1) (own_r3 p0 p1 p2)) (p4 &&& (15 : Int32)) 4 s_))), (.int (own_b1 p3)), (.ref b44), (.ref b3), (.int (p4 &&& (15 : Int32)))]) (rest := []) (lenOf own_pd3 rfl) rfl (by show 2 * 0 + _ ≤ _; exact Nat.le_of_eq rfl) (hb hby at_338) (fun _ _ => ⟨rfl, eq467, (by decide : 6 + 0 ≤ _), (by decide : 21 + 0 ≤ _)⟩)
      dsimp only [Pt.U, Pt.locs, Pt.cells, Pt.slots] at X471 l471 y471 z471 st471 hQ471
      rw [l471, (y471 : k471 = 6), (z471 : n471 = 21)] at X471
      clear l471 y471 z471
      obtain ⟨rfl, N472, eq472⟩ := hQ471
      have nf473 := Fr.app nf468 N472
      have pre474 : ∀ t, Steps p.tables e below (T471.setTop (mkF m 349 #[.val (.int p0), .val (.int p1), .val (.int p2), .val (.int p3), .val (.int p4), .val (.int (own_p2 p0)), .val (.int (own_p3 p1)), .val (.ref b3), .val (.ref b44), .val (.ref b90), .val (.ref b124), .val (.ref b190), .val (.int (1 : Int32)), .val (.int (own_b1 p3)), .val (.int (p4 &&& (15 : Int32))), .val (.ref b412), .val (.int (Int32.ofNat (own_blk (own_v4 (0 : Int32) (0 : Int32) (own_p2 p0) (own_p3 p1)) (own_v4 (0 : Int32) (own_r1 p0) (own_r2 p0 p1) (own_r3 p0 p1 p2)) (p4 &&& (15 : Int32)) 4 s_)))] [(.int (1 : Int32))])) t → Steps p.tables e below (s₁.setTop (entryFrame m #[(.int p0), (.int p1), (.int p2), (.int p3), (.int p4)] maxLocals)) t := by
        intro t kt
        refine pre469 t ?_
        show Steps p.tables e below (T466.setTop (mkF m 334 #[.val (.int p0), .val (.int p1), .val (.int p2), .val (.int p3), .val (.int p4), .val (.int (own_p2 p0)), .val (.int (own_p3 p1)), .val (.ref b3), .val (.ref b44), .val (.ref b90), .val (.ref b124), .val (.ref b190), .val (.int (1 : Int32)), .val (.int (own_b1 p3)), .val (.int (p4 &&& (15 : Int32))), .val (.ref b412), .val (.int (Int32.ofNat (own_blk (own_v4 (0 : Int32) (0 : Int32) (own_p2 p0) (own_p3 p1)) (own_v4 (0 : Int32) (own_r1 p0) (own_r2 p0 p1) (own_r3 p0 p1 p2)) (p4 &&& (15 : Int32)) 4 s_)))] [(.ref b44), (.int (own_b1 p3)), (.int (Int32.ofNat (own_blk (own_v4 (0 : Int32) (0 : Int32) (own_p2 p0) (own_p3 p1)) (own_v4 (0 : Int32) (own_r1 p0) (own_r2 p0 p1) (own_r3 p0 p1 p2)) (p4 &&& (15 : Int32)) 4 s_))), (.int (3 : Int32))])) _
        refine XS.aload X466.here hx rfl (hb hby at_334) rfl rfl ?_
        show Steps p.tables e below (T466.setTop (mkF m 336 #[.val (.int p0), .val (.int p1), .val (.int p2), .val (.int p3), .val (.int p4), .val (.int (own_p2 p0)), .val (.int (own_p3 p1)), .val (.ref b3), .val (.ref b44), .val (.ref b90), .val (.ref b124), .val (.ref b190), .val (.int (1 : Int32)), .val (.int (own_b1 p3)), .val (.int (p4 &&& (15 : Int32))), .val (.ref b412), .val (.int (Int32.ofNat (own_blk (own_v4 (0 : Int32) (0 : Int32) (own_p2 p0) (own_p3 p1)) (own_v4 (0 : Int32) (own_r1 p0) (own_r2 p0 p1) (own_r3 p0 p1 p2)) (p4 &&& (15 : Int32)) 4 s_)))] [(.ref b3), (.ref b44), (.int (own_b1 p3)), (.int (Int32.ofNat (own_blk (own_v4 (0 : Int32) (0 : Int32) (own_p2 p0) (own_p3 p1)) (own_v4 (0 : Int32) (own_r1 p0) (own_r2 p0 p1) (own_r3 p0 p1 p2)) (p4 &&& (15 : Int32)) 4 s_))), (.int (3 : Int32))])) _
        refine XS.iload X466.here hx rfl (hb hby at_336) rfl ?_
        show Steps p.tables e below (T466.setTop (mkF m 338 #[.val (.int p0), .val (.int p1), .val (.int p2), .val (.int p3), .val (.int p4), .val (.int (own_p2 p0)), .val (.int (own_p3 p1)), .val (.ref b3), .val (.ref b44), .val (.ref b90), .val (.ref b124), .val (.ref b190), .val (.int (1 : Int32)), .val (.int (own_b1 p3)), .val (.int (p4 &&& (15 : Int32))), .val (.ref b412), .val (.int (Int32.ofNat (own_blk (own_v4 (0 : Int32) (0 : Int32) (own_p2 p0) (own_p3 p1)) (own_v4 (0 : Int32) (own_r1 p0) (own_r2 p0 p1) (own_r3 p0 p1 p2)) (p4 &&& (15 : Int32)) 4 s_)))] [(.int (p4 &&& (15 : Int32))), (.ref b3), (.ref b44), (.int (own_b1 p3)), (.int (Int32.ofNat (own_blk (own_v4 (0 : Int32) (0 : Int32) (own_p2 p0) (own_p3 p1)) (own_v4 (0 : Int32) (own_r1 p0) (own_r2 p0 p1) (own_r3 p0 p1 p2)) (p4 &&& (15 : Int32)) 4 s_))), (.int (3 : Int32))])) _
        refine st471 _ ?_
        show Steps p.tables e below (T471.setTop (mkF m 341 #[.val (.int p0), .val (.int p1), .val (.int p2), .val (.int p3), .val (.int p4), .val (.int (own_p2 p0)), .val (.int (own_p3 p1)), .val (.ref b3), .val (.ref b44), .val (.ref b90), .val (.ref b124), .val (.ref b190), .val (.int (1 : Int32)), .val (.int (own_b1 p3)), .val (.int (p4 &&& (15 : Int32))), .val (.ref b412), .val (.int (Int32.ofNat (own_blk (own_v4 (0 : Int32) (0 : Int32) (own_p2 p0) (own_p3 p1)) (own_v4 (0 : Int32) (own_r1 p0) (own_r2 p0 p1) (own_r3 p0 p1 p2)) (p4 &&& (15 : Int32)) 4 s_)))] [(.int (1 : Int32))])) _
        refine XS.ifNo X471.here hx rfl (hb hby at_341) rfl ((if0 _ _).trans (feq (by decide : ¬ ((1 : Int32) = (0 : Int32)))).1) ?_
        show Steps p.tables e below (T471.setTop (mkF m 344 #[.val (.int p0), .val (.int p1), .val (.int p2), .val (.int p3), .val (.int p4), .val (.int (own_p2 p0)), .val (.int (own_p3 p1)), .val (.ref b3), .val (.ref b44), .val (.ref b90), .val (.ref b124), .val (.ref b190), .val (.int (1 : Int32)), .val (.int (own_b1 p3)), .val (.int (p4 &&& (15 : Int32))), .val (.ref b412), .val (.int (Int32.ofNat (own_blk (own_v4 (0 : Int32) (0 : Int32) (own_p2 p0) (own_p3 p1)) (own_v4 (0 : Int32) (own_r1 p0) (own_r2 p0 p1) (own_r3 p0 p1 p2)) (p4 &&& (15 : Int32)) 4 s_)))] [])) _
        refine XS.iconst X471.here hx rfl (hb hby at_344) ?_
        show Steps p.tables e below (T471.setTop (mkF m 345 #[.val (.int p0), .val (.int p1), .val (.int p2), .val (.int p3), .val (.int p4), .val (.int (own_p2 p0)), .val (.int (own_p3 p1)), .val (.ref b3), .val (.ref b44), .val (.ref b90), .val (.ref b124), .val (.ref b190), .val (.int (1 : Int32)), .val (.int (own_b1 p3)), .val (.int (p4 &&& (15 : Int32))), .val (.ref b412), .val (.int (Int32.ofNat (own_blk (own_v4 (0 : Int32) (0 : Int32) (own_p2 p0) (own_p3 p1)) (own_v4 (0 : Int32) (own_r1 p0) (own_r2 p0 p1) (own_r3 p0 p1 p2)) (p4 &&& (15 : Int32)) 4 s_)))] [(.int (1 : Int32))])) _
        refine XS.goto X471.here hx rfl (pc0 := 345) (pc' := 349) rfl (hb hby at_345) (by decide) (by decide) ?_
        exact kt
      obtain ⟨fs, hr, hrun, hended, hW, hsame⟩ := X471.leave (v := some (.int (1 : Int32))) (fun h => by rw [Bd.returns] at h; cases h)
      refine ⟨_, _, pre474 _ ?_, hrun, hended, _, _, rfl, ?_, ⟨_, rfl⟩, hW, hsame.mono (by decide) (by decide)⟩
      · show Steps p.tables e below (T471.setTop (mkF m 349 #[.val (.int p0), .val (.int p1), .val (.int p2), .val (.int p3), .val (.int p4), .val (.int (own_p2 p0)), .val (.int (own_p3 p1)), .val (.ref b3), .val (.ref b44), .val (.ref b90), .val (.ref b124), .val (.ref b190), .val (.int (1 : Int32)), .val (.int (own_b1 p3)), .val (.int (p4 &&& (15 : Int32))), .val (.ref b412), .val (.int (Int32.ofNat (own_blk (own_v4 (0 : Int32) (0 : Int32) (own_p2 p0) (own_p3 p1)) (own_v4 (0 : Int32) (own_r1 p0) (own_r2 p0 p1) (own_r3 p0 p1 p2)) (p4 &&& (15 : Int32)) 4 s_)))] [(.int (1 : Int32))])) _
        exact retN X471 hx (t := .boolean) Bd.returns (by simp) (hb hby at_349) hr
      · show own_Q_law Z p0 p1 p2 p3 p4 h0 n0 (some (.int (1 : Int32))) T471.heap _
        rw [eq472]
        exact ⟨rfl, nf473⟩
    · obtain ⟨T475, h475, X475, e475, E475, A475, D475, -, st475⟩ := newO X256 hx hZ hown (hw _ (List.mem_of_getElem? (i := 1) rfl)) (hw _ (List.mem_of_getElem? (i := 2) rfl)) (hw _ (List.mem_of_getElem? (i := 3) rfl)) e256 (g := (mkF m 211 #[.val (.int p0), .val (.int p1), .val (.int p2), .val (.int p3), .val (.int p4), .val (.int (own_p2 p0)), .val (.int (own_p3 p1)), .val (.ref b3), .val (.ref b44), .val (.ref b90), .val (.ref b124), .val (.ref b190), .val (.int (1 : Int32)), .val (.int (own_b1 p3)), .val (.int (p4 &&& (2147483647 : Int32))), .unset, .unset] [])) rfl (hb hby at_211) (by decide) (by decide)
      obtain ⟨b475, g475⟩ : ∃ z, z = h256.size := ⟨_, rfl⟩
      rw [← g475] at A475 D475 st475
      have sz_b475 : h0.size ≤ b475 := Nat.le_trans k267.1 (Nat.le_of_eq g475.symm)
      have gn_b475 : n0 ≤ b475 := Nat.le_trans Z0 sz_b475
      have ne_b3_b475 : b3 ≠ b475 := Nat.ne_of_lt (Nat.lt_of_lt_of_le f258.lt (Nat.le_of_eq g475.symm))
      have ne_b44_b475 : b44 ≠ b475 := Nat.ne_of_lt (Nat.lt_of_lt_of_le f260.lt (Nat.le_of_eq g475.symm))
      have ne_b90_b475 : b90 ≠ b475 := Nat.ne_of_lt (Nat.lt_of_lt_of_le f262.lt (Nat.le_of_eq g475.symm))
      have ne_b124_b475 : b124 ≠ b475 := Nat.ne_of_lt (Nat.lt_of_lt_of_le f264.lt (Nat.le_of_eq g475.symm))
      have ne_b190_b475 : b190 ≠ b475 := Nat.ne_of_lt (Nat.lt_of_lt_of_le f270.lt (Nat.le_of_eq g475.symm))
      have f476 := f257.ext E475
      have f477 := f258.ext E475
      have f478 := f259.ext E475
      have f479 := f260.ext E475
      have f480 := f261.ext E475
      have f481 := f262.ext E475
      have f482 := f263.ext E475
      have f483 := f264.ext E475
      have f484 := f265.ext E475
      have f485 := f270.ext E475
      have k486 := k267.ext E475
      have f487 : Fld Z h475 b475 "com/example/unfold/unfold/reduction/Splitting" "blocks" "[I" .null := D475 (Or.inr (hw _ (List.mem_of_getElem? (i := 11) rfl))) (ty := (.array .int)) (by decide)
      have f488 : Fld Z h475 b475 "com/example/unfold/unfold/reduction/Splitting" "parents" "[I" .null := D475 (Or.inr (hw _ (List.mem_of_getElem? (i := 13) rfl))) (ty := (.array .int)) (by decide)
      have f489 : Fld Z h475 b475 "com/example/unfold/unfold/reduction/Splitting" "rounds" "[I" .null := D475 (Or.inr (hw _ (List.mem_of_getElem? (i := 15) rfl))) (ty := (.array .int)) (by decide)
      have zs490 : n0 ≤ h475.size := Nat.le_trans Z0 k486.1
      obtain ⟨_, _, ⟨T491, L491, k491, n491⟩, -, X491, ⟨Lc491, hQ491, l491, y491, z491⟩, st491⟩ := X475.specialBack hx (y := (⟨"com/example/unfold/unfold/reduction/Splitting", "<init>", "([I[I[I)V"⟩ : MethodName)) rfl hown (mvT hZ (hw _ (List.mem_of_getElem? (i := 4) rfl))) (mvT hZ (hw _ (List.mem_of_getElem? (i := 5) rfl))) (mvT hZ (hw _ (List.mem_of_getElem? (i := 6) rfl))) (by decide) (backOf (W := 1) (own_rm_ctor l Z a0 hw [] b475 b90 b124 b190 h475 n0 zs490 A475 f487 f488 f489 gn_b475) hZ (hw _ (List.mem_of_getElem? (i := 6) rfl)) (hw _ (List.mem_of_getElem? (i := 3) rfl)) (by decide) (by decide)) (g := (mkF m 221 #[.val (.int p0), .val (.int p1), .val (.int p2), .val (.int p3), .val (.int p4), .val (.int (own_p2 p0)), .val (.int (own_p3 p1)), .val (.ref b3), .val (.ref b44), .val (.ref b90), .val (.ref b124), .val (.ref b190), .val (.int (1 : Int32)), .val (.int (own_b1 p3)), .val (.int (p4 &&& (2147483647 : Int32))), .unset, .unset] [(.ref b190), (.ref b124), (.ref b90), (.ref b475), (.ref b475)])) rfl (by rw [hml]; rfl) (Steps.refl _) (a := b475) (argsL := [(.ref b90), (.ref b124), (.ref b190)]) (rest := [(.ref b475)]) (lenOf own_pd1 rfl) rfl (by show 2 * 0 + _ ≤ _; exact Nat.le_of_eq rfl) (hb hby at_221) (fun _ _ => ⟨rfl, e475, (by decide : 6 + 0 ≤ _), (by decide : 21 + 0 ≤ _)⟩)
      dsimp only [Pt.U, Pt.locs, Pt.cells, Pt.slots] at X491 l491 y491 z491 st491 hQ491
      rw [l491, (y491 : k491 = 6), (z491 : n491 = 21)] at X491
      clear l491 y491 z491
      obtain ⟨rfl, N492, K492, c492_0, c492_1, c492_2⟩ := hQ491
      have f493 := f476.keep K492
      have f494 := f477.keep K492 (ninS ne_b3_b475 nin0)
      have f495 := f478.keep K492
      have f496 := f479.keep K492 (ninS ne_b44_b475 nin0)
      have f497 := f480.keep K492
      have f498 := f481.keep K492 (ninS ne_b90_b475 nin0)
      have f499 := f482.keep K492
      have f500 := f483.keep K492 (ninS ne_b124_b475 nin0)
      have f501 := f484.keep K492
      have f502 := f485.keep K492 (ninS ne_b190_b475 nin0)
      have f503 := A475.keep K492
      have k504 := k486.trans K492 (allS (Or.inr sz_b475) all0)
      have nf505 := Fr.app nf268 N492
      have pre506 : ∀ t, Steps p.tables e below (T491.setTop (mkF m 224 #[.val (.int p0), .val (.int p1), .val (.int p2), .val (.int p3), .val (.int p4), .val (.int (own_p2 p0)), .val (.int (own_p3 p1)), .val (.ref b3), .val (.ref b44), .val (.ref b90), .val (.ref b124), .val (.ref b190), .val (.int (1 : Int32)), .val (.int (own_b1 p3)), .val (.int (p4 &&& (2147483647 : Int32))), .unset, .unset] [(.ref b475)])) t → Steps p.tables e below (s₁.setTop (entryFrame m #[(.int p0), (.int p1), (.int p2), (.int p3), (.int p4)] maxLocals)) t := by
        intro t kt
        refine pre410 t ?_
        show Steps p.tables e below (T256.setTop (mkF m 193 #[.val (.int p0), .val (.int p1), .val (.int p2), .val (.int p3), .val (.int p4), .val (.int (own_p2 p0)), .val (.int (own_p3 p1)), .val (.ref b3), .val (.ref b44), .val (.ref b90), .val (.ref b124), .val (.ref b190), .val (.int (1 : Int32)), .val (.int (own_b1 p3)), .unset, .unset, .unset] [(.int (p4 &&& (16 : Int32)))])) _
        refine XS.ifNo X256.here hx rfl (hb hby at_193) rfl ((if0 _ _).trans (feq hc411).1) ?_
        show Steps p.tables e below (T256.setTop (mkF m 196 #[.val (.int p0), .val (.int p1), .val (.int p2), .val (.int p3), .val (.int p4), .val (.int (own_p2 p0)), .val (.int (own_p3 p1)), .val (.ref b3), .val (.ref b44), .val (.ref b90), .val (.ref b124), .val (.ref b190), .val (.int (1 : Int32)), .val (.int (own_b1 p3)), .unset, .unset, .unset] [])) _
        refine XS.iload X256.here hx rfl (hb hby at_196) rfl ?_
        show Steps p.tables e below (T256.setTop (mkF m 198 #[.val (.int p0), .val (.int p1), .val (.int p2), .val (.int p3), .val (.int p4), .val (.int (own_p2 p0)), .val (.int (own_p3 p1)), .val (.ref b3), .val (.ref b44), .val (.ref b90), .val (.ref b124), .val (.ref b190), .val (.int (1 : Int32)), .val (.int (own_b1 p3)), .unset, .unset, .unset] [(.int p4)])) _
        refine X256.ldcI hx hown (mvT hZ (hw _ (List.mem_of_getElem? (i := 28) rfl))) (g := (mkF m 198 #[.val (.int p0), .val (.int p1), .val (.int p2), .val (.int p3), .val (.int p4), .val (.int (own_p2 p0)), .val (.int (own_p3 p1)), .val (.ref b3), .val (.ref b44), .val (.ref b90), .val (.ref b124), .val (.ref b190), .val (.int (1 : Int32)), .val (.int (own_b1 p3)), .unset, .unset, .unset] [(.int p4)])) rfl (hb hby at_198) ?_
        show Steps p.tables e below (T256.setTop (mkF m 200 #[.val (.int p0), .val (.int p1), .val (.int p2), .val (.int p3), .val (.int p4), .val (.int (own_p2 p0)), .val (.int (own_p3 p1)), .val (.ref b3), .val (.ref b44), .val (.ref b90), .val (.ref b124), .val (.ref b190), .val (.int (1 : Int32)), .val (.int (own_b1 p3)), .unset, .unset, .unset] [(.int (2147483647 : Int32)), (.int p4)])) _
        refine XS.iand X256.here hx rfl (hb hby at_200) rfl ?_
        show Steps p.tables e below (T256.setTop (mkF m 201 #[.val (.int p0), .val (.int p1), .val (.int p2), .val (.int p3), .val (.int p4), .val (.int (own_p2 p0)), .val (.int (own_p3 p1)), .val (.ref b3), .val (.ref b44), .val (.ref b90), .val (.ref b124), .val (.ref b190), .val (.int (1 : Int32)), .val (.int (own_b1 p3)), .unset, .unset, .unset] [(.int (p4 &&& (2147483647 : Int32)))])) _
        refine XS.goto X256.here hx rfl (pc0 := 201) (pc' := 209) rfl (hb hby at_201) (by decide) (by decide) ?_
        show Steps p.tables e below (T256.setTop (mkF m 209 #[.val (.int p0), .val (.int p1), .val (.int p2), .val (.int p3), .val (.int p4), .val (.int (own_p2 p0)), .val (.int (own_p3 p1)), .val (.ref b3), .val (.ref b44), .val (.ref b90), .val (.ref b124), .val (.ref b190), .val (.int (1 : Int32)), .val (.int (own_b1 p3)), .unset, .unset, .unset] [(.int (p4 &&& (2147483647 : Int32)))])) _
        refine XS.istore X256.here hx rfl (hb hby at_209) rfl (l' := #[.val (.int p0), .val (.int p1), .val (.int p2), .val (.int p3), .val (.int p4), .val (.int (own_p2 p0)), .val (.int (own_p3 p1)), .val (.ref b3), .val (.ref b44), .val (.ref b90), .val (.ref b124), .val (.ref b190), .val (.int (1 : Int32)), .val (.int (own_b1 p3)), .val (.int (p4 &&& (2147483647 : Int32))), .unset, .unset]) rfl ?_
        show Steps p.tables e below (T256.setTop (mkF m 211 #[.val (.int p0), .val (.int p1), .val (.int p2), .val (.int p3), .val (.int p4), .val (.int (own_p2 p0)), .val (.int (own_p3 p1)), .val (.ref b3), .val (.ref b44), .val (.ref b90), .val (.ref b124), .val (.ref b190), .val (.int (1 : Int32)), .val (.int (own_b1 p3)), .val (.int (p4 &&& (2147483647 : Int32))), .unset, .unset] [])) _
        refine st475 _ ?_
        show Steps p.tables e below (T475.setTop (mkF m 214 #[.val (.int p0), .val (.int p1), .val (.int p2), .val (.int p3), .val (.int p4), .val (.int (own_p2 p0)), .val (.int (own_p3 p1)), .val (.ref b3), .val (.ref b44), .val (.ref b90), .val (.ref b124), .val (.ref b190), .val (.int (1 : Int32)), .val (.int (own_b1 p3)), .val (.int (p4 &&& (2147483647 : Int32))), .unset, .unset] [(.ref b475)])) _
        refine XS.dup X475.here hx rfl (hb hby at_214) rfl rfl ?_
        show Steps p.tables e below (T475.setTop (mkF m 215 #[.val (.int p0), .val (.int p1), .val (.int p2), .val (.int p3), .val (.int p4), .val (.int (own_p2 p0)), .val (.int (own_p3 p1)), .val (.ref b3), .val (.ref b44), .val (.ref b90), .val (.ref b124), .val (.ref b190), .val (.int (1 : Int32)), .val (.int (own_b1 p3)), .val (.int (p4 &&& (2147483647 : Int32))), .unset, .unset] [(.ref b475), (.ref b475)])) _
        refine XS.aload X475.here hx rfl (hb hby at_215) rfl rfl ?_
        show Steps p.tables e below (T475.setTop (mkF m 217 #[.val (.int p0), .val (.int p1), .val (.int p2), .val (.int p3), .val (.int p4), .val (.int (own_p2 p0)), .val (.int (own_p3 p1)), .val (.ref b3), .val (.ref b44), .val (.ref b90), .val (.ref b124), .val (.ref b190), .val (.int (1 : Int32)), .val (.int (own_b1 p3)), .val (.int (p4 &&& (2147483647 : Int32))), .unset, .unset] [(.ref b90), (.ref b475), (.ref b475)])) _
        refine XS.aload X475.here hx rfl (hb hby at_217) rfl rfl ?_
        show Steps p.tables e below (T475.setTop (mkF m 219 #[.val (.int p0), .val (.int p1), .val (.int p2), .val (.int p3), .val (.int p4), .val (.int (own_p2 p0)), .val (.int (own_p3 p1)), .val (.ref b3), .val (.ref b44), .val (.ref b90), .val (.ref b124), .val (.ref b190), .val (.int (1 : Int32)), .val (.int (own_b1 p3)), .val (.int (p4 &&& (2147483647 : Int32))), .unset, .unset] [(.ref b124), (.ref b90), (.ref b475), (.ref b475)])) _
        refine XS.aload X475.here hx rfl (hb hby at_219) rfl rfl ?_
        show Steps p.tables e below (T475.setTop (mkF m 221 #[.val (.int p0), .val (.int p1), .val (.int p2), .val (.int p3), .val (.int p4), .val (.int (own_p2 p0)), .val (.int (own_p3 p1)), .val (.ref b3), .val (.ref b44), .val (.ref b90), .val (.ref b124), .val (.ref b190), .val (.int (1 : Int32)), .val (.int (own_b1 p3)), .val (.int (p4 &&& (2147483647 : Int32))), .unset, .unset] [(.ref b190), (.ref b124), (.ref b90), (.ref b475), (.ref b475)])) _
        refine st491.trans ?_
        exact kt
      have hT := own_mktree p0 p1 p2
      have hpl := own_plain (r := (p4 &&& (2147483647 : Int32))) hT (own_rA p4) hs4
      have zs507 : n0 ≤ T491.heap.size := Nat.le_trans Z0 k504.1
      obtain ⟨cq509, kq509, q509a, q509b, q509c⟩ := isOf hZ rfl f503
      obtain ⟨_, _, ⟨T508, L508, k508, n508⟩, -, X508, ⟨Lc508, hQ508, l508, y508, z508⟩, st508⟩ := X491.virtualBack hx (y := (⟨"com/example/unfold/unfold/reduction/Splitting", "blockAfter", "(II)I"⟩ : MethodName)) (z := (⟨"com/example/unfold/unfold/reduction/Splitting", "blockAfter", "(II)I"⟩ : MethodName)) hown (mvT hZ (hw _ (List.mem_of_getElem? (i := 16) rfl))) (mvT hZ (hw _ (List.mem_of_getElem? (i := 17) rfl))) (notFace_of_selects (args := #[]) (mvT hZ (hw _ (List.mem_of_getElem? (i := 19) rfl)))) (mvT hZ (hw _ (List.mem_of_getElem? (i := 19) rfl))) (mvT hZ (hw _ (List.mem_of_getElem? (i := 18) rfl))) (by decide) (backOf (W := 0) (own_rm_blk l Z a0 hw [] b475 (1 : Int32) (p4 &&& (2147483647 : Int32)) b90 b124 b190 (own_v2 (own_b0 p3) (own_b1 p3)) (own_v4 (0 : Int32) (0 : Int32) (own_p2 p0) (own_p3 p1)) (own_v4 (0 : Int32) (own_r1 p0) (own_r2 p0 p1) (own_r3 p0 p1 p2)) s_ T491.heap n0 zs507 c492_0 c492_1 c492_2 f498 f500 f502 (by decide) (by decide) hs hs4 hT (own_rA p4)) hZ (hw _ (List.mem_of_getElem? (i := 20) rfl)) (hw _ (List.mem_of_getElem? (i := 3) rfl)) (by decide) (by decide)) q509a q509c (g := (mkF m 232 #[.val (.int p0), .val (.int p1), .val (.int p2), .val (.int p3), .val (.int p4), .val (.int (own_p2 p0)), .val (.int (own_p3 p1)), .val (.ref b3), .val (.ref b44), .val (.ref b90), .val (.ref b124), .val (.ref b190), .val (.int (1 : Int32)), .val (.int (own_b1 p3)), .val (.int (p4 &&& (2147483647 : Int32))), .val (.ref b475), .unset] [(.int (p4 &&& (2147483647 : Int32))), (.int (1 : Int32)), (.ref b475)])) rfl (by rw [hml]; rfl) (Steps.refl _) (argsL := [(.int (1 : Int32)), (.int (p4 &&& (2147483647 : Int32)))]) (rest := []) (lenOf own_pd2 rfl) rfl (by show 2 * 0 + _ ≤ _; exact Nat.le_of_eq rfl) (hb hby at_232) (fun _ _ => ⟨rfl, rfl, (by decide : 6 + 0 ≤ _), (by decide : 21 + 0 ≤ _)⟩)
      dsimp only [Pt.U, Pt.locs, Pt.cells, Pt.slots] at X508 l508 y508 z508 st508 hQ508
      rw [l508, (y508 : k508 = 6), (z508 : n508 = 21)] at X508
      clear l508 y508 z508
      obtain ⟨rfl, N510, eq510⟩ := hQ508
      have nf511 := Fr.app nf505 N510
      have pre512 : ∀ t, Steps p.tables e below (T508.setTop (mkF m 252 #[.val (.int p0), .val (.int p1), .val (.int p2), .val (.int p3), .val (.int p4), .val (.int (own_p2 p0)), .val (.int (own_p3 p1)), .val (.ref b3), .val (.ref b44), .val (.ref b90), .val (.ref b124), .val (.ref b190), .val (.int (1 : Int32)), .val (.int (own_b1 p3)), .val (.int (p4 &&& (2147483647 : Int32))), .val (.ref b475), .val (.int (Int32.ofNat (own_blk (own_v4 (0 : Int32) (0 : Int32) (own_p2 p0) (own_p3 p1)) (own_v4 (0 : Int32) (own_r1 p0) (own_r2 p0 p1) (own_r3 p0 p1 p2)) (p4 &&& (2147483647 : Int32)) 4 s_)))] [(.int (Int32.ofNat (own_blk (own_v4 (0 : Int32) (0 : Int32) (own_p2 p0) (own_p3 p1)) (own_v4 (0 : Int32) (own_r1 p0) (own_r2 p0 p1) (own_r3 p0 p1 p2)) (p4 &&& (2147483647 : Int32)) 4 s_)))])) t → Steps p.tables e below (s₁.setTop (entryFrame m #[(.int p0), (.int p1), (.int p2), (.int p3), (.int p4)] maxLocals)) t := by
        intro t kt
        refine pre506 t ?_
        show Steps p.tables e below (T491.setTop (mkF m 224 #[.val (.int p0), .val (.int p1), .val (.int p2), .val (.int p3), .val (.int p4), .val (.int (own_p2 p0)), .val (.int (own_p3 p1)), .val (.ref b3), .val (.ref b44), .val (.ref b90), .val (.ref b124), .val (.ref b190), .val (.int (1 : Int32)), .val (.int (own_b1 p3)), .val (.int (p4 &&& (2147483647 : Int32))), .unset, .unset] [(.ref b475)])) _
        refine XS.astore X491.here hx rfl (hb hby at_224) rfl rfl (l' := #[.val (.int p0), .val (.int p1), .val (.int p2), .val (.int p3), .val (.int p4), .val (.int (own_p2 p0)), .val (.int (own_p3 p1)), .val (.ref b3), .val (.ref b44), .val (.ref b90), .val (.ref b124), .val (.ref b190), .val (.int (1 : Int32)), .val (.int (own_b1 p3)), .val (.int (p4 &&& (2147483647 : Int32))), .val (.ref b475), .unset]) rfl ?_
        show Steps p.tables e below (T491.setTop (mkF m 226 #[.val (.int p0), .val (.int p1), .val (.int p2), .val (.int p3), .val (.int p4), .val (.int (own_p2 p0)), .val (.int (own_p3 p1)), .val (.ref b3), .val (.ref b44), .val (.ref b90), .val (.ref b124), .val (.ref b190), .val (.int (1 : Int32)), .val (.int (own_b1 p3)), .val (.int (p4 &&& (2147483647 : Int32))), .val (.ref b475), .unset] [])) _
        refine XS.aload X491.here hx rfl (hb hby at_226) rfl rfl ?_
        show Steps p.tables e below (T491.setTop (mkF m 228 #[.val (.int p0), .val (.int p1), .val (.int p2), .val (.int p3), .val (.int p4), .val (.int (own_p2 p0)), .val (.int (own_p3 p1)), .val (.ref b3), .val (.ref b44), .val (.ref b90), .val (.ref b124), .val (.ref b190), .val (.int (1 : Int32)), .val (.int (own_b1 p3)), .val (.int (p4 &&& (2147483647 : Int32))), .val (.ref b475), .unset] [(.ref b475)])) _
        refine XS.iload X491.here hx rfl (hb hby at_228) rfl ?_
        show Steps p.tables e below (T491.setTop (mkF m 230 #[.val (.int p0), .val (.int p1), .val (.int p2), .val (.int p3), .val (.int p4), .val (.int (own_p2 p0)), .val (.int (own_p3 p1)), .val (.ref b3), .val (.ref b44), .val (.ref b90), .val (.ref b124), .val (.ref b190), .val (.int (1 : Int32)), .val (.int (own_b1 p3)), .val (.int (p4 &&& (2147483647 : Int32))), .val (.ref b475), .unset] [(.int (1 : Int32)), (.ref b475)])) _
        refine XS.iload X491.here hx rfl (hb hby at_230) rfl ?_
        show Steps p.tables e below (T491.setTop (mkF m 232 #[.val (.int p0), .val (.int p1), .val (.int p2), .val (.int p3), .val (.int p4), .val (.int (own_p2 p0)), .val (.int (own_p3 p1)), .val (.ref b3), .val (.ref b44), .val (.ref b90), .val (.ref b124), .val (.ref b190), .val (.int (1 : Int32)), .val (.int (own_b1 p3)), .val (.int (p4 &&& (2147483647 : Int32))), .val (.ref b475), .unset] [(.int (p4 &&& (2147483647 : Int32))), (.int (1 : Int32)), (.ref b475)])) _
        refine st508.trans ?_
        show Steps p.tables e below (T508.setTop (mkF m 235 #[.val (.int p0), .val (.int p1), .val (.int p2), .val (.int p3), .val (.int p4), .val (.int (own_p2 p0)), .val (.int (own_p3 p1)), .val (.ref b3), .val (.ref b44), .val (.ref b90), .val (.ref b124), .val (.ref b190), .val (.int (1 : Int32)), .val (.int (own_b1 p3)), .val (.int (p4 &&& (2147483647 : Int32))), .val (.ref b475), .unset] [(.int (Int32.ofNat (own_blk (own_v4 (0 : Int32) (0 : Int32) (own_p2 p0) (own_p3 p1)) (own_v4 (0 : Int32) (own_r1 p0) (own_r2 p0 p1) (own_r3 p0 p1 p2)) (p4 &&& (2147483647 : Int32)) 4 s_)))])) _
        refine XS.istore X508.here hx rfl (hb hby at_235) rfl (l' := #[.val (.int p0), .val (.int p1), .val (.int p2), .val (.int p3), .val (.int p4), .val (.int (own_p2 p0)), .val (.int (own_p3 p1)), .val (.ref b3), .val (.ref b44), .val (.ref b90), .val (.ref b124), .val (.ref b190), .val (.int (1 : Int32)), .val (.int (own_b1 p3)), .val (.int (p4 &&& (2147483647 : Int32))), .val (.ref b475), .val (.int (Int32.ofNat (own_blk (own_v4 (0 : Int32) (0 : Int32) (own_p2 p0) (own_p3 p1)) (own_v4 (0 : Int32) (own_r1 p0) (own_r2 p0 p1) (own_r3 p0 p1 p2)) (p4 &&& (2147483647 : Int32)) 4 s_)))]) rfl ?_
        show Steps p.tables e below (T508.setTop (mkF m 237 #[.val (.int p0), .val (.int p1), .val (.int p2), .val (.int p3), .val (.int p4), .val (.int (own_p2 p0)), .val (.int (own_p3 p1)), .val (.ref b3), .val (.ref b44), .val (.ref b90), .val (.ref b124), .val (.ref b190), .val (.int (1 : Int32)), .val (.int (own_b1 p3)), .val (.int (p4 &&& (2147483647 : Int32))), .val (.ref b475), .val (.int (Int32.ofNat (own_blk (own_v4 (0 : Int32) (0 : Int32) (own_p2 p0) (own_p3 p1)) (own_v4 (0 : Int32) (own_r1 p0) (own_r2 p0 p1) (own_r3 p0 p1 p2)) (p4 &&& (2147483647 : Int32)) 4 s_)))] [])) _
        refine XS.iload X508.here hx rfl (hb hby at_237) rfl ?_
        show Steps p.tables e below (T508.setTop (mkF m 239 #[.val (.int p0), .val (.int p1), .val (.int p2), .val (.int p3), .val (.int p4), .val (.int (own_p2 p0)), .val (.int (own_p3 p1)), .val (.ref b3), .val (.ref b44), .val (.ref b90), .val (.ref b124), .val (.ref b190), .val (.int (1 : Int32)), .val (.int (own_b1 p3)), .val (.int (p4 &&& (2147483647 : Int32))), .val (.ref b475), .val (.int (Int32.ofNat (own_blk (own_v4 (0 : Int32) (0 : Int32) (own_p2 p0) (own_p3 p1)) (own_v4 (0 : Int32) (own_r1 p0) (own_r2 p0 p1) (own_r3 p0 p1 p2)) (p4 &&& (2147483647 : Int32)) 4 s_)))] [(.int (Int32.ofNat (own_blk (own_v4 (0 : Int32) (0 : Int32) (own_p2 p0) (own_p3 p1)) (own_v4 (0 : Int32) (own_r1 p0) (own_r2 p0 p1) (own_r3 p0 p1 p2)) (p4 &&& (2147483647 : Int32)) 4 s_)))])) _
        refine XS.ifNo X508.here hx rfl (hb hby at_239) rfl ((if0 _ _).trans (flt (own_of0 (by have := hpl.1; omega))).1) ?_
        show Steps p.tables e below (T508.setTop (mkF m 242 #[.val (.int p0), .val (.int p1), .val (.int p2), .val (.int p3), .val (.int p4), .val (.int (own_p2 p0)), .val (.int (own_p3 p1)), .val (.ref b3), .val (.ref b44), .val (.ref b90), .val (.ref b124), .val (.ref b190), .val (.int (1 : Int32)), .val (.int (own_b1 p3)), .val (.int (p4 &&& (2147483647 : Int32))), .val (.ref b475), .val (.int (Int32.ofNat (own_blk (own_v4 (0 : Int32) (0 : Int32) (own_p2 p0) (own_p3 p1)) (own_v4 (0 : Int32) (own_r1 p0) (own_r2 p0 p1) (own_r3 p0 p1 p2)) (p4 &&& (2147483647 : Int32)) 4 s_)))] [])) _
        refine XS.iload X508.here hx rfl (hb hby at_242) rfl ?_
        show Steps p.tables e below (T508.setTop (mkF m 244 #[.val (.int p0), .val (.int p1), .val (.int p2), .val (.int p3), .val (.int p4), .val (.int (own_p2 p0)), .val (.int (own_p3 p1)), .val (.ref b3), .val (.ref b44), .val (.ref b90), .val (.ref b124), .val (.ref b190), .val (.int (1 : Int32)), .val (.int (own_b1 p3)), .val (.int (p4 &&& (2147483647 : Int32))), .val (.ref b475), .val (.int (Int32.ofNat (own_blk (own_v4 (0 : Int32) (0 : Int32) (own_p2 p0) (own_p3 p1)) (own_v4 (0 : Int32) (own_r1 p0) (own_r2 p0 p1) (own_r3 p0 p1 p2)) (p4 &&& (2147483647 : Int32)) 4 s_)))] [(.int (Int32.ofNat (own_blk (own_v4 (0 : Int32) (0 : Int32) (own_p2 p0) (own_p3 p1)) (own_v4 (0 : Int32) (own_r1 p0) (own_r2 p0 p1) (own_r3 p0 p1 p2)) (p4 &&& (2147483647 : Int32)) 4 s_)))])) _
        refine XS.iconst X508.here hx rfl (hb hby at_244) ?_
        show Steps p.tables e below (T508.setTop (mkF m 245 #[.val (.int p0), .val (.int p1), .val (.int p2), .val (.int p3), .val (.int p4), .val (.int (own_p2 p0)), .val (.int (own_p3 p1)), .val (.ref b3), .val (.ref b44), .val (.ref b90), .val (.ref b124), .val (.ref b190), .val (.int (1 : Int32)), .val (.int (own_b1 p3)), .val (.int (p4 &&& (2147483647 : Int32))), .val (.ref b475), .val (.int (Int32.ofNat (own_blk (own_v4 (0 : Int32) (0 : Int32) (own_p2 p0) (own_p3 p1)) (own_v4 (0 : Int32) (own_r1 p0) (own_r2 p0 p1) (own_r3 p0 p1 p2)) (p4 &&& (2147483647 : Int32)) 4 s_)))] [(.int (3 : Int32)), (.int (Int32.ofNat (own_blk (own_v4 (0 : Int32) (0 : Int32) (own_p2 p0) (own_p3 p1)) (own_v4 (0 : Int32) (own_r1 p0) (own_r2 p0 p1) (own_r3 p0 p1 p2)) (p4 &&& (2147483647 : Int32)) 4 s_)))])) _
        refine XS.icmpYes X508.here hx rfl (pc0 := 245) (pc' := 250) rfl (hb hby at_245) rfl (flt (own_le3 hpl.1)).2.2.2 (by decide) (by decide) ?_
        show Steps p.tables e below (T508.setTop (mkF m 250 #[.val (.int p0), .val (.int p1), .val (.int p2), .val (.int p3), .val (.int p4), .val (.int (own_p2 p0)), .val (.int (own_p3 p1)), .val (.ref b3), .val (.ref b44), .val (.ref b90), .val (.ref b124), .val (.ref b190), .val (.int (1 : Int32)), .val (.int (own_b1 p3)), .val (.int (p4 &&& (2147483647 : Int32))), .val (.ref b475), .val (.int (Int32.ofNat (own_blk (own_v4 (0 : Int32) (0 : Int32) (own_p2 p0) (own_p3 p1)) (own_v4 (0 : Int32) (own_r1 p0) (own_r2 p0 p1) (own_r3 p0 p1 p2)) (p4 &&& (2147483647 : Int32)) 4 s_)))] [])) _
        refine XS.iload X508.here hx rfl (hb hby at_250) rfl ?_
        exact kt
      have zs513 : n0 ≤ T491.heap.size := Nat.le_trans Z0 k504.1
      obtain ⟨_, _, ⟨T514, L514, k514, n514⟩, -, X514, ⟨Lc514, hQ514, l514, y514, z514⟩, st514⟩ := Jvm.LawKit.callS X508 hx (y := (⟨"com/example/unfold/unfold/reduction/SplittingBlockAfterPinLaw", "anc", "(II[I)Z"⟩ : MethodName)) hown (mvT hZ (hw _ (List.mem_of_getElem? (i := 21) rfl))) (mvT hZ (hw _ (List.mem_of_getElem? (i := 22) rfl))) (mvT hZ (hw _ (List.mem_of_getElem? (i := 23) rfl))) (mvT hZ (hw _ (List.mem_of_getElem? (i := 24) rfl))) (by decide) (backOf (W := 0) (own_rm_anc l Z a0 hw [] (Int32.ofNat (own_blk (own_v4 (0 : Int32) (0 : Int32) (own_p2 p0) (own_p3 p1)) (own_v4 (0 : Int32) (own_r1 p0) (own_r2 p0 p1) (own_r3 p0 p1 p2)) (p4 &&& (2147483647 : Int32)) 4 s_)) (own_b1 p3) b44 s_ (own_v4 (0 : Int32) (0 : Int32) (own_p2 p0) (own_p3 p1)) (own_v4 (0 : Int32) (own_r1 p0) (own_r2 p0 p1) (own_r3 p0 p1 p2)) T491.heap n0 zs513 f496 hs hs4 hT) hZ (hw _ (List.mem_of_getElem? (i := 24) rfl)) (hw _ (List.mem_of_getElem? (i := 23) rfl)) (by decide) (by decide)) (g := (mkF m 256 #[.val (.int p0), .val (.int p1), .val (.int p2), .val (.int p3), .val (.int p4), .val (.int (own_p2 p0)), .val (.int (own_p3 p1)), .val (.ref b3), .val (.ref b44), .val (.ref b90), .val (.ref b124), .val (.ref b190), .val (.int (1 : Int32)), .val (.int (own_b1 p3)), .val (.int (p4 &&& (2147483647 : Int32))), .val (.ref b475), .val (.int (Int32.ofNat (own_blk (own_v4 (0 : Int32) (0 : Int32) (own_p2 p0) (own_p3 p1)) (own_v4 (0 : Int32) (own_r1 p0) (own_r2 p0 p1) (own_r3 p0 p1 p2)) (p4 &&& (2147483647 : Int32)) 4 s_)))] [(.ref b44), (.int (own_b1 p3)), (.int (Int32.ofNat (own_blk (own_v4 (0 : Int32) (0 : Int32) (own_p2 p0) (own_p3 p1)) (own_v4 (0 : Int32) (own_r1 p0) (own_r2 p0 p1) (own_r3 p0 p1 p2)) (p4 &&& (2147483647 : Int32)) 4 s_)))])) rfl (by rw [hml]; rfl) (argsL := [(.int (Int32.ofNat (own_blk (own_v4 (0 : Int32) (0 : Int32) (own_p2 p0) (own_p3 p1)) (own_v4 (0 : Int32) (own_r1 p0) (own_r2 p0 p1) (own_r3 p0 p1 p2)) (p4 &&& (2147483647 : Int32)) 4 s_))), (.int (own_b1 p3)), (.ref b44)]) (rest := []) (lenOf own_pd0 rfl) rfl (by show 2 * 0 + _ ≤ _; exact Nat.le_of_eq rfl) (hb hby at_256) (fun _ _ => ⟨rfl, eq510, (by decide : 6 + 0 ≤ _), (by decide : 21 + 0 ≤ _)⟩)
      dsimp only [Pt.U, Pt.locs, Pt.cells, Pt.slots] at X514 l514 y514 z514 st514 hQ514
      rw [l514, (y514 : k514 = 6), (z514 : n514 = 21)] at X514
      clear l514 y514 z514
      obtain ⟨rfl, N515, eq515⟩ := hQ514
      have nf516 := Fr.app nf511 N515
      obtain ⟨cl517, Ar517, S517, H517⟩ := id f494
      have hin517 : ¬ ((Int32.ofNat (own_blk (own_v4 (0 : Int32) (0 : Int32) (own_p2 p0) (own_p3 p1)) (own_v4 (0 : Int32) (own_r1 p0) (own_r2 p0 p1) (own_r3 p0 p1 p2)) (p4 &&& (2147483647 : Int32)) 4 s_)) < 0 ∨ cl517.slots.size ≤ ((Int32.ofNat (own_blk (own_v4 (0 : Int32) (0 : Int32) (own_p2 p0) (own_p3 p1)) (own_v4 (0 : Int32) (own_r1 p0) (own_r2 p0 p1) (own_r3 p0 p1 p2)) (p4 &&& (2147483647 : Int32)) 4 s_))).toNatClampNeg) := own_inb S517 (own_of0 (by have := hpl.1; omega)) (by rw [own_ofN (by have := hpl.1; omega)]; exact hpl.1)
      have hat517 : cl517.slots[((Int32.ofNat (own_blk (own_v4 (0 : Int32) (0 : Int32) (own_p2 p0) (own_p3 p1)) (own_v4 (0 : Int32) (own_r1 p0) (own_r2 p0 p1) (own_r3 p0 p1 p2)) (p4 &&& (2147483647 : Int32)) 4 s_))).toNatClampNeg]? = some (.int ((own_v4 (0 : Int32) (own_r1 p0) (own_r2 p0 p1) (own_r3 p0 p1 p2)) (own_blk (own_v4 (0 : Int32) (0 : Int32) (own_p2 p0) (own_p3 p1)) (own_v4 (0 : Int32) (own_r1 p0) (own_r2 p0 p1) (own_r3 p0 p1 p2)) (p4 &&& (2147483647 : Int32)) 4 s_))) := (by rw [own_ofN (by have := hpl.1; omega)]; exact H517 _ hpl.1)
      have pre518 : ∀ t, Steps p.tables e below (T514.setTop (mkF m 281 #[.val (.int p0), .val (.int p1), .val (.int p2), .val (.int p3), .val (.int p4), .val (.int (own_p2 p0)), .val (.int (own_p3 p1)), .val (.ref b3), .val (.ref b44), .val (.ref b90), .val (.ref b124), .val (.ref b190), .val (.int (1 : Int32)), .val (.int (own_b1 p3)), .val (.int (p4 &&& (2147483647 : Int32))), .val (.ref b475), .val (.int (Int32.ofNat (own_blk (own_v4 (0 : Int32) (0 : Int32) (own_p2 p0) (own_p3 p1)) (own_v4 (0 : Int32) (own_r1 p0) (own_r2 p0 p1) (own_r3 p0 p1 p2)) (p4 &&& (2147483647 : Int32)) 4 s_)))] [(.int (own_b1 p3)), (.int (Int32.ofNat (own_blk (own_v4 (0 : Int32) (0 : Int32) (own_p2 p0) (own_p3 p1)) (own_v4 (0 : Int32) (own_r1 p0) (own_r2 p0 p1) (own_r3 p0 p1 p2)) (p4 &&& (2147483647 : Int32)) 4 s_))), (.int (0 : Int32))])) t → Steps p.tables e below (s₁.setTop (entryFrame m #[(.int p0), (.int p1), (.int p2), (.int p3), (.int p4)] maxLocals)) t := by
        intro t kt
        refine pre512 t ?_
        show Steps p.tables e below (T508.setTop (mkF m 252 #[.val (.int p0), .val (.int p1), .val (.int p2), .val (.int p3), .val (.int p4), .val (.int (own_p2 p0)), .val (.int (own_p3 p1)), .val (.ref b3), .val (.ref b44), .val (.ref b90), .val (.ref b124), .val (.ref b190), .val (.int (1 : Int32)), .val (.int (own_b1 p3)), .val (.int (p4 &&& (2147483647 : Int32))), .val (.ref b475), .val (.int (Int32.ofNat (own_blk (own_v4 (0 : Int32) (0 : Int32) (own_p2 p0) (own_p3 p1)) (own_v4 (0 : Int32) (own_r1 p0) (own_r2 p0 p1) (own_r3 p0 p1 p2)) (p4 &&& (2147483647 : Int32)) 4 s_)))] [(.int (Int32.ofNat (own_blk (own_v4 (0 : Int32) (0 : Int32) (own_p2 p0) (own_p3 p1)) (own_v4 (0 : Int32) (own_r1 p0) (own_r2 p0 p1) (own_r3 p0 p1 p2)) (p4 &&& (2147483647 : Int32)) 4 s_)))])) _
        refine XS.iload X508.here hx rfl (hb hby at_252) rfl ?_
        show Steps p.tables e below (T508.setTop (mkF m 254 #[.val (.int p0), .val (.int p1), .val (.int p2), .val (.int p3), .val (.int p4), .val (.int (own_p2 p0)), .val (.int (own_p3 p1)), .val (.ref b3), .val (.ref b44), .val (.ref b90), .val (.ref b124), .val (.ref b190), .val (.int (1 : Int32)), .val (.int (own_b1 p3)), .val (.int (p4 &&& (2147483647 : Int32))), .val (.ref b475), .val (.int (Int32.ofNat (own_blk (own_v4 (0 : Int32) (0 : Int32) (own_p2 p0) (own_p3 p1)) (own_v4 (0 : Int32) (own_r1 p0) (own_r2 p0 p1) (own_r3 p0 p1 p2)) (p4 &&& (2147483647 : Int32)) 4 s_)))] [(.int (own_b1 p3)), (.int (Int32.ofNat (own_blk (own_v4 (0 : Int32) (0 : Int32) (own_p2 p0) (own_p3 p1)) (own_v4 (0 : Int32) (own_r1 p0) (own_r2 p0 p1) (own_r3 p0 p1 p2)) (p4 &&& (2147483647 : Int32)) 4 s_)))])) _
        refine XS.aload X508.here hx rfl (hb hby at_254) rfl rfl ?_
        show Steps p.tables e below (T508.setTop (mkF m 256 #[.val (.int p0), .val (.int p1), .val (.int p2), .val (.int p3), .val (.int p4), .val (.int (own_p2 p0)), .val (.int (own_p3 p1)), .val (.ref b3), .val (.ref b44), .val (.ref b90), .val (.ref b124), .val (.ref b190), .val (.int (1 : Int32)), .val (.int (own_b1 p3)), .val (.int (p4 &&& (2147483647 : Int32))), .val (.ref b475), .val (.int (Int32.ofNat (own_blk (own_v4 (0 : Int32) (0 : Int32) (own_p2 p0) (own_p3 p1)) (own_v4 (0 : Int32) (own_r1 p0) (own_r2 p0 p1) (own_r3 p0 p1 p2)) (p4 &&& (2147483647 : Int32)) 4 s_)))] [(.ref b44), (.int (own_b1 p3)), (.int (Int32.ofNat (own_blk (own_v4 (0 : Int32) (0 : Int32) (own_p2 p0) (own_p3 p1)) (own_v4 (0 : Int32) (own_r1 p0) (own_r2 p0 p1) (own_r3 p0 p1 p2)) (p4 &&& (2147483647 : Int32)) 4 s_)))])) _
        refine st514 _ ?_
        show Steps p.tables e below (T514.setTop (mkF m 259 #[.val (.int p0), .val (.int p1), .val (.int p2), .val (.int p3), .val (.int p4), .val (.int (own_p2 p0)), .val (.int (own_p3 p1)), .val (.ref b3), .val (.ref b44), .val (.ref b90), .val (.ref b124), .val (.ref b190), .val (.int (1 : Int32)), .val (.int (own_b1 p3)), .val (.int (p4 &&& (2147483647 : Int32))), .val (.ref b475), .val (.int (Int32.ofNat (own_blk (own_v4 (0 : Int32) (0 : Int32) (own_p2 p0) (own_p3 p1)) (own_v4 (0 : Int32) (own_r1 p0) (own_r2 p0 p1) (own_r3 p0 p1 p2)) (p4 &&& (2147483647 : Int32)) 4 s_)))] [(.int (own_anc (own_v4 (0 : Int32) (0 : Int32) (own_p2 p0) (own_p3 p1)) (Int32.ofNat (own_blk (own_v4 (0 : Int32) (0 : Int32) (own_p2 p0) (own_p3 p1)) (own_v4 (0 : Int32) (own_r1 p0) (own_r2 p0 p1) (own_r3 p0 p1 p2)) (p4 &&& (2147483647 : Int32)) 4 s_)) s_))])) _
        refine XS.ifYes X514.here hx rfl (pc0 := 259) (pc' := 264) rfl (hb hby at_259) rfl ((if0 _ _).trans (feq (by rw [hpl.2.1]; decide)).2) (by decide) (by decide) ?_
        show Steps p.tables e below (T514.setTop (mkF m 264 #[.val (.int p0), .val (.int p1), .val (.int p2), .val (.int p3), .val (.int p4), .val (.int (own_p2 p0)), .val (.int (own_p3 p1)), .val (.ref b3), .val (.ref b44), .val (.ref b90), .val (.ref b124), .val (.ref b190), .val (.int (1 : Int32)), .val (.int (own_b1 p3)), .val (.int (p4 &&& (2147483647 : Int32))), .val (.ref b475), .val (.int (Int32.ofNat (own_blk (own_v4 (0 : Int32) (0 : Int32) (own_p2 p0) (own_p3 p1)) (own_v4 (0 : Int32) (own_r1 p0) (own_r2 p0 p1) (own_r3 p0 p1 p2)) (p4 &&& (2147483647 : Int32)) 4 s_)))] [])) _
        refine XS.aload X514.here hx rfl (hb hby at_264) rfl rfl ?_
        show Steps p.tables e below (T514.setTop (mkF m 266 #[.val (.int p0), .val (.int p1), .val (.int p2), .val (.int p3), .val (.int p4), .val (.int (own_p2 p0)), .val (.int (own_p3 p1)), .val (.ref b3), .val (.ref b44), .val (.ref b90), .val (.ref b124), .val (.ref b190), .val (.int (1 : Int32)), .val (.int (own_b1 p3)), .val (.int (p4 &&& (2147483647 : Int32))), .val (.ref b475), .val (.int (Int32.ofNat (own_blk (own_v4 (0 : Int32) (0 : Int32) (own_p2 p0) (own_p3 p1)) (own_v4 (0 : Int32) (own_r1 p0) (own_r2 p0 p1) (own_r3 p0 p1 p2)) (p4 &&& (2147483647 : Int32)) 4 s_)))] [(.ref b3)])) _
        refine XS.iload X514.here hx rfl (hb hby at_266) rfl ?_
        show Steps p.tables e below (T514.setTop (mkF m 268 #[.val (.int p0), .val (.int p1), .val (.int p2), .val (.int p3), .val (.int p4), .val (.int (own_p2 p0)), .val (.int (own_p3 p1)), .val (.ref b3), .val (.ref b44), .val (.ref b90), .val (.ref b124), .val (.ref b190), .val (.int (1 : Int32)), .val (.int (own_b1 p3)), .val (.int (p4 &&& (2147483647 : Int32))), .val (.ref b475), .val (.int (Int32.ofNat (own_blk (own_v4 (0 : Int32) (0 : Int32) (own_p2 p0) (own_p3 p1)) (own_v4 (0 : Int32) (own_r1 p0) (own_r2 p0 p1) (own_r3 p0 p1 p2)) (p4 &&& (2147483647 : Int32)) 4 s_)))] [(.int (Int32.ofNat (own_blk (own_v4 (0 : Int32) (0 : Int32) (own_p2 p0) (own_p3 p1)) (own_v4 (0 : Int32) (own_r1 p0) (own_r2 p0 p1) (own_r3 p0 p1 p2)) (p4 &&& (2147483647 : Int32)) 4 s_))), (.ref b3)])) _
        refine X514.iaload hx (j := (Int32.ofNat (own_blk (own_v4 (0 : Int32) (0 : Int32) (own_p2 p0) (own_p3 p1)) (own_v4 (0 : Int32) (own_r1 p0) (own_r2 p0 p1) (own_r3 p0 p1 p2)) (p4 &&& (2147483647 : Int32)) 4 s_))) (v := (.int ((own_v4 (0 : Int32) (own_r1 p0) (own_r2 p0 p1) (own_r3 p0 p1 p2)) (own_blk (own_v4 (0 : Int32) (0 : Int32) (own_p2 p0) (own_p3 p1)) (own_v4 (0 : Int32) (own_r1 p0) (own_r2 p0 p1) (own_r3 p0 p1 p2)) (p4 &&& (2147483647 : Int32)) 4 s_)))) (by rw [eq515]; exact Ar517.1) (State.isArrayOf_alike hZ.alike Ar517.2.1) Ar517.2.2 hin517 hat517 (g := (mkF m 268 #[.val (.int p0), .val (.int p1), .val (.int p2), .val (.int p3), .val (.int p4), .val (.int (own_p2 p0)), .val (.int (own_p3 p1)), .val (.ref b3), .val (.ref b44), .val (.ref b90), .val (.ref b124), .val (.ref b190), .val (.int (1 : Int32)), .val (.int (own_b1 p3)), .val (.int (p4 &&& (2147483647 : Int32))), .val (.ref b475), .val (.int (Int32.ofNat (own_blk (own_v4 (0 : Int32) (0 : Int32) (own_p2 p0) (own_p3 p1)) (own_v4 (0 : Int32) (own_r1 p0) (own_r2 p0 p1) (own_r3 p0 p1 p2)) (p4 &&& (2147483647 : Int32)) 4 s_)))] [(.int (Int32.ofNat (own_blk (own_v4 (0 : Int32) (0 : Int32) (own_p2 p0) (own_p3 p1)) (own_v4 (0 : Int32) (own_r1 p0) (own_r2 p0 p1) (own_r3 p0 p1 p2)) (p4 &&& (2147483647 : Int32)) 4 s_))), (.ref b3)])) rfl rfl (hb hby at_268) _ ?_
        show Steps p.tables e below (T514.setTop (mkF m 269 #[.val (.int p0), .val (.int p1), .val (.int p2), .val (.int p3), .val (.int p4), .val (.int (own_p2 p0)), .val (.int (own_p3 p1)), .val (.ref b3), .val (.ref b44), .val (.ref b90), .val (.ref b124), .val (.ref b190), .val (.int (1 : Int32)), .val (.int (own_b1 p3)), .val (.int (p4 &&& (2147483647 : Int32))), .val (.ref b475), .val (.int (Int32.ofNat (own_blk (own_v4 (0 : Int32) (0 : Int32) (own_p2 p0) (own_p3 p1)) (own_v4 (0 : Int32) (own_r1 p0) (own_r2 p0 p1) (own_r3 p0 p1 p2)) (p4 &&& (2147483647 : Int32)) 4 s_)))] [(.int ((own_v4 (0 : Int32) (own_r1 p0) (own_r2 p0 p1) (own_r3 p0 p1 p2)) (own_blk (own_v4 (0 : Int32) (0 : Int32) (own_p2 p0) (own_p3 p1)) (own_v4 (0 : Int32) (own_r1 p0) (own_r2 p0 p1) (own_r3 p0 p1 p2)) (p4 &&& (2147483647 : Int32)) 4 s_)))])) _
        refine XS.iload X514.here hx rfl (hb hby at_269) rfl ?_
        show Steps p.tables e below (T514.setTop (mkF m 271 #[.val (.int p0), .val (.int p1), .val (.int p2), .val (.int p3), .val (.int p4), .val (.int (own_p2 p0)), .val (.int (own_p3 p1)), .val (.ref b3), .val (.ref b44), .val (.ref b90), .val (.ref b124), .val (.ref b190), .val (.int (1 : Int32)), .val (.int (own_b1 p3)), .val (.int (p4 &&& (2147483647 : Int32))), .val (.ref b475), .val (.int (Int32.ofNat (own_blk (own_v4 (0 : Int32) (0 : Int32) (own_p2 p0) (own_p3 p1)) (own_v4 (0 : Int32) (own_r1 p0) (own_r2 p0 p1) (own_r3 p0 p1 p2)) (p4 &&& (2147483647 : Int32)) 4 s_)))] [(.int (p4 &&& (2147483647 : Int32))), (.int ((own_v4 (0 : Int32) (own_r1 p0) (own_r2 p0 p1) (own_r3 p0 p1 p2)) (own_blk (own_v4 (0 : Int32) (0 : Int32) (own_p2 p0) (own_p3 p1)) (own_v4 (0 : Int32) (own_r1 p0) (own_r2 p0 p1) (own_r3 p0 p1 p2)) (p4 &&& (2147483647 : Int32)) 4 s_)))])) _
        refine XS.icmpYes X514.here hx rfl (pc0 := 271) (pc' := 276) rfl (hb hby at_271) rfl (flt hpl.2.2.1).2.2.2 (by decide) (by decide) ?_
        show Steps p.tables e below (T514.setTop (mkF m 276 #[.val (.int p0), .val (.int p1), .val (.int p2), .val (.int p3), .val (.int p4), .val (.int (own_p2 p0)), .val (.int (own_p3 p1)), .val (.ref b3), .val (.ref b44), .val (.ref b90), .val (.ref b124), .val (.ref b190), .val (.int (1 : Int32)), .val (.int (own_b1 p3)), .val (.int (p4 &&& (2147483647 : Int32))), .val (.ref b475), .val (.int (Int32.ofNat (own_blk (own_v4 (0 : Int32) (0 : Int32) (own_p2 p0) (own_p3 p1)) (own_v4 (0 : Int32) (own_r1 p0) (own_r2 p0 p1) (own_r3 p0 p1 p2)) (p4 &&& (2147483647 : Int32)) 4 s_)))] [])) _
        refine XS.iconst X514.here hx rfl (hb hby at_276) ?_
        show Steps p.tables e below (T514.setTop (mkF m 277 #[.val (.int p0), .val (.int p1), .val (.int p2), .val (.int p3), .val (.int p4), .val (.int (own_p2 p0)), .val (.int (own_p3 p1)), .val (.ref b3), .val (.ref b44), .val (.ref b90), .val (.ref b124), .val (.ref b190), .val (.int (1 : Int32)), .val (.int (own_b1 p3)), .val (.int (p4 &&& (2147483647 : Int32))), .val (.ref b475), .val (.int (Int32.ofNat (own_blk (own_v4 (0 : Int32) (0 : Int32) (own_p2 p0) (own_p3 p1)) (own_v4 (0 : Int32) (own_r1 p0) (own_r2 p0 p1) (own_r3 p0 p1 p2)) (p4 &&& (2147483647 : Int32)) 4 s_)))] [(.int (0 : Int32))])) _
        refine XS.iload X514.here hx rfl (hb hby at_277) rfl ?_
        show Steps p.tables e below (T514.setTop (mkF m 279 #[.val (.int p0), .val (.int p1), .val (.int p2), .val (.int p3), .val (.int p4), .val (.int (own_p2 p0)), .val (.int (own_p3 p1)), .val (.ref b3), .val (.ref b44), .val (.ref b90), .val (.ref b124), .val (.ref b190), .val (.int (1 : Int32)), .val (.int (own_b1 p3)), .val (.int (p4 &&& (2147483647 : Int32))), .val (.ref b475), .val (.int (Int32.ofNat (own_blk (own_v4 (0 : Int32) (0 : Int32) (own_p2 p0) (own_p3 p1)) (own_v4 (0 : Int32) (own_r1 p0) (own_r2 p0 p1) (own_r3 p0 p1 p2)) (p4 &&& (2147483647 : Int32)) 4 s_)))] [(.int (Int32.ofNat (own_blk (own_v4 (0 : Int32) (0 : Int32) (own_p2 p0) (own_p3 p1)) (own_v4 (0 : Int32) (own_r1 p0) (own_r2 p0 p1) (own_r3 p0 p1 p2)) (p4 &&& (2147483647 : Int32)) 4 s_))), (.int (0 : Int32))])) _
        refine XS.iload X514.here hx rfl (hb hby at_279) rfl ?_
        exact kt
      have zs519 : n0 ≤ T491.heap.size := Nat.le_trans Z0 k504.1
      obtain ⟨_, _, ⟨T520, L520, k520, n520⟩, -, X520, ⟨Lc520, hQ520, l520, y520, z520⟩, st520⟩ := Jvm.LawKit.callS X514 hx (y := (⟨"com/example/unfold/unfold/reduction/SplittingBlockAfterPinLaw", "ok", "(III[I[II)Z"⟩ : MethodName)) hown (mvT hZ (hw _ (List.mem_of_getElem? (i := 25) rfl))) (mvT hZ (hw _ (List.mem_of_getElem? (i := 26) rfl))) (mvT hZ (hw _ (List.mem_of_getElem? (i := 23) rfl))) (mvT hZ (hw _ (List.mem_of_getElem? (i := 27) rfl))) (by decide) (backOf (W := 0) (own_rm_ok l Z a0 hw [] (0 : Int32) (Int32.ofNat (own_blk (own_v4 (0 : Int32) (0 : Int32) (own_p2 p0) (own_p3 p1)) (own_v4 (0 : Int32) (own_r1 p0) (own_r2 p0 p1) (own_r3 p0 p1 p2)) (p4 &&& (2147483647 : Int32)) 4 s_)) (own_b1 p3) b44 b3 (p4 &&& (2147483647 : Int32)) 0 (own_blk (own_v4 (0 : Int32) (0 : Int32) (own_p2 p0) (own_p3 p1)) (own_v4 (0 : Int32) (own_r1 p0) (own_r2 p0 p1) (own_r3 p0 p1 p2)) (p4 &&& (2147483647 : Int32)) 4 s_) s_ (own_v4 (0 : Int32) (0 : Int32) (own_p2 p0) (own_p3 p1)) (own_v4 (0 : Int32) (own_r1 p0) (own_r2 p0 p1) (own_r3 p0 p1 p2)) T491.heap n0 zs519 f496 f494 rfl (by decide) rfl hpl.1 hs hs4 hT (hpl.2.2.2 0 (by decide))) hZ (hw _ (List.mem_of_getElem? (i := 27) rfl)) (hw _ (List.mem_of_getElem? (i := 23) rfl)) (by decide) (by decide)) (g := (mkF m 287 #[.val (.int p0), .val (.int p1), .val (.int p2), .val (.int p3), .val (.int p4), .val (.int (own_p2 p0)), .val (.int (own_p3 p1)), .val (.ref b3), .val (.ref b44), .val (.ref b90), .val (.ref b124), .val (.ref b190), .val (.int (1 : Int32)), .val (.int (own_b1 p3)), .val (.int (p4 &&& (2147483647 : Int32))), .val (.ref b475), .val (.int (Int32.ofNat (own_blk (own_v4 (0 : Int32) (0 : Int32) (own_p2 p0) (own_p3 p1)) (own_v4 (0 : Int32) (own_r1 p0) (own_r2 p0 p1) (own_r3 p0 p1 p2)) (p4 &&& (2147483647 : Int32)) 4 s_)))] [(.int (p4 &&& (2147483647 : Int32))), (.ref b3), (.ref b44), (.int (own_b1 p3)), (.int (Int32.ofNat (own_blk (own_v4 (0 : Int32) (0 : Int32) (own_p2 p0) (own_p3 p1)) (own_v4 (0 : Int32) (own_r1 p0) (own_r2 p0 p1) (own_r3 p0 p1 p2)) (p4 &&& (2147483647 : Int32)) 4 s_))), (.int (0 : Int32))])) rfl (by rw [hml]; rfl) (argsL := [(.int (0 : Int32)), (.int (Int32.ofNat (own_blk (own_v4 (0 : Int32) (0 : Int32) (own_p2 p0) (own_p3 p1)) (own_v4 (0 : Int32) (own_r1 p0) (own_r2 p0 p1) (own_r3 p0 p1 p2)) (p4 &&& (2147483647 : Int32)) 4 s_))), (.int (own_b1 p3)), (.ref b44), (.ref b3), (.int (p4 &&& (2147483647 : Int32)))]) (rest := []) (lenOf own_pd3 rfl) rfl (by show 2 * 0 + _ ≤ _; exact Nat.le_of_eq rfl) (hb hby at_287) (fun _ _ => ⟨rfl, eq515, (by decide : 6 + 0 ≤ _), (by decide : 21 + 0 ≤ _)⟩)
      dsimp only [Pt.U, Pt.locs, Pt.cells, Pt.slots] at X520 l520 y520 z520 st520 hQ520
      rw [l520, (y520 : k520 = 6), (z520 : n520 = 21)] at X520
      clear l520 y520 z520
      obtain ⟨rfl, N521, eq521⟩ := hQ520
      have nf522 := Fr.app nf516 N521
      have zs523 : n0 ≤ T491.heap.size := Nat.le_trans Z0 k504.1
      obtain ⟨_, _, ⟨T524, L524, k524, n524⟩, -, X524, ⟨Lc524, hQ524, l524, y524, z524⟩, st524⟩ := Jvm.LawKit.callS X520 hx (y := (⟨"com/example/unfold/unfold/reduction/SplittingBlockAfterPinLaw", "ok", "(III[I[II)Z"⟩ : MethodName)) hown (mvT hZ (hw _ (List.mem_of_getElem? (i := 25) rfl))) (mvT hZ (hw _ (List.mem_of_getElem? (i := 26) rfl))) (mvT hZ (hw _ (List.mem_of_getElem? (i := 23) rfl))) (mvT hZ (hw _ (List.mem_of_getElem? (i := 27) rfl))) (by decide) (backOf (W := 0) (own_rm_ok l Z a0 hw [] (1 : Int32) (Int32.ofNat (own_blk (own_v4 (0 : Int32) (0 : Int32) (own_p2 p0) (own_p3 p1)) (own_v4 (0 : Int32) (own_r1 p0) (own_r2 p0 p1) (own_r3 p0 p1 p2)) (p4 &&& (2147483647 : Int32)) 4 s_)) (own_b1 p3) b44 b3 (p4 &&& (2147483647 : Int32)) 1 (own_blk (own_v4 (0 : Int32) (0 : Int32) (own_p2 p0) (own_p3 p1)) (own_v4 (0 : Int32) (own_r1 p0) (own_r2 p0 p1) (own_r3 p0 p1 p2)) (p4 &&& (2147483647 : Int32)) 4 s_) s_ (own_v4 (0 : Int32) (0 : Int32) (own_p2 p0) (own_p3 p1)) (own_v4 (0 : Int32) (own_r1 p0) (own_r2 p0 p1) (own_r3 p0 p1 p2)) T491.heap n0 zs523 f496 f494 rfl (by decide) rfl hpl.1 hs hs4 hT (hpl.2.2.2 1 (by decide))) hZ (hw _ (List.mem_of_getElem? (i := 27) rfl)) (hw _ (List.mem_of_getElem? (i := 23) rfl)) (by decide) (by decide)) (g := (mkF m 304 #[.val (.int p0), .val (.int p1), .val (.int p2), .val (.int p3), .val (.int p4), .val (.int (own_p2 p0)), .val (.int (own_p3 p1)), .val (.ref b3), .val (.ref b44), .val (.ref b90), .val (.ref b124), .val (.ref b190), .val (.int (1 : Int32)), .val (.int (own_b1 p3)), .val (.int (p4 &&& (2147483647 : Int32))), .val (.ref b475), .val (.int (Int32.ofNat (own_blk (own_v4 (0 : Int32) (0 : Int32) (own_p2 p0) (own_p3 p1)) (own_v4 (0 : Int32) (own_r1 p0) (own_r2 p0 p1) (own_r3 p0 p1 p2)) (p4 &&& (2147483647 : Int32)) 4 s_)))] [(.int (p4 &&& (2147483647 : Int32))), (.ref b3), (.ref b44), (.int (own_b1 p3)), (.int (Int32.ofNat (own_blk (own_v4 (0 : Int32) (0 : Int32) (own_p2 p0) (own_p3 p1)) (own_v4 (0 : Int32) (own_r1 p0) (own_r2 p0 p1) (own_r3 p0 p1 p2)) (p4 &&& (2147483647 : Int32)) 4 s_))), (.int (1 : Int32))])) rfl (by rw [hml]; rfl) (argsL := [(.int (1 : Int32)), (.int (Int32.ofNat (own_blk (own_v4 (0 : Int32) (0 : Int32) (own_p2 p0) (own_p3 p1)) (own_v4 (0 : Int32) (own_r1 p0) (own_r2 p0 p1) (own_r3 p0 p1 p2)) (p4 &&& (2147483647 : Int32)) 4 s_))), (.int (own_b1 p3)), (.ref b44), (.ref b3), (.int (p4 &&& (2147483647 : Int32)))]) (rest := []) (lenOf own_pd3 rfl) rfl (by show 2 * 0 + _ ≤ _; exact Nat.le_of_eq rfl) (hb hby at_304) (fun _ _ => ⟨rfl, eq521, (by decide : 6 + 0 ≤ _), (by decide : 21 + 0 ≤ _)⟩)
      dsimp only [Pt.U, Pt.locs, Pt.cells, Pt.slots] at X524 l524 y524 z524 st524 hQ524
      rw [l524, (y524 : k524 = 6), (z524 : n524 = 21)] at X524
      clear l524 y524 z524
      obtain ⟨rfl, N525, eq525⟩ := hQ524
      have nf526 := Fr.app nf522 N525
      have pre527 : ∀ t, Steps p.tables e below (T524.setTop (mkF m 307 #[.val (.int p0), .val (.int p1), .val (.int p2), .val (.int p3), .val (.int p4), .val (.int (own_p2 p0)), .val (.int (own_p3 p1)), .val (.ref b3), .val (.ref b44), .val (.ref b90), .val (.ref b124), .val (.ref b190), .val (.int (1 : Int32)), .val (.int (own_b1 p3)), .val (.int (p4 &&& (2147483647 : Int32))), .val (.ref b475), .val (.int (Int32.ofNat (own_blk (own_v4 (0 : Int32) (0 : Int32) (own_p2 p0) (own_p3 p1)) (own_v4 (0 : Int32) (own_r1 p0) (own_r2 p0 p1) (own_r3 p0 p1 p2)) (p4 &&& (2147483647 : Int32)) 4 s_)))] [(.int (1 : Int32))])) t → Steps p.tables e below (s₁.setTop (entryFrame m #[(.int p0), (.int p1), (.int p2), (.int p3), (.int p4)] maxLocals)) t := by
        intro t kt
        refine pre518 t ?_
        show Steps p.tables e below (T514.setTop (mkF m 281 #[.val (.int p0), .val (.int p1), .val (.int p2), .val (.int p3), .val (.int p4), .val (.int (own_p2 p0)), .val (.int (own_p3 p1)), .val (.ref b3), .val (.ref b44), .val (.ref b90), .val (.ref b124), .val (.ref b190), .val (.int (1 : Int32)), .val (.int (own_b1 p3)), .val (.int (p4 &&& (2147483647 : Int32))), .val (.ref b475), .val (.int (Int32.ofNat (own_blk (own_v4 (0 : Int32) (0 : Int32) (own_p2 p0) (own_p3 p1)) (own_v4 (0 : Int32) (own_r1 p0) (own_r2 p0 p1) (own_r3 p0 p1 p2)) (p4 &&& (2147483647 : Int32)) 4 s_)))] [(.int (own_b1 p3)), (.int (Int32.ofNat (own_blk (own_v4 (0 : Int32) (0 : Int32) (own_p2 p0) (own_p3 p1)) (own_v4 (0 : Int32) (own_r1 p0) (own_r2 p0 p1) (own_r3 p0 p1 p2)) (p4 &&& (2147483647 : Int32)) 4 s_))), (.int (0 : Int32))])) _
        refine XS.aload X514.here hx rfl (hb hby at_281) rfl rfl ?_
        show Steps p.tables e below (T514.setTop (mkF m 283 #[.val (.int p0), .val (.int p1), .val (.int p2), .val (.int p3), .val (.int p4), .val (.int (own_p2 p0)), .val (.int (own_p3 p1)), .val (.ref b3), .val (.ref b44), .val (.ref b90), .val (.ref b124), .val (.ref b190), .val (.int (1 : Int32)), .val (.int (own_b1 p3)), .val (.int (p4 &&& (2147483647 : Int32))), .val (.ref b475), .val (.int (Int32.ofNat (own_blk (own_v4 (0 : Int32) (0 : Int32) (own_p2 p0) (own_p3 p1)) (own_v4 (0 : Int32) (own_r1 p0) (own_r2 p0 p1) (own_r3 p0 p1 p2)) (p4 &&& (2147483647 : Int32)) 4 s_)))] [(.ref b44), (.int (own_b1 p3)), (.int (Int32.ofNat (own_blk (own_v4 (0 : Int32) (0 : Int32) (own_p2 p0) (own_p3 p1)) (own_v4 (0 : Int32) (own_r1 p0) (own_r2 p0 p1) (own_r3 p0 p1 p2)) (p4 &&& (2147483647 : Int32)) 4 s_))), (.int (0 : Int32))])) _
        refine XS.aload X514.here hx rfl (hb hby at_283) rfl rfl ?_
        show Steps p.tables e below (T514.setTop (mkF m 285 #[.val (.int p0), .val (.int p1), .val (.int p2), .val (.int p3), .val (.int p4), .val (.int (own_p2 p0)), .val (.int (own_p3 p1)), .val (.ref b3), .val (.ref b44), .val (.ref b90), .val (.ref b124), .val (.ref b190), .val (.int (1 : Int32)), .val (.int (own_b1 p3)), .val (.int (p4 &&& (2147483647 : Int32))), .val (.ref b475), .val (.int (Int32.ofNat (own_blk (own_v4 (0 : Int32) (0 : Int32) (own_p2 p0) (own_p3 p1)) (own_v4 (0 : Int32) (own_r1 p0) (own_r2 p0 p1) (own_r3 p0 p1 p2)) (p4 &&& (2147483647 : Int32)) 4 s_)))] [(.ref b3), (.ref b44), (.int (own_b1 p3)), (.int (Int32.ofNat (own_blk (own_v4 (0 : Int32) (0 : Int32) (own_p2 p0) (own_p3 p1)) (own_v4 (0 : Int32) (own_r1 p0) (own_r2 p0 p1) (own_r3 p0 p1 p2)) (p4 &&& (2147483647 : Int32)) 4 s_))), (.int (0 : Int32))])) _
        refine XS.iload X514.here hx rfl (hb hby at_285) rfl ?_
        show Steps p.tables e below (T514.setTop (mkF m 287 #[.val (.int p0), .val (.int p1), .val (.int p2), .val (.int p3), .val (.int p4), .val (.int (own_p2 p0)), .val (.int (own_p3 p1)), .val (.ref b3), .val (.ref b44), .val (.ref b90), .val (.ref b124), .val (.ref b190), .val (.int (1 : Int32)), .val (.int (own_b1 p3)), .val (.int (p4 &&& (2147483647 : Int32))), .val (.ref b475), .val (.int (Int32.ofNat (own_blk (own_v4 (0 : Int32) (0 : Int32) (own_p2 p0) (own_p3 p1)) (own_v4 (0 : Int32) (own_r1 p0) (own_r2 p0 p1) (own_r3 p0 p1 p2)) (p4 &&& (2147483647 : Int32)) 4 s_)))] [(.int (p4 &&& (2147483647 : Int32))), (.ref b3), (.ref b44), (.int (own_b1 p3)), (.int (Int32.ofNat (own_blk (own_v4 (0 : Int32) (0 : Int32) (own_p2 p0) (own_p3 p1)) (own_v4 (0 : Int32) (own_r1 p0) (own_r2 p0 p1) (own_r3 p0 p1 p2)) (p4 &&& (2147483647 : Int32)) 4 s_))), (.int (0 : Int32))])) _
        refine st520 _ ?_
        show Steps p.tables e below (T520.setTop (mkF m 290 #[.val (.int p0), .val (.int p1), .val (.int p2), .val (.int p3), .val (.int p4), .val (.int (own_p2 p0)), .val (.int (own_p3 p1)), .val (.ref b3), .val (.ref b44), .val (.ref b90), .val (.ref b124), .val (.ref b190), .val (.int (1 : Int32)), .val (.int (own_b1 p3)), .val (.int (p4 &&& (2147483647 : Int32))), .val (.ref b475), .val (.int (Int32.ofNat (own_blk (own_v4 (0 : Int32) (0 : Int32) (own_p2 p0) (own_p3 p1)) (own_v4 (0 : Int32) (own_r1 p0) (own_r2 p0 p1) (own_r3 p0 p1 p2)) (p4 &&& (2147483647 : Int32)) 4 s_)))] [(.int (1 : Int32))])) _
        refine XS.ifNo X520.here hx rfl (hb hby at_290) rfl ((if0 _ _).trans (feq (by decide : ¬ ((1 : Int32) = (0 : Int32)))).1) ?_
        show Steps p.tables e below (T520.setTop (mkF m 293 #[.val (.int p0), .val (.int p1), .val (.int p2), .val (.int p3), .val (.int p4), .val (.int (own_p2 p0)), .val (.int (own_p3 p1)), .val (.ref b3), .val (.ref b44), .val (.ref b90), .val (.ref b124), .val (.ref b190), .val (.int (1 : Int32)), .val (.int (own_b1 p3)), .val (.int (p4 &&& (2147483647 : Int32))), .val (.ref b475), .val (.int (Int32.ofNat (own_blk (own_v4 (0 : Int32) (0 : Int32) (own_p2 p0) (own_p3 p1)) (own_v4 (0 : Int32) (own_r1 p0) (own_r2 p0 p1) (own_r3 p0 p1 p2)) (p4 &&& (2147483647 : Int32)) 4 s_)))] [])) _
        refine XS.iconst X520.here hx rfl (hb hby at_293) ?_
        show Steps p.tables e below (T520.setTop (mkF m 294 #[.val (.int p0), .val (.int p1), .val (.int p2), .val (.int p3), .val (.int p4), .val (.int (own_p2 p0)), .val (.int (own_p3 p1)), .val (.ref b3), .val (.ref b44), .val (.ref b90), .val (.ref b124), .val (.ref b190), .val (.int (1 : Int32)), .val (.int (own_b1 p3)), .val (.int (p4 &&& (2147483647 : Int32))), .val (.ref b475), .val (.int (Int32.ofNat (own_blk (own_v4 (0 : Int32) (0 : Int32) (own_p2 p0) (own_p3 p1)) (own_v4 (0 : Int32) (own_r1 p0) (own_r2 p0 p1) (own_r3 p0 p1 p2)) (p4 &&& (2147483647 : Int32)) 4 s_)))] [(.int (1 : Int32))])) _
        refine XS.iload X520.here hx rfl (hb hby at_294) rfl ?_
        show Steps p.tables e below (T520.setTop (mkF m 296 #[.val (.int p0), .val (.int p1), .val (.int p2), .val (.int p3), .val (.int p4), .val (.int (own_p2 p0)), .val (.int (own_p3 p1)), .val (.ref b3), .val (.ref b44), .val (.ref b90), .val (.ref b124), .val (.ref b190), .val (.int (1 : Int32)), .val (.int (own_b1 p3)), .val (.int (p4 &&& (2147483647 : Int32))), .val (.ref b475), .val (.int (Int32.ofNat (own_blk (own_v4 (0 : Int32) (0 : Int32) (own_p2 p0) (own_p3 p1)) (own_v4 (0 : Int32) (own_r1 p0) (own_r2 p0 p1) (own_r3 p0 p1 p2)) (p4 &&& (2147483647 : Int32)) 4 s_)))] [(.int (Int32.ofNat (own_blk (own_v4 (0 : Int32) (0 : Int32) (own_p2 p0) (own_p3 p1)) (own_v4 (0 : Int32) (own_r1 p0) (own_r2 p0 p1) (own_r3 p0 p1 p2)) (p4 &&& (2147483647 : Int32)) 4 s_))), (.int (1 : Int32))])) _
        refine XS.iload X520.here hx rfl (hb hby at_296) rfl ?_
        show Steps p.tables e below (T520.setTop (mkF m 298 #[.val (.int p0), .val (.int p1), .val (.int p2), .val (.int p3), .val (.int p4), .val (.int (own_p2 p0)), .val (.int (own_p3 p1)), .val (.ref b3), .val (.ref b44), .val (.ref b90), .val (.ref b124), .val (.ref b190), .val (.int (1 : Int32)), .val (.int (own_b1 p3)), .val (.int (p4 &&& (2147483647 : Int32))), .val (.ref b475), .val (.int (Int32.ofNat (own_blk (own_v4 (0 : Int32) (0 : Int32) (own_p2 p0) (own_p3 p1)) (own_v4 (0 : Int32) (own_r1 p0) (own_r2 p0 p1) (own_r3 p0 p1 p2)) (p4 &&& (2147483647 : Int32)) 4 s_)))] [(.int (own_b1 p3)), (.int (Int32.ofNat (own_blk (own_v4 (0 : Int32) (0 : Int32) (own_p2 p0) (own_p3 p1)) (own_v4 (0 : Int32) (own_r1 p0) (own_r2 p0 p1) (own_r3 p0 p1 p2)) (p4 &&& (2147483647 : Int32)) 4 s_))), (.int (1 : Int32))])) _
        refine XS.aload X520.here hx rfl (hb hby at_298) rfl rfl ?_
        show Steps p.tables e below (T520.setTop (mkF m 300 #[.val (.int p0), .val (.int p1), .val (.int p2), .val (.int p3), .val (.int p4), .val (.int (own_p2 p0)), .val (.int (own_p3 p1)), .val (.ref b3), .val (.ref b44), .val (.ref b90), .val (.ref b124), .val (.ref b190), .val (.int (1 : Int32)), .val (.int (own_b1 p3)), .val (.int (p4 &&& (2147483647 : Int32))), .val (.ref b475), .val (.int (Int32.ofNat (own_blk (own_v4 (0 : Int32) (0 : Int32) (own_p2 p0) (own_p3 p1)) (own_v4 (0 : Int32) (own_r1 p0) (own_r2 p0 p1) (own_r3 p0 p1 p2)) (p4 &&& (2147483647 : Int32)) 4 s_)))] [(.ref b44), (.int (own_b1 p3)), (.int (Int32.ofNat (own_blk (own_v4 (0 : Int32) (0 : Int32) (own_p2 p0) (own_p3 p1)) (own_v4 (0 : Int32) (own_r1 p0) (own_r2 p0 p1) (own_r3 p0 p1 p2)) (p4 &&& (2147483647 : Int32)) 4 s_))), (.int (1 : Int32))])) _
        refine XS.aload X520.here hx rfl (hb hby at_300) rfl rfl ?_
        show Steps p.tables e below (T520.setTop (mkF m 302 #[.val (.int p0), .val (.int p1), .val (.int p2), .val (.int p3), .val (.int p4), .val (.int (own_p2 p0)), .val (.int (own_p3 p1)), .val (.ref b3), .val (.ref b44), .val (.ref b90), .val (.ref b124), .val (.ref b190), .val (.int (1 : Int32)), .val (.int (own_b1 p3)), .val (.int (p4 &&& (2147483647 : Int32))), .val (.ref b475), .val (.int (Int32.ofNat (own_blk (own_v4 (0 : Int32) (0 : Int32) (own_p2 p0) (own_p3 p1)) (own_v4 (0 : Int32) (own_r1 p0) (own_r2 p0 p1) (own_r3 p0 p1 p2)) (p4 &&& (2147483647 : Int32)) 4 s_)))] [(.ref b3), (.ref b44), (.int (own_b1 p3)), (.int (Int32.ofNat (own_blk (own_v4 (0 : Int32) (0 : Int32) (own_p2 p0) (own_p3 p1)) (own_v4 (0 : Int32) (own_r1 p0) (own_r2 p0 p1) (own_r3 p0 p1 p2)) (p4 &&& (2147483647 : Int32)) 4 s_))), (.int (1 : Int32))])) _
        refine XS.iload X520.here hx rfl (hb hby at_302) rfl ?_
        show Steps p.tables e below (T520.setTop (mkF m 304 #[.val (.int p0), .val (.int p1), .val (.int p2), .val (.int p3), .val (.int p4), .val (.int (own_p2 p0)), .val (.int (own_p3 p1)), .val (.ref b3), .val (.ref b44), .val (.ref b90), .val (.ref b124), .val (.ref b190), .val (.int (1 : Int32)), .val (.int (own_b1 p3)), .val (.int (p4 &&& (2147483647 : Int32))), .val (.ref b475), .val (.int (Int32.ofNat (own_blk (own_v4 (0 : Int32) (0 : Int32) (own_p2 p0) (own_p3 p1)) (own_v4 (0 : Int32) (own_r1 p0) (own_r2 p0 p1) (own_r3 p0 p1 p2)) (p4 &&& (2147483647 : Int32)) 4 s_)))] [(.int (p4 &&& (2147483647 : Int32))), (.ref b3), (.ref b44), (.int (own_b1 p3)), (.int (Int32.ofNat (own_blk (own_v4 (0 : Int32) (0 : Int32) (own_p2 p0) (own_p3 p1)) (own_v4 (0 : Int32) (own_r1 p0) (own_r2 p0 p1) (own_r3 p0 p1 p2)) (p4 &&& (2147483647 : Int32)) 4 s_))), (.int (1 : Int32))])) _
        refine st524 _ ?_
        exact kt
      have zs528 : n0 ≤ T491.heap.size := Nat.le_trans Z0 k504.1
      obtain ⟨_, _, ⟨T529, L529, k529, n529⟩, -, X529, ⟨Lc529, hQ529, l529, y529, z529⟩, st529⟩ := Jvm.LawKit.callS X524 hx (y := (⟨"com/example/unfold/unfold/reduction/SplittingBlockAfterPinLaw", "ok", "(III[I[II)Z"⟩ : MethodName)) hown (mvT hZ (hw _ (List.mem_of_getElem? (i := 25) rfl))) (mvT hZ (hw _ (List.mem_of_getElem? (i := 26) rfl))) (mvT hZ (hw _ (List.mem_of_getElem? (i := 23) rfl))) (mvT hZ (hw _ (List.mem_of_getElem? (i := 27) rfl))) (by decide) (backOf (W := 0) (own_rm_ok l Z a0 hw [] (2 : Int32) (Int32.ofNat (own_blk (own_v4 (0 : Int32) (0 : Int32) (own_p2 p0) (own_p3 p1)) (own_v4 (0 : Int32) (own_r1 p0) (own_r2 p0 p1) (own_r3 p0 p1 p2)) (p4 &&& (2147483647 : Int32)) 4 s_)) (own_b1 p3) b44 b3 (p4 &&& (2147483647 : Int32)) 2 (own_blk (own_v4 (0 : Int32) (0 : Int32) (own_p2 p0) (own_p3 p1)) (own_v4 (0 : Int32) (own_r1 p0) (own_r2 p0 p1) (own_r3 p0 p1 p2)) (p4 &&& (2147483647 : Int32)) 4 s_) s_ (own_v4 (0 : Int32) (0 : Int32) (own_p2 p0) (own_p3 p1)) (own_v4 (0 : Int32) (own_r1 p0) (own_r2 p0 p1) (own_r3 p0 p1 p2)) T491.heap n0 zs528 f496 f494 rfl (by decide) rfl hpl.1 hs hs4 hT (hpl.2.2.2 2 (by decide))) hZ (hw _ (List.mem_of_getElem? (i := 27) rfl)) (hw _ (List.mem_of_getElem? (i := 23) rfl)) (by decide) (by decide)) (g := (mkF m 321 #[.val (.int p0), .val (.int p1), .val (.int p2), .val (.int p3), .val (.int p4), .val (.int (own_p2 p0)), .val (.int (own_p3 p1)), .val (.ref b3), .val (.ref b44), .val (.ref b90), .val (.ref b124), .val (.ref b190), .val (.int (1 : Int32)), .val (.int (own_b1 p3)), .val (.int (p4 &&& (2147483647 : Int32))), .val (.ref b475), .val (.int (Int32.ofNat (own_blk (own_v4 (0 : Int32) (0 : Int32) (own_p2 p0) (own_p3 p1)) (own_v4 (0 : Int32) (own_r1 p0) (own_r2 p0 p1) (own_r3 p0 p1 p2)) (p4 &&& (2147483647 : Int32)) 4 s_)))] [(.int (p4 &&& (2147483647 : Int32))), (.ref b3), (.ref b44), (.int (own_b1 p3)), (.int (Int32.ofNat (own_blk (own_v4 (0 : Int32) (0 : Int32) (own_p2 p0) (own_p3 p1)) (own_v4 (0 : Int32) (own_r1 p0) (own_r2 p0 p1) (own_r3 p0 p1 p2)) (p4 &&& (2147483647 : Int32)) 4 s_))), (.int (2 : Int32))])) rfl (by rw [hml]; rfl) (argsL := [(.int (2 : Int32)), (.int (Int32.ofNat (own_blk (own_v4 (0 : Int32) (0 : Int32) (own_p2 p0) (own_p3 p1)) (own_v4 (0 : Int32) (own_r1 p0) (own_r2 p0 p1) (own_r3 p0 p1 p2)) (p4 &&& (2147483647 : Int32)) 4 s_))), (.int (own_b1 p3)), (.ref b44), (.ref b3), (.int (p4 &&& (2147483647 : Int32)))]) (rest := []) (lenOf own_pd3 rfl) rfl (by show 2 * 0 + _ ≤ _; exact Nat.le_of_eq rfl) (hb hby at_321) (fun _ _ => ⟨rfl, eq525, (by decide : 6 + 0 ≤ _), (by decide : 21 + 0 ≤ _)⟩)
      dsimp only [Pt.U, Pt.locs, Pt.cells, Pt.slots] at X529 l529 y529 z529 st529 hQ529
      rw [l529, (y529 : k529 = 6), (z529 : n529 = 21)] at X529
      clear l529 y529 z529
      obtain ⟨rfl, N530, eq530⟩ := hQ529
      have nf531 := Fr.app nf526 N530
      have pre532 : ∀ t, Steps p.tables e below (T529.setTop (mkF m 332 #[.val (.int p0), .val (.int p1), .val (.int p2), .val (.int p3), .val (.int p4), .val (.int (own_p2 p0)), .val (.int (own_p3 p1)), .val (.ref b3), .val (.ref b44), .val (.ref b90), .val (.ref b124), .val (.ref b190), .val (.int (1 : Int32)), .val (.int (own_b1 p3)), .val (.int (p4 &&& (2147483647 : Int32))), .val (.ref b475), .val (.int (Int32.ofNat (own_blk (own_v4 (0 : Int32) (0 : Int32) (own_p2 p0) (own_p3 p1)) (own_v4 (0 : Int32) (own_r1 p0) (own_r2 p0 p1) (own_r3 p0 p1 p2)) (p4 &&& (2147483647 : Int32)) 4 s_)))] [(.int (own_b1 p3)), (.int (Int32.ofNat (own_blk (own_v4 (0 : Int32) (0 : Int32) (own_p2 p0) (own_p3 p1)) (own_v4 (0 : Int32) (own_r1 p0) (own_r2 p0 p1) (own_r3 p0 p1 p2)) (p4 &&& (2147483647 : Int32)) 4 s_))), (.int (3 : Int32))])) t → Steps p.tables e below (s₁.setTop (entryFrame m #[(.int p0), (.int p1), (.int p2), (.int p3), (.int p4)] maxLocals)) t := by
        intro t kt
        refine pre527 t ?_
        show Steps p.tables e below (T524.setTop (mkF m 307 #[.val (.int p0), .val (.int p1), .val (.int p2), .val (.int p3), .val (.int p4), .val (.int (own_p2 p0)), .val (.int (own_p3 p1)), .val (.ref b3), .val (.ref b44), .val (.ref b90), .val (.ref b124), .val (.ref b190), .val (.int (1 : Int32)), .val (.int (own_b1 p3)), .val (.int (p4 &&& (2147483647 : Int32))), .val (.ref b475), .val (.int (Int32.ofNat (own_blk (own_v4 (0 : Int32) (0 : Int32) (own_p2 p0) (own_p3 p1)) (own_v4 (0 : Int32) (own_r1 p0) (own_r2 p0 p1) (own_r3 p0 p1 p2)) (p4 &&& (2147483647 : Int32)) 4 s_)))] [(.int (1 : Int32))])) _
        refine XS.ifNo X524.here hx rfl (hb hby at_307) rfl ((if0 _ _).trans (feq (by decide : ¬ ((1 : Int32) = (0 : Int32)))).1) ?_
        show Steps p.tables e below (T524.setTop (mkF m 310 #[.val (.int p0), .val (.int p1), .val (.int p2), .val (.int p3), .val (.int p4), .val (.int (own_p2 p0)), .val (.int (own_p3 p1)), .val (.ref b3), .val (.ref b44), .val (.ref b90), .val (.ref b124), .val (.ref b190), .val (.int (1 : Int32)), .val (.int (own_b1 p3)), .val (.int (p4 &&& (2147483647 : Int32))), .val (.ref b475), .val (.int (Int32.ofNat (own_blk (own_v4 (0 : Int32) (0 : Int32) (own_p2 p0) (own_p3 p1)) (own_v4 (0 : Int32) (own_r1 p0) (own_r2 p0 p1) (own_r3 p0 p1 p2)) (p4 &&& (2147483647 : Int32)) 4 s_)))] [])) _
        refine XS.iconst X524.here hx rfl (hb hby at_310) ?_
        show Steps p.tables e below (T524.setTop (mkF m 311 #[.val (.int p0), .val (.int p1), .val (.int p2), .val (.int p3), .val (.int p4), .val (.int (own_p2 p0)), .val (.int (own_p3 p1)), .val (.ref b3), .val (.ref b44), .val (.ref b90), .val (.ref b124), .val (.ref b190), .val (.int (1 : Int32)), .val (.int (own_b1 p3)), .val (.int (p4 &&& (2147483647 : Int32))), .val (.ref b475), .val (.int (Int32.ofNat (own_blk (own_v4 (0 : Int32) (0 : Int32) (own_p2 p0) (own_p3 p1)) (own_v4 (0 : Int32) (own_r1 p0) (own_r2 p0 p1) (own_r3 p0 p1 p2)) (p4 &&& (2147483647 : Int32)) 4 s_)))] [(.int (2 : Int32))])) _
        refine XS.iload X524.here hx rfl (hb hby at_311) rfl ?_
        show Steps p.tables e below (T524.setTop (mkF m 313 #[.val (.int p0), .val (.int p1), .val (.int p2), .val (.int p3), .val (.int p4), .val (.int (own_p2 p0)), .val (.int (own_p3 p1)), .val (.ref b3), .val (.ref b44), .val (.ref b90), .val (.ref b124), .val (.ref b190), .val (.int (1 : Int32)), .val (.int (own_b1 p3)), .val (.int (p4 &&& (2147483647 : Int32))), .val (.ref b475), .val (.int (Int32.ofNat (own_blk (own_v4 (0 : Int32) (0 : Int32) (own_p2 p0) (own_p3 p1)) (own_v4 (0 : Int32) (own_r1 p0) (own_r2 p0 p1) (own_r3 p0 p1 p2)) (p4 &&& (2147483647 : Int32)) 4 s_)))] [(.int (Int32.ofNat (own_blk (own_v4 (0 : Int32) (0 : Int32) (own_p2 p0) (own_p3 p1)) (own_v4 (0 : Int32) (own_r1 p0) (own_r2 p0 p1) (own_r3 p0 p1 p2)) (p4 &&& (2147483647 : Int32)) 4 s_))), (.int (2 : Int32))])) _
        refine XS.iload X524.here hx rfl (hb hby at_313) rfl ?_
        show Steps p.tables e below (T524.setTop (mkF m 315 #[.val (.int p0), .val (.int p1), .val (.int p2), .val (.int p3), .val (.int p4), .val (.int (own_p2 p0)), .val (.int (own_p3 p1)), .val (.ref b3), .val (.ref b44), .val (.ref b90), .val (.ref b124), .val (.ref b190), .val (.int (1 : Int32)), .val (.int (own_b1 p3)), .val (.int (p4 &&& (2147483647 : Int32))), .val (.ref b475), .val (.int (Int32.ofNat (own_blk (own_v4 (0 : Int32) (0 : Int32) (own_p2 p0) (own_p3 p1)) (own_v4 (0 : Int32) (own_r1 p0) (own_r2 p0 p1) (own_r3 p0 p1 p2)) (p4 &&& (2147483647 : Int32)) 4 s_)))] [(.int (own_b1 p3)), (.int (Int32.ofNat (own_blk (own_v4 (0 : Int32) (0 : Int32) (own_p2 p0) (own_p3 p1)) (own_v4 (0 : Int32) (own_r1 p0) (own_r2 p0 p1) (own_r3 p0 p1 p2)) (p4 &&& (2147483647 : Int32)) 4 s_))), (.int (2 : Int32))])) _
        refine XS.aload X524.here hx rfl (hb hby at_315) rfl rfl ?_
        show Steps p.tables e below (T524.setTop (mkF m 317 #[.val (.int p0), .val (.int p1), .val (.int p2), .val (.int p3), .val (.int p4), .val (.int (own_p2 p0)), .val (.int (own_p3 p1)), .val (.ref b3), .val (.ref b44), .val (.ref b90), .val (.ref b124), .val (.ref b190), .val (.int (1 : Int32)), .val (.int (own_b1 p3)), .val (.int (p4 &&& (2147483647 : Int32))), .val (.ref b475), .val (.int (Int32.ofNat (own_blk (own_v4 (0 : Int32) (0 : Int32) (own_p2 p0) (own_p3 p1)) (own_v4 (0 : Int32) (own_r1 p0) (own_r2 p0 p1) (own_r3 p0 p1 p2)) (p4 &&& (2147483647 : Int32)) 4 s_)))] [(.ref b44), (.int (own_b1 p3)), (.int (Int32.ofNat (own_blk (own_v4 (0 : Int32) (0 : Int32) (own_p2 p0) (own_p3 p1)) (own_v4 (0 : Int32) (own_r1 p0) (own_r2 p0 p1) (own_r3 p0 p1 p2)) (p4 &&& (2147483647 : Int32)) 4 s_))), (.int (2 : Int32))])) _
        refine XS.aload X524.here hx rfl (hb hby at_317) rfl rfl ?_
        show Steps p.tables e below (T524.setTop (mkF m 319 #[.val (.int p0), .val (.int p1), .val (.int p2), .val (.int p3), .val (.int p4), .val (.int (own_p2 p0)), .val (.int (own_p3 p1)), .val (.ref b3), .val (.ref b44), .val (.ref b90), .val (.ref b124), .val (.ref b190), .val (.int (1 : Int32)), .val (.int (own_b1 p3)), .val (.int (p4 &&& (2147483647 : Int32))), .val (.ref b475), .val (.int (Int32.ofNat (own_blk (own_v4 (0 : Int32) (0 : Int32) (own_p2 p0) (own_p3 p1)) (own_v4 (0 : Int32) (own_r1 p0) (own_r2 p0 p1) (own_r3 p0 p1 p2)) (p4 &&& (2147483647 : Int32)) 4 s_)))] [(.ref b3), (.ref b44), (.int (own_b1 p3)), (.int (Int32.ofNat (own_blk (own_v4 (0 : Int32) (0 : Int32) (own_p2 p0) (own_p3 p1)) (own_v4 (0 : Int32) (own_r1 p0) (own_r2 p0 p1) (own_r3 p0 p1 p2)) (p4 &&& (2147483647 : Int32)) 4 s_))), (.int (2 : Int32))])) _
        refine XS.iload X524.here hx rfl (hb hby at_319) rfl ?_
        show Steps p.tables e below (T524.setTop (mkF m 321 #[.val (.int p0), .val (.int p1), .val (.int p2), .val (.int p3), .val (.int p4), .val (.int (own_p2 p0)), .val (.int (own_p3 p1)), .val (.ref b3), .val (.ref b44), .val (.ref b90), .val (.ref b124), .val (.ref b190), .val (.int (1 : Int32)), .val (.int (own_b1 p3)), .val (.int (p4 &&& (2147483647 : Int32))), .val (.ref b475), .val (.int (Int32.ofNat (own_blk (own_v4 (0 : Int32) (0 : Int32) (own_p2 p0) (own_p3 p1)) (own_v4 (0 : Int32) (own_r1 p0) (own_r2 p0 p1) (own_r3 p0 p1 p2)) (p4 &&& (2147483647 : Int32)) 4 s_)))] [(.int (p4 &&& (2147483647 : Int32))), (.ref b3), (.ref b44), (.int (own_b1 p3)), (.int (Int32.ofNat (own_blk (own_v4 (0 : Int32) (0 : Int32) (own_p2 p0) (own_p3 p1)) (own_v4 (0 : Int32) (own_r1 p0) (own_r2 p0 p1) (own_r3 p0 p1 p2)) (p4 &&& (2147483647 : Int32)) 4 s_))), (.int (2 : Int32))])) _
        refine st529 _ ?_
        show Steps p.tables e below (T529.setTop (mkF m 324 #[.val (.int p0), .val (.int p1), .val (.int p2), .val (.int p3), .val (.int p4), .val (.int (own_p2 p0)), .val (.int (own_p3 p1)), .val (.ref b3), .val (.ref b44), .val (.ref b90), .val (.ref b124), .val (.ref b190), .val (.int (1 : Int32)), .val (.int (own_b1 p3)), .val (.int (p4 &&& (2147483647 : Int32))), .val (.ref b475), .val (.int (Int32.ofNat (own_blk (own_v4 (0 : Int32) (0 : Int32) (own_p2 p0) (own_p3 p1)) (own_v4 (0 : Int32) (own_r1 p0) (own_r2 p0 p1) (own_r3 p0 p1 p2)) (p4 &&& (2147483647 : Int32)) 4 s_)))] [(.int (1 : Int32))])) _
        refine XS.ifNo X529.here hx rfl (hb hby at_324) rfl ((if0 _ _).trans (feq (by decide : ¬ ((1 : Int32) = (0 : Int32)))).1) ?_
        show Steps p.tables e below (T529.setTop (mkF m 327 #[.val (.int p0), .val (.int p1), .val (.int p2), .val (.int p3), .val (.int p4), .val (.int (own_p2 p0)), .val (.int (own_p3 p1)), .val (.ref b3), .val (.ref b44), .val (.ref b90), .val (.ref b124), .val (.ref b190), .val (.int (1 : Int32)), .val (.int (own_b1 p3)), .val (.int (p4 &&& (2147483647 : Int32))), .val (.ref b475), .val (.int (Int32.ofNat (own_blk (own_v4 (0 : Int32) (0 : Int32) (own_p2 p0) (own_p3 p1)) (own_v4 (0 : Int32) (own_r1 p0) (own_r2 p0 p1) (own_r3 p0 p1 p2)) (p4 &&& (2147483647 : Int32)) 4 s_)))] [])) _
        refine XS.iconst X529.here hx rfl (hb hby at_327) ?_
        show Steps p.tables e below (T529.setTop (mkF m 328 #[.val (.int p0), .val (.int p1), .val (.int p2), .val (.int p3), .val (.int p4), .val (.int (own_p2 p0)), .val (.int (own_p3 p1)), .val (.ref b3), .val (.ref b44), .val (.ref b90), .val (.ref b124), .val (.ref b190), .val (.int (1 : Int32)), .val (.int (own_b1 p3)), .val (.int (p4 &&& (2147483647 : Int32))), .val (.ref b475), .val (.int (Int32.ofNat (own_blk (own_v4 (0 : Int32) (0 : Int32) (own_p2 p0) (own_p3 p1)) (own_v4 (0 : Int32) (own_r1 p0) (own_r2 p0 p1) (own_r3 p0 p1 p2)) (p4 &&& (2147483647 : Int32)) 4 s_)))] [(.int (3 : Int32))])) _
        refine XS.iload X529.here hx rfl (hb hby at_328) rfl ?_
        show Steps p.tables e below (T529.setTop (mkF m 330 #[.val (.int p0), .val (.int p1), .val (.int p2), .val (.int p3), .val (.int p4), .val (.int (own_p2 p0)), .val (.int (own_p3 p1)), .val (.ref b3), .val (.ref b44), .val (.ref b90), .val (.ref b124), .val (.ref b190), .val (.int (1 : Int32)), .val (.int (own_b1 p3)), .val (.int (p4 &&& (2147483647 : Int32))), .val (.ref b475), .val (.int (Int32.ofNat (own_blk (own_v4 (0 : Int32) (0 : Int32) (own_p2 p0) (own_p3 p1)) (own_v4 (0 : Int32) (own_r1 p0) (own_r2 p0 p1) (own_r3 p0 p1 p2)) (p4 &&& (2147483647 : Int32)) 4 s_)))] [(.int (Int32.ofNat (own_blk (own_v4 (0 : Int32) (0 : Int32) (own_p2 p0) (own_p3 p1)) (own_v4 (0 : Int32) (own_r1 p0) (own_r2 p0 p1) (own_r3 p0 p1 p2)) (p4 &&& (2147483647 : Int32)) 4 s_))), (.int (3 : Int32))])) _
        refine XS.iload X529.here hx rfl (hb hby at_330) rfl ?_
        exact kt
      have zs533 : n0 ≤ T491.heap.size := Nat.le_trans Z0 k504.1
      obtain ⟨_, _, ⟨T534, L534, k534, n534⟩, -, X534, ⟨Lc534, hQ534, l534, y534, z534⟩, st534⟩ := Jvm.LawKit.callS X529 hx (y := (⟨"com/example/unfold/unfold/reduction/SplittingBlockAfterPinLaw", "ok", "(III[I[II)Z"⟩ : MethodName)) hown (mvT hZ (hw _ (List.mem_of_getElem? (i := 25) rfl))) (mvT hZ (hw _ (List.mem_of_getElem? (i := 26) rfl))) (mvT hZ (hw _ (List.mem_of_getElem? (i := 23) rfl))) (mvT hZ (hw _ (List.mem_of_getElem? (i := 27) rfl))) (by decide) (backOf (W := 0) (own_rm_ok l Z a0 hw [] (3 : Int32) (Int32.ofNat (own_blk (own_v4 (0 : Int32) (0 : Int32) (own_p2 p0) (own_p3 p1)) (own_v4 (0 : Int32) (own_r1 p0) (own_r2 p0 p1) (own_r3 p0 p1 p2)) (p4 &&& (2147483647 : Int32)) 4 s_)) (own_b1 p3) b44 b3 (p4 &&& (2147483647 : Int32)) 3 (own_blk (own_v4 (0 : Int32) (0 : Int32) (own_p2 p0) (own_p3 p1)) (own_v4 (0 : Int32) (own_r1 p0) (own_r2 p0 p1) (own_r3 p0 p1 p2)) (p4 &&& (2147483647 : Int32)) 4 s_) s_ (own_v4 (0 : Int32) (0 : Int32) (own_p2 p0) (own_p3 p1)) (own_v4 (0 : Int32) (own_r1 p0) (own_r2 p0 p1) (own_r3 p0 p1 p2)) T491.heap n0 zs533 f496 f494 rfl (by decide) rfl hpl.1 hs hs4 hT (hpl.2.2.2 3 (by decide))) hZ (hw _ (List.mem_of_getElem? (i := 27) rfl)) (hw _ (List.mem_of_getElem? (i := 23) rfl)) (by decide) (by decide)) (g := (mkF m 338 #[.val (.int p0), .val (.int p1), .val (.int p2), .val (.int p3), .val (.int p4), .val (.int (own_p2 p0)), .val (.int (own_p3 p1)), .val (.ref b3), .val (.ref b44), .val (.ref b90), .val (.ref b124), .val (.ref b190), .val (.int (1 : Int32)), .val (.int (own_b1 p3)), .val (.int (p4 &&& (2147483647 : Int32))), .val (.ref b475), .val (.int (Int32.ofNat (own_blk (own_v4 (0 : Int32) (0 : Int32) (own_p2 p0) (own_p3 p1)) (own_v4 (0 : Int32) (own_r1 p0) (own_r2 p0 p1) (own_r3 p0 p1 p2)) (p4 &&& (2147483647 : Int32)) 4 s_)))] [(.int (p4 &&& (2147483647 : Int32))), (.ref b3), (.ref b44), (.int (own_b1 p3)), (.int (Int32.ofNat (own_blk (own_v4 (0 : Int32) (0 : Int32) (own_p2 p0) (own_p3 p1)) (own_v4 (0 : Int32) (own_r1 p0) (own_r2 p0 p1) (own_r3 p0 p1 p2)) (p4 &&& (2147483647 : Int32)) 4 s_))), (.int (3 : Int32))])) rfl (by rw [hml]; rfl) (argsL := [(.int (3 : Int32)), (.int (Int32.ofNat (own_blk (own_v4 (0 : Int32) (0 : Int32) (own_p2 p0) (own_p3 p1)) (own_v4 (0 : Int32) (own_r1 p0) (own_r2 p0 p1) (own_r3 p0 p1 p2)) (p4 &&& (2147483647 : Int32)) 4 s_))), (.int (own_b1 p3)), (.ref b44), (.ref b3), (.int (p4 &&& (2147483647 : Int32)))]) (rest := []) (lenOf own_pd3 rfl) rfl (by show 2 * 0 + _ ≤ _; exact Nat.le_of_eq rfl) (hb hby at_338) (fun _ _ => ⟨rfl, eq530, (by decide : 6 + 0 ≤ _), (by decide : 21 + 0 ≤ _)⟩)
      dsimp only [Pt.U, Pt.locs, Pt.cells, Pt.slots] at X534 l534 y534 z534 st534 hQ534
      rw [l534, (y534 : k534 = 6), (z534 : n534 = 21)] at X534
      clear l534 y534 z534
      obtain ⟨rfl, N535, eq535⟩ := hQ534
      have nf536 := Fr.app nf531 N535
      have pre537 : ∀ t, Steps p.tables e below (T534.setTop (mkF m 349 #[.val (.int p0), .val (.int p1), .val (.int p2), .val (.int p3), .val (.int p4), .val (.int (own_p2 p0)), .val (.int (own_p3 p1)), .val (.ref b3), .val (.ref b44), .val (.ref b90), .val (.ref b124), .val (.ref b190), .val (.int (1 : Int32)), .val (.int (own_b1 p3)), .val (.int (p4 &&& (2147483647 : Int32))), .val (.ref b475), .val (.int (Int32.ofNat (own_blk (own_v4 (0 : Int32) (0 : Int32) (own_p2 p0) (own_p3 p1)) (own_v4 (0 : Int32) (own_r1 p0) (own_r2 p0 p1) (own_r3 p0 p1 p2)) (p4 &&& (2147483647 : Int32)) 4 s_)))] [(.int (1 : Int32))])) t → Steps p.tables e below (s₁.setTop (entryFrame m #[(.int p0), (.int p1), (.int p2), (.int p3), (.int p4)] maxLocals)) t := by
        intro t kt
        refine pre532 t ?_
        show Steps p.tables e below (T529.setTop (mkF m 332 #[.val (.int p0), .val (.int p1), .val (.int p2), .val (.int p3), .val (.int p4), .val (.int (own_p2 p0)), .val (.int (own_p3 p1)), .val (.ref b3), .val (.ref b44), .val (.ref b90), .val (.ref b124), .val (.ref b190), .val (.int (1 : Int32)), .val (.int (own_b1 p3)), .val (.int (p4 &&& (2147483647 : Int32))), .val (.ref b475), .val (.int (Int32.ofNat (own_blk (own_v4 (0 : Int32) (0 : Int32) (own_p2 p0) (own_p3 p1)) (own_v4 (0 : Int32) (own_r1 p0) (own_r2 p0 p1) (own_r3 p0 p1 p2)) (p4 &&& (2147483647 : Int32)) 4 s_)))] [(.int (own_b1 p3)), (.int (Int32.ofNat (own_blk (own_v4 (0 : Int32) (0 : Int32) (own_p2 p0) (own_p3 p1)) (own_v4 (0 : Int32) (own_r1 p0) (own_r2 p0 p1) (own_r3 p0 p1 p2)) (p4 &&& (2147483647 : Int32)) 4 s_))), (.int (3 : Int32))])) _
        refine XS.aload X529.here hx rfl (hb hby at_332) rfl rfl ?_
        show Steps p.tables e below (T529.setTop (mkF m 334 #[.val (.int p0), .val (.int p1), .val (.int p2), .val (.int p3), .val (.int p4), .val (.int (own_p2 p0)), .val (.int (own_p3 p1)), .val (.ref b3), .val (.ref b44), .val (.ref b90), .val (.ref b124), .val (.ref b190), .val (.int (1 : Int32)), .val (.int (own_b1 p3)), .val (.int (p4 &&& (2147483647 : Int32))), .val (.ref b475), .val (.int (Int32.ofNat (own_blk (own_v4 (0 : Int32) (0 : Int32) (own_p2 p0) (own_p3 p1)) (own_v4 (0 : Int32) (own_r1 p0) (own_r2 p0 p1) (own_r3 p0 p1 p2)) (p4 &&& (2147483647 : Int32)) 4 s_)))] [(.ref b44), (.int (own_b1 p3)), (.int (Int32.ofNat (own_blk (own_v4 (0 : Int32) (0 : Int32) (own_p2 p0) (own_p3 p1)) (own_v4 (0 : Int32) (own_r1 p0) (own_r2 p0 p1) (own_r3 p0 p1 p2)) (p4 &&& (2147483647 : Int32)) 4 s_))), (.int (3 : Int32))])) _
        refine XS.aload X529.here hx rfl (hb hby at_334) rfl rfl ?_
        show Steps p.tables e below (T529.setTop (mkF m 336 #[.val (.int p0), .val (.int p1), .val (.int p2), .val (.int p3), .val (.int p4), .val (.int (own_p2 p0)), .val (.int (own_p3 p1)), .val (.ref b3), .val (.ref b44), .val (.ref b90), .val (.ref b124), .val (.ref b190), .val (.int (1 : Int32)), .val (.int (own_b1 p3)), .val (.int (p4 &&& (2147483647 : Int32))), .val (.ref b475), .val (.int (Int32.ofNat (own_blk (own_v4 (0 : Int32) (0 : Int32) (own_p2 p0) (own_p3 p1)) (own_v4 (0 : Int32) (own_r1 p0) (own_r2 p0 p1) (own_r3 p0 p1 p2)) (p4 &&& (2147483647 : Int32)) 4 s_)))] [(.ref b3), (.ref b44), (.int (own_b1 p3)), (.int (Int32.ofNat (own_blk (own_v4 (0 : Int32) (0 : Int32) (own_p2 p0) (own_p3 p1)) (own_v4 (0 : Int32) (own_r1 p0) (own_r2 p0 p1) (own_r3 p0 p1 p2)) (p4 &&& (2147483647 : Int32)) 4 s_))), (.int (3 : Int32))])) _
        refine XS.iload X529.here hx rfl (hb hby at_336) rfl ?_
        show Steps p.tables e below (T529.setTop (mkF m 338 #[.val (.int p0), .val (.int p1), .val (.int p2), .val (.int p3), .val (.int p4), .val (.int (own_p2 p0)), .val (.int (own_p3 p1)), .val (.ref b3), .val (.ref b44), .val (.ref b90), .val (.ref b124), .val (.ref b190), .val (.int (1 : Int32)), .val (.int (own_b1 p3)), .val (.int (p4 &&& (2147483647 : Int32))), .val (.ref b475), .val (.int (Int32.ofNat (own_blk (own_v4 (0 : Int32) (0 : Int32) (own_p2 p0) (own_p3 p1)) (own_v4 (0 : Int32) (own_r1 p0) (own_r2 p0 p1) (own_r3 p0 p1 p2)) (p4 &&& (2147483647 : Int32)) 4 s_)))] [(.int (p4 &&& (2147483647 : Int32))), (.ref b3), (.ref b44), (.int (own_b1 p3)), (.int (Int32.ofNat (own_blk (own_v4 (0 : Int32) (0 : Int32) (own_p2 p0) (own_p3 p1)) (own_v4 (0 : Int32) (own_r1 p0) (own_r2 p0 p1) (own_r3 p0 p1 p2)) (p4 &&& (2147483647 : Int32)) 4 s_))), (.int (3 : Int32))])) _
        refine st534 _ ?_
        show Steps p.tables e below (T534.setTop (mkF m 341 #[.val (.int p0), .val (.int p1), .val (.int p2), .val (.int p3), .val (.int p4), .val (.int (own_p2 p0)), .val (.int (own_p3 p1)), .val (.ref b3), .val (.ref b44), .val (.ref b90), .val (.ref b124), .val (.ref b190), .val (.int (1 : Int32)), .val (.int (own_b1 p3)), .val (.int (p4 &&& (2147483647 : Int32))), .val (.ref b475), .val (.int (Int32.ofNat (own_blk (own_v4 (0 : Int32) (0 : Int32) (own_p2 p0) (own_p3 p1)) (own_v4 (0 : Int32) (own_r1 p0) (own_r2 p0 p1) (own_r3 p0 p1 p2)) (p4 &&& (2147483647 : Int32)) 4 s_)))] [(.int (1 : Int32))])) _
        refine XS.ifNo X534.here hx rfl (hb hby at_341) rfl ((if0 _ _).trans (feq (by decide : ¬ ((1 : Int32) = (0 : Int32)))).1) ?_
        show Steps p.tables e below (T534.setTop (mkF m 344 #[.val (.int p0), .val (.int p1), .val (.int p2), .val (.int p3), .val (.int p4), .val (.int (own_p2 p0)), .val (.int (own_p3 p1)), .val (.ref b3), .val (.ref b44), .val (.ref b90), .val (.ref b124), .val (.ref b190), .val (.int (1 : Int32)), .val (.int (own_b1 p3)), .val (.int (p4 &&& (2147483647 : Int32))), .val (.ref b475), .val (.int (Int32.ofNat (own_blk (own_v4 (0 : Int32) (0 : Int32) (own_p2 p0) (own_p3 p1)) (own_v4 (0 : Int32) (own_r1 p0) (own_r2 p0 p1) (own_r3 p0 p1 p2)) (p4 &&& (2147483647 : Int32)) 4 s_)))] [])) _
        refine XS.iconst X534.here hx rfl (hb hby at_344) ?_
        show Steps p.tables e below (T534.setTop (mkF m 345 #[.val (.int p0), .val (.int p1), .val (.int p2), .val (.int p3), .val (.int p4), .val (.int (own_p2 p0)), .val (.int (own_p3 p1)), .val (.ref b3), .val (.ref b44), .val (.ref b90), .val (.ref b124), .val (.ref b190), .val (.int (1 : Int32)), .val (.int (own_b1 p3)), .val (.int (p4 &&& (2147483647 : Int32))), .val (.ref b475), .val (.int (Int32.ofNat (own_blk (own_v4 (0 : Int32) (0 : Int32) (own_p2 p0) (own_p3 p1)) (own_v4 (0 : Int32) (own_r1 p0) (own_r2 p0 p1) (own_r3 p0 p1 p2)) (p4 &&& (2147483647 : Int32)) 4 s_)))] [(.int (1 : Int32))])) _
        refine XS.goto X534.here hx rfl (pc0 := 345) (pc' := 349) rfl (hb hby at_345) (by decide) (by decide) ?_
        exact kt
      obtain ⟨fs, hr, hrun, hended, hW, hsame⟩ := X534.leave (v := some (.int (1 : Int32))) (fun h => by rw [Bd.returns] at h; cases h)
      refine ⟨_, _, pre537 _ ?_, hrun, hended, _, _, rfl, ?_, ⟨_, rfl⟩, hW, hsame.mono (by decide) (by decide)⟩
      · show Steps p.tables e below (T534.setTop (mkF m 349 #[.val (.int p0), .val (.int p1), .val (.int p2), .val (.int p3), .val (.int p4), .val (.int (own_p2 p0)), .val (.int (own_p3 p1)), .val (.ref b3), .val (.ref b44), .val (.ref b90), .val (.ref b124), .val (.ref b190), .val (.int (1 : Int32)), .val (.int (own_b1 p3)), .val (.int (p4 &&& (2147483647 : Int32))), .val (.ref b475), .val (.int (Int32.ofNat (own_blk (own_v4 (0 : Int32) (0 : Int32) (own_p2 p0) (own_p3 p1)) (own_v4 (0 : Int32) (own_r1 p0) (own_r2 p0 p1) (own_r3 p0 p1 p2)) (p4 &&& (2147483647 : Int32)) 4 s_)))] [(.int (1 : Int32))])) _
        exact retN X534 hx (t := .boolean) Bd.returns (by simp) (hb hby at_349) hr
      · show own_Q_law Z p0 p1 p2 p3 p4 h0 n0 (some (.int (1 : Int32))) T534.heap _
        rw [eq535]
        exact ⟨rfl, nf536⟩
set_option maxRecDepth 65536 in
set_option maxHeartbeats 40000000 in
theorem own_comes {Post : Tables → Env → Array Value → State → Outcome → State → Prop} (hpost : ∀ tb e args s v u, (limb_1_1.after args s (.returned v) u = true ∧ limb_1_2.after args s (.returned v) u = true ∧ True) → FrameEnd s (.returned v) u (Jvm.fieldLocs frame_1_writes args s ++ Jvm.arrayLocs frame_1_arrays args s ++ Jvm.staticLocs frame_1_statics s) 24 128 → Post tb e args s (.returned v) u) :
    ArmFor flags0 classFile x code maxLocals ret World_1 tables_1 room_1 Calls_1 rest_1 Pre_1 Post := by
  intro l hfl _ _ p e ha hc hk s m args below hf hA hF happ hP
  obtain ⟨hcalls, hrest, hpre⟩ := hP
  obtain ⟨-, -, -, hnamed, -, -, -, hat⟩ := (Spec.applies_iff hf).mp happ
  obtain ⟨hg, hn⟩ := and_e (Cond.before_iff.mp (show (Jvm.Cond.and given_1 narrow_1).before args s = true from hpre))
  obtain ⟨hcount, hq0⟩ := and_e hg
  obtain ⟨hi0, hq1⟩ := and_e hq0
  obtain ⟨hi1, hq2⟩ := and_e hq1
  obtain ⟨hi2, hq3⟩ := and_e hq2
  obtain ⟨hi3, hq4⟩ := and_e hq3
  have hi4 := hq4
  obtain ⟨w0, w1, w2, w3, w4, rfl⟩ : ∃ w0 w1 w2 w3 w4 : Value, args = #[w0, w1, w2, w3, w4] := by
    have hs : args.size = 5 := by simpa [Cond.value, given_1] using hcount
    obtain ⟨L⟩ := args
    match L, hs with
    | [w0, w1, w2, w3, w4], _ => exact ⟨w0, w1, w2, w3, w4, rfl⟩
  have hw := fun d (hd : d ∈ tables_1) => atoms_spec (ws := Jvm.Cond.code x code maxLocals ret :: tables_1) hat d (List.mem_cons_of_mem _ hd)
  have hfit : Fit s := fun {y c} hc i hi => by
    obtain ⟨ha, rfl⟩ := Array.getElem?_eq_some_iff.mp hc
    have q := List.all_eq_true.mp ((Array.all_eq_true_iff_forall_mem.mp hF) _ (Array.getElem_mem ha)) i (List.mem_range.mpr hi)
    simpa [Array.getElem?_eq_getElem hi] using q
  obtain ⟨i0, ei0⟩ := is_v hi0
  obtain rfl : w0 = (.int i0) := Option.some.inj ei0
  obtain ⟨i1, ei1⟩ := is_v hi1
  obtain rfl : w1 = (.int i1) := Option.some.inj ei1
  obtain ⟨i2, ei2⟩ := is_v hi2
  obtain rfl : w2 = (.int i2) := Option.some.inj ei2
  obtain ⟨i3, ei3⟩ := is_v hi3
  obtain rfl : w3 = (.int i3) := Option.some.inj ei3
  obtain ⟨i4, ei4⟩ := is_v hi4
  obtain rfl : w4 = (.int i4) := Option.some.inj ei4
  obtain ⟨n, o, h1, h2, h3, _, L, rfl, ⟨rfl, N⟩, hq⟩ := own_rm_law l s _ hw tables_1 i0 i1 i2 i3 i4  s.heap s.heap.size (Nat.le_refl _)  p e ha hc hk s m _ below hf ((Spec.applies_iff_loose hf).mp happ).1 ⟨rfl, State.Warmed39.refl s, rfl⟩ trivial
  refine ⟨n, _, h1, h2, h3, hpost _ _ _ _ _ _ ⟨Cond.after_iff.mpr rfl, Cond.after_iff.mpr (eq_i res_at (Term.int_eval (1)) rfl), trivial⟩ ⟨hq.1, hq.2.1, (hq.2.2.sift fun y hy => Or.inr (N y hy)).mono (by decide) (by decide)⟩⟩
theorem main_1_1 : Claimed_1_1 := own_comes fun _ _ _ _ _ _ h hF => ⟨h.1, hF⟩
theorem main_1_2 : Claimed_1_2 := own_comes fun _ _ _ _ _ _ h hF => ⟨h.2.1, hF⟩
end Jvm.Pilot.@@N@@
namespace Jvm.Pilot.@@N@@
open Jvm Jvm.ClassFile Sem Op Lib Jvm.Free Jvm.Stand Jvm.Pilot.@@N@@.Jvm.D
/-! MADE BY PROGRAM (witnessworld.py) out of the Statement's table words and the real class files: 9 classes; the members and pool entries that the words name. The judged class is class 1, her method 1. -/
namespace start1
open Jvm.ClassFile
def u (s : String) : CpInfo := .utf8 (stringToUtf16 s)
/-- a pool by its gaps: so many unusable entries, then the entry; so many at the end -/
def gap : Nat → List CpInfo → List CpInfo
  | 0, r => r
  | n + 1, r => .unusable :: gap n r
def poolList (es : List (Nat × CpInfo)) (last : Nat) : List CpInfo := es.foldr (fun e r => gap e.1 (e.2 :: r)) (gap last [])
def pool (es : List (Nat × CpInfo)) (last : Nat) : Array CpInfo := ⟨poolList es last⟩
def fileOf (pool : Array CpInfo) (this : Nat) (attrs : Array Attribute := #[]) (ms : Array MethodInfo := #[]) (fl : Nat := 33) (sup : Nat := 0) (ifs : Array Nat := #[]) (fds : Array FieldInfo := #[]) : ClassFile where
  minorVersion := 0
  majorVersion := 65
  constantPool := pool
  accessFlags := fl
  thisClass := this
  superClass := sup
  interfaces := ifs
  fields := fds
  methods := ms
  attributes := attrs
def plain (name : String) (sup : Option ClassId) : Class where
  name := name
  kind := .ordinary
  loader := none
  accessFlags := 33
  super := sup
  interfaces := #[]
  cf := none
  fields := #[]
  methods := #[]
  instanceTypes := #[]
  staticTypes := #[]
  resolved := #[]
  callSites := []
  init := .initialized
  statics := none
  mirror := none

def pool0 : Array CpInfo := pool [(5, u "<init>"), (0, u "()V"), (1, .class_ 10), (1, u "java/lang/Object")] 113

def k0c0 : Code := { maxStack := 0, maxLocals := 1, code := object_method_1_code, exceptionTable := #[], attributes := #[] }
def k0m0 : Method := { name := "<init>", desc := "()V", sig := { parameters := [], returnType := none }, accessFlags := 1, code := some k0c0 }
/-- java/lang/Object -/
def k0 : Class := { plain "java/lang/Object" none with
  accessFlags := 33
  interfaces := #[]
  cf := some (fileOf pool0 8 #[] #[{ accessFlags := 1, nameIndex := 5, descriptorIndex := 6, attributes := #[] }] 33 0 #[] #[])
  fields := #[]
  methods := #[k0m0]
  instanceTypes := #[]
  staticTypes := #[]
  resolved := Array.replicate 124 none
  statics := none }

def pool1 : Array CpInfo := pool [(2, .class_ 4), (1, u "java/lang/Object"), (0, u "<init>"), (0, u "()V"), (0, .integer 2147483647), (0, .class_ 9), (0, u "com/example/unfold/unfold/reduction/Splitting"), (0, .methodref 8 11), (0, .nameAndType 5 12), (0, u "([I[I[I)V"), (0, .methodref 8 14), (0, .nameAndType 15 16), (0, u "blockAfter"), (0, u "(II)I"), (0, .methodref 18 19), (0, .class_ 20), (0, .nameAndType 21 22), (0, u "com/example/unfold/unfold/reduction/SplittingBlockAfterPinLaw"), (0, u "anc"), (0, u "(II[I)Z"), (0, .methodref 18 24), (0, .nameAndType 25 26), (0, u "ok"), (0, u "(III[I[II)Z"), (2, u "law"), (0, u "(IIIII)Z")] 5

def k1m0 : Method := { name := "<init>", desc := "()V", sig := { parameters := [], returnType := none }, accessFlags := 1, code := none }
def k1c1 : Code := { maxStack := 6, maxLocals := 17, code := code, exceptionTable := #[], attributes := #[] }
def k1m1 : Method := { name := "law", desc := "(IIIII)Z", sig := { parameters := [.int, .int, .int, .int, .int], returnType := some .boolean }, accessFlags := 9, code := some k1c1 }
def k1c2 : Code := { maxStack := 5, maxLocals := 3, code := method_3_code, exceptionTable := #[], attributes := #[] }
def k1m2 : Method := { name := "anc", desc := "(II[I)Z", sig := { parameters := [.int, .int, (.array .int)], returnType := some .boolean }, accessFlags := 10, code := some k1c2 }
def k1c3 : Code := { maxStack := 3, maxLocals := 6, code := method_4_code, exceptionTable := #[], attributes := #[] }
def k1m3 : Method := { name := "ok", desc := "(III[I[II)Z", sig := { parameters := [.int, .int, .int, (.array .int), (.array .int), .int], returnType := some .boolean }, accessFlags := 10, code := some k1c3 }
/-- com/example/unfold/unfold/reduction/SplittingBlockAfterPinLaw -/
def k1 : Class := { plain "com/example/unfold/unfold/reduction/SplittingBlockAfterPinLaw" (some 0) with
  accessFlags := 49
  interfaces := #[]
  cf := some (fileOf pool1 18 #[] #[{ accessFlags := 1, nameIndex := 5, descriptorIndex := 6, attributes := #[] }, { accessFlags := 9, nameIndex := 29, descriptorIndex := 30, attributes := #[] }, { accessFlags := 10, nameIndex := 21, descriptorIndex := 22, attributes := #[] }, { accessFlags := 10, nameIndex := 25, descriptorIndex := 26, attributes := #[] }] 49 2 #[] #[])
  fields := #[]
  methods := #[k1m0, k1m1, k1m2, k1m3]
  instanceTypes := #[]
  staticTypes := #[]
  resolved := Array.replicate 36 none
  statics := none }

def pool2 : Array CpInfo := pool [(1, .methodref 2 3), (0, .class_ 4), (0, .nameAndType 5 6), (0, u "java/lang/Object"), (0, u "<init>"), (0, u "()V"), (0, .fieldref 8 9), (0, .class_ 10), (0, .nameAndType 11 12), (0, u "com/example/unfold/unfold/reduction/Splitting"), (0, u "blocks"), (0, u "[I"), (0, .fieldref 8 14), (0, .nameAndType 15 12), (0, u "parents"), (0, .fieldref 8 17), (0, .nameAndType 18 12), (0, u "rounds"), (0, u "([I[I[I)V"), (2, u "blockAfter"), (0, u "(II)I")] 4

def k2c0 : Code := { maxStack := 2, maxLocals := 4, code := prog_132_method_1_code, exceptionTable := #[], attributes := #[] }
def k2m0 : Method := { name := "<init>", desc := "([I[I[I)V", sig := { parameters := [(.array .int), (.array .int), (.array .int)], returnType := none }, accessFlags := 0, code := some k2c0 }
def k2c1 : Code := { maxStack := 2, maxLocals := 4, code := prog_132_method_2_code, exceptionTable := #[], attributes := #[] }
def k2m1 : Method := { name := "blockAfter", desc := "(II)I", sig := { parameters := [.int, .int], returnType := some .int }, accessFlags := 0, code := some k2c1 }
/-- com/example/unfold/unfold/reduction/Splitting -/
def k2 : Class := { plain "com/example/unfold/unfold/reduction/Splitting" (some 0) with
  accessFlags := 32
  interfaces := #[]
  cf := some (fileOf pool2 8 #[] #[{ accessFlags := 0, nameIndex := 5, descriptorIndex := 19, attributes := #[] }, { accessFlags := 0, nameIndex := 22, descriptorIndex := 23, attributes := #[] }] 32 2 #[] #[{ accessFlags := 18, nameIndex := 11, descriptorIndex := 12, attributes := #[] }, { accessFlags := 18, nameIndex := 15, descriptorIndex := 12, attributes := #[] }, { accessFlags := 18, nameIndex := 18, descriptorIndex := 12, attributes := #[] }])
  fields := #[{ name := "blocks", type := (.array .int), accessFlags := 18, slot := 0, constantValue := 0 }, { name := "parents", type := (.array .int), accessFlags := 18, slot := 1, constantValue := 0 }, { name := "rounds", type := (.array .int), accessFlags := 18, slot := 2, constantValue := 0 }]
  methods := #[k2m0, k2m1]
  instanceTypes := #[(.array .int), (.array .int), (.array .int)]
  staticTypes := #[]
  resolved := Array.replicate 28 none
  statics := none }

def pool3 : Array CpInfo := pool [(1, u "java/lang/Cloneable"), (0, .class_ 1), (0, u "java/lang/Object"), (0, .class_ 3)] 3

/-- java/lang/Cloneable -/
def k3 : Class := { plain "java/lang/Cloneable" (some 0) with
  accessFlags := 1537
  interfaces := #[]
  cf := some (fileOf pool3 2 #[] #[] 1537 4 #[] #[])
  fields := #[]
  methods := #[]
  instanceTypes := #[]
  staticTypes := #[]
  resolved := Array.replicate 8 none
  statics := none }

def pool4 : Array CpInfo := pool [(1, u "java/io/Serializable"), (0, .class_ 1), (0, u "java/lang/Object"), (0, .class_ 3)] 3

/-- java/io/Serializable -/
def k4 : Class := { plain "java/io/Serializable" (some 0) with
  accessFlags := 1537
  interfaces := #[]
  cf := some (fileOf pool4 2 #[] #[] 1537 4 #[] #[])
  fields := #[]
  methods := #[]
  instanceTypes := #[]
  staticTypes := #[]
  resolved := Array.replicate 8 none
  statics := none }

/-- the primitive byte -/
def k5 : Class := { plain "byte" none with kind := .primitive 'B', accessFlags := 0x411 }
/-- [B -/
def k6 : Class := { plain "[B" (some 0) with kind := .array 5 .byte, interfaces := #[3, 4], accessFlags := 1041 }

/-- the primitive int -/
def k7 : Class := { plain "int" none with kind := .primitive 'I', accessFlags := 0x411 }
/-- [I -/
def k8 : Class := { plain "[I" (some 0) with kind := .array 7 .int, interfaces := #[3, 4], accessFlags := 1041 }

def heap : Heap := #[]
def classes : Array Class := #[k0, k1, k2, k3, k4, k5, k6, k7, k8]
def interned : List (Array UInt16 × Addr) := []
def slotsUsed : Nat := 0
def theMethod : MethodId := ⟨1, 1⟩
def args0 : Array Value := #[.int 3, .int 6, .int 2, .int 1, .int 2]
def aboutOver (below : List Frame) : State where
  vm := { classes := classes, interned := interned.toArray }
  heap := heap
  slotsUsed := slotsUsed
  threads := #[{ frames := .invoking theMethod args0 :: below }]
def below0 : List Frame := [.native { method := ⟨0, 0⟩, args := #[] }]
def about1 : State := aboutOver below0
def p0 : Program := .bare "" "" ""
def e0 : Env := launch0.env 0 0 0
theorem w_frames : about1.frames = Frame.invoking theMethod args0 :: below0 := rfl
set_option maxRecDepth 65536 in
theorem w_args : argsFit about1.vm theMethod args0 = true := by decide +kernel
set_option maxRecDepth 65536 in
theorem w_heap : heapFits about1 = true := by decide +kernel
set_option maxRecDepth 65536 in
theorem w_runnable : about1.curStatus? = some .runnable := by decide +kernel
set_option maxRecDepth 65536 in
theorem w_alone : about1.alone = true := by decide +kernel
set_option maxRecDepth 65536 in
theorem w_named : about1.methodNamed? x = some theMethod := by decide +kernel
set_option maxRecDepth 65536 in
theorem w_hears : about1.hears theMethod below0 = true := by decide +kernel
set_option maxRecDepth 65536 in
theorem w_ripe : about1.ripe theMethod args0 below0 = true := by decide +kernel
theorem w_running : about1.status = .running := rfl
set_option maxRecDepth 65536 in
theorem w_room : about1.hasRoom e0.platform room_1 = true :=
  launch0.hasRoom_least _ room_1 (by decide +kernel) (by decide +kernel) (by decide +kernel) (by decide +kernel) (by decide +kernel) (by decide +kernel)
theorem allAtoms_all (ts : List Jvm.Cond) (a : Array Jvm.Value) (st : Jvm.State) : (allAtoms ts).before a st = ts.all (fun c => c.before a st) := by
  induction ts with
  | nil => rfl
  | cons c t ih =>
    show (Jvm.Cond.and c (allAtoms t)).before a st = _
    rw [Jvm.Cond.before_and, ih, List.all_cons]
def words1 : List Jvm.Cond := Jvm.Cond.code x code maxLocals ret :: tables_1
/-- a 'code' word, met by the world's own term for the bytes: nothing is compared byte by byte -/
theorem code_word {y : MethodName} {bytes : ByteArray} {mx : Nat} {rt : Option FieldType} {a : Array Value} {s : State} {m : MethodId} {meth : Method} {c : Code} (h1 : s.methodNamed? y = some m) (h2 : s.vm.method? m = some meth) (h3 : meth.code = some c) (h4 : c.code = bytes)
    (h5 : (c.maxLocals == mx && c.exceptionTable.isEmpty && decide (c.maxStack ≤ mostOperands) && decide (meth.sig.returnType = rt) && !meth.locks && decide (parseMethodDescriptor y.desc = some meth.sig)) = true) : (Jvm.Cond.code y bytes mx rt).before a s = true := by
  simp only [Bool.and_eq_true, beq_iff_eq, Bool.not_eq_true', decide_eq_true_eq] at h5
  obtain ⟨⟨⟨⟨⟨g1, g2⟩, g3⟩, g4⟩, g5⟩, g6⟩ := h5
  simp [Cond.before, Cond.holds, Cond.value, h1, h2, h3, h4, g1, g2, g3, g4, g5, g6]
def isCode : Jvm.Cond → Bool
  | .code _ _ _ _ => true
  | _ => false
theorem all_split {L : List Jvm.Cond} {P : Jvm.Cond → Bool} (h1 : L.all (fun c => isCode c || P c) = true) (h2 : ∀ c ∈ L.filter isCode, P c = true) : L.all P = true := by
  refine List.all_eq_true.mpr fun c hc => ?_
  have h := List.all_eq_true.mp h1 c hc
  rcases Bool.eq_false_or_eq_true (isCode c) with hi | hi
  · exact h2 c (List.mem_filter.mpr ⟨hc, hi⟩)
  · simpa [hi] using h
set_option maxRecDepth 65536 in
theorem w_c0 : (Jvm.Cond.code x code maxLocals ret).before args0 about1 = true := code_word (m := ⟨1, 1⟩) (meth := k1m1) (c := k1c1) (by decide +kernel) rfl rfl rfl (by decide +kernel)
set_option maxRecDepth 65536 in
theorem w_c1 : (Jvm.Cond.code ({ cls := "com/example/unfold/unfold/reduction/Splitting", name := "<init>", desc := "([I[I[I)V" } : Jvm.MethodName) prog_132_method_1_code (4 : Nat) (Option.none : Option Jvm.ClassFile.FieldType)).before args0 about1 = true := code_word (m := ⟨2, 0⟩) (meth := k2m0) (c := k2c0) (by decide +kernel) rfl rfl rfl (by decide +kernel)
set_option maxRecDepth 65536 in
theorem w_c2 : (Jvm.Cond.code ({ cls := "java/lang/Object", name := "<init>", desc := "()V" } : Jvm.MethodName) object_method_1_code (1 : Nat) (Option.none : Option Jvm.ClassFile.FieldType)).before args0 about1 = true := code_word (m := ⟨0, 0⟩) (meth := k0m0) (c := k0c0) (by decide +kernel) rfl rfl rfl (by decide +kernel)
set_option maxRecDepth 65536 in
theorem w_c3 : (Jvm.Cond.code ({ cls := "com/example/unfold/unfold/reduction/Splitting", name := "blockAfter", desc := "(II)I" } : Jvm.MethodName) prog_132_method_2_code (4 : Nat) (Option.some Jvm.ClassFile.FieldType.int)).before args0 about1 = true := code_word (m := ⟨2, 1⟩) (meth := k2m1) (c := k2c1) (by decide +kernel) rfl rfl rfl (by decide +kernel)
set_option maxRecDepth 65536 in
theorem w_c4 : (Jvm.Cond.code ({ cls := "com/example/unfold/unfold/reduction/SplittingBlockAfterPinLaw", name := "anc", desc := "(II[I)Z" } : Jvm.MethodName) method_3_code (3 : Nat) (Option.some Jvm.ClassFile.FieldType.boolean)).before args0 about1 = true := code_word (m := ⟨1, 2⟩) (meth := k1m2) (c := k1c2) (by decide +kernel) rfl rfl rfl (by decide +kernel)
set_option maxRecDepth 65536 in
theorem w_c5 : (Jvm.Cond.code ({ cls := "com/example/unfold/unfold/reduction/SplittingBlockAfterPinLaw", name := "ok", desc := "(III[I[II)Z" } : Jvm.MethodName) method_4_code (6 : Nat) (Option.some Jvm.ClassFile.FieldType.boolean)).before args0 about1 = true := code_word (m := ⟨1, 3⟩) (meth := k1m3) (c := k1c3) (by decide +kernel) rfl rfl rfl (by decide +kernel)
def codes1 : List Jvm.Cond := [Jvm.Cond.code x code maxLocals ret, Jvm.Cond.code ({ cls := "com/example/unfold/unfold/reduction/Splitting", name := "<init>", desc := "([I[I[I)V" } : Jvm.MethodName) prog_132_method_1_code (4 : Nat) (Option.none : Option Jvm.ClassFile.FieldType), Jvm.Cond.code ({ cls := "java/lang/Object", name := "<init>", desc := "()V" } : Jvm.MethodName) object_method_1_code (1 : Nat) (Option.none : Option Jvm.ClassFile.FieldType), Jvm.Cond.code ({ cls := "com/example/unfold/unfold/reduction/Splitting", name := "blockAfter", desc := "(II)I" } : Jvm.MethodName) prog_132_method_2_code (4 : Nat) (Option.some Jvm.ClassFile.FieldType.int), Jvm.Cond.code ({ cls := "com/example/unfold/unfold/reduction/SplittingBlockAfterPinLaw", name := "anc", desc := "(II[I)Z" } : Jvm.MethodName) method_3_code (3 : Nat) (Option.some Jvm.ClassFile.FieldType.boolean), Jvm.Cond.code ({ cls := "com/example/unfold/unfold/reduction/SplittingBlockAfterPinLaw", name := "ok", desc := "(III[I[II)Z" } : Jvm.MethodName) method_4_code (6 : Nat) (Option.some Jvm.ClassFile.FieldType.boolean)]
set_option maxRecDepth 65536 in
theorem codes_eq : words1.filter isCode = codes1 := rfl
theorem w_codes : ∀ c ∈ words1.filter isCode, c.before args0 about1 = true := by
  rw [codes_eq]
  intro c hc
  simp only [codes1, List.mem_cons, List.not_mem_nil, or_false] at hc
  rcases hc with rfl | rfl | rfl | rfl | rfl | rfl
  · exact w_c0
  · exact w_c1
  · exact w_c2
  · exact w_c3
  · exact w_c4
  · exact w_c5
set_option maxRecDepth 65536 in
theorem w_t1 : (words1.take 24).all (fun c => isCode c || c.before args0 about1) = true := by decide +kernel
set_option maxRecDepth 65536 in
theorem w_t2 : (words1.drop 24).all (fun c => isCode c || c.before args0 about1) = true := by decide +kernel
theorem w_tables : (allAtoms (Jvm.Cond.code x code maxLocals ret :: tables_1)).before args0 about1 = true := by
  rw [allAtoms_all]
  show words1.all (fun c => c.before args0 about1) = true
  refine all_split ?_ w_codes
  rw [← List.take_append_drop 24 words1, List.all_append, w_t1, w_t2]
  rfl
set_option maxRecDepth 65536 in
theorem w_case : (Jvm.Cond.and given_1 narrow_1).before args0 about1 = true := by decide +kernel
theorem w_applies : (headSpec (Jvm.Cond.code x code maxLocals ret :: tables_1) room_1).applies x e0.platform about1 = true :=
  (Spec.applies_iff w_frames).mpr ⟨w_running, w_runnable, w_alone, w_named, w_hears, w_ripe, w_room, w_tables⟩
theorem atStart : AtStart classFile x code maxLocals ret World_1 tables_1 room_1 Calls_1 rest_1 Pre_1 launch0 p0 e0 about1 theMethod args0 below0 :=
  ⟨lists_1, trivial, launch0.admits_env _ _ _, launch0.least_env, fairChoices_fair.cas, fairChoices_fair.clock, w_frames, w_args, w_heap, w_applies, trivial, trivial, w_case⟩
end start1
theorem witness_1 : WitnessClaimed_1 := ⟨start1.p0, start1.e0, start1.about1, start1.theMethod, start1.args0, start1.below0, start1.atStart⟩
end Jvm.Pilot.@@N@@
